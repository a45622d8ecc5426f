import Derived.Test.YtejfcglfjdfneaaSlU
set_option linter.unusedVariables false
/-! Regions that draw their order, where operations that act are not bound to each other: every order is walked. -/
namespace Go.Sl
open Go
/-- operations that enter no other function -/
def noenterB (o : Oper) : Bool := match o.op with
  | .move _ | .assign _ | .nilCheck _ | .pick .. | .buildSlice .. | .slice .. | .load .. | .indexAddr .. | .binOp .. | .convert .. | .store .. | .fieldAddr .. | .build .. => true
  | .call ⟨.builtin .append, _, _⟩ | .call ⟨.builtin .len, _, _⟩ => true
  | _ => false
theorem run_v {P : Program} {α : Type} {w w' : World} {s : Sem α} (f : α → Value) {x : Next} (h : (do pure (Next.value (f (← s))) : Sem Next).run P w = .ok x w') : ∃ v, x = .value v := by
  simp only [Sem.run_bind, Result.andThen] at h
  cases hs : s.run P w with
  | ok v w2 => rw [hs] at h; simp at h; exact ⟨_, h.1.symm⟩
  | halt e w2 => rw [hs] at h; cases h
theorem run_u {P : Program} {w w' : World} {s : Sem Unit} {x : Next} (h : (do s; pure Next.skip : Sem Next).run P w = .ok x w') : x = .skip := by
  simp only [Sem.run_bind, Result.andThen] at h
  cases hs : s.run P w with
  | ok v w2 => rw [hs] at h; simp at h; exact h.1.symm
  | halt e w2 => rw [hs] at h; cases h
theorem noenter_run {P : Program} {o : Oper} (h : noenterB o = true) (ρ : Operand → Value) {w w' : World} {x : Next} (hr : (execOp ρ o).run P w = .ok x w') : (∃ v, x = .value v) ∨ x = .skip := by
  obtain ⟨dst, op, ty, pos, af, gd⟩ := o
  cases op
  case move y => exact .inl ⟨_, by have h2 : Result.ok (Next.value (ρ y)) w = Result.ok x w' := hr; cases h2; rfl⟩
  case assign y => exact .inl ⟨_, by have h2 : Result.ok (Next.value (ρ y)) w = Result.ok x w' := hr; cases h2; rfl⟩
  case nilCheck y =>
    simp only [execOp] at hr
    split at hr
    · cases hr
    · cases hr
    · cases hr
    · split at hr
      · cases hr
      · simp only [Sem.run_bind, Result.andThen] at hr
        repeat' split at hr
        all_goals first | (cases hr; done) | (cases hr; exact .inl ⟨_, rfl⟩)
      · cases hr; exact .inl ⟨_, rfl⟩
    · cases hr; exact .inl ⟨_, rfl⟩
  case pick c y z => exact .inl (run_v (fun b : Bool => if b then ρ y else ρ z) hr)
  case buildSlice => exact .inl (run_v id hr)
  case slice => exact .inl (run_v id hr)
  case load => exact .inl (run_v id hr)
  case indexAddr => exact .inl (run_v id hr)
  case binOp => exact .inl (run_v id hr)
  case convert => exact .inl (run_v id hr)
  case store => exact .inr (run_u hr)
  case fieldAddr => exact .inl (run_v id hr)
  case build => exact .inl (run_v id hr)
  case call c =>
    obtain ⟨ce, ar, at'⟩ := c
    cases ce with
    | builtin b =>
      cases b
      case append => exact .inl (run_v id (by simpa [execOp, resolve, invoke, builtin] using hr))
      case len => exact .inl (run_v id (by simpa [execOp, resolve, invoke, builtin] using hr))
      all_goals exact absurd h Bool.false_ne_true
    | _ => exact absurd h Bool.false_ne_true
  all_goals exact absurd h Bool.false_ne_true
section
variable {r : Option Nat} {P : Program} {ops : Array Oper} {Q : Exit → Act → World → Prop} {C : Nat → World → Prop} {bf : Nat → List Nat} {E : List (Nat × Nat)}
theorem wpIn_and {o : Oper} (ho : noenterB o = true) {a : Act} {w : World} {K K' : Act → World → Prop} (h : o.wpIn (Fw r) 0 P a w K Q) (h' : o.wpIn (Fw r) 0 P a w K' Q) : o.wpIn (Fw r) 0 P a w (fun a w => K a w ∧ K' a w) Q := by
  unfold Oper.wpIn at *
  refine ⟨h.1, ?_⟩
  have h2 := h.2
  have h2' := h'.2
  have hs : o.semAt (Fw r).round a.eval = execOp a.eval o := Oper.semAt_eq _ _ _ (fun c hc => by unfold noenterB at ho; rw [hc] at ho; cases ho)
  rw [hs] at h2 h2' ⊢
  cases hr : (execOp a.eval o).run P w with
  | ok x w' =>
    rw [hr] at h2 h2'
    rcases noenter_run ho a.eval hr with ⟨v, rfl⟩ | rfl
    · exact ⟨h2, h2'⟩
    · exact ⟨h2, h2'⟩
  | halt x w' => rw [hr] at h2; cases x <;> exact h2
theorem wpOpIn_and {i : Nat} (ho : ∀ o, ops[i]? = some o → noenterB o = true) {a : Act} {w : World} {K K' : Act → World → Prop} (h : wpOpIn (Fw r) 0 P ops Q i K a w) (h' : wpOpIn (Fw r) 0 P ops Q i K' a w) : wpOpIn (Fw r) 0 P ops Q i (fun a w => K a w ∧ K' a w) a w := by
  unfold wpOpIn at *
  cases hi : ops[i]? with
  | none => rw [hi] at h h'; exact ⟨h, h'⟩
  | some o =>
    rw [hi] at h h'
    simp only at h h' ⊢
    by_cases hw : Region.wanted o (yielded ops a.tmps) = true
    · rw [if_pos hw] at h h' ⊢; exact wpIn_and (ho o hi) h h'
    · rw [if_neg hw] at h h' ⊢; exact ⟨h.1, h.2, h'.2⟩
/-- the orders that keep the edges E, too -/
def wpAnyE (r : Option Nat) (P : Program) (E : List (Nat × Nat)) (ops : Array Oper) (Q : Exit → Act → World → Prop) : Nat → Array Bool → Act → World → Prop
  | 0, listed, a, w => Region.ready .any ops listed = [] ∧ Q .normal a w
  | fuel + 1, listed, a, w =>
    (Region.ready .any ops listed = [] → Q .normal a w) ∧
    ∀ i ∈ Region.ready .any ops listed, (∀ e ∈ E, e.2 = i → listed.getD e.1 false = true) → wpOpIn (Fw r) 0 P ops Q i (wpAnyE r P E ops Q fuel (listed.setIfInBounds i true)) a w
theorem wpAnyE_nil : ∀ (fuel : Nat) (listed : Array Bool) (a : Act) (w : World), wpAnyE r P [] ops Q fuel listed a w → wpAnyIn (Fw r) 0 P .any ops Q fuel listed a w
  | 0, _, _, _, h => h
  | fuel + 1, listed, a, w, h => ⟨h.1, fun i hi => wpOpIn_mono (fun a w h => wpAnyE_nil fuel _ a w h) (h.2 i hi (fun e he => by cases he))⟩
theorem wpAnyE_one {i j : Nat} : ∀ (fuel : Nat) (listed : Array Bool) (a : Act) (w : World), listed.getD i false = true → wpAnyE r P ((i, j) :: E) ops Q fuel listed a w → wpAnyE r P E ops Q fuel listed a w
  | 0, _, _, _, _, h => h
  | fuel + 1, listed, a, w, hl, h => ⟨h.1, fun k hk hE => wpOpIn_mono (fun a w h => wpAnyE_one fuel _ a w (getD_set_true hl) h) (h.2 k hk (fun e he hek => by
      rcases List.mem_cons.1 he with rfl | he
      · exact hl
      · exact hE e he hek))⟩
theorem wpAnyE_split {i j : Nat} (hij : i ≠ j) (hne : ops.toList.all noenterB = true) : ∀ (fuel : Nat) (listed : Array Bool) (a : Act) (w : World), listed.size = ops.size → wpAnyE r P ((i, j) :: E) ops Q fuel listed a w → wpAnyE r P ((j, i) :: E) ops Q fuel listed a w → wpAnyE r P E ops Q fuel listed a w
  | 0, _, _, _, _, h, _ => h
  | fuel + 1, listed, a, w, hs, h, h' => ⟨h.1, fun k hk hE => by
      have hkl : k < listed.size := by
        obtain ⟨_, o, ho, _⟩ := mem_ready.1 hk
        rw [hs]; exact (Array.getElem?_eq_some_iff.1 ho).1
      have hset : (listed.setIfInBounds k true).getD k false = true := by simp [Array.getD, hkl]
      by_cases hki : k = i
      · subst hki
        exact wpOpIn_mono (fun a w h => wpAnyE_one fuel _ a w hset h) (h.2 k hk (fun e he hek => by
          rcases List.mem_cons.1 he with rfl | he
          · exact absurd hek.symm hij
          · exact hE e he hek))
      · by_cases hkj : k = j
        · subst hkj
          exact wpOpIn_mono (fun a w h => wpAnyE_one fuel _ a w hset h) (h'.2 k hk (fun e he hek => by
            rcases List.mem_cons.1 he with rfl | he
            · exact absurd hek hij
            · exact hE e he hek))
        · refine wpOpIn_mono (fun a w h => wpAnyE_split hij hne fuel _ a w (by simp [hs]) h.1 h.2) (wpOpIn_and (fun o ho => ?_) (h.2 k hk fun e he hek => ?_) (h'.2 k hk fun e he hek => ?_))
          · rw [List.all_eq_true] at hne
            exact hne o (by rw [← Array.getElem?_toList] at ho; exact List.mem_of_getElem? ho)
          · rcases List.mem_cons.1 he with rfl | he
            · exact absurd hek.symm hkj
            · exact hE e he hek
          · rcases List.mem_cons.1 he with rfl | he
            · exact absurd hek.symm hki
            · exact hE e he hek⟩
def reachE (E : List (Nat × Nat)) (ops : Array Oper) : Nat → Nat → Nat → Bool
  | 0, _, _ => false
  | f + 1, x, i => (match ops[i]? with
    | none => false
    | some o => o.after.toList.any fun e => Region.binds .any e && (e.on == x || reachE E ops f x e.on)) || E.any fun e => e.2 == i && (e.1 == x || reachE E ops f x e.1)
def okRE (E : List (Nat × Nat)) (ops : Array Oper) (q : List Nat) : List Nat → Bool
  | [] => true
  | x :: R => R.all (fun i => reachE E ops ops.size x i || (q.contains x && apartB ops x i)) && !R.contains x && decide (x < ops.size) &&
      (match ops[x]? with | some o => plainOp o && o.after.toList.all (fun e => !Region.binds .any e || (!R.contains e.on && e.on != x && decide (e.on < ops.size))) | none => false) && okRE E ops q R
def okBE (E : List (Nat × Nat)) (ops : Array Oper) (bf : Nat → List Nat) : List Nat → Bool
  | [] => true
  | x :: R => (bf x).all (fun y => reachE E ops ops.size y x && !R.contains y) && okBE E ops bf R

def drawBE (E : List (Nat × Nat)) (ops : Array Oper) (q R : List Nat) (bf : Nat → List Nat) : Bool := okBE E ops bf R && okRE E ops q R && R.length == ops.size && (List.range ops.size).all (R.contains ·)
def ClosedE (E : List (Nat × Nat)) (ops : Array Oper) (listed : Array Bool) : Prop := Closed ops listed ∧ ∀ e ∈ E, listed.getD e.2 false = true → listed.getD e.1 false = true
theorem reachE_listed {listed : Array Bool} (hc : ClosedE E ops listed) : ∀ f x i, reachE E ops f x i = true → (∀ o, ops[i]? = some o → ∀ e ∈ o.after, Region.binds .any e = true → listed.getD e.on false = true) → (∀ e ∈ E, e.2 = i → listed.getD e.1 false = true) → listed.getD x false = true := by
  intro f
  induction f with
  | zero => intro x i h _ _; cases h
  | succ f ih =>
    intro x i h hp hE
    have next : ∀ y, listed.getD y false = true → reachE E ops f x y = true → listed.getD x false = true := fun y hl h3 =>
      ih x y h3 (fun o' ho' => hc.1 y o' hl ho') (fun e he hey => hc.2 e he (by rw [hey]; exact hl))
    unfold reachE at h
    rw [Bool.or_eq_true] at h
    rcases h with h | h
    · cases ho : ops[i]? with
      | none => rw [ho] at h; cases h
      | some o =>
        rw [ho] at h
        obtain ⟨e, he, h2⟩ := List.any_eq_true.1 h
        have he' : e ∈ o.after := by simpa using he
        rw [Bool.and_eq_true, Bool.or_eq_true] at h2
        have hl := hp o ho e he' h2.1
        rcases h2.2 with h3 | h3
        · have : e.on = x := by simpa using h3
          rw [← this]; exact hl
        · exact next e.on hl h3
    · obtain ⟨e, he, h2⟩ := List.any_eq_true.1 h
      rw [Bool.and_eq_true, Bool.or_eq_true, beq_iff_eq] at h2
      have hl := hE e he h2.1
      rcases h2.2 with h3 | h3
      · have : e.1 = x := by simpa using h3
        rw [← this]; exact hl
      · exact next e.1 hl h3
theorem okRE_tail {q : List Nat} {x : Nat} {R : List Nat} (h : okRE E ops q (x :: R) = true) : okRE E ops q R = true := by
  unfold okRE at h; simp only [Bool.and_eq_true] at h; exact h.2
theorem okRE_erase {q : List Nat} {i : Nat} {post : List Nat} : ∀ (pre : List Nat), okRE E ops q (pre ++ i :: post) = true → okRE E ops q (pre ++ post) = true
  | [], h => okRE_tail h
  | x :: pre, h => by
    have ht := okRE_erase pre (okRE_tail h)
    simp only [List.cons_append] at h ⊢
    unfold okRE at h ⊢
    simp only [Bool.and_eq_true] at h ⊢
    obtain ⟨⟨⟨⟨h1, h2⟩, h3⟩, h4⟩, _⟩ := h
    refine ⟨⟨⟨⟨?_, ?_⟩, h3⟩, ?_⟩, ht⟩
    · rw [List.all_eq_true] at h1 ⊢
      exact fun y hy => h1 y (by rcases List.mem_append.1 hy with e | e; · exact List.mem_append_left _ e
                                 · exact List.mem_append_right _ (List.mem_cons_of_mem _ e))
    · simp only [Bool.not_eq_true', List.contains_eq_mem, decide_eq_false_iff_not] at h2 ⊢
      exact fun hy => h2 (by rcases List.mem_append.1 hy with e | e; · exact List.mem_append_left _ e
                             · exact List.mem_append_right _ (List.mem_cons_of_mem _ e))
    · cases ho : ops[x]? with
      | none => rw [ho] at h4; exact h4
      | some o =>
        rw [ho] at h4
        simp only [Bool.and_eq_true, List.all_eq_true, Bool.or_eq_true] at h4 ⊢
        refine ⟨h4.1, fun e he => (h4.2 e he).imp id fun ⟨⟨a1, a2⟩, a3⟩ => ⟨⟨?_, a2⟩, a3⟩⟩
        simp only [Bool.not_eq_true', List.contains_eq_mem, decide_eq_false_iff_not] at a1 ⊢
        exact fun hy => a1 (by rcases List.mem_append.1 hy with e' | e'; · exact List.mem_append_left _ e'
                               · exact List.mem_append_right _ (List.mem_cons_of_mem _ e'))
theorem okRE_pre {q : List Nat} {i : Nat} {post : List Nat} : ∀ (pre : List Nat), okRE E ops q (pre ++ i :: post) = true → ∀ x ∈ pre, (reachE E ops ops.size x i = true ∨ (q.contains x = true ∧ apartB ops x i = true)) ∧ x ≠ i ∧ ∃ ox, ops[x]? = some ox ∧ plainOp ox = true
  | [], _, x, hx => by cases hx
  | y :: pre, h, x, hx => by
    rcases List.mem_cons.1 hx with e | e
    · subst e
      simp only [List.cons_append] at h
      unfold okRE at h
      simp only [Bool.and_eq_true, List.all_eq_true, Bool.or_eq_true] at h
      obtain ⟨⟨⟨⟨h1, h2⟩, h3⟩, h4⟩, _⟩ := h
      refine ⟨h1 i (by simp), ?_, ?_⟩
      · rintro rfl; simp at h2
      · cases ho : ops[x]? with
        | none => rw [ho] at h4; cases h4
        | some o => rw [ho] at h4; simp only [Bool.and_eq_true] at h4; exact ⟨o, rfl, h4.1⟩
    · exact okRE_pre pre (okRE_tail h) x e
theorem okBE_tail {x : Nat} {R : List Nat} (h : okBE E ops bf (x :: R) = true) : okBE E ops bf R = true := by
  unfold okBE at h; rw [Bool.and_eq_true] at h; exact h.2
theorem okBE_erase {i : Nat} {post : List Nat} : ∀ (pre : List Nat), okBE E ops bf (pre ++ i :: post) = true → okBE E ops bf (pre ++ post) = true
  | [], h => okBE_tail h
  | x :: pre, h => by
    have ht := okBE_erase pre (okBE_tail h)
    simp only [List.cons_append] at h ⊢
    unfold okBE at h ⊢
    rw [Bool.and_eq_true] at h ⊢
    refine ⟨?_, ht⟩
    have h1 := h.1
    rw [List.all_eq_true] at h1 ⊢
    intro y hy
    have h2 := h1 y hy
    simp only [Bool.and_eq_true, Bool.not_eq_true', List.contains_eq_mem, decide_eq_false_iff_not] at h2 ⊢
    exact ⟨h2.1, fun hm => h2.2 (by rcases List.mem_append.1 hm with e | e; · exact List.mem_append_left _ e
                                    · exact List.mem_append_right _ (List.mem_cons_of_mem _ e))⟩
theorem okBE_self {i : Nat} {post : List Nat} : ∀ (pre : List Nat), okBE E ops bf (pre ++ i :: post) = true → ∀ y ∈ bf i, reachE E ops ops.size y i = true ∧ y ∉ post
  | [], h, y, hy => by
    simp only [List.nil_append] at h
    unfold okBE at h
    rw [Bool.and_eq_true, List.all_eq_true] at h
    have := h.1 y hy
    simpa using this
  | x :: pre, h, y, hy => okBE_self pre (okBE_tail h) y hy
theorem okRE_self {q : List Nat} {i : Nat} {post : List Nat} : ∀ (pre : List Nat), okRE E ops q (pre ++ i :: post) = true → ∃ oi, ops[i]? = some oi ∧ plainOp oi = true ∧ i ∉ post ∧ ∀ e ∈ oi.after, Region.binds .any e = true → e.on ∉ post ∧ e.on ≠ i ∧ e.on < ops.size
  | [], h => by
    simp only [List.nil_append] at h
    unfold okRE at h
    simp only [Bool.and_eq_true] at h
    obtain ⟨⟨⟨⟨_, h2⟩, _⟩, h4⟩, _⟩ := h
    cases ho : ops[i]? with
    | none => rw [ho] at h4; cases h4
    | some o =>
      rw [ho] at h4
      simp only [Bool.and_eq_true, List.all_eq_true, Bool.or_eq_true] at h4
      refine ⟨o, rfl, h4.1, by simpa using h2, fun e he hb => ?_⟩
      rcases h4.2 e (by simpa using he) with h5 | ⟨⟨a1, a2⟩, a3⟩
      · rw [hb] at h5; cases h5
      · exact ⟨by simpa using a1, by simpa using a2, by simpa using a3⟩
  | x :: pre, h => okRE_self pre (okRE_tail h)

theorem wpAnyE_of_wpT {q : List Nat} (hQ : ∀ c d v a w, Q (.panic c) (a.put d v) w → Q (.panic c) a w) : ∀ (fuel : Nat) (listed : Array Bool) (R : List Nat) (a : Act) (w : World),
    R.length = fuel → okRE E ops q R = true → okBE E ops bf R = true → listed.size = ops.size → ClosedE E ops listed → (∀ i, i < ops.size → (i ∈ R ↔ listed.getD i false = false)) → (∀ i ∈ R, i < ops.size) → (∀ x ∈ R, q.contains x = true → C x w) → wpT r P ops Q C bf q R a w →
    wpAnyE r P E ops Q fuel listed a w
  | 0, listed, R, a, w, hl, hok, hob, hsz, hcl, hR, hlt, hC, h => by
    have hn : R = [] := List.eq_nil_of_length_eq_zero hl
    subst hn
    refine ⟨?_, h⟩
    refine List.eq_nil_iff_forall_not_mem.2 fun i hi => ?_
    obtain ⟨h0, o, ho, _⟩ := mem_ready.1 hi
    have hi' : i < ops.size := (Array.getElem?_eq_some_iff.1 ho).1
    have := (hR i hi').2 (getD_both' h0)
    cases this
  | fuel + 1, listed, R, a, w, hl, hok, hob, hsz, hcl, hR, hlt, hC, h => by
    refine ⟨fun hnil => ?_, fun i hi hEi => ?_⟩
    · -- nothing is ready: but the first of R is
      cases R with
      | nil => cases hl
      | cons x R' =>
        exfalso
        obtain ⟨ox, hox, _, _, he⟩ := okRE_self [] hok
        have hx : x < ops.size := hlt x (List.mem_cons_self ..)
        have hm : x ∈ Region.ready .any ops listed := by
          rw [mem_ready]
          refine ⟨?_, ox, hox, fun e hem hb => ?_⟩
          · have := (hR x hx).1 (List.mem_cons_self ..)
            simpa [Array.getD, hsz, hx] using this
          · obtain ⟨h1, h2, h3⟩ := he e hem hb
            cases hle : listed.getD e.on false with
            | true => rfl
            | false => rcases List.mem_cons.1 ((hR e.on h3).2 hle) with e' | e'
                       · exact absurd e' h2
                       · exact absurd e' h1
        rw [hnil] at hm; cases hm
    · obtain ⟨h0, oi, hoi, hpreds⟩ := mem_ready.1 hi
      have hi' : i < ops.size := (Array.getElem?_eq_some_iff.1 hoi).1
      have hiR : i ∈ R := (hR i hi').2 (getD_both' h0)
      obtain ⟨pre, post, rfl⟩ := List.append_of_mem hiR
      obtain ⟨oi', hoi', hpi, hnp, _⟩ := okRE_self pre hok
      rw [hoi] at hoi'; cases hoi'
      have hpre := okRE_pre pre hok
      have hself := okBE_self pre hob
      have hnr : ∀ x, reachE E ops ops.size x i = true → x ∉ pre := fun x h1 hx => by
        obtain ⟨_, _, ox, hox, _⟩ := hpre x hx
        have := reachE_listed hcl _ _ _ h1 (fun o ho => by rw [hoi] at ho; cases ho; exact hpreds) hEi
        have hxR := (hR x (Array.getElem?_eq_some_iff.1 hox).1).1 (List.mem_append_left _ hx)
        rw [hxR] at this; cases this
      refine wpOpIn_mono ?_ (wpT_take hQ (pre ++ post) (fun x hx => by
          simp only [List.contains_eq_mem, decide_eq_false_iff_not]
          intro hb
          obtain ⟨h1, h2⟩ := hself x hb
          rcases List.mem_append.1 hx with e | e
          · exact hnr x h1 e
          · exact h2 e) pre a w (fun x hx => hC x (by rcases List.mem_append.1 hx with e | e; · exact List.mem_append_left _ e
                                                      · exact List.mem_append_right _ (List.mem_cons_of_mem _ e))) (hC i (by simp)) h (fun x hx => ?_) (fun o ho => by rw [hoi] at ho; cases ho; exact hpi))
      · rintro a' w' ⟨hC', hT⟩
        refine wpAnyE_of_wpT hQ fuel _ (pre ++ post) a' w' (by simp at hl ⊢; omega) (okRE_erase pre hok) (okBE_erase pre hob) (by simp [hsz]) ⟨?_, ?_⟩ ?_ (fun j hj => hlt j ?_) hC' hT
        · intro j o hj ho e he hb
          by_cases hji : i = j
          · subst hji
            rw [hoi] at ho; cases ho
            exact getD_set_true (hpreds e he hb)
          · rw [getD_set_ne false hji] at hj
            exact getD_set_true (hcl.1 j o hj ho e he hb)
        · intro e he hj
          by_cases hji : i = e.2
          · exact getD_set_true (hEi e he hji.symm)
          · rw [getD_set_ne false hji] at hj
            exact getD_set_true (hcl.2 e he hj)
        · intro j hj
          by_cases hji : i = j
          · subst hji
            have : (listed.setIfInBounds i true).getD i false = true := by simp [Array.getD, hsz, hj]
            rw [this]
            simp only [reduceCtorEq, iff_false, List.mem_append, not_or]
            exact ⟨fun hm => (hpre i hm).2.1 rfl, hnp⟩
          · rw [getD_set_ne false hji, ← hR j hj]
            simp only [List.mem_append, List.mem_cons]
            constructor
            · rintro (e | e); exact .inl e; exact .inr (.inr e)
            · rintro (e | e | e); exact .inl e; exact absurd e.symm hji; exact .inr e
        · rcases List.mem_append.1 hj with e | e
          · exact List.mem_append_left _ e
          · exact List.mem_append_right _ (List.mem_cons_of_mem _ e)
      · obtain ⟨h1, h2, ox, hox, hpx⟩ := hpre x hx
        rcases h1 with h1 | ⟨h1, h1'⟩
        · exact absurd hx (hnr x h1)
        · refine ⟨h1, ox, oi, hox, hoi, ?_, hpx, hpi⟩
          unfold apartB at h1'
          rw [hox, hoi] at h1'; exact h1'
/-- what is left to show of a region whose orders keep the edges E -/
def DGoal (r : Option Nat) (P : Program) (E : List (Nat × Nat)) (L : List Oper) (Q : Exit → Act → World → Prop) (a : Act) (w : World) : Prop := wpAnyE r P E L.toArray (NoP Q) L.length (Array.replicate L.length false) a w
theorem DG_start {id : Nat} {L : List Oper} {a : Act} {w : World} (hm : P.follows .mixedOrders = true) (h : DGoal r P [] L Q a w.drew) : WP r P (.region id L.toArray true) Q a w := by
  refine wpIn_mono (Q := NoP Q) (wpIn_region_draw fun t => ?_) fun e a w h => by cases e <;> first | exact h | exact h.elim
  simp only [Region.schedule, hm, Bool.true_or, if_true]
  have h2 := wpAnyIn_sound _ t _ a _ (wpAnyE_nil _ _ a _ h)
  simpa [Region.linearise] using h2
theorem DG_split {L : List Oper} {a : Act} {w : World} (i j : Nat) (hij : i ≠ j) (hne : L.all noenterB = true) (h1 : DGoal r P ((i, j) :: E) L Q a w) (h2 : DGoal r P ((j, i) :: E) L Q a w) : DGoal r P E L Q a w :=
  wpAnyE_split hij (by simpa using hne) _ _ a w (by simp) h1 h2
/-- the same, where operations that enter functions come behind i or j -/
theorem wpAnyE_split2 {i j : Nat} (hij : i ≠ j) (hne : ∀ k o, ops[k]? = some o → noenterB o = true ∨ k = i ∨ k = j ∨ reachE E ops ops.size i k = true ∨ reachE E ops ops.size j k = true) : ∀ (fuel : Nat) (listed : Array Bool) (a : Act) (w : World), listed.size = ops.size → ClosedE E ops listed → listed.getD i false = false → listed.getD j false = false →
    wpAnyE r P ((i, j) :: E) ops Q fuel listed a w → wpAnyE r P ((j, i) :: E) ops Q fuel listed a w → wpAnyE r P E ops Q fuel listed a w
  | 0, _, _, _, _, _, _, _, h, _ => h
  | fuel + 1, listed, a, w, hs, hcl, hli, hlj, h, h' => ⟨h.1, fun k hk hE => by
      obtain ⟨_, ok, hok, hpk⟩ := mem_ready.1 hk
      have hkl : k < listed.size := by rw [hs]; exact (Array.getElem?_eq_some_iff.1 hok).1
      have hset : (listed.setIfInBounds k true).getD k false = true := by simp [Array.getD, hkl]
      by_cases hki : k = i
      · subst hki
        exact wpOpIn_mono (fun a w h => wpAnyE_one fuel _ a w hset h) (h.2 k hk (fun e he hek => by
          rcases List.mem_cons.1 he with rfl | he
          · exact absurd hek.symm hij
          · exact hE e he hek))
      · by_cases hkj : k = j
        · subst hkj
          exact wpOpIn_mono (fun a w h => wpAnyE_one fuel _ a w hset h) (h'.2 k hk (fun e he hek => by
            rcases List.mem_cons.1 he with rfl | he
            · exact absurd hek hij
            · exact hE e he hek))
        · have hno : noenterB ok = true := by
            rcases hne k ok hok with h1 | h1 | h1 | h1 | h1
            · exact h1
            · exact absurd h1 hki
            · exact absurd h1 hkj
            · have := reachE_listed hcl _ _ _ h1 (fun o ho => by rw [hok] at ho; cases ho; exact hpk) hE
              rw [hli] at this; cases this
            · have := reachE_listed hcl _ _ _ h1 (fun o ho => by rw [hok] at ho; cases ho; exact hpk) hE
              rw [hlj] at this; cases this
          refine wpOpIn_mono (fun a w h => wpAnyE_split2 hij hne fuel _ a w (by simp [hs]) ⟨?_, ?_⟩ (by rw [getD_set_ne false hki]; exact hli) (by rw [getD_set_ne false hkj]; exact hlj) h.1 h.2) (wpOpIn_and (fun o ho => by rw [hok] at ho; cases ho; exact hno) (h.2 k hk fun e he hek => ?_) (h'.2 k hk fun e he hek => ?_))
          · intro m o hm ho e he hb
            by_cases hji : k = m
            · subst hji
              rw [hok] at ho; cases ho
              exact getD_set_true (hpk e he hb)
            · rw [getD_set_ne false hji] at hm
              exact getD_set_true (hcl.1 m o hm ho e he hb)
          · intro e he hm
            by_cases hji : k = e.2
            · exact getD_set_true (hE e he hji.symm)
            · rw [getD_set_ne false hji] at hm
              exact getD_set_true (hcl.2 e he hm)
          · rcases List.mem_cons.1 he with rfl | he
            · exact absurd hek.symm hkj
            · exact hE e he hek
          · rcases List.mem_cons.1 he with rfl | he
            · exact absurd hek.symm hki
            · exact hE e he hek⟩
def splitB (E : List (Nat × Nat)) (L : List Oper) (i j : Nat) : Bool := (List.range L.length).all fun k => match L[k]? with | none => true | some o => noenterB o || k == i || k == j || reachE E L.toArray L.length i k || reachE E L.toArray L.length j k
theorem DG_split2 {L : List Oper} {a : Act} {w : World} (i j : Nat) (hij : i ≠ j) (hne : splitB E L i j = true) (h1 : DGoal r P ((i, j) :: E) L Q a w) (h2 : DGoal r P ((j, i) :: E) L Q a w) : DGoal r P E L Q a w := by
  refine wpAnyE_split2 hij (fun k o ho => ?_) _ _ a w (by simp) ⟨fun i o hi => ?_, fun e he hi => ?_⟩ ?_ ?_ h1 h2
  · unfold splitB at hne
    rw [List.all_eq_true] at hne
    have ho' : L[k]? = some o := by simpa using ho
    have := hne k (List.mem_range.2 (List.getElem?_eq_some_iff.1 ho').1)
    rw [ho'] at this
    simp only [Bool.or_eq_true, beq_iff_eq] at this
    simp only [List.size_toArray]
    rcases this with (((h | h) | h) | h) | h
    · exact .inl h
    · exact .inr (.inl h)
    · exact .inr (.inr (.inl h))
    · exact .inr (.inr (.inr (.inl h)))
    · exact .inr (.inr (.inr (.inr h)))
  · simp only [Array.getD_eq_getD_getElem?, Array.getElem?_replicate] at hi
    split at hi <;> cases hi
  · simp only [Array.getD_eq_getD_getElem?, Array.getElem?_replicate] at hi
    split at hi <;> cases hi
  · simp only [Array.getD_eq_getD_getElem?, Array.getElem?_replicate]; split <;> rfl
  · simp only [Array.getD_eq_getD_getElem?, Array.getElem?_replicate]; split <;> rfl
theorem DG_end {C : Nat → World → Prop} {bf : Nat → List Nat} {L : List Oper} {a : Act} {w : World} (q R : List Nat) (hB : drawBE E L.toArray q R bf = true) (hC : ∀ x, q.contains x = true → C x w)
    (h : wpT r P L.toArray (NoP Q) C bf q R a w) : DGoal r P E L Q a w := by
  unfold drawBE at hB
  simp only [Bool.and_eq_true, beq_iff_eq, List.all_eq_true] at hB
  obtain ⟨⟨⟨hob, h1⟩, h2⟩, h3⟩ := hB
  have hall : ∀ i, i < L.toArray.size → i ∈ R := fun i hi => by simpa using h3 i (by simpa using hi)
  have hlt : ∀ (R : List Nat), okRE E L.toArray q R = true → ∀ i ∈ R, i < L.toArray.size := by
    intro R
    induction R with
    | nil => intro _ i hi; cases hi
    | cons x R ih =>
      intro hx i hi
      rcases List.mem_cons.1 hi with e | e
      · subst e; unfold okRE at hx; simp only [Bool.and_eq_true] at hx; simpa using hx.1.1.2
      · exact ih (okRE_tail hx) i e
  refine wpAnyE_of_wpT (C := C) (q := q) (fun _ _ _ _ _ h => h) _ _ R a _ (by simpa using h2) h1 hob (by simp) ⟨fun i o hi => ?_, fun e he hi => ?_⟩ (fun i hi => ?_) (hlt R h1) (fun x _ => hC x) h
  · simp only [Array.getD_eq_getD_getElem?, Array.getElem?_replicate] at hi
    split at hi <;> cases hi
  · simp only [Array.getD_eq_getD_getElem?, Array.getElem?_replicate] at hi
    split at hi <;> cases hi
  · simp only [hall i hi, Array.getD_eq_getD_getElem?, Array.getElem?_replicate]
    simp at hi
    simp [hi]
end
/-! ## slices of bytes, of whatever length -/
def RdW8 (M : Hp) (v : Value) (l : List Int) : Prop := ∃ a cap, v = .slice a l.length cap ∧ l.length ≤ cap ∧ ∀ i x, l[i]? = some x → (0 ≤ x ∧ x ≤ 255) ∧ ∃ ad, a = some ad ∧ cellM M (ad.add i) = some (.int .u8 x)
theorem RdW8.le {M M' : Hp} {v : Value} {l : List Int} (h : RdW8 M v l) (hM : Hp.le M M') : RdW8 M' v l := by
  obtain ⟨a, cap, e, h1, h2⟩ := h
  exact ⟨a, cap, e, h1, fun i x hx => let ⟨b, ad, e1, e2⟩ := h2 i x hx; ⟨b, ad, e1, cellM_le hM e2⟩⟩
theorem RdW8.len {M : Hp} {v : Value} {l : List Int} (h : RdW8 M v l) : LenV v l.length := let ⟨a, c, e, h1, _⟩ := h; ⟨a, c, e, h1⟩
theorem RdW8.at {M : Hp} {v : Value} {l : List Int} {k : Nat} {e : Int} (h : RdW8 M v l) (he : l[k]? = some e) : (0 ≤ e ∧ e ≤ 255) ∧ ∃ p, IdxPtr v k 1 p ∧ cellM M p = some (.int .u8 e) := by
  obtain ⟨a, cap, rfl, h1, h2⟩ := h
  obtain ⟨b, ad, rfl, e2⟩ := h2 k e he
  exact ⟨b, _, ⟨ad, _, _, rfl, (List.getElem?_eq_some_iff.1 he).1, rfl⟩, by rw [Nat.mul_one]; exact e2⟩
section
open Go.ChangeShapes Go.WideShapes Go.RowKit
variable {H : Type} {enc : TypeId × Value → H} {P : Program} {W : World}
theorem open_u8s {t e : TypeId} {v : Value} {d : DataW H} {p : List MemPlace} {r : Reach} {b0 : Nat} (he : P.underlying e = some (.int .u8)) (hu : P.underlying t = some (.slice e)) (hc : P.cellsOf e = 1)
    (hval : Value.okWide P W r b0 t v) (h : DataW.Trod enc P W 0 (fun _ => true) true t v d p) : ∃ l, RdW8 (HpOf W) v l := by
  obtain ⟨a0, len0, cap0, rfl⟩ := okWide_slice hu hval
  obtain ⟨n, hn⟩ := h
  rcases DataW.trod_slice hu hn with ⟨h1, h2⟩ | ⟨a, len, cap, elems, rest, n, rfl, h1, h3, hbase, hl, hm, hlen, hel, hsp, hns⟩
  · simp [Value.cells] at h1
    obtain ⟨rfl, rfl, rfl⟩ := h1
    exact ⟨[], none, 0, rfl, by simp, fun i x hx => by simp at hx⟩
  · simp [Value.cells] at h1
    obtain ⟨rfl, rfl, rfl⟩ := h1
    have hk : ∀ i : Fin len0, ∃ y : Int, (0 ≤ y ∧ y ≤ 255) ∧ cellM (HpOf W) (a.add i) = some (.int .u8 y) := by
      intro i
      have h1 := hel i i.2
      have hi : elems[i.1]? = some elems[i.1] := List.getElem?_eq_getElem (by omega)
      rw [hi, Option.bind_eq_some_iff] at h1
      obtain ⟨cs, h2, h3⟩ := h1
      obtain ⟨h4, h5⟩ := cells?_some h2
      obtain ⟨m, h6, _, hw⟩ := DataW.trod_int he h3
      refine ⟨m, wf_u8 hw, ?_⟩
      rw [cellM_HpOf]
      have := h5 0 (.int .u8 m) (by rw [h6]; rfl)
      rw [add_add, hc, Nat.mul_one, Nat.add_zero] at this; exact this
    refine ⟨List.ofFn fun i => (hk i).choose, some a, cap0, by simp, by simpa using hl, fun i x hx => ?_⟩
    rw [List.getElem?_ofFn] at hx
    split at hx
    · rename_i hi
      cases hx
      obtain ⟨h1, h2⟩ := (hk ⟨i, hi⟩).choose_spec
      exact ⟨h1, a, rfl, h2⟩
    · cases hx
end
/-! ## a whole slice, with no room behind it -/
def FullV (v : Value) (m sz : Nat) (v' : Value) : Prop := ∃ A c, v = .slice A m c ∧ m ≤ c ∧ v' = .slice (if m = 0 then A else A.map (·.add (0 * sz))) m m
theorem RdI.full {M : Hp} {v : Value} {l : List Int} (h : RdI M v l) : ∃ v', FullV v l.length 1 v' ∧ RdI M v' l := by
  obtain ⟨a, cap, rfl, h1, h2, h3⟩ := h
  refine ⟨_, ⟨a, cap, rfl, h1, rfl⟩, _, l.length, rfl, Nat.le_refl _, h2, fun i x hx => ?_⟩
  obtain ⟨ad, cs, rfl, e2, e3, e4⟩ := h3 i x hx
  refine ⟨ad, cs, ?_, e2, e3, e4⟩
  split
  · rfl
  · simp [add_zero]
theorem R_sliceF {P : Program} {a : Act} {n : Nat} {ds : List Deferred} {l : List (Nat × Value)} {w : World} {d : Tmp} {x y z : Operand} {v v' : Value} {t el ty : TypeId} {sz by_ m : Nat} {zv : Value} {κ κ' : IntKind} {j j' : Int} {pos : String} {af : Array Edge} {gd : Option (Nat × Bool)} (E : Env a n ds l) (hx : opv l x = some v) (hz : opv l z = some (.int κ j)) (hy : opv l y = some (.int κ' j')) (T : SlT P t el sz by_ zv) (hs : FullV v m sz v') (hj : j = (m : Int)) (hj' : j' = (m : Int)) :
    (execOp a.eval ⟨some d, .slice t x none (some z) (some y), ty, pos, af, gd⟩).run P w = .ok (.value v') w := by
  obtain ⟨A, c, rfl, h1, rfl⟩ := hs
  subst hj; subst hj'
  simp [execOp, E.eval hx, E.eval hz, E.eval hy, Instr.sliceAt, Instr.slice, Instr.sliceBounds, Instr.sliceBound, asIntOf, run_underlying T.und, h1, T.sizeOf]
theorem e_sliceF {P : Program} {a : Act} {n : Nat} {ds : List Deferred} {l : List (Nat × Value)} {w : World} {d : Tmp} {x y z : Operand} {v v' : Value} {t el ty : TypeId} {sz by_ m : Nat} {zv : Value} {κ κ' : IntKind} {j j' : Int} {pos : String} {af : Array Edge} (E : Env a n ds l) (hx : opv l x = some v) (hz : opv l z = some (.int κ j)) (hy : opv l y = some (.int κ' j')) (T : SlT P t el sz by_ zv) (hs : FullV v m sz v') (hj : j = (m : Int)) (hj' : j' = (m : Int)) {r0 : Option Nat} {os0 : Array Oper} {Q0 : Exit → Act → World → Prop} {rest0 : List Oper} (k0 : ∀ a, Env a n ds ((d, v') :: l) → WL r0 P os0 Q0 rest0 a w) (hd0 : Nat.blt d n = true := by rfl) : WL r0 P os0 Q0 (⟨some d, .slice t x none (some z) (some y), ty, pos, af, none⟩ :: rest0) a w := O_val E hd0 rfl (R_sliceF E hx hz hy T hs hj hj') k0
/-! ## an owned slice, lent to a function that only looks -/
theorem St.lend {w : World} {M : Hp} {H : List HProp} {p : HProp} (s : St w M (p :: H)) : ∃ M' g, Hp.le M M' ∧ (∀ b o, g b = some o → M' b = some o) ∧ p g ∧ St w M' H ∧ ∀ w' M2, Hp.le M' M2 → St w' M2 H → St w' M (p :: H) := by
  obtain ⟨h, ⟨g, h2, d, rfl, hp, hH⟩, dM, aq, ag⟩ := s
  have ⟨dg, dh⟩ := Hp.disj_union_left.1 dM
  refine ⟨⟨Hp.union g M.mem, M.env⟩, g, ⟨rfl, fun b o e => Hp.le_union_right dg b o e⟩, fun b o e => Hp.le_union_left g M.mem b o e, hp, ⟨h2, hH, Hp.disj_union_right.2 ⟨d.symm, dh⟩, fun b o e => aq b o (Hp.le_union_right d b o e), ag.1, fun b o e => ?_⟩, ?_⟩
  · have e' : Hp.union g M.mem b = some o := e
    unfold Hp.union at e'
    cases hg : g b with
    | some o' => rw [hg] at e'; cases e'; exact aq b o (Hp.le_union_left g h2 b o hg)
    | none => rw [hg] at e'; exact ag.2 b o e'
  · rintro w' M2 hM ⟨h', hH', d', aq', ag'⟩
    have hgM : ∀ b o, g b = some o → M2 b = some o := fun b o e => hM.2 b o (Hp.le_union_left g M.mem b o e)
    have hMM : ∀ b o, M b = some o → M2 b = some o := fun b o e => hM.2 b o (Hp.le_union_right dg b o e)
    have dgh : Hp.disj g h' := fun b => by
      cases hg : g b with
      | none => exact .inl rfl
      | some o => rcases d' b with e | e
                  · exact .inr e
                  · have := hgM b o hg
                    exact absurd (this.symm.trans e) (by simp)
    have dhM : Hp.disj h' M.mem := fun b => by
      rcases d' b with e | e
      · exact .inl e
      · right
        cases hm : M.mem b with
        | none => rfl
        | some o => have := hMM b o hm
                    exact absurd (this.symm.trans e) (by simp)
    refine ⟨Hp.union g h', ⟨g, h', dgh, rfl, hp, hH'⟩, Hp.disj_union_left.2 ⟨dg, dhM⟩, fun b o e => ?_, ⟨ag'.1.trans hM.1, fun b o e => ag'.2 b o (hMM b o e)⟩⟩
    unfold Hp.union at e
    cases hg : g b with
    | some o' => rw [hg] at e; cases e; exact ag'.2 b o (hgM b o hg)
    | none => rw [hg] at e; exact aq' b o e
theorem St.lendI {w : World} {M : Hp} {H : List HProp} {e : TypeId} {v : Value} {l : List Int} (s : St w M (OwnI e v l :: H)) (hlen : l.length ≤ 17592186044416) : ∃ M', Hp.le M M' ∧ RdI M' v l ∧ St w M' H ∧ ∀ w' M2, Hp.le M' M2 → St w' M2 H → St w' M (OwnI e v l :: H) := by
  obtain ⟨M', g, h1, h2, hp, s', back⟩ := s.lend
  refine ⟨M', h1, ?_, s', back⟩
  obtain ⟨hxl, ho⟩ := hp
  rcases ho with ⟨rfl, hl, rfl⟩ | ⟨g', cap, cur, rfl, rfl, a1, a2, a3, a4⟩
  · refine ⟨none, 0, by rw [hl], by omega, by omega, fun i x hx => ?_⟩
    have := (List.getElem?_eq_some_iff.1 hx).1; omega
  · refine ⟨_, cap, rfl, a1, hlen, fun i x hx => ⟨_, [.int .i64 x], rfl, rfl, rfl, fun j c hj => ?_⟩⟩
    have hM' : M' g' = some (.cells cur e (0, 0)) := h2 _ _ (by simp [Hp.one])
    have hi := (List.getElem?_eq_some_iff.1 hx).1
    have hj0 : j = 0 := by have := (List.getElem?_eq_some_iff.1 hj).1; simpa using this
    subst hj0
    have hc : c = .int .i64 x := by simpa using hj.symm
    subst hc
    have hcur : cur.toList[i]? = some (.int .i64 x) := by
      have h3 : (cur.toList.take (l.length * 1))[i]? = some (.int .i64 x) := by rw [a4, List.getElem?_map, hx]; rfl
      rwa [List.getElem?_take_of_lt (by omega)] at h3
    rw [Addr.add_lit]; unfold cellM; rw [hM']; simpa using hcur
end Go.Sl
