import Derived.Test.YtlmpgefhnmfhpaaGreatSlU
set_option linter.unusedVariables false
namespace Go.Sl
open Go
def YF (o : Oper) : Bool := match o.op with
  | .move _ | .assign _ | .nilCheck _ | .pick .. | .buildSlice .. | .slice .. | .load .. | .indexAddr .. | .binOp .. | .convert .. | .store .. | .fieldAddr .. | .build .. => true
  | .call ⟨.builtin .append, _, _⟩ | .call ⟨.builtin .len, _, _⟩ => true
  | _ => false
theorem Us {P : Program} {α : Type} {w w' : World} {s : Sem α} (f : α → Value) {x : Next} (h : (do pure (Next.value (f (← s))) : Sem Next).run P w = .ok x w') : ∃ v, x = .value v := by
  simp only [Sem.run_bind, Result.andThen] at h
  cases hs : s.run P w with
  | ok v w2 => rw [hs] at h; simp at h; exact ⟨_, h.1.symm⟩
  | halt e w2 => rw [hs] at h; cases h
theorem run_u {P : Program} {w w' : World} {s : Sem Unit} {x : Next} (h : (do s; pure Next.skip : Sem Next).run P w = .ok x w') : x = .skip := by
  simp only [Sem.run_bind, Result.andThen] at h
  cases hs : s.run P w with
  | ok v w2 => rw [hs] at h; simp at h; exact h.1.symm
  | halt e w2 => rw [hs] at h; cases h
theorem jY {P : Program} {o : Oper} (h : YF o = true) (ρ : Operand → Value) {w w' : World} {x : Next} (hr : (execOp ρ o).run P w = .ok x w') : (∃ v, x = .value v) ∨ x = .skip := by
  obtain ⟨dst, op, ty, pos, af, gd⟩ := o
  cases op
  case move y => exact .inl ⟨_, by have h2 : Result.ok (Next.value (ρ y)) w = Result.ok x w' := hr; cases h2; rfl⟩
  case assign y => exact .inl ⟨_, by have h2 : Result.ok (Next.value (ρ y)) w = Result.ok x w' := hr; cases h2; rfl⟩
  case nilCheck y =>
    simp only [execOp] at hr
    split at hr
    · cases hr
    · cases hr
    · cases hr
    · split at hr
      · cases hr
      · simp only [Sem.run_bind, Result.andThen] at hr
        repeat' split at hr
        all_goals first | (cases hr; done) | (cases hr; exact .inl ⟨_, rfl⟩)
      · cases hr; exact .inl ⟨_, rfl⟩
    · cases hr; exact .inl ⟨_, rfl⟩
  case pick c y z => exact .inl (Us (fun b : Bool => if b then ρ y else ρ z) hr)
  case buildSlice => exact .inl (Us id hr)
  case slice => exact .inl (Us id hr)
  case load => exact .inl (Us id hr)
  case indexAddr => exact .inl (Us id hr)
  case binOp => exact .inl (Us id hr)
  case convert => exact .inl (Us id hr)
  case store => exact .inr (run_u hr)
  case fieldAddr => exact .inl (Us id hr)
  case build => exact .inl (Us id hr)
  case call c =>
    obtain ⟨ce, ar, at'⟩ := c
    cases ce with
    | builtin b =>
      cases b
      case append => exact .inl (Us id (by simpa [execOp, resolve, invoke, builtin] using hr))
      case len => exact .inl (Us id (by simpa [execOp, resolve, invoke, builtin] using hr))
      all_goals exact absurd h Bool.false_ne_true
    | _ => exact absurd h Bool.false_ne_true
  all_goals exact absurd h Bool.false_ne_true
section
variable {r : Option Nat} {P : Program} {ops : Array Oper} {Q : Exit → Act → World → Prop} {C : Nat → World → Prop} {bf : Nat → List Nat} {E : List (Nat × Nat)}
theorem wpIn_and {o : Oper} (ho : YF o = true) {a : Act} {w : World} {K K' : Act → World → Prop} (h : o.wpIn (Fw r) 0 P a w K Q) (h' : o.wpIn (Fw r) 0 P a w K' Q) : o.wpIn (Fw r) 0 P a w (fun a w => K a w ∧ K' a w) Q := by
  unfold Oper.wpIn at *
  refine ⟨h.1, ?_⟩
  have h2 := h.2
  have h2' := h'.2
  have hs : o.semAt (Fw r).round a.eval = execOp a.eval o := Oper.semAt_eq _ _ _ (fun c hc => by unfold YF at ho; rw [hc] at ho; cases ho)
  rw [hs] at h2 h2' ⊢
  cases hr : (execOp a.eval o).run P w with
  | ok x w' =>
    rw [hr] at h2 h2'
    rcases jY ho a.eval hr with ⟨v, rfl⟩ | rfl
    · exact ⟨h2, h2'⟩
    · exact ⟨h2, h2'⟩
  | halt x w' => rw [hr] at h2; cases x <;> exact h2
theorem qq {i : Nat} (ho : ∀ o, ops[i]? = some o → YF o = true) {a : Act} {w : World} {K K' : Act → World → Prop} (h : wpOpIn (Fw r) 0 P ops Q i K a w) (h' : wpOpIn (Fw r) 0 P ops Q i K' a w) : wpOpIn (Fw r) 0 P ops Q i (fun a w => K a w ∧ K' a w) a w := by
  unfold wpOpIn at *
  cases hi : ops[i]? with
  | none => rw [hi] at h h'; exact ⟨h, h'⟩
  | some o =>
    rw [hi] at h h'
    simp only at h h' ⊢
    by_cases hw : Region.wanted o (yielded ops a.tmps) = true
    · rw [if_pos hw] at h h' ⊢; exact wpIn_and (ho o hi) h h'
    · rw [if_neg hw] at h h' ⊢; exact ⟨h.1, h.2, h'.2⟩
def Vl (r : Option Nat) (P : Program) (E : List (Nat × Nat)) (ops : Array Oper) (Q : Exit → Act → World → Prop) : Nat → Array Bool → Act → World → Prop
  | 0, listed, a, w => Region.ready .any ops listed = [] ∧ Q .normal a w
  | fuel + 1, listed, a, w =>
    (Region.ready .any ops listed = [] → Q .normal a w) ∧
    ∀ i ∈ Region.ready .any ops listed, (∀ e ∈ E, e.2 = i → listed.getD e.1 false = true) → wpOpIn (Fw r) 0 P ops Q i (Vl r P E ops Q fuel (listed.setIfInBounds i true)) a w
theorem qr : ∀ (fuel : Nat) (listed : Array Bool) (a : Act) (w : World), Vl r P [] ops Q fuel listed a w → wpAnyIn (Fw r) 0 P .any ops Q fuel listed a w
  | 0, _, _, _, h => h
  | fuel + 1, listed, a, w, h => ⟨h.1, fun i hi => wpOpIn_mono (fun a w h => qr fuel _ a w h) (h.2 i hi (fun e he => by cases he))⟩
theorem Vy {i j : Nat} : ∀ (fuel : Nat) (listed : Array Bool) (a : Act) (w : World), listed.getD i false = true → Vl r P ((i, j) :: E) ops Q fuel listed a w → Vl r P E ops Q fuel listed a w
  | 0, _, _, _, _, h => h
  | fuel + 1, listed, a, w, hl, h => ⟨h.1, fun k hk hE => wpOpIn_mono (fun a w h => Vy fuel _ a w (getD_set_true hl) h) (h.2 k hk (fun e he hek => by
      rcases List.mem_cons.1 he with rfl | he
      · exact hl
      · exact hE e he hek))⟩
theorem WG {i j : Nat} (hij : i ≠ j) (hne : ops.toList.all YF = true) : ∀ (fuel : Nat) (listed : Array Bool) (a : Act) (w : World), listed.size = ops.size → Vl r P ((i, j) :: E) ops Q fuel listed a w → Vl r P ((j, i) :: E) ops Q fuel listed a w → Vl r P E ops Q fuel listed a w
  | 0, _, _, _, _, h, _ => h
  | fuel + 1, listed, a, w, hs, h, h' => ⟨h.1, fun k hk hE => by
      have hkl : k < listed.size := by
        obtain ⟨_, o, ho, _⟩ := mem_ready.1 hk
        rw [hs]; exact (Array.getElem?_eq_some_iff.1 ho).1
      have hset : (listed.setIfInBounds k true).getD k false = true := by simp [Array.getD, hkl]
      by_cases hki : k = i
      · subst hki
        exact wpOpIn_mono (fun a w h => Vy fuel _ a w hset h) (h.2 k hk (fun e he hek => by
          rcases List.mem_cons.1 he with rfl | he
          · exact absurd hek.symm hij
          · exact hE e he hek))
      · by_cases hkj : k = j
        · subst hkj
          exact wpOpIn_mono (fun a w h => Vy fuel _ a w hset h) (h'.2 k hk (fun e he hek => by
            rcases List.mem_cons.1 he with rfl | he
            · exact absurd hek hij
            · exact hE e he hek))
        · refine wpOpIn_mono (fun a w h => WG hij hne fuel _ a w (by simp [hs]) h.1 h.2) (qq (fun o ho => ?_) (h.2 k hk fun e he hek => ?_) (h'.2 k hk fun e he hek => ?_))
          · rw [List.all_eq_true] at hne
            exact hne o (by rw [← Array.getElem?_toList] at ho; exact List.mem_of_getElem? ho)
          · rcases List.mem_cons.1 he with rfl | he
            · exact absurd hek.symm hkj
            · exact hE e he hek
          · rcases List.mem_cons.1 he with rfl | he
            · exact absurd hek.symm hki
            · exact hE e he hek⟩
def YE (E : List (Nat × Nat)) (ops : Array Oper) : Nat → Nat → Nat → Bool
  | 0, _, _ => false
  | f + 1, x, i => (match ops[i]? with
    | none => false
    | some o => o.after.toList.any fun e => Region.binds .any e && (e.on == x || YE E ops f x e.on)) || E.any fun e => e.2 == i && (e.1 == x || YE E ops f x e.1)
def Wx (E : List (Nat × Nat)) (ops : Array Oper) (q : List Nat) : List Nat → Bool
  | [] => true
  | x :: R => R.all (fun i => YE E ops ops.size x i || (q.contains x && GD ops x i)) && !R.contains x && decide (x < ops.size) &&
      (match ops[x]? with | some o => Yk o && o.after.toList.all (fun e => !Region.binds .any e || (!R.contains e.on && e.on != x && decide (e.on < ops.size))) | none => false) && Wx E ops q R
def qE (E : List (Nat × Nat)) (ops : Array Oper) (bf : Nat → List Nat) : List Nat → Bool
  | [] => true
  | x :: R => (bf x).all (fun y => YE E ops ops.size y x && !R.contains y) && qE E ops bf R
def drawBE (E : List (Nat × Nat)) (ops : Array Oper) (q R : List Nat) (bf : Nat → List Nat) : Bool := qE E ops bf R && Wx E ops q R && R.length == ops.size && (List.range ops.size).all (R.contains ·)
def jC (E : List (Nat × Nat)) (ops : Array Oper) (listed : Array Bool) : Prop := Closed ops listed ∧ ∀ e ∈ E, listed.getD e.2 false = true → listed.getD e.1 false = true
theorem VO {listed : Array Bool} (hc : jC E ops listed) : ∀ f x i, YE E ops f x i = true → (∀ o, ops[i]? = some o → ∀ e ∈ o.after, Region.binds .any e = true → listed.getD e.on false = true) → (∀ e ∈ E, e.2 = i → listed.getD e.1 false = true) → listed.getD x false = true := by
  intro f
  induction f with
  | zero => intro x i h _ _; cases h
  | succ f ih =>
    intro x i h hp hE
    have next : ∀ y, listed.getD y false = true → YE E ops f x y = true → listed.getD x false = true := fun y hl h3 =>
      ih x y h3 (fun o' ho' => hc.1 y o' hl ho') (fun e he hey => hc.2 e he (by rw [hey]; exact hl))
    unfold YE at h
    rw [Bool.or_eq_true] at h
    rcases h with h | h
    · cases ho : ops[i]? with
      | none => rw [ho] at h; cases h
      | some o =>
        rw [ho] at h
        obtain ⟨e, he, h2⟩ := List.any_eq_true.1 h
        have he' : e ∈ o.after := by simpa using he
        rw [Bool.and_eq_true, Bool.or_eq_true] at h2
        have hl := hp o ho e he' h2.1
        rcases h2.2 with h3 | h3
        · have : e.on = x := by simpa using h3
          rw [← this]; exact hl
        · exact next e.on hl h3
    · obtain ⟨e, he, h2⟩ := List.any_eq_true.1 h
      rw [Bool.and_eq_true, Bool.or_eq_true, beq_iff_eq] at h2
      have hl := hE e he h2.1
      rcases h2.2 with h3 | h3
      · have : e.1 = x := by simpa using h3
        rw [← this]; exact hl
      · exact next e.1 hl h3
theorem VT {q : List Nat} {x : Nat} {R : List Nat} (h : Wx E ops q (x :: R) = true) : Wx E ops q R = true := by
  unfold Wx at h; simp only [Bool.and_eq_true] at h; exact h.2
theorem qB {q : List Nat} {i : Nat} {post : List Nat} : ∀ (pre : List Nat), Wx E ops q (pre ++ i :: post) = true → Wx E ops q (pre ++ post) = true
  | [], h => VT h
  | x :: pre, h => by
    have ht := qB pre (VT h)
    simp only [List.cons_append] at h ⊢
    unfold Wx at h ⊢
    simp only [Bool.and_eq_true] at h ⊢
    obtain ⟨⟨⟨⟨h1, h2⟩, h3⟩, h4⟩, _⟩ := h
    refine ⟨⟨⟨⟨?_, ?_⟩, h3⟩, ?_⟩, ht⟩
    · rw [List.all_eq_true] at h1 ⊢
      exact fun y hy => h1 y (by rcases List.mem_append.1 hy with e | e; · exact List.mem_append_left _ e
                                 · exact List.mem_append_right _ (List.mem_cons_of_mem _ e))
    · simp only [Bool.not_eq_true', List.contains_eq_mem, decide_eq_false_iff_not] at h2 ⊢
      exact fun hy => h2 (by rcases List.mem_append.1 hy with e | e; · exact List.mem_append_left _ e
                             · exact List.mem_append_right _ (List.mem_cons_of_mem _ e))
    · cases ho : ops[x]? with
      | none => rw [ho] at h4; exact h4
      | some o =>
        rw [ho] at h4
        simp only [Bool.and_eq_true, List.all_eq_true, Bool.or_eq_true] at h4 ⊢
        refine ⟨h4.1, fun e he => (h4.2 e he).imp id fun ⟨⟨a1, a2⟩, a3⟩ => ⟨⟨?_, a2⟩, a3⟩⟩
        simp only [Bool.not_eq_true', List.contains_eq_mem, decide_eq_false_iff_not] at a1 ⊢
        exact fun hy => a1 (by rcases List.mem_append.1 hy with e' | e'; · exact List.mem_append_left _ e'
                               · exact List.mem_append_right _ (List.mem_cons_of_mem _ e'))
theorem jW {q : List Nat} {i : Nat} {post : List Nat} : ∀ (pre : List Nat), Wx E ops q (pre ++ i :: post) = true → ∀ x ∈ pre, (YE E ops ops.size x i = true ∨ (q.contains x = true ∧ GD ops x i = true)) ∧ x ≠ i ∧ ∃ ox, ops[x]? = some ox ∧ Yk ox = true
  | [], _, x, hx => by cases hx
  | y :: pre, h, x, hx => by
    rcases List.mem_cons.1 hx with e | e
    · subst e
      simp only [List.cons_append] at h
      unfold Wx at h
      simp only [Bool.and_eq_true, List.all_eq_true, Bool.or_eq_true] at h
      obtain ⟨⟨⟨⟨h1, h2⟩, h3⟩, h4⟩, _⟩ := h
      refine ⟨h1 i (by simp), ?_, ?_⟩
      · rintro rfl; simp at h2
      · cases ho : ops[x]? with
        | none => rw [ho] at h4; cases h4
        | some o => rw [ho] at h4; simp only [Bool.and_eq_true] at h4; exact ⟨o, rfl, h4.1⟩
    · exact jW pre (VT h) x e
theorem Gs {x : Nat} {R : List Nat} (h : qE E ops bf (x :: R) = true) : qE E ops bf R = true := by
  unfold qE at h; rw [Bool.and_eq_true] at h; exact h.2
theorem qD {i : Nat} {post : List Nat} : ∀ (pre : List Nat), qE E ops bf (pre ++ i :: post) = true → qE E ops bf (pre ++ post) = true
  | [], h => Gs h
  | x :: pre, h => by
    have ht := qD pre (Gs h)
    simp only [List.cons_append] at h ⊢
    unfold qE at h ⊢
    rw [Bool.and_eq_true] at h ⊢
    refine ⟨?_, ht⟩
    have h1 := h.1
    rw [List.all_eq_true] at h1 ⊢
    intro y hy
    have h2 := h1 y hy
    simp only [Bool.and_eq_true, Bool.not_eq_true', List.contains_eq_mem, decide_eq_false_iff_not] at h2 ⊢
    exact ⟨h2.1, fun hm => h2.2 (by rcases List.mem_append.1 hm with e | e; · exact List.mem_append_left _ e
                                    · exact List.mem_append_right _ (List.mem_cons_of_mem _ e))⟩
theorem zR {i : Nat} {post : List Nat} : ∀ (pre : List Nat), qE E ops bf (pre ++ i :: post) = true → ∀ y ∈ bf i, YE E ops ops.size y i = true ∧ y ∉ post
  | [], h, y, hy => by
    simp only [List.nil_append] at h
    unfold qE at h
    rw [Bool.and_eq_true, List.all_eq_true] at h
    have := h.1 y hy
    simpa using this
  | x :: pre, h, y, hy => zR pre (Gs h) y hy
theorem Gr {q : List Nat} {i : Nat} {post : List Nat} : ∀ (pre : List Nat), Wx E ops q (pre ++ i :: post) = true → ∃ oi, ops[i]? = some oi ∧ Yk oi = true ∧ i ∉ post ∧ ∀ e ∈ oi.after, Region.binds .any e = true → e.on ∉ post ∧ e.on ≠ i ∧ e.on < ops.size
  | [], h => by
    simp only [List.nil_append] at h
    unfold Wx at h
    simp only [Bool.and_eq_true] at h
    obtain ⟨⟨⟨⟨_, h2⟩, _⟩, h4⟩, _⟩ := h
    cases ho : ops[i]? with
    | none => rw [ho] at h4; cases h4
    | some o =>
      rw [ho] at h4
      simp only [Bool.and_eq_true, List.all_eq_true, Bool.or_eq_true] at h4
      refine ⟨o, rfl, h4.1, by simpa using h2, fun e he hb => ?_⟩
      rcases h4.2 e (by simpa using he) with h5 | ⟨⟨a1, a2⟩, a3⟩
      · rw [hb] at h5; cases h5
      · exact ⟨by simpa using a1, by simpa using a2, by simpa using a3⟩
  | x :: pre, h => Gr pre (VT h)
theorem Wq {q : List Nat} (hQ : ∀ c d v a w, Q (.panic c) (a.put d v) w → Q (.panic c) a w) : ∀ (fuel : Nat) (listed : Array Bool) (R : List Nat) (a : Act) (w : World),
    R.length = fuel → Wx E ops q R = true → qE E ops bf R = true → listed.size = ops.size → jC E ops listed → (∀ i, i < ops.size → (i ∈ R ↔ listed.getD i false = false)) → (∀ i ∈ R, i < ops.size) → (∀ x ∈ R, q.contains x = true → C x w) → Uo r P ops Q C bf q R a w →
    Vl r P E ops Q fuel listed a w
  | 0, listed, R, a, w, hl, hok, hob, hsz, hcl, hR, hlt, hC, h => by
    have hn : R = [] := List.eq_nil_of_length_eq_zero hl
    subst hn
    refine ⟨?_, h⟩
    refine List.eq_nil_iff_forall_not_mem.2 fun i hi => ?_
    obtain ⟨h0, o, ho, _⟩ := mem_ready.1 hi
    have hi' : i < ops.size := (Array.getElem?_eq_some_iff.1 ho).1
    have := (hR i hi').2 (Ua h0)
    cases this
  | fuel + 1, listed, R, a, w, hl, hok, hob, hsz, hcl, hR, hlt, hC, h => by
    refine ⟨fun hnil => ?_, fun i hi hEi => ?_⟩
    · -- nothing is ready: but the first of R is
      cases R with
      | nil => cases hl
      | cons x R' =>
        exfalso
        obtain ⟨ox, hox, _, _, he⟩ := Gr [] hok
        have hx : x < ops.size := hlt x (List.mem_cons_self ..)
        have hm : x ∈ Region.ready .any ops listed := by
          rw [mem_ready]
          refine ⟨?_, ox, hox, fun e hem hb => ?_⟩
          · have := (hR x hx).1 (List.mem_cons_self ..)
            simpa [Array.getD, hsz, hx] using this
          · obtain ⟨h1, h2, h3⟩ := he e hem hb
            cases hle : listed.getD e.on false with
            | true => rfl
            | false => rcases List.mem_cons.1 ((hR e.on h3).2 hle) with e' | e'
                       · exact absurd e' h2
                       · exact absurd e' h1
        rw [hnil] at hm; cases hm
    · obtain ⟨h0, oi, hoi, hpreds⟩ := mem_ready.1 hi
      have hi' : i < ops.size := (Array.getElem?_eq_some_iff.1 hoi).1
      have hiR : i ∈ R := (hR i hi').2 (Ua h0)
      obtain ⟨pre, post, rfl⟩ := List.append_of_mem hiR
      obtain ⟨oi', hoi', hpi, hnp, _⟩ := Gr pre hok
      rw [hoi] at hoi'; cases hoi'
      have hpre := jW pre hok
      have hself := zR pre hob
      have hnr : ∀ x, YE E ops ops.size x i = true → x ∉ pre := fun x h1 hx => by
        obtain ⟨_, _, ox, hox, _⟩ := hpre x hx
        have := VO hcl _ _ _ h1 (fun o ho => by rw [hoi] at ho; cases ho; exact hpreds) hEi
        have hxR := (hR x (Array.getElem?_eq_some_iff.1 hox).1).1 (List.mem_append_left _ hx)
        rw [hxR] at this; cases this
      refine wpOpIn_mono ?_ (qp hQ (pre ++ post) (fun x hx => by
          simp only [List.contains_eq_mem, decide_eq_false_iff_not]
          intro hb
          obtain ⟨h1, h2⟩ := hself x hb
          rcases List.mem_append.1 hx with e | e
          · exact hnr x h1 e
          · exact h2 e) pre a w (fun x hx => hC x (by rcases List.mem_append.1 hx with e | e; · exact List.mem_append_left _ e
                                                      · exact List.mem_append_right _ (List.mem_cons_of_mem _ e))) (hC i (by simp)) h (fun x hx => ?_) (fun o ho => by rw [hoi] at ho; cases ho; exact hpi))
      · rintro a' w' ⟨hC', hT⟩
        refine Wq hQ fuel _ (pre ++ post) a' w' (by simp at hl ⊢; omega) (qB pre hok) (qD pre hob) (by simp [hsz]) ⟨?_, ?_⟩ ?_ (fun j hj => hlt j ?_) hC' hT
        · intro j o hj ho e he hb
          by_cases hji : i = j
          · subst hji
            rw [hoi] at ho; cases ho
            exact getD_set_true (hpreds e he hb)
          · rw [getD_set_ne false hji] at hj
            exact getD_set_true (hcl.1 j o hj ho e he hb)
        · intro e he hj
          by_cases hji : i = e.2
          · exact getD_set_true (hEi e he hji.symm)
          · rw [getD_set_ne false hji] at hj
            exact getD_set_true (hcl.2 e he hj)
        · intro j hj
          by_cases hji : i = j
          · subst hji
            have : (listed.setIfInBounds i true).getD i false = true := by simp [Array.getD, hsz, hj]
            rw [this]
            simp only [reduceCtorEq, iff_false, List.mem_append, not_or]
            exact ⟨fun hm => (hpre i hm).2.1 rfl, hnp⟩
          · rw [getD_set_ne false hji, ← hR j hj]
            simp only [List.mem_append, List.mem_cons]
            constructor
            · rintro (e | e); exact .inl e; exact .inr (.inr e)
            · rintro (e | e | e); exact .inl e; exact absurd e.symm hji; exact .inr e
        · rcases List.mem_append.1 hj with e | e
          · exact List.mem_append_left _ e
          · exact List.mem_append_right _ (List.mem_cons_of_mem _ e)
      · obtain ⟨h1, h2, ox, hox, hpx⟩ := hpre x hx
        rcases h1 with h1 | ⟨h1, h1'⟩
        · exact absurd hx (hnr x h1)
        · refine ⟨h1, ox, oi, hox, hoi, ?_, hpx, hpi⟩
          unfold GD at h1'
          rw [hox, hoi] at h1'; exact h1'
def GR (r : Option Nat) (P : Program) (E : List (Nat × Nat)) (L : List Oper) (Q : Exit → Act → World → Prop) (a : Act) (w : World) : Prop := Vl r P E L.toArray (NoP Q) L.length (Array.replicate L.length false) a w
theorem UT {id : Nat} {L : List Oper} {a : Act} {w : World} (hm : P.follows .mixedOrders = true) (h : GR r P [] L Q a w.drew) : WP r P (.region id L.toArray true) Q a w := by
  refine wpIn_mono (Q := NoP Q) (wpIn_region_draw fun t => ?_) fun e a w h => by cases e <;> first | exact h | exact h.elim
  simp only [Region.schedule, hm, Bool.true_or, if_true]
  have h2 := wpAnyIn_sound _ t _ a _ (qr _ _ a _ h)
  simpa [Region.linearise] using h2
theorem Vk {L : List Oper} {a : Act} {w : World} (i j : Nat) (hij : i ≠ j) (hne : L.all YF = true) (h1 : GR r P ((i, j) :: E) L Q a w) (h2 : GR r P ((j, i) :: E) L Q a w) : GR r P E L Q a w :=
  WG hij (by simpa using hne) _ _ a w (by simp) h1 h2
theorem Wp {i j : Nat} (hij : i ≠ j) (hne : ∀ k o, ops[k]? = some o → YF o = true ∨ k = i ∨ k = j ∨ YE E ops ops.size i k = true ∨ YE E ops ops.size j k = true) : ∀ (fuel : Nat) (listed : Array Bool) (a : Act) (w : World), listed.size = ops.size → jC E ops listed → listed.getD i false = false → listed.getD j false = false →
    Vl r P ((i, j) :: E) ops Q fuel listed a w → Vl r P ((j, i) :: E) ops Q fuel listed a w → Vl r P E ops Q fuel listed a w
  | 0, _, _, _, _, _, _, _, h, _ => h
  | fuel + 1, listed, a, w, hs, hcl, hli, hlj, h, h' => ⟨h.1, fun k hk hE => by
      obtain ⟨_, ok, hok, hpk⟩ := mem_ready.1 hk
      have hkl : k < listed.size := by rw [hs]; exact (Array.getElem?_eq_some_iff.1 hok).1
      have hset : (listed.setIfInBounds k true).getD k false = true := by simp [Array.getD, hkl]
      by_cases hki : k = i
      · subst hki
        exact wpOpIn_mono (fun a w h => Vy fuel _ a w hset h) (h.2 k hk (fun e he hek => by
          rcases List.mem_cons.1 he with rfl | he
          · exact absurd hek.symm hij
          · exact hE e he hek))
      · by_cases hkj : k = j
        · subst hkj
          exact wpOpIn_mono (fun a w h => Vy fuel _ a w hset h) (h'.2 k hk (fun e he hek => by
            rcases List.mem_cons.1 he with rfl | he
            · exact absurd hek hij
            · exact hE e he hek))
        · have hno : YF ok = true := by
            rcases hne k ok hok with h1 | h1 | h1 | h1 | h1
            · exact h1
            · exact absurd h1 hki
            · exact absurd h1 hkj
            · have := VO hcl _ _ _ h1 (fun o ho => by rw [hok] at ho; cases ho; exact hpk) hE
              rw [hli] at this; cases this
            · have := VO hcl _ _ _ h1 (fun o ho => by rw [hok] at ho; cases ho; exact hpk) hE
              rw [hlj] at this; cases this
          refine wpOpIn_mono (fun a w h => Wp hij hne fuel _ a w (by simp [hs]) ⟨?_, ?_⟩ (by rw [getD_set_ne false hki]; exact hli) (by rw [getD_set_ne false hkj]; exact hlj) h.1 h.2) (qq (fun o ho => by rw [hok] at ho; cases ho; exact hno) (h.2 k hk fun e he hek => ?_) (h'.2 k hk fun e he hek => ?_))
          · intro m o hm ho e he hb
            by_cases hji : k = m
            · subst hji
              rw [hok] at ho; cases ho
              exact getD_set_true (hpk e he hb)
            · rw [getD_set_ne false hji] at hm
              exact getD_set_true (hcl.1 m o hm ho e he hb)
          · intro e he hm
            by_cases hji : k = e.2
            · exact getD_set_true (hE e he hji.symm)
            · rw [getD_set_ne false hji] at hm
              exact getD_set_true (hcl.2 e he hm)
          · rcases List.mem_cons.1 he with rfl | he
            · exact absurd hek.symm hkj
            · exact hE e he hek
          · rcases List.mem_cons.1 he with rfl | he
            · exact absurd hek.symm hki
            · exact hE e he hek⟩
def splitB (E : List (Nat × Nat)) (L : List Oper) (i j : Nat) : Bool := (List.range L.length).all fun k => match L[k]? with | none => true | some o => YF o || k == i || k == j || YE E L.toArray L.length i k || YE E L.toArray L.length j k
theorem DG_split2 {L : List Oper} {a : Act} {w : World} (i j : Nat) (hij : i ≠ j) (hne : splitB E L i j = true) (h1 : GR r P ((i, j) :: E) L Q a w) (h2 : GR r P ((j, i) :: E) L Q a w) : GR r P E L Q a w := by
  refine Wp hij (fun k o ho => ?_) _ _ a w (by simp) ⟨fun i o hi => ?_, fun e he hi => ?_⟩ ?_ ?_ h1 h2
  · unfold splitB at hne
    rw [List.all_eq_true] at hne
    have ho' : L[k]? = some o := by simpa using ho
    have := hne k (List.mem_range.2 (List.getElem?_eq_some_iff.1 ho').1)
    rw [ho'] at this
    simp only [Bool.or_eq_true, beq_iff_eq] at this
    simp only [List.size_toArray]
    rcases this with (((h | h) | h) | h) | h
    · exact .inl h
    · exact .inr (.inl h)
    · exact .inr (.inr (.inl h))
    · exact .inr (.inr (.inr (.inl h)))
    · exact .inr (.inr (.inr (.inr h)))
  · simp only [Array.getD_eq_getD_getElem?, Array.getElem?_replicate] at hi
    split at hi <;> cases hi
  · simp only [Array.getD_eq_getD_getElem?, Array.getElem?_replicate] at hi
    split at hi <;> cases hi
  · simp only [Array.getD_eq_getD_getElem?, Array.getElem?_replicate]; split <;> rfl
  · simp only [Array.getD_eq_getD_getElem?, Array.getElem?_replicate]; split <;> rfl
theorem YN {C : Nat → World → Prop} {bf : Nat → List Nat} {L : List Oper} {a : Act} {w : World} (q R : List Nat) (hB : drawBE E L.toArray q R bf = true) (hC : ∀ x, q.contains x = true → C x w)
    (h : Uo r P L.toArray (NoP Q) C bf q R a w) : GR r P E L Q a w := by
  unfold drawBE at hB
  simp only [Bool.and_eq_true, beq_iff_eq, List.all_eq_true] at hB
  obtain ⟨⟨⟨hob, h1⟩, h2⟩, h3⟩ := hB
  have hall : ∀ i, i < L.toArray.size → i ∈ R := fun i hi => by simpa using h3 i (by simpa using hi)
  have hlt : ∀ (R : List Nat), Wx E L.toArray q R = true → ∀ i ∈ R, i < L.toArray.size := by
    intro R
    induction R with
    | nil => intro _ i hi; cases hi
    | cons x R ih =>
      intro hx i hi
      rcases List.mem_cons.1 hi with e | e
      · subst e; unfold Wx at hx; simp only [Bool.and_eq_true] at hx; simpa using hx.1.1.2
      · exact ih (VT hx) i e
  refine Wq (C := C) (q := q) (fun _ _ _ _ _ h => h) _ _ R a _ (by simpa using h2) h1 hob (by simp) ⟨fun i o hi => ?_, fun e he hi => ?_⟩ (fun i hi => ?_) (hlt R h1) (fun x _ => hC x) h
  · simp only [Array.getD_eq_getD_getElem?, Array.getElem?_replicate] at hi
    split at hi <;> cases hi
  · simp only [Array.getD_eq_getD_getElem?, Array.getElem?_replicate] at hi
    split at hi <;> cases hi
  · simp only [hall i hi, Array.getD_eq_getD_getElem?, Array.getElem?_replicate]
    simp at hi
    simp [hi]
end
def yS (M : Hp) (v : Value) (l : List Int) : Prop := ∃ a cap, v = .slice a l.length cap ∧ l.length ≤ cap ∧ ∀ i x, l[i]? = some x → (0 ≤ x ∧ x ≤ 255) ∧ ∃ ad, a = some ad ∧ ZC M (ad.add i) = some (.int .u8 x)
theorem yS.le {M M' : Hp} {v : Value} {l : List Int} (h : yS M v l) (hM : Hp.le M M') : yS M' v l := by
  obtain ⟨a, cap, e, h1, h2⟩ := h
  exact ⟨a, cap, e, h1, fun i x hx => let ⟨b, ad, e1, e2⟩ := h2 i x hx; ⟨b, ad, e1, qP hM e2⟩⟩
theorem yS.len {M : Hp} {v : Value} {l : List Int} (h : yS M v l) : LenV v l.length := let ⟨a, c, e, h1, _⟩ := h; ⟨a, c, e, h1⟩
theorem yS.at {M : Hp} {v : Value} {l : List Int} {k : Nat} {e : Int} (h : yS M v l) (he : l[k]? = some e) : (0 ≤ e ∧ e ≤ 255) ∧ ∃ p, Zj v k 1 p ∧ ZC M p = some (.int .u8 e) := by
  obtain ⟨a, cap, rfl, h1, h2⟩ := h
  obtain ⟨b, ad, rfl, e2⟩ := h2 k e he
  exact ⟨b, _, ⟨ad, _, _, rfl, (List.getElem?_eq_some_iff.1 he).1, rfl⟩, by rw [Nat.mul_one]; exact e2⟩
end Go.Sl
