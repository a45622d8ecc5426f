import Derived.Test.YtejfcglfjdfneaaSlE
import Derived.OrdersIn
namespace Go.Sl
open Go

/-! ### A region that draws its order -/
section
variable {r : Option Nat} {P : Program} {ops : Array Oper} {Q : Exit → Act → World → Prop} {C : Nat → World → Prop} {bf : Nat → List Nat}

/-- the walk in one order R; q: the operations that only look -/
def wpT (r : Option Nat) (P : Program) (ops : Array Oper) (Q : Exit → Act → World → Prop) (C : Nat → World → Prop) (bf : Nat → List Nat) (q : List Nat) : List Nat → Act → World → Prop
  | [], a, w => Q .normal a w
  | i :: R, a, w => match ops[i]? with
    | none => False
    | some o => if Region.wanted o (yielded ops a.tmps) then
        (if q.contains i then ∃ v, (∀ w', C i w' → (execOp a.eval o).run P w' = .ok (.value v) w') ∧ wpT r P ops Q C bf q R (a.put o.dst v) w
         else o.wpIn (Fw r) 0 P a w (fun a' w' => (∀ x, q.contains x = true → (bf i).contains x = false → C x w') ∧ wpT r P ops Q C bf q R a' w') Q)
      else wpT r P ops Q C bf q R (a.put o.dst undef) w

def reach (ops : Array Oper) : Nat → Nat → Nat → Bool
  | 0, _, _ => false
  | f + 1, x, i => match ops[i]? with
    | none => false
    | some o => o.after.toList.any fun e => Region.binds .any e && (e.on == x || reach ops f x e.on)
def plainOp (o : Oper) : Bool := Op.nodefer o.op && (match o.op with | .select .. => false | _ => true)
def apartB (ops : Array Oper) (x i : Nat) : Bool := match ops[x]?, ops[i]? with
  | some a, some b => Oper.apart ops a b
  | _, _ => false
def okR (ops : Array Oper) (q : List Nat) : List Nat → Bool
  | [] => true
  | x :: R => R.all (fun i => reach ops ops.size x i || (q.contains x && apartB ops x i)) && !R.contains x && decide (x < ops.size) &&
      (match ops[x]? with | some o => plainOp o && o.after.toList.all (fun e => !Region.binds .any e || (!R.contains e.on && e.on != x && decide (e.on < ops.size))) | none => false) && okR ops q R
def okB (ops : Array Oper) (bf : Nat → List Nat) : List Nat → Bool
  | [] => true
  | x :: R => (bf x).all (fun y => reach ops ops.size y x && !R.contains y) && okB ops bf R
def drawB (ops : Array Oper) (q R : List Nat) (bf : Nat → List Nat) : Bool := okB ops bf R && okR ops q R && R.length == ops.size && (List.range ops.size).all (R.contains ·)

def Closed (ops : Array Oper) (listed : Array Bool) : Prop := ∀ (i : Nat) (o : Oper), listed.getD i false = true → ops[i]? = some o → ∀ e ∈ o.after, Region.binds .any e = true → listed.getD e.on false = true

theorem reach_listed {listed : Array Bool} (hc : Closed ops listed) : ∀ f x i, reach ops f x i = true → (∀ o, ops[i]? = some o → ∀ e ∈ o.after, Region.binds .any e = true → listed.getD e.on false = true) → listed.getD x false = true := by
  intro f
  induction f with
  | zero => intro x i h _; cases h
  | succ f ih =>
    intro x i h hp
    unfold reach at h
    cases ho : ops[i]? with
    | none => rw [ho] at h; cases h
    | some o =>
      rw [ho] at h
      obtain ⟨e, he, h2⟩ := List.any_eq_true.1 h
      have he' : e ∈ o.after := by simpa using he
      rw [Bool.and_eq_true, Bool.or_eq_true] at h2
      have hl := hp o ho e he' h2.1
      rcases h2.2 with h3 | h3
      · have : e.on = x := by simpa using h3
        rw [← this]; exact hl
      · exact ih x e.on h3 (fun o' ho' => hc e.on o' hl ho')

theorem exec_put {o : Oper} (ho : plainOp o = true) (a : Act) (dst : Option Tmp) (v : Value) (h : ∀ d, dst = some d → d ∉ o.looksAt ops) : execOp (a.put dst v).eval o = execOp a.eval o :=
  execOp_put o (fun cs b e => by unfold plainOp at ho; rw [e] at ho; simp at ho) a dst v h

/-- one operation that is not the first comes up -/
theorem wpT_take {q : List Nat} (hQ : ∀ c d v a w, Q (.panic c) (a.put d v) w → Q (.panic c) a w) {i : Nat} {post : List Nat} (Z : List Nat) (hZ : ∀ x ∈ Z, (bf i).contains x = false) : ∀ (pre : List Nat) (a : Act) (w : World), (∀ x ∈ Z, q.contains x = true → C x w) → (q.contains i = true → C i w) → wpT r P ops Q C bf q (pre ++ i :: post) a w →
    (∀ x ∈ pre, q.contains x = true ∧ ∃ ox oi, ops[x]? = some ox ∧ ops[i]? = some oi ∧ Oper.apart ops ox oi = true ∧ plainOp ox = true ∧ plainOp oi = true) →
    (∀ oi, ops[i]? = some oi → plainOp oi = true) →
    wpOpIn (Fw r) 0 P ops Q i (fun a' w' => (∀ x ∈ Z, q.contains x = true → C x w') ∧ wpT r P ops Q C bf q (pre ++ post) a' w') a w
  | [], a, w, hC, hCi, h, _, hpl => by
    unfold wpOpIn
    simp only [List.nil_append, wpT] at h
    cases ho : ops[i]? with
    | none => rw [ho] at h; exact h.elim
    | some o =>
      rw [ho] at h
      simp only at h ⊢
      split
      · rename_i hw
        rw [if_pos hw] at h
        split at h
        · rename_i hqi
          obtain ⟨v, hv, h'⟩ := h
          refine ⟨fun _ _ => trivial, ?_⟩
          have hn : Op.nodefer o.op = true := by have := hpl o ho; unfold plainOp at this; rw [Bool.and_eq_true] at this; exact this.1
          rw [semAt_nodefer hn, hv w (hCi hqi)]; exact ⟨hC, h'⟩
        · exact Oper.wpIn_mono (fun a' w' ⟨h1, h2⟩ => ⟨fun x hx hq => h1 x hq (hZ x hx), h2⟩) h
      · rename_i hw
        rw [if_neg hw] at h
        exact ⟨fun _ _ => trivial, hC, h⟩
  | x :: pre, a, w, hC, hCi, h, hx, hpl => by
    obtain ⟨hq, ox, oi, hox, hoi, hap, hpx, hpi⟩ := hx x (List.mem_cons_self ..)
    obtain ⟨h1, h2, h3⟩ := Oper.apart_spec hap
    have hni : Op.nodefer oi.op = true := by unfold plainOp at hpi; rw [Bool.and_eq_true] at hpi; exact hpi.1
    simp only [List.cons_append, wpT, hox, hq, if_true] at h ⊢
    -- the value that x will yield, whatever comes first
    have key : ∀ v, (∀ w', C x w' → Region.wanted ox (yielded ops a.tmps) = true → (execOp a.eval ox).run P w' = .ok (.value v) w') → (Region.wanted ox (yielded ops a.tmps) = false → v = undef) →
        wpT r P ops Q C bf q (pre ++ i :: post) (a.put ox.dst v) w →
        wpOpIn (Fw r) 0 P ops Q i (fun a' w' => (∀ x ∈ Z, q.contains x = true → C x w') ∧ (if Region.wanted ox (yielded ops a'.tmps) = true then (∃ v, (∀ w', C x w' → (execOp a'.eval ox).run P w' = .ok (.value v) w') ∧ wpT r P ops Q C bf q (pre ++ post) (a'.put ox.dst v) w') else wpT r P ops Q C bf q (pre ++ post) (a'.put ox.dst undef) w')) a w := by
      intro v hv hu hrest
      have ih := wpT_take hQ Z hZ pre (a.put ox.dst v) w hC hCi hrest (fun y hy => hx y (List.mem_cons_of_mem _ hy)) hpl
      -- what x is after any result of i
      have fin : ∀ (dd : List Deferred) (u : Value) (w' : World), (∀ x ∈ Z, q.contains x = true → C x w') ∧ wpT r P ops Q C bf q (pre ++ post) (({ a with defers := dd } : Act).put ox.dst v |>.put oi.dst u) w' →
          (∀ x ∈ Z, q.contains x = true → C x w') ∧ (if Region.wanted ox (yielded ops (({ a with defers := dd } : Act).put oi.dst u).tmps) = true then (∃ v, (∀ w', C x w' → (execOp (({ a with defers := dd } : Act).put oi.dst u).eval ox).run P w' = .ok (.value v) w') ∧ wpT r P ops Q C bf q (pre ++ post) ((({ a with defers := dd } : Act).put oi.dst u).put ox.dst v) w') else wpT r P ops Q C bf q (pre ++ post) ((({ a with defers := dd } : Act).put oi.dst u).put ox.dst undef) w') := by
        rintro dd u w' ⟨hC', hT⟩
        refine ⟨hC', ?_⟩
        rw [Act.put_comm _ v u h2] at hT
        rw [wanted_put ox _ oi.dst u h3, exec_put hpx _ oi.dst u h3]
        by_cases hw : Region.wanted ox (yielded ops a.tmps) = true
        · rw [if_pos hw]
          exact ⟨v, fun w'' hc => hv w'' hc hw, hT⟩
        · rw [if_neg hw]
          have := hu (by simpa using hw)
          rw [← this]; exact hT
      unfold wpOpIn at ih ⊢
      simp only [hoi] at ih ⊢
      rw [wanted_put oi a ox.dst v h1] at ih
      split
      · rename_i hw
        rw [if_pos hw] at ih
        have ih := ih.2
        refine ⟨fun _ _ => trivial, ?_⟩
        rw [semAt_nodefer hni, exec_put hpi a ox.dst v h1] at ih
        rw [semAt_nodefer hni]
        generalize hrr : (execOp a.eval oi).run P w = rr at *
        cases rr with
        | ok y w' =>
          cases y <;> simp only [Oper.uponIn] at ih ⊢
          case value u => exact fin a.defers u _ ih
          case skip => exact fin a.defers undef _ ih
          case defer d => exact fin (d :: a.defers) undef _ (by rw [← Act.put_defers]; exact ih)
          case enter f args =>
            refine ⟨ih.1, CallsIn.mono ih.2 fun e w'' he => ?_⟩
            cases e with
            | returned u => exact fin a.defers u _ he
            | panicked c => exact hQ _ _ _ _ _ he
            | outgrown => exact he
          case row row args => exact ⟨ih.1, RowsIn.mono ih.2 fun u w'' he => fin a.defers u _ he⟩
          case round l f tmps assign body =>
            refine ⟨ih.1, RoundIn.mono ih.2 fun e w'' he => ?_⟩
            cases e with
            | returned u => exact fin a.defers u _ he
            | panicked c => exact hQ _ _ _ _ _ he
            | outgrown => exact he
        | halt y w' =>
          cases y <;> simp only [Oper.uponIn] at ih ⊢
          case panic u => exact hQ _ _ _ _ _ ih
      · rename_i hw
        rw [if_neg hw] at ih
        exact ⟨fun _ _ => trivial, fin a.defers undef _ ih.2⟩
    by_cases hw : Region.wanted ox (yielded ops a.tmps) = true
    · rw [if_pos hw] at h
      obtain ⟨v, hv, hrest⟩ := h
      exact key v (fun w' hc _ => hv w' hc) (fun e => by rw [hw] at e; cases e) hrest
    · rw [if_neg hw] at h
      exact key undef (fun w' _ e => absurd e hw) (fun _ => rfl) h

theorem okR_tail {q : List Nat} {x : Nat} {R : List Nat} (h : okR ops q (x :: R) = true) : okR ops q R = true := by
  unfold okR at h; simp only [Bool.and_eq_true] at h; exact h.2
theorem okR_erase {q : List Nat} {i : Nat} {post : List Nat} : ∀ (pre : List Nat), okR ops q (pre ++ i :: post) = true → okR ops q (pre ++ post) = true
  | [], h => okR_tail h
  | x :: pre, h => by
    have ht := okR_erase pre (okR_tail h)
    simp only [List.cons_append] at h ⊢
    unfold okR at h ⊢
    simp only [Bool.and_eq_true] at h ⊢
    obtain ⟨⟨⟨⟨h1, h2⟩, h3⟩, h4⟩, _⟩ := h
    refine ⟨⟨⟨⟨?_, ?_⟩, h3⟩, ?_⟩, ht⟩
    · rw [List.all_eq_true] at h1 ⊢
      exact fun y hy => h1 y (by rcases List.mem_append.1 hy with e | e; · exact List.mem_append_left _ e
                                 · exact List.mem_append_right _ (List.mem_cons_of_mem _ e))
    · simp only [Bool.not_eq_true', List.contains_eq_mem, decide_eq_false_iff_not] at h2 ⊢
      exact fun hy => h2 (by rcases List.mem_append.1 hy with e | e; · exact List.mem_append_left _ e
                             · exact List.mem_append_right _ (List.mem_cons_of_mem _ e))
    · cases ho : ops[x]? with
      | none => rw [ho] at h4; exact h4
      | some o =>
        rw [ho] at h4
        simp only [Bool.and_eq_true, List.all_eq_true, Bool.or_eq_true] at h4 ⊢
        refine ⟨h4.1, fun e he => (h4.2 e he).imp id fun ⟨⟨a1, a2⟩, a3⟩ => ⟨⟨?_, a2⟩, a3⟩⟩
        simp only [Bool.not_eq_true', List.contains_eq_mem, decide_eq_false_iff_not] at a1 ⊢
        exact fun hy => a1 (by rcases List.mem_append.1 hy with e' | e'; · exact List.mem_append_left _ e'
                               · exact List.mem_append_right _ (List.mem_cons_of_mem _ e'))
theorem okR_pre {q : List Nat} {i : Nat} {post : List Nat} : ∀ (pre : List Nat), okR ops q (pre ++ i :: post) = true → ∀ x ∈ pre, (reach ops ops.size x i = true ∨ (q.contains x = true ∧ apartB ops x i = true)) ∧ x ≠ i ∧ ∃ ox, ops[x]? = some ox ∧ plainOp ox = true
  | [], _, x, hx => by cases hx
  | y :: pre, h, x, hx => by
    rcases List.mem_cons.1 hx with e | e
    · subst e
      simp only [List.cons_append] at h
      unfold okR at h
      simp only [Bool.and_eq_true, List.all_eq_true, Bool.or_eq_true] at h
      obtain ⟨⟨⟨⟨h1, h2⟩, h3⟩, h4⟩, _⟩ := h
      refine ⟨h1 i (by simp), ?_, ?_⟩
      · rintro rfl; simp at h2
      · cases ho : ops[x]? with
        | none => rw [ho] at h4; cases h4
        | some o => rw [ho] at h4; simp only [Bool.and_eq_true] at h4; exact ⟨o, rfl, h4.1⟩
    · exact okR_pre pre (okR_tail h) x e
theorem okB_tail {x : Nat} {R : List Nat} (h : okB ops bf (x :: R) = true) : okB ops bf R = true := by
  unfold okB at h; rw [Bool.and_eq_true] at h; exact h.2
theorem okB_erase {i : Nat} {post : List Nat} : ∀ (pre : List Nat), okB ops bf (pre ++ i :: post) = true → okB ops bf (pre ++ post) = true
  | [], h => okB_tail h
  | x :: pre, h => by
    have ht := okB_erase pre (okB_tail h)
    simp only [List.cons_append] at h ⊢
    unfold okB at h ⊢
    rw [Bool.and_eq_true] at h ⊢
    refine ⟨?_, ht⟩
    have h1 := h.1
    rw [List.all_eq_true] at h1 ⊢
    intro y hy
    have h2 := h1 y hy
    simp only [Bool.and_eq_true, Bool.not_eq_true', List.contains_eq_mem, decide_eq_false_iff_not] at h2 ⊢
    exact ⟨h2.1, fun hm => h2.2 (by rcases List.mem_append.1 hm with e | e; · exact List.mem_append_left _ e
                                    · exact List.mem_append_right _ (List.mem_cons_of_mem _ e))⟩
theorem okB_self {i : Nat} {post : List Nat} : ∀ (pre : List Nat), okB ops bf (pre ++ i :: post) = true → ∀ y ∈ bf i, reach ops ops.size y i = true ∧ y ∉ post
  | [], h, y, hy => by
    simp only [List.nil_append] at h
    unfold okB at h
    rw [Bool.and_eq_true, List.all_eq_true] at h
    have := h.1 y hy
    simpa using this
  | x :: pre, h, y, hy => okB_self pre (okB_tail h) y hy
theorem okR_self {q : List Nat} {i : Nat} {post : List Nat} : ∀ (pre : List Nat), okR ops q (pre ++ i :: post) = true → ∃ oi, ops[i]? = some oi ∧ plainOp oi = true ∧ i ∉ post ∧ ∀ e ∈ oi.after, Region.binds .any e = true → e.on ∉ post ∧ e.on ≠ i ∧ e.on < ops.size
  | [], h => by
    simp only [List.nil_append] at h
    unfold okR at h
    simp only [Bool.and_eq_true] at h
    obtain ⟨⟨⟨⟨_, h2⟩, _⟩, h4⟩, _⟩ := h
    cases ho : ops[i]? with
    | none => rw [ho] at h4; cases h4
    | some o =>
      rw [ho] at h4
      simp only [Bool.and_eq_true, List.all_eq_true, Bool.or_eq_true] at h4
      refine ⟨o, rfl, h4.1, by simpa using h2, fun e he hb => ?_⟩
      rcases h4.2 e (by simpa using he) with h5 | ⟨⟨a1, a2⟩, a3⟩
      · rw [hb] at h5; cases h5
      · exact ⟨by simpa using a1, by simpa using a2, by simpa using a3⟩
  | x :: pre, h => okR_self pre (okR_tail h)

theorem getD_both' {listed : Array Bool} {i : Nat} (h : listed.getD i true = false) : listed.getD i false = false := by
  rw [Array.getD_eq_getD_getElem?] at h ⊢
  cases hx : listed[i]? with
  | none => rw [hx] at h; cases h
  | some b => rw [hx] at h; exact h
theorem wpAnyIn_of_wpT {q : List Nat} (hQ : ∀ c d v a w, Q (.panic c) (a.put d v) w → Q (.panic c) a w) : ∀ (fuel : Nat) (listed : Array Bool) (R : List Nat) (a : Act) (w : World),
    R.length = fuel → okR ops q R = true → okB ops bf R = true → listed.size = ops.size → Closed ops listed → (∀ i, i < ops.size → (i ∈ R ↔ listed.getD i false = false)) → (∀ i ∈ R, i < ops.size) → (∀ x ∈ R, q.contains x = true → C x w) → wpT r P ops Q C bf q R a w →
    wpAnyIn (Fw r) 0 P .any ops Q fuel listed a w
  | 0, listed, R, a, w, hl, hok, hob, hsz, hcl, hR, hlt, hC, h => by
    have hn : R = [] := List.eq_nil_of_length_eq_zero hl
    subst hn
    refine ⟨?_, h⟩
    refine List.eq_nil_iff_forall_not_mem.2 fun i hi => ?_
    obtain ⟨h0, o, ho, _⟩ := mem_ready.1 hi
    have hi' : i < ops.size := (Array.getElem?_eq_some_iff.1 ho).1
    have := (hR i hi').2 (getD_both' h0)
    cases this
  | fuel + 1, listed, R, a, w, hl, hok, hob, hsz, hcl, hR, hlt, hC, h => by
    refine ⟨fun hnil => ?_, fun i hi => ?_⟩
    · -- nothing is ready: but the first of R is
      cases R with
      | nil => cases hl
      | cons x R' =>
        exfalso
        obtain ⟨ox, hox, _, _, he⟩ := okR_self [] hok
        have hx : x < ops.size := hlt x (List.mem_cons_self ..)
        have hm : x ∈ Region.ready .any ops listed := by
          rw [mem_ready]
          refine ⟨?_, ox, hox, fun e hem hb => ?_⟩
          · have := (hR x hx).1 (List.mem_cons_self ..)
            simpa [Array.getD, hsz, hx] using this
          · obtain ⟨h1, h2, h3⟩ := he e hem hb
            cases hle : listed.getD e.on false with
            | true => rfl
            | false => rcases List.mem_cons.1 ((hR e.on h3).2 hle) with e' | e'
                       · exact absurd e' h2
                       · exact absurd e' h1
        rw [hnil] at hm; cases hm
    · obtain ⟨h0, oi, hoi, hpreds⟩ := mem_ready.1 hi
      have hi' : i < ops.size := (Array.getElem?_eq_some_iff.1 hoi).1
      have hiR : i ∈ R := (hR i hi').2 (getD_both' h0)
      obtain ⟨pre, post, rfl⟩ := List.append_of_mem hiR
      obtain ⟨oi', hoi', hpi, hnp, _⟩ := okR_self pre hok
      rw [hoi] at hoi'; cases hoi'
      have hpre := okR_pre pre hok
      have hself := okB_self pre hob
      have hnr : ∀ x, reach ops ops.size x i = true → x ∉ pre := fun x h1 hx => by
        obtain ⟨_, _, ox, hox, _⟩ := hpre x hx
        have := reach_listed hcl _ _ _ h1 (fun o ho => by rw [hoi] at ho; cases ho; exact hpreds)
        have hxR := (hR x (Array.getElem?_eq_some_iff.1 hox).1).1 (List.mem_append_left _ hx)
        rw [hxR] at this; cases this
      refine wpOpIn_mono ?_ (wpT_take hQ (pre ++ post) (fun x hx => by
          simp only [List.contains_eq_mem, decide_eq_false_iff_not]
          intro hb
          obtain ⟨h1, h2⟩ := hself x hb
          rcases List.mem_append.1 hx with e | e
          · exact hnr x h1 e
          · exact h2 e) pre a w (fun x hx => hC x (by rcases List.mem_append.1 hx with e | e; · exact List.mem_append_left _ e
                                                      · exact List.mem_append_right _ (List.mem_cons_of_mem _ e))) (hC i (by simp)) h (fun x hx => ?_) (fun o ho => by rw [hoi] at ho; cases ho; exact hpi))
      · rintro a' w' ⟨hC', hT⟩
        refine wpAnyIn_of_wpT hQ fuel _ (pre ++ post) a' w' (by simp at hl ⊢; omega) (okR_erase pre hok) (okB_erase pre hob) (by simp [hsz]) ?_ ?_ (fun j hj => hlt j ?_) hC' hT
        · intro j o hj ho e he hb
          by_cases hji : i = j
          · subst hji
            rw [hoi] at ho; cases ho
            exact getD_set_true (hpreds e he hb)
          · rw [getD_set_ne false hji] at hj
            exact getD_set_true (hcl j o hj ho e he hb)
        · intro j hj
          by_cases hji : i = j
          · subst hji
            have : (listed.setIfInBounds i true).getD i false = true := by simp [Array.getD, hsz, hj]
            rw [this]
            simp only [reduceCtorEq, iff_false, List.mem_append, not_or]
            exact ⟨fun hm => (hpre i hm).2.1 rfl, hnp⟩
          · rw [getD_set_ne false hji, ← hR j hj]
            simp only [List.mem_append, List.mem_cons]
            constructor
            · rintro (e | e); exact .inl e; exact .inr (.inr e)
            · rintro (e | e | e); exact .inl e; exact absurd e.symm hji; exact .inr e
        · rcases List.mem_append.1 hj with e | e
          · exact List.mem_append_left _ e
          · exact List.mem_append_right _ (List.mem_cons_of_mem _ e)
      · obtain ⟨h1, h2, ox, hox, hpx⟩ := hpre x hx
        rcases h1 with h1 | ⟨h1, h1'⟩
        · exact absurd hx (hnr x h1)
        · refine ⟨h1, ox, oi, hox, hoi, ?_, hpx, hpi⟩
          unfold apartB at h1'
          rw [hox, hoi] at h1'; exact h1'
/-- **a region that draws its order, by one walk** -/
theorem WP_draw {id : Nat} {l : List Oper} {a : Act} {w : World} (q R : List Nat) (hm : P.follows .mixedOrders = true) (hB : drawB l.toArray q R bf = true)
    (hQ : ∀ c d v a w, Q (.panic c) (a.put d v) w → Q (.panic c) a w) (hC : ∀ x, q.contains x = true → C x w.drew) (h : wpT r P l.toArray Q C bf q R a w.drew) : WP r P (.region id l.toArray true) Q a w := by
  refine wpIn_region_draw fun t => ?_
  simp only [Region.schedule, hm, Bool.true_or, if_true]
  unfold drawB at hB
  simp only [Bool.and_eq_true, beq_iff_eq, List.all_eq_true] at hB
  obtain ⟨⟨⟨hob, h1⟩, h2⟩, h3⟩ := hB
  have hall : ∀ i, i < l.toArray.size → i ∈ R := fun i hi => by simpa using h3 i (by simpa using hi)
  have hlt : ∀ (R : List Nat), okR l.toArray q R = true → ∀ i ∈ R, i < l.toArray.size := by
    intro R
    induction R with
    | nil => intro _ i hi; cases hi
    | cons x R ih =>
      intro hx i hi
      rcases List.mem_cons.1 hi with e | e
      · subst e; unfold okR at hx; simp only [Bool.and_eq_true] at hx; simpa using hx.1.1.2
      · exact ih (okR_tail hx) i e
  refine wpAnyIn_sound _ t _ a _ (wpAnyIn_of_wpT (C := C) (q := q) hQ _ _ R a _ h2 h1 hob (by simp) (fun i o hi => ?_) (fun i hi => ?_) (hlt R h1) (fun x _ => hC x) h)
  · simp only [Array.getD_eq_getD_getElem?, Array.getElem?_replicate] at hi
    split at hi <;> cases hi
  · simp only [hall i hi, Array.getD_eq_getD_getElem?, Array.getElem?_replicate]
    simp at hi
    simp [hi]
end
end Go.Sl
