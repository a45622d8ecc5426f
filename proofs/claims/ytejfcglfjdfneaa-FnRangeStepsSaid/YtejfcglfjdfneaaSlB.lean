import Derived.Test.YtejfcglfjdfneaaSlA
namespace Go.Sl
open Go

/-! ### The temporaries that are known -/
def look : List (Nat × Value) → Nat → Option Value
  | [], _ => none
  | (k, v) :: r, t => bif Nat.beq k t then some v else look r t
theorem look_cons (k : Nat) (v : Value) (r : List (Nat × Value)) (t : Nat) : look ((k, v) :: r) t = if k = t then some v else look r t := by
  show (bif Nat.beq k t then _ else _) = _
  by_cases h : k = t
  · subst h; simp
  · rw [if_neg h, show Nat.beq k t = false by rw [Bool.eq_false_iff]; intro e; exact h (Nat.eq_of_beq_eq_true e)]; rfl

structure Env (a : Act) (n : Nat) (ds : List Deferred) (l : List (Nat × Value)) : Prop where
  size : a.tmps.size = n
  dfr : a.defers = ds
  get : ∀ t v, look l t = some v → a.tmps[t]? = some v

def opv (l : List (Nat × Value)) : Operand → Option Value
  | .tmp t => look l t
  | .const v => some v
  | .global g => some (.pointer (some ⟨g, 0, none⟩))
  | .func f => some (.func (.func f) #[] #[])
theorem Env.eval {a : Act} {n : Nat} {ds : List Deferred} {l : List (Nat × Value)} (E : Env a n ds l) {o : Operand} {v : Value} (h : opv l o = some v) : a.eval o = v := by
  cases o with
  | tmp t => have := E.get t v h; simp [Act.eval, Array.getD_eq_getD_getElem?, this]
  | const v => cases h; rfl
  | «global» g => cases h; rfl
  | func f => cases h; rfl
theorem Env.put {a : Act} {n : Nat} {ds : List Deferred} {l : List (Nat × Value)} (E : Env a n ds l) {d : Nat} (hd : d < n) (v : Value) : Env (a.put (some d) v) n ds ((d, v) :: l) := by
  refine ⟨by simp [Act.put, E.size], E.dfr, fun t u h => ?_⟩
  rw [look_cons] at h
  show (a.tmps.setIfInBounds d v)[t]? = some u
  rw [Array.getElem?_setIfInBounds]
  split at h
  · subst_vars; cases h; simp [E.size, hd]
  · rw [if_neg (by omega)]; exact E.get t u h
/-- other knowledge that is less -/
theorem Env.sub {a : Act} {n : Nat} {ds : List Deferred} {l : List (Nat × Value)} (E : Env a n ds l) {l' : List (Nat × Value)} (h : ∀ x ∈ l', look l x.1 = some x.2) : Env a n ds l' := by
  refine ⟨E.size, E.dfr, fun t u e => E.get t u ?_⟩
  induction l' with
  | nil => cases e
  | cons x r ih =>
    obtain ⟨k, v⟩ := x
    rw [look_cons] at e
    split at e
    · subst_vars; cases e; exact h _ (List.mem_cons_self ..)
    · exact ih (fun y hy => h y (List.mem_cons_of_mem _ hy)) e
def subB (l : List (Nat × Value)) : List (Nat × Value) → Prop
  | [] => True
  | (k, v) :: r => look l k = some v ∧ subB l r
theorem Env.keep {a : Act} {n : Nat} {ds : List Deferred} {l : List (Nat × Value)} (E : Env a n ds l) {l' : List (Nat × Value)} (h : subB l l') : Env a n ds l' := by
  refine E.sub fun x hx => ?_
  induction l' with
  | nil => cases hx
  | cons y r ih =>
    obtain ⟨k, v⟩ := y
    rcases List.mem_cons.1 hx with e | e
    · subst e; exact h.1
    · exact ih h.2 e

def opvs (l : List (Nat × Value)) : List Operand → Option (List Value)
  | [] => some []
  | o :: r => match opv l o with
    | some v => match opvs l r with
      | some vs => some (v :: vs)
      | none => none
    | none => none
theorem Env.evals {a : Act} {n : Nat} {ds : List Deferred} {l : List (Nat × Value)} (E : Env a n ds l) : ∀ {os : List Operand} {vs : List Value}, opvs l os = some vs → os.map a.eval = vs
  | [], vs, h => by cases h; rfl
  | o :: r, vs, h => by
    unfold opvs at h
    split at h
    · rename_i v hv
      split at h
      · rename_i us hu
        cases h
        rw [List.map_cons, E.eval hv, E.evals hu]
      · cases h
    · cases h

/-! ### The logic -/
def Fw (r : Option Nat) : Fence := { Fence.wide with round := r }
theorem Fw_fn (r : Option Nat) (f : FuncId) : (Fw r).fn f := trivial
theorem Fw_depth (r : Option Nat) : (Fw r).depth = none := rfl
abbrev WP (r : Option Nat) (P : Program) (c : Code) (Q : Exit → Act → World → Prop) (a : Act) (w : World) : Prop := c.wpIn (Fw r) 0 P Q a w
theorem callsIn_Fw {r : Option Nat} {P : Program} {f : FuncId} {args : Array Value} {w : World} {R : Ending → World → Prop} : CallsIn (Fw r) 0 P f args w R ↔ Calls P f args w R := by
  rw [← callsIn_wide (n := 0)]
  cases r with
  | none => exact Iff.rfl
  | some l => exact ⟨fun h => CallsIn.outOfRound h, fun h => CallsIn.inRound l h⟩

/-- the operations of a region, from here on -/
def WL (r : Option Nat) (P : Program) (ops : Array Oper) (Q : Exit → Act → World → Prop) : List Oper → Act → World → Prop
  | [], a, w => Q .normal a w
  | o :: rest, a, w => if Region.wanted o (yielded ops a.tmps) then o.wpIn (Fw r) 0 P a w (WL r P ops Q rest) Q else WL r P ops Q rest (a.put o.dst undef) w

section
variable {r : Option Nat} {P : Program} {ops : Array Oper} {Q : Exit → Act → World → Prop} {a : Act} {w : World} {rest : List Oper} {o : Oper}
theorem wpOpsIn_eq_WL (l : List Oper) : ∀ k, (∀ j, l[j]? = ops[k + j]?) → wpOpsIn (Fw r) 0 P ops Q (List.range' k l.length) = WL r P ops Q l := by
  induction l with
  | nil => intro k _; funext a w; simp [wpOpsIn, WL]
  | cons o l ih =>
    intro k h
    have h0 : ops[k]? = some o := by simpa using (h 0).symm
    have ih' := ih (k + 1) (fun j => by have := h (j + 1); simpa [Nat.add_assoc, Nat.add_comm 1 j] using this)
    funext a w
    simp only [List.length_cons, List.range'_succ, wpOpsIn, h0, WL, ih']
    congr 1
    exact propext ⟨fun h => h.2, fun h => ⟨fun _ _ => trivial, h⟩⟩
theorem WP_region {id : Nat} {l : List Oper} (h : WL r P l.toArray Q l a w) : WP r P (.region id l.toArray false) Q a w :=
  wpIn_region (by rw [List.range_eq_range', show (l.toArray).size = l.length by simp, wpOpsIn_eq_WL l 0 (by simp)]; exact h)
theorem WL_nil (h : Q .normal a w) : WL r P ops Q [] a w := h
theorem WL_op (hg : o.guard = none) (h : o.wpIn (Fw r) 0 P a w (WL r P ops Q rest) Q) : WL r P ops Q (o :: rest) a w := by
  unfold WL; rw [if_pos (by simp [Region.wanted, hg])]; exact h

/-- a guarded operation: the guard's value is known -/
theorem WL_guard_yes {n : Nat} {ds : List Deferred} {l : List (Nat × Value)} {j d : Nat} {b : Bool} {dst : Option Nat} {op : Op} {ty : TypeId} {pos : String} {af : Array Edge} (E : Env a n ds l)
    (hj : (ops[j]?).bind (·.dst) = some d) (hb : look l d = some (.bool b))
    (h : WL r P ops Q (⟨dst, op, ty, pos, af, none⟩ :: rest) a w) : WL r P ops Q (⟨dst, op, ty, pos, af, some (j, b)⟩ :: rest) a w := by
  unfold WL at h ⊢
  rw [if_pos (by simp [Region.wanted])] at h
  rw [if_pos (by simp [Region.wanted, yielded, hj, E.get d _ hb])]
  exact h
theorem WL_guard_no {n : Nat} {ds : List Deferred} {l : List (Nat × Value)} {j d d' : Nat} {b b' : Bool} {op : Op} {ty : TypeId} {pos : String} {af : Array Edge} (E : Env a n ds l)
    (hj : (ops[j]?).bind (·.dst) = some d) (hb : look l d = some (.bool b')) (hne : (b' == b) = false) (hd : Nat.blt d' n = true)
    (h : ∀ a, Env a n ds ((d', Go.undef) :: l) → WL r P ops Q rest a w) : WL r P ops Q (⟨some d', op, ty, pos, af, some (j, b)⟩ :: rest) a w := by
  unfold WL
  have hn : b' ≠ b := by simpa using hne
  rw [if_neg (by simp [Region.wanted, yielded, hj, E.get d _ hb, hn])]
  exact h _ (E.put (by simpa using hd) Go.undef)
/-- a guard that itself was passed over -/
theorem WL_guard_un {n : Nat} {ds : List Deferred} {l : List (Nat × Value)} {j d d' : Nat} {b : Bool} {op : Op} {ty : TypeId} {pos : String} {af : Array Edge} (E : Env a n ds l)
    (hj : (ops[j]?).bind (·.dst) = some d) (hb : look l d = some Go.undef) (hd : Nat.blt d' n = true)
    (h : ∀ a, Env a n ds ((d', Go.undef) :: l) → WL r P ops Q rest a w) : WL r P ops Q (⟨some d', op, ty, pos, af, some (j, b)⟩ :: rest) a w := by
  unfold WL
  rw [if_neg (by simp [Region.wanted, yielded, hj, E.get d _ hb, Go.undef])]
  exact h _ (E.put (by simpa using hd) Go.undef)

/-- an operation that yields a value -/
def Op.nodefer : Op → Bool
  | .defer _ => false
  | _ => true
theorem semAt_nodefer {r : Option Nat} {ρ : Operand → Value} {o : Oper} (h : Op.nodefer o.op = true) : o.semAt (Fw r).round ρ = execOp ρ o :=
  Oper.semAt_eq _ _ _ (fun c e => by rw [e] at h; cases h)
theorem wpIn_value {next : Act → World → Prop} {v : Value} {w' : World} (hnd : Op.nodefer o.op = true) (hrun : (execOp a.eval o).run P w = .ok (.value v) w') (h : next (a.put o.dst v) w') : o.wpIn (Fw r) 0 P a w next Q := by
  refine ⟨fun _ _ => trivial, ?_⟩
  rw [semAt_nodefer hnd, hrun]; exact h
theorem O_val {n : Nat} {ds : List Deferred} {l : List (Nat × Value)} {d : Nat} {op : Op} {ty : TypeId} {pos : String} {af : Array Edge} {v : Value} {w' : World} (E : Env a n ds l)
    (hd : Nat.blt d n = true) (hnd : Op.nodefer op = true) (hrun : (execOp a.eval ⟨some d, op, ty, pos, af, none⟩).run P w = .ok (.value v) w')
    (k : ∀ a, Env a n ds ((d, v) :: l) → WL r P ops Q rest a w') : WL r P ops Q (⟨some d, op, ty, pos, af, none⟩ :: rest) a w :=
  WL_op rfl (wpIn_value hnd hrun (k _ (E.put (by simpa using hd) v)))
theorem O_skip {n : Nat} {ds : List Deferred} {l : List (Nat × Value)} {op : Op} {ty : TypeId} {pos : String} {af : Array Edge} {w' : World} (E : Env a n ds l)
    (hnd : Op.nodefer op = true) (hrun : (execOp a.eval ⟨none, op, ty, pos, af, none⟩).run P w = .ok .skip w')
    (k : ∀ a, Env a n ds l → WL r P ops Q rest a w') : WL r P ops Q (⟨none, op, ty, pos, af, none⟩ :: rest) a w := by
  refine WL_op rfl ⟨fun _ _ => trivial, ?_⟩
  rw [semAt_nodefer hnd, hrun]; exact k _ E
end
end Go.Sl
