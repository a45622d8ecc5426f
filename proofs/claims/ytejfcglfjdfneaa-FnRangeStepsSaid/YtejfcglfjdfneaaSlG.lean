import Derived.Test.YtejfcglfjdfneaaSlF
namespace Go.Sl
open Go

section
variable {r : Option Nat} {P : Program} {ops : Array Oper} {Q : Exit → Act → World → Prop} {a : Act} {w : World} {rest : List Oper}
  {n : Nat} {ds : List Deferred} {l : List (Nat × Value)} {d : Nat} {op : Op} {ty t t' : TypeId} {pos : String} {af : Array Edge} {gd : Option (Nat × Bool)} {x y z : Operand}
/-! ### one step -/
theorem S_v {v : Value} (E : Env a n ds l) (hd : Nat.blt d n = true) (hrun : (execOp a.eval ⟨some d, op, ty, pos, af, none⟩).run P w = .ok (.value v) w)
    (hnd : Op.nodefer op = true) (k : ∀ a, Env a n ds ((d, v) :: l) → WL r P ops Q rest a w) : WL r P ops Q (⟨some d, op, ty, pos, af, none⟩ :: rest) a w := O_val E hd hnd hrun k
theorem S_x (h : (⟨some d, op, ty, pos, af, none⟩ : Oper).wpIn (Fw r) 0 P a w (WL r P ops Q rest) Q) : WL r P ops Q (⟨some d, op, ty, pos, af, none⟩ :: rest) a w := WL_op rfl h
theorem S_x0 (h : (⟨none, op, ty, pos, af, none⟩ : Oper).wpIn (Fw r) 0 P a w (WL r P ops Q rest) Q) : WL r P ops Q (⟨none, op, ty, pos, af, none⟩ :: rest) a w := WL_op rfl h
/-! ### one step of a walk in a chosen order -/
variable {C : Nat → World → Prop} {bf : Nat → List Nat} {q R : List Nat} {i : Nat} {o : Oper}
theorem D_end (h : Q .normal a w) : wpT r P ops Q C bf q [] a w := h
theorem D_v {v : Value} (E : Env a n ds l) (ho : ops[i]? = some ⟨some d, op, ty, pos, af, none⟩) (hq : q.contains i = true) (hd : Nat.blt d n = true)
    (hrun : ∀ w', C i w' → (execOp a.eval ⟨some d, op, ty, pos, af, none⟩).run P w' = .ok (.value v) w')
    (k : ∀ a, Env a n ds ((d, v) :: l) → wpT r P ops Q C bf q R a w) : wpT r P ops Q C bf q (i :: R) a w := by
  simp only [wpT, ho]
  rw [if_pos (by simp [Region.wanted]), if_pos hq]
  exact ⟨v, hrun, k _ (E.put (by simpa using hd) v)⟩
theorem D_x (ho : ops[i]? = some o) (hg : o.guard = none) (hq : q.contains i = false)
    (h : o.wpIn (Fw r) 0 P a w (fun a w => (∀ x, q.contains x = true → (bf i).contains x = false → C x w) ∧ wpT r P ops Q C bf q R a w) Q) : wpT r P ops Q C bf q (i :: R) a w := by
  simp only [wpT, ho]
  rw [if_pos (by simp [Region.wanted, hg]), if_neg (by rw [hq]; simp)]
  exact h
theorem D_yes {j d' : Nat} {b : Bool} {dst : Option Nat} (E : Env a n ds l) (ho : ops[i]? = some ⟨dst, op, ty, pos, af, some (j, b)⟩) (hj : (ops[j]?).bind (·.dst) = some d') (hb : look l d' = some (.bool b))
    (hq : q.contains i = false) (h : (⟨dst, op, ty, pos, af, some (j, b)⟩ : Oper).wpIn (Fw r) 0 P a w (fun a w => (∀ x, q.contains x = true → (bf i).contains x = false → C x w) ∧ wpT r P ops Q C bf q R a w) Q) : wpT r P ops Q C bf q (i :: R) a w := by
  simp only [wpT, ho]
  rw [if_pos (by simp [Region.wanted, yielded, hj, E.get d' _ hb]), if_neg (by rw [hq]; simp)]
  exact h
theorem D_vyes {v : Value} {j d' : Nat} {b : Bool} (E : Env a n ds l) (ho : ops[i]? = some ⟨some d, op, ty, pos, af, some (j, b)⟩) (hj : (ops[j]?).bind (·.dst) = some d') (hb : look l d' = some (.bool b))
    (hq : q.contains i = true) (hd : Nat.blt d n = true)
    (hrun : ∀ w', C i w' → (execOp a.eval ⟨some d, op, ty, pos, af, some (j, b)⟩).run P w' = .ok (.value v) w')
    (k : ∀ a, Env a n ds ((d, v) :: l) → wpT r P ops Q C bf q R a w) : wpT r P ops Q C bf q (i :: R) a w := by
  simp only [wpT, ho]
  rw [if_pos (by simp [Region.wanted, yielded, hj, E.get d' _ hb]), if_pos hq]
  exact ⟨v, hrun, k _ (E.put (by simpa using hd) v)⟩
theorem D_no {j d' : Nat} {b b' : Bool} (E : Env a n ds l) (ho : ops[i]? = some ⟨some d, op, ty, pos, af, some (j, b)⟩) (hj : (ops[j]?).bind (·.dst) = some d') (hb : look l d' = some (.bool b'))
    (hne : (b' == b) = false) (hd : Nat.blt d n = true) (k : ∀ a, Env a n ds ((d, Go.undef) :: l) → wpT r P ops Q C bf q R a w) : wpT r P ops Q C bf q (i :: R) a w := by
  simp only [wpT, ho]
  have hn : b' ≠ b := by simpa using hne
  rw [if_neg (by simp [Region.wanted, yielded, hj, E.get d' _ hb, hn])]
  exact k _ (E.put (by simpa using hd) _)
theorem D_un {j d' : Nat} {b : Bool} (E : Env a n ds l) (ho : ops[i]? = some ⟨some d, op, ty, pos, af, some (j, b)⟩) (hj : (ops[j]?).bind (·.dst) = some d') (hb : look l d' = some Go.undef)
    (hd : Nat.blt d n = true) (k : ∀ a, Env a n ds ((d, Go.undef) :: l) → wpT r P ops Q C bf q R a w) : wpT r P ops Q C bf q (i :: R) a w := by
  simp only [wpT, ho]
  rw [if_neg (by simp [Region.wanted, yielded, hj, E.get d' _ hb, Go.undef])]
  exact k _ (E.put (by simpa using hd) _)

/-! ### operations, with what comes next behind a variable -/
variable {next : Act → World → Prop} {M : Hp} {H : List HProp} {v : Value}
theorem X_val {w' : World} (E : Env a n ds l) (hd : Nat.blt d n = true) (hnd : Op.nodefer op = true) (hrun : (execOp a.eval ⟨some d, op, ty, pos, af, gd⟩).run P w = .ok (.value v) w')
    (k : ∀ a, Env a n ds ((d, v) :: l) → next a w') : (⟨some d, op, ty, pos, af, gd⟩ : Oper).wpIn (Fw r) 0 P a w next Q :=
  wpIn_value hnd hrun (k _ (E.put (by simpa using hd) v))
theorem X_skip {w' : World} (E : Env a n ds l) (hnd : Op.nodefer op = true) (hrun : (execOp a.eval ⟨none, op, ty, pos, af, gd⟩).run P w = .ok .skip w')
    (k : ∀ a, Env a n ds l → next a w') : (⟨none, op, ty, pos, af, gd⟩ : Oper).wpIn (Fw r) 0 P a w next Q := by
  refine ⟨fun _ _ => trivial, ?_⟩
  rw [semAt_nodefer hnd, hrun]; exact k _ E
theorem X_call {ats : Array TypeId} {f : Operand} {as : Array Operand} {fv : Value} {args : List Value} {R : Value → World → Prop}
  (E : Env a n ds l) (hd : Nat.blt d n = true) (hf : opv l f = some fv) (ha : opvs l as.toList = some args) (C : CallV P fv args w R)
  (k : ∀ a v w', R v w' → Env a n ds ((d, v) :: l) → next a w') : (⟨some d, .call ⟨.value f, as, ats⟩, ty, pos, af, gd⟩ : Oper).wpIn (Fw r) 0 P a w next Q :=
  C r _ _ f a _ Q rfl rfl (E.eval hf) (E.evals ha) fun v w' hR => k _ v w' hR (E.put (by simpa using hd) v)
theorem X_call0 {ats : Array TypeId} {f : Operand} {as : Array Operand} {fv : Value} {args : List Value} {R : Value → World → Prop}
  (E : Env a n ds l) (hf : opv l f = some fv) (ha : opvs l as.toList = some args) (C : CallV P fv args w R)
  (k : ∀ a v w', R v w' → Env a n ds l → next a w') : (⟨none, .call ⟨.value f, as, ats⟩, ty, pos, af, gd⟩ : Oper).wpIn (Fw r) 0 P a w next Q :=
  C r _ _ f a _ Q rfl rfl (E.eval hf) (E.evals ha) fun v w' hR => k _ v w' hR E
/-- a call of a function that leaves what is owned alone -/
theorem X_pu {ats : Array TypeId} {f : Operand} {as : Array Operand} {fv : Value} {args : List Value} {q : Value → Hp → Prop} {M0 : Hp}
  (E : Env a n ds l) (S : St w M H) (hd : Nat.blt d n = true) (hf : opv l f = some fv) (ha : opvs l as.toList = some args) (C : Pu P fv M0 args q) (hM : Hp.le M0 M)
  (k : ∀ a v w' M', Hp.le M M' → q v M' → St w' M' H → Env a n ds ((d, v) :: l) → next a w') : (⟨some d, .call ⟨.value f, as, ats⟩, ty, pos, af, gd⟩ : Oper).wpIn (Fw r) 0 P a w next Q :=
  X_call E hd hf ha (C w M H hM S) fun a v w' ⟨M', h1, h2, h3⟩ E => k a v w' M' h1 h2 h3 E
/-- a call that takes chunks and hands chunks back -/
theorem X_sp {ats : Array TypeId} {f : Operand} {as : Array Operand} {fv : Value} {args : List Value} {p : List HProp} {q : Value → Hp → List HProp → Prop} {M0 : Hp}
  (E : Env a n ds l) (S : St w M (p ++ H)) (hd : Nat.blt d n = true) (hf : opv l f = some fv) (ha : opvs l as.toList = some args) (C : Sp P fv M0 args p q) (hM : Hp.le M0 M)
  (k : ∀ a v w' M' C, Hp.le M M' → q v M' C → St w' M' (C ++ H) → Env a n ds ((d, v) :: l) → next a w') : (⟨some d, .call ⟨.value f, as, ats⟩, ty, pos, af, gd⟩ : Oper).wpIn (Fw r) 0 P a w next Q :=
  X_call E hd hf ha (C w M H hM S) fun a v w' ⟨M', C', h1, h2, h3⟩ E => k a v w' M' C' h1 h2 h3 E
theorem X_box {cs : Array Value} (E : Env a n ds l) (S : St w M H) (hd : Nat.blt d n = true) (hx : opv l x = some v) (hcs : v.cells = cs)
    (k : ∀ a w' b, Env a n ds ((d, .pointer (some ⟨b, 0, none⟩)) :: l) → St w' M (blk b (.cells cs t) :: H) → next a w') : (⟨some d, .box t x, ty, pos, af, gd⟩ : Oper).wpIn (Fw r) 0 P a w next Q :=
  X_val E hd rfl (v := .pointer (some ⟨w.heap.size, 0, none⟩)) (w' := w.alloc (.cells cs t)) (by subst hcs; simp [execOp, E.eval hx, Instr.box, newVar, newRow]) fun a E => k a _ _ E (S.new rfl)
theorem X_alloc {cs : Array Value} (E : Env a n ds l) (S : St w M H) (hd : Nat.blt d n = true) (hz : ∀ w, (zeroValue t).run P w = .ok v w) (hcs : v.cells = cs)
    (k : ∀ a w' b, Env a n ds ((d, .pointer (some ⟨b, 0, none⟩)) :: l) → St w' M (blk b (.cells cs t) :: H) → next a w') : (⟨some d, .alloc t, ty, pos, af, gd⟩ : Oper).wpIn (Fw r) 0 P a w next Q :=
  X_val E hd rfl (v := .pointer (some ⟨w.heap.size, 0, none⟩)) (w' := w.alloc (.cells cs t)) (by subst hcs; simp [execOp, Instr.alloc, hz, newVar, newRow]) fun a E => k a _ _ E (S.new rfl)
theorem R_load {ad : Addr} (E : Env a n ds l) (hx : opv l x = some (.pointer (some ad))) (hg : (isAgg t).run P w = .ok false w) (hc : w.cell? ad = some v) :
    (execOp a.eval ⟨some d, .load t x, ty, pos, af, gd⟩).run P w = .ok (.value v) w := by
  simp [execOp, E.eval hx, Instr.loadAt, Instr.sureAddr, loadVar, hg, hc]
theorem e_load {ad : Addr} (E : Env a n ds l) (hx : opv l x = some (.pointer (some ad))) (hg : (isAgg t).run P w = .ok false w) (hc : w.cell? ad = some v) {r0 : Option Nat} {os0 : Array Oper} {Q0 : Exit → Act → World → Prop} {rest0 : List Oper} (k0 : ∀ a, Env a n ds ((d, v) :: l) → WL r0 P os0 Q0 rest0 a w) (hd0 : Nat.blt d n = true := by rfl) : WL r0 P os0 Q0 (⟨some d, .load t x, ty, pos, af, none⟩ :: rest0) a w := O_val E hd0 rfl (R_load E hx hg hc) k0
theorem cell_blk {b : Nat} {e : TypeId} {fr : Nat × Nat} (S : w.heap[b]? = some (.cells #[v] e fr)) : w.cell? ⟨b, 0, none⟩ = some v := by simp [World.cell?, S]
/-- a struct or an array that is loaded -/
theorem R_loadG {ad : Addr} {cs : List Value} (E : Env a n ds l) (hx : opv l x = some (.pointer (some ad))) (hg : (isAgg t).run P w = .ok true w) (hs : (sizeOf t).run P w = .ok cs.length w)
    (hc : ∀ j u, cs[j]? = some u → w.cell? (ad.add j) = some u) :
    (execOp a.eval ⟨some d, .load t x, ty, pos, af, gd⟩).run P w = .ok (.value (.agg cs.toArray)) w := by
  have := run_firstCells_some (P := P) w 1 cs.length ad cs.length cs.length cs (by simp) hc
  simp only [Builtin.firstCells, Nat.mul_one] at this
  simp [execOp, E.eval hx, Instr.loadAt, Instr.sureAddr, loadVar, hg, hs, this]
theorem e_loadG {ad : Addr} {cs : List Value} (E : Env a n ds l) (hx : opv l x = some (.pointer (some ad))) (hg : (isAgg t).run P w = .ok true w) (hs : (sizeOf t).run P w = .ok cs.length w) (hc : ∀ j u, cs[j]? = some u → w.cell? (ad.add j) = some u) {r0 : Option Nat} {os0 : Array Oper} {Q0 : Exit → Act → World → Prop} {rest0 : List Oper} (k0 : ∀ a, Env a n ds ((d, (.agg cs.toArray)) :: l) → WL r0 P os0 Q0 rest0 a w) (hd0 : Nat.blt d n = true := by rfl) : WL r0 P os0 Q0 (⟨some d, .load t x, ty, pos, af, none⟩ :: rest0) a w := O_val E hd0 rfl (R_loadG E hx hg hs hc) k0
theorem X_store {b : Nat} {u : Value} {e : TypeId} (E : Env a n ds l) (S : St w M (blk b (.cells #[v] e) :: H)) (hx : opv l x = some (.pointer (some ⟨b, 0, none⟩))) (hy : opv l y = some u)
    (hs : (sizeOf t).run P w = .ok 1 w) (h1 : u.oneCell' = true)
    (k : ∀ a w', Env a n ds l → St w' M (blk b (.cells #[u] e) :: H) → next a w') : (⟨none, .store t x y, ty, pos, af, gd⟩ : Oper).wpIn (Fw r) 0 P a w next Q := by
  have hg := S.get
  have hc : w.cell? ⟨b, 0, none⟩ = some v := by simp [World.cell?, hg]
  have hf : w.frozen? ⟨b, 0, none⟩ = false := by simp [World.frozen?, hg]
  have hcells : u.cells = #[u] := by cases u <;> first | rfl | (simp [Value.oneCell'] at h1)
  refine X_skip (w' := w.setCell ⟨b, 0, none⟩ u) E rfl ?_ fun a E => k a _ E ?_
  · simp [execOp, E.eval hx, E.eval hy, Instr.storeAt, Instr.sureAddr, storeVar, hs, hcells, storeCells, run_store P _ _ _ _ h1, Addr.add, hc, hf]
  · refine S.set ?_ fun c hc x hx => ?_
    · simp only [World.setCell]; rw [Array.getElem?_modify, if_pos rfl, hg]; rfl
    · simp only [World.setCell]; rw [Array.getElem?_modify, if_neg (Ne.symm hc)]; exact hx
end
/-! ### steps told shortly -/
theorem WP_cd {P : Program} {a : Act} {w : World} {r : Option Nat} {Q : Exit → Act → World → Prop} {n : Nat} {ds : List Deferred} {l : List (Nat × Value)} {o : Operand} {x y : Code} {p : Prop} [Decidable p] (E : Env a n ds l) (hc : opv l o = some (.bool (decide p)))
    (ht : p → WP r P x Q a w) (hf : ¬ p → WP r P y Q a w) : WP r P (.cond o x y) Q a w := WP_cond E hc (fun h => ht (of_decide_eq_true h)) (fun h => hf (of_decide_eq_false h))
theorem S_w {P : Program} {a : Act} {w : World} {r : Option Nat} {Q : Exit → Act → World → Prop} {n : Nat} {ds : List Deferred} {l : List (Nat × Value)} {d : Nat} {ty : TypeId} {pos : String} {af : Array Edge} {ops : Array Oper} {rest : List Oper} {v : Value} {op : Op} (E : Env a n ds l) (hrun : (execOp a.eval ⟨some d, op, ty, pos, af, none⟩).run P w = .ok (.value v) w)
    (k : ∀ a, Env a n ds ((d, v) :: l) → WL r P ops Q rest a w) (hd : Nat.blt d n = true := by rfl) (hnd : Op.nodefer op = true := by rfl) : WL r P ops Q (⟨some d, op, ty, pos, af, none⟩ :: rest) a w := O_val E hd hnd hrun k
theorem S_m {P : Program} {a : Act} {w : World} {r : Option Nat} {Q : Exit → Act → World → Prop} {n : Nat} {ds : List Deferred} {l : List (Nat × Value)} {d : Nat} {ty : TypeId} {pos : String} {af : Array Edge} {ops : Array Oper} {rest : List Oper} {v : Value} {x : Operand} (E : Env a n ds l) (hx : opv l x = some v) (k : ∀ a, Env a n ds ((d, v) :: l) → WL r P ops Q rest a w) (hd : Nat.blt d n = true := by rfl) : WL r P ops Q (⟨some d, .move x, ty, pos, af, none⟩ :: rest) a w := O_val E hd rfl (R_move E hx) k
theorem S_a {P : Program} {a : Act} {w : World} {r : Option Nat} {Q : Exit → Act → World → Prop} {n : Nat} {ds : List Deferred} {l : List (Nat × Value)} {d : Nat} {ty : TypeId} {pos : String} {af : Array Edge} {ops : Array Oper} {rest : List Oper} {v : Value} {x : Operand} (E : Env a n ds l) (hx : opv l x = some v) (k : ∀ a, Env a n ds ((d, v) :: l) → WL r P ops Q rest a w) (hd : Nat.blt d n = true := by rfl) : WL r P ops Q (⟨some d, .assign x, ty, pos, af, none⟩ :: rest) a w := O_val E hd rfl (R_assign E hx) k
/-- a move, and so many of them one behind the other: the environment behind them, and what is left to be done -/
def mv1 (n : Nat) (l : List (Nat × Value)) : Oper → Option (List (Nat × Value))
  | ⟨some d, .move x, _, _, _, none⟩ => match Nat.blt d n, opv l x with | true, some v => some ((d, v) :: l) | _, _ => none
  | ⟨some d, .assign x, _, _, _, none⟩ => match Nat.blt d n, opv l x with | true, some v => some ((d, v) :: l) | _, _ => none
  | _ => none
def mvs (n : Nat) : Nat → List (Nat × Value) → List Oper → Option (List (Nat × Value) × List Oper)
  | 0, l, os => some (l, os)
  | k + 1, l, o :: os => match mv1 n l o with | some l' => mvs n k l' os | none => none
  | _ + 1, _, [] => none
theorem mv1_step {P : Program} {a : Act} {w : World} {r : Option Nat} {Q : Exit → Act → World → Prop} {n : Nat} {ds : List Deferred} {ops : Array Oper} {l l' : List (Nat × Value)} {o : Oper} {rest : List Oper}
    (E : Env a n ds l) (h : mv1 n l o = some l') (k : ∀ a, Env a n ds l' → WL r P ops Q rest a w) : WL r P ops Q (o :: rest) a w := by
  unfold mv1 at h
  split at h
  · split at h
    · rename_i hd hv; cases h; exact S_m E hv k hd
    · cases h
  · split at h
    · rename_i hd hv; cases h; exact S_a E hv k hd
    · cases h
  · cases h
theorem S_r {P : Program} {w : World} {r : Option Nat} {Q : Exit → Act → World → Prop} {n : Nat} {ds : List Deferred} {ops : Array Oper} {l' : List (Nat × Value)} {rest : List Oper} :
    ∀ (k : Nat) {a : Act} {l : List (Nat × Value)} {os : List Oper}, Env a n ds l → mvs n k l os = some (l', rest) → (∀ a, Env a n ds l' → WL r P ops Q rest a w) → WL r P ops Q os a w
  | 0, a, l, os, E, h, kk => by simp only [mvs, Option.some.injEq, Prod.mk.injEq] at h; obtain ⟨rfl, rfl⟩ := h; exact kk a E
  | k + 1, a, l, [], E, h, kk => by simp only [mvs] at h; cases h
  | k + 1, a, l, o :: os, E, h, kk => by
    simp only [mvs] at h
    split at h
    · rename_i h1; exact mv1_step E h1 fun a E => S_r k E h kk
    · cases h
theorem D_w {P : Program} {a : Act} {w : World} {r : Option Nat} {Q : Exit → Act → World → Prop} {n : Nat} {ds : List Deferred} {l : List (Nat × Value)} {d : Nat} {ty : TypeId} {pos : String} {af : Array Edge} {ops : Array Oper} {v : Value} {op : Op} {C : Nat → World → Prop} {bf : Nat → List Nat} {q R : List Nat} {i : Nat} (E : Env a n ds l) (ho : ops[i]? = some ⟨some d, op, ty, pos, af, none⟩)
    (hrun : ∀ w', C i w' → (execOp a.eval ⟨some d, op, ty, pos, af, none⟩).run P w' = .ok (.value v) w')
    (k : ∀ a, Env a n ds ((d, v) :: l) → wpT r P ops Q C bf q R a w) (hq : q.contains i = true := by rfl) (hd : Nat.blt d n = true := by rfl) : wpT r P ops Q C bf q (i :: R) a w := D_v E ho hq hd hrun k
theorem RdS.eqL {α : Type} {sz : Nat} {R : Hp → List Value → α → Prop} {M : Hp} {v : Value} {l l' : List α} (h : RdS sz R M v l) (e : l' = l) : RdS sz R M v l' := e ▸ h
theorem lerf {M : Hp} : Hp.le M M := Hp.le.refl M
theorem cgB {a b : Bool} (h : a = b) : Value.bool a = .bool b := congrArg Value.bool h
theorem J_a {r : Option Nat} {P : Program} {a : Act} {w : World} {i1 : Nat} {l1 : List Oper} {c1 : Code} {Q1 : Exit → Act → World → Prop} (h : WL r P l1.toArray (Exit.then (WP r P c1 Q1) Q1) l1 a w) : WP r P (.seq (.region i1 l1.toArray false) c1) Q1 a w := WP_seq (WP_region h)
theorem J_b {r : Option Nat} {P : Program} {a : Act} {w : World} {o1 : Array Oper} {K1 : Act → World → Prop} {Q1 : Exit → Act → World → Prop} (h : K1 a w) : WL r P o1 (Exit.then K1 Q1) [] a w := WL_nil (T_n h)
theorem J_c {r : Option Nat} {P : Program} {a : Act} {w : World} {o1 : Array Oper} {i1 : Nat} {l1 : List Oper} {c1 : Code} {Q1 Q2 : Exit → Act → World → Prop} (h : WL r P l1.toArray (Exit.then (WP r P c1 Q1) Q1) l1 a w) : WL r P o1 (Exit.then (WP r P (.seq (.region i1 l1.toArray false) c1) Q1) Q2) [] a w := WL_nil (T_n (WP_seq (WP_region h)))
theorem J_d {r : Option Nat} {P : Program} {a : Act} {w : World} {o1 : Array Oper} {Q1 Q2 : Exit → Act → World → Prop} (h : Q1 .ret a w) : WL r P o1 (Exit.then (WP r P .ret Q1) Q2) [] a w := WL_nil (T_n (WP_ret h))
theorem J_e {r : Option Nat} {P : Program} {a : Act} {w : World} {o1 : Array Oper} {i1 : Nat} {Q1 Q2 : Exit → Act → World → Prop} (h : Q1 .ret a w) : WL r P o1 (Exit.then (WP r P .ret (Exit.inBlock i1 Q1)) Q2) [] a w := WL_nil (T_n (WP_ret (B_r h)))
theorem J_f {r : Option Nat} {P : Program} {a : Act} {w : World} {o1 : Array Oper} {i1 : Nat} {l1 : List Oper} {c1 c2 : Code} {Q1 Q2 : Exit → Act → World → Prop} (h : WL r P l1.toArray (Exit.then (WP r P c1 (Exit.then (WP r P c2 Q1) Q1)) (Exit.then (WP r P c2 Q1) Q1)) l1 a w) : WL r P o1 (Exit.then (WP r P (.seq (.seq (.region i1 l1.toArray false) c1) c2) Q1) Q2) [] a w := WL_nil (T_n (WP_seq (WP_seq (WP_region h))))
theorem J_g {r : Option Nat} {P : Program} {a : Act} {w : World} {o1 : Array Oper} {c1 c2 : Code} {Q1 Q2 : Exit → Act → World → Prop} (h : WP r P c1 (Exit.then (WP r P c2 Q1) Q1) a w) : WL r P o1 (Exit.then (WP r P (.seq c1 c2) Q1) Q2) [] a w := WL_nil (T_n (WP_seq h))
theorem J_h {r : Option Nat} {P : Program} {a : Act} {w : World} {o1 : Array Oper} {i1 : Nat} {c1 : Code} {Q1 Q2 : Exit → Act → World → Prop} (h : WP r P c1 (Exit.inBlock i1 Q1) a w) : WL r P o1 (Exit.then (WP r P (.block i1 c1) Q1) Q2) [] a w := WL_nil (T_n (WP_block h))
theorem J_i {r : Option Nat} {P : Program} {a : Act} {w : World} {i1 i2 : Nat} {l1 : List Oper} {c1 c2 : Code} {Q1 Q2 : Exit → Act → World → Prop} (h : WL r P l1.toArray (Exit.then (WP r P c1 (Exit.inBlock i1 (Exit.then (WP r P c2 Q1) Q1))) (Exit.inBlock i1 (Exit.then (WP r P c2 Q1) Q1))) l1 a w) : WP r P .skip (Exit.then (WP r P (.seq (.block i1 (.seq (.region i2 l1.toArray false) c1)) c2) Q1) Q2) a w := WP_skip (T_n (WP_seq (WP_block (WP_seq (WP_region h)))))
theorem J_j {r : Option Nat} {P : Program} {a : Act} {w : World} {i1 i2 : Nat} {K1 K2 : Act → World → Prop} {l1 : List Oper} {c1 : Code} {Q1 Q2 : Exit → Act → World → Prop} (h : WL r P l1.toArray (Exit.then (WP r P c1 Q1) Q1) l1 a w) : WP r P (.exit i1) (Exit.then K1 (Exit.then K2 (Exit.inBlock i1 (Exit.then (WP r P (.seq (.region i2 l1.toArray false) c1) Q1) Q2)))) a w := WP_exit (T_x (T_x (B_x (T_n (WP_seq (WP_region h))))))
theorem J_k {r : Option Nat} {P : Program} {a : Act} {w : World} {o1 : Array Oper} {i1 i2 : Nat} {l1 : List Oper} {Q1 Q2 : Exit → Act → World → Prop} (h : WL r P l1.toArray Q1 l1 a w) : WL r P o1 (Exit.inBlock i1 (Exit.then (WP r P (.region i2 l1.toArray false) Q1) Q2)) [] a w := WL_nil (B_n (T_n (WP_region h)))
theorem J_l {r : Option Nat} {P : Program} {a : Act} {w : World} {i1 : Nat} {l1 : List Oper} {c1 : Code} {Q1 Q2 : Exit → Act → World → Prop} (h : WL r P l1.toArray (Exit.then (WP r P c1 Q1) Q1) l1 a w) : WP r P .skip (Exit.then (WP r P (.seq (.region i1 l1.toArray false) c1) Q1) Q2) a w := WP_skip (T_n (WP_seq (WP_region h)))
theorem J_m {r : Option Nat} {P : Program} {a : Act} {w : World} {i1 i2 : Nat} {l1 : List Oper} {Q1 Q2 : Exit → Act → World → Prop} (h : WL r P l1.toArray Q1 l1 a w) : Exit.inBlock i1 (Exit.then (WP r P (.region i2 l1.toArray false) Q1) Q2) .normal a w := B_n (T_n (WP_region h))
theorem J_n {r : Option Nat} {P : Program} {a : Act} {w : World} {o1 : Array Oper} {i1 : Nat} {l1 : List Oper} {Q1 Q2 : Exit → Act → World → Prop} (h : WL r P l1.toArray Q1 l1 a w) : WL r P o1 (Exit.then (WP r P (.region i1 l1.toArray false) Q1) Q2) [] a w := WL_nil (T_n (WP_region h))
theorem J_o {r : Option Nat} {P : Program} {a : Act} {w : World} {i1 i2 : Nat} {l1 : List Oper} {Q1 Q2 : Exit → Act → World → Prop} (h : WL r P l1.toArray Q1 l1 a w) : WP r P .skip (Exit.inBlock i1 (Exit.then (WP r P (.region i2 l1.toArray false) Q1) Q2)) a w := WP_skip (B_n (T_n (WP_region h)))
theorem J_p {r : Option Nat} {P : Program} {a : Act} {w : World} {i1 : Nat} {l1 : List Oper} {c1 c2 : Code} {Q1 : Exit → Act → World → Prop} (h : WL r P l1.toArray (Exit.then (WP r P c1 (Exit.then (WP r P c2 Q1) Q1)) (Exit.then (WP r P c2 Q1) Q1)) l1 a w) : WP r P (.seq (.seq (.region i1 l1.toArray false) c1) c2) Q1 a w := WP_seq (WP_seq (WP_region h))
theorem J_q {r : Option Nat} {P : Program} {a : Act} {w : World} {i1 : Nat} {l1 : List Oper} {c1 c2 : Code} {Q1 Q2 : Exit → Act → World → Prop} (h : WL r P l1.toArray (Exit.then (WP r P c1 (Exit.then (WP r P c2 Q1) Q1)) (Exit.then (WP r P c2 Q1) Q1)) l1 a w) : WP r P .skip (Exit.then (WP r P (.seq (.seq (.region i1 l1.toArray false) c1) c2) Q1) Q2) a w := WP_skip (T_n (WP_seq (WP_seq (WP_region h))))
theorem J_r {r : Option Nat} {P : Program} {a : Act} {w : World} {o1 : Array Oper} {i1 : Nat} {K1 : Act → World → Prop} {Q1 Q2 : Exit → Act → World → Prop} (h : Q1 .ret a w) : WL r P o1 (Exit.then (WP r P .ret (Exit.inBlock i1 (Exit.then K1 Q1))) Q2) [] a w := WL_nil (T_n (WP_ret (B_r (T_r h))))
theorem J_s {r : Option Nat} {P : Program} {a : Act} {w : World} {o1 : Array Oper} {i1 : Nat} {K1 K2 : Act → World → Prop} {Q1 Q2 : Exit → Act → World → Prop} (h : Q1 .ret a w) : WL r P o1 (Exit.then (WP r P .ret (Exit.inBlock i1 (Exit.then K1 (Exit.then K2 Q1)))) Q2) [] a w := WL_nil (T_n (WP_ret (B_r (T_r (T_r h)))))
theorem J_t {r : Option Nat} {P : Program} {a : Act} {w : World} {o1 : Array Oper} {K1 : Act → World → Prop} {Q1 Q2 : Exit → Act → World → Prop} (h : Q1 .ret a w) : WL r P o1 (Exit.then (WP r P .ret (Exit.then K1 Q1)) Q2) [] a w := WL_nil (T_n (WP_ret (T_r h)))
theorem J_u {a : Act} {w : World} {K1 K2 : Act → World → Prop} {Q1 : Exit → Act → World → Prop} (h : Q1 .ret a w) : Exit.then K1 (Exit.then K2 Q1) .ret a w := T_r (T_r h)
theorem J_v {r : Option Nat} {P : Program} {a : Act} {w : World} {K1 K2 : Act → World → Prop} {i1 i2 : Nat} {l1 : List Oper} {c1 : Code} {Q1 Q2 : Exit → Act → World → Prop} (h : WL r P l1.toArray (Exit.then (WP r P c1 Q1) Q1) l1 a w) : Exit.then K1 (Exit.then K2 (Exit.inBlock i1 (Exit.then (WP r P (.seq (.region i2 l1.toArray false) c1) Q1) Q2))) (.exit i1) a w := T_x (T_x (B_x (T_n (WP_seq (WP_region h)))))
theorem J_w {r : Option Nat} {P : Program} {a : Act} {w : World} {o1 : Array Oper} {i1 i2 : Nat} {l1 : List Oper} {c1 : Code} {Q1 Q2 : Exit → Act → World → Prop} (h : WL r P l1.toArray (Exit.then (WP r P c1 (Exit.inBlock i1 Q1)) (Exit.inBlock i1 Q1)) l1 a w) : WL r P o1 (Exit.then (WP r P (.block i1 (.seq (.region i2 l1.toArray false) c1)) Q1) Q2) [] a w := WL_nil (T_n (WP_block (WP_seq (WP_region h))))
theorem J_x {r : Option Nat} {P : Program} {fn : Func} {R : Ending → World → Prop} {a : Act} {w : World}  (h : (FPost P fn R) .ret a w) : WP r P .skip (FPost P fn R) a w := WP_skip (F_nrm h)
theorem J_y {r : Option Nat} {P : Program} {a : Act} {w : World} {i1 i2 : Nat} {l1 : List Oper} {c1 : Code} {Q1 Q2 : Exit → Act → World → Prop} (h : WL r P l1.toArray (Exit.then (WP r P c1 Q1) Q1) l1 a w) : WP r P .skip (Exit.inBlock i1 (Exit.then (WP r P (.seq (.region i2 l1.toArray false) c1) Q1) Q2)) a w := WP_skip (B_n (T_n (WP_seq (WP_region h))))
theorem J_z {r : Option Nat} {P : Program} {a : Act} {w : World} {i1 i2 : Nat} {K1 : Act → World → Prop} {l1 : List Oper} {Q1 Q2 : Exit → Act → World → Prop} (h : WL r P l1.toArray Q1 l1 a w) : WP r P (.exit i1) (Exit.then K1 (Exit.inBlock i1 (Exit.then (WP r P (.region i2 l1.toArray false) Q1) Q2))) a w := WP_exit (T_x (B_x (T_n (WP_region h))))
theorem J_Aa {r : Option Nat} {P : Program} {a : Act} {w : World} {i1 i2 i3 : Nat} {K1 K2 : Act → World → Prop} {l1 : List Oper} {Q1 Q2 : Exit → Act → World → Prop} (h : WL r P l1.toArray Q1 l1 a w) : WP r P (.exit i1) (Exit.then K1 (Exit.then K2 (Exit.inBlock i1 (Exit.inBlock i2 (Exit.then (WP r P (.region i3 l1.toArray false) Q1) Q2))))) a w := WP_exit (T_x (T_x (B_x (B_n (T_n (WP_region h))))))
theorem J_Ab {r : Option Nat} {P : Program} {fn : Func} {R : Ending → World → Prop} {a : Act} {w : World} {o1 : Array Oper} (h : (FPost P fn R) .ret a w) : WL r P o1 (FPost P fn R) [] a w := WL_nil (F_nrm h)
end Go.Sl
