import Derived.Test.YtgceicmfefpngaaGreatSlF
namespace Go.Sl
open Go
section
variable {r : Option Nat} {P : Program} {ops : Array Oper} {Q : Exit → Act → World → Prop} {a : Act} {w : World} {rest : List Oper}
  {n : Nat} {ds : List Deferred} {l : List (Nat × Value)} {d : Nat} {op : Op} {ty t t' : TypeId} {pos : String} {af : Array Edge} {gd : Option (Nat × Bool)} {x y z : Operand}
theorem S_v {v : Value} (E : Env a n ds l) (hd : Nat.blt d n = true) (hrun : (execOp a.eval ⟨some d, op, ty, pos, af, none⟩).run P w = .ok (.value v) w)
    (hnd : Op.nodefer op = true) (k : ∀ a, Env a n ds ((d, v) :: l) → WL r P ops Q rest a w) : WL r P ops Q (⟨some d, op, ty, pos, af, none⟩ :: rest) a w := O_val E hd hnd hrun k
theorem S_x (h : (⟨some d, op, ty, pos, af, none⟩ : Oper).wpIn (Fw r) 0 P a w (WL r P ops Q rest) Q) : WL r P ops Q (⟨some d, op, ty, pos, af, none⟩ :: rest) a w := WL_op rfl h
theorem Zr (h : (⟨none, op, ty, pos, af, none⟩ : Oper).wpIn (Fw r) 0 P a w (WL r P ops Q rest) Q) : WL r P ops Q (⟨none, op, ty, pos, af, none⟩ :: rest) a w := WL_op rfl h
variable {C : Nat → World → Prop} {bf : Nat → List Nat} {q R : List Nat} {i : Nat} {o : Oper}
theorem Ze (h : Q .normal a w) : wpT r P ops Q C bf q [] a w := h
theorem D_v {v : Value} (E : Env a n ds l) (ho : ops[i]? = some ⟨some d, op, ty, pos, af, none⟩) (hq : q.contains i = true) (hd : Nat.blt d n = true)
    (hrun : ∀ w', C i w' → (execOp a.eval ⟨some d, op, ty, pos, af, none⟩).run P w' = .ok (.value v) w')
    (k : ∀ a, Env a n ds ((d, v) :: l) → wpT r P ops Q C bf q R a w) : wpT r P ops Q C bf q (i :: R) a w := by
  simp only [wpT, ho]
  rw [if_pos (by simp [Region.wanted]), if_pos hq]
  exact ⟨v, hrun, k _ (E.put (by simpa using hd) v)⟩
theorem D_x (ho : ops[i]? = some o) (hg : o.guard = none) (hq : q.contains i = false)
    (h : o.wpIn (Fw r) 0 P a w (fun a w => (∀ x, q.contains x = true → (bf i).contains x = false → C x w) ∧ wpT r P ops Q C bf q R a w) Q) : wpT r P ops Q C bf q (i :: R) a w := by
  simp only [wpT, ho]
  rw [if_pos (by simp [Region.wanted, hg]), if_neg (by rw [hq]; simp)]
  exact h
theorem D_yes {j d' : Nat} {b : Bool} {dst : Option Nat} (E : Env a n ds l) (ho : ops[i]? = some ⟨dst, op, ty, pos, af, some (j, b)⟩) (hj : (ops[j]?).bind (·.dst) = some d') (hb : look l d' = some (.bool b))
    (hq : q.contains i = false) (h : (⟨dst, op, ty, pos, af, some (j, b)⟩ : Oper).wpIn (Fw r) 0 P a w (fun a w => (∀ x, q.contains x = true → (bf i).contains x = false → C x w) ∧ wpT r P ops Q C bf q R a w) Q) : wpT r P ops Q C bf q (i :: R) a w := by
  simp only [wpT, ho]
  rw [if_pos (by simp [Region.wanted, yielded, hj, E.get d' _ hb]), if_neg (by rw [hq]; simp)]
  exact h
theorem Zt {v : Value} {j d' : Nat} {b : Bool} (E : Env a n ds l) (ho : ops[i]? = some ⟨some d, op, ty, pos, af, some (j, b)⟩) (hj : (ops[j]?).bind (·.dst) = some d') (hb : look l d' = some (.bool b))
    (hq : q.contains i = true) (hd : Nat.blt d n = true)
    (hrun : ∀ w', C i w' → (execOp a.eval ⟨some d, op, ty, pos, af, some (j, b)⟩).run P w' = .ok (.value v) w')
    (k : ∀ a, Env a n ds ((d, v) :: l) → wpT r P ops Q C bf q R a w) : wpT r P ops Q C bf q (i :: R) a w := by
  simp only [wpT, ho]
  rw [if_pos (by simp [Region.wanted, yielded, hj, E.get d' _ hb]), if_pos hq]
  exact ⟨v, hrun, k _ (E.put (by simpa using hd) v)⟩
theorem Vu {j d' : Nat} {b b' : Bool} (E : Env a n ds l) (ho : ops[i]? = some ⟨some d, op, ty, pos, af, some (j, b)⟩) (hj : (ops[j]?).bind (·.dst) = some d') (hb : look l d' = some (.bool b'))
    (hne : (b' == b) = false) (hd : Nat.blt d n = true) (k : ∀ a, Env a n ds ((d, Go.undef) :: l) → wpT r P ops Q C bf q R a w) : wpT r P ops Q C bf q (i :: R) a w := by
  simp only [wpT, ho]
  have hn : b' ≠ b := by simpa using hne
  rw [if_neg (by simp [Region.wanted, yielded, hj, E.get d' _ hb, hn])]
  exact k _ (E.put (by simpa using hd) _)
variable {next : Act → World → Prop} {M : Hp} {H : List QD} {v : Value}
theorem YB {w' : World} (E : Env a n ds l) (hd : Nat.blt d n = true) (hnd : Op.nodefer op = true) (hrun : (execOp a.eval ⟨some d, op, ty, pos, af, gd⟩).run P w = .ok (.value v) w')
    (k : ∀ a, Env a n ds ((d, v) :: l) → next a w') : (⟨some d, op, ty, pos, af, gd⟩ : Oper).wpIn (Fw r) 0 P a w next Q :=
  Uk hnd hrun (k _ (E.put (by simpa using hd) v))
theorem zY {w' : World} (E : Env a n ds l) (hnd : Op.nodefer op = true) (hrun : (execOp a.eval ⟨none, op, ty, pos, af, gd⟩).run P w = .ok .skip w')
    (k : ∀ a, Env a n ds l → next a w') : (⟨none, op, ty, pos, af, gd⟩ : Oper).wpIn (Fw r) 0 P a w next Q := by
  refine ⟨fun _ _ => trivial, ?_⟩
  rw [JL hnd, hrun]; exact k _ E
theorem X_call {ats : Array TypeId} {f : Operand} {as : Array Operand} {fv : Value} {args : List Value} {R : Value → World → Prop}
  (E : Env a n ds l) (hd : Nat.blt d n = true) (hf : opv l f = some fv) (ha : GJ l as.toList = some args) (C : Yx P fv args w R)
  (k : ∀ a v w', R v w' → Env a n ds ((d, v) :: l) → next a w') : (⟨some d, .call ⟨.value f, as, ats⟩, ty, pos, af, gd⟩ : Oper).wpIn (Fw r) 0 P a w next Q :=
  C r _ _ f a _ Q rfl rfl (E.eval hf) (E.evals ha) fun v w' hR => k _ v w' hR (E.put (by simpa using hd) v)
theorem Qr {ats : Array TypeId} {f : Operand} {as : Array Operand} {fv : Value} {args : List Value} {q : Value → Hp → Prop} {M0 : Hp}
  (E : Env a n ds l) (S : St w M H) (hd : Nat.blt d n = true) (hf : opv l f = some fv) (ha : GJ l as.toList = some args) (C : Pu P fv M0 args q) (hM : Hp.le M0 M)
  (k : ∀ a v w' M', Hp.le M M' → q v M' → St w' M' H → Env a n ds ((d, v) :: l) → next a w') : (⟨some d, .call ⟨.value f, as, ats⟩, ty, pos, af, gd⟩ : Oper).wpIn (Fw r) 0 P a w next Q :=
  X_call E hd hf ha (C w M H hM S) fun a v w' ⟨M', h1, h2, h3⟩ E => k a v w' M' h1 h2 h3 E
theorem Vv {ats : Array TypeId} {f : Operand} {as : Array Operand} {fv : Value} {args : List Value} {p : List QD} {q : Value → Hp → List QD → Prop} {M0 : Hp}
  (E : Env a n ds l) (S : St w M (p ++ H)) (hd : Nat.blt d n = true) (hf : opv l f = some fv) (ha : GJ l as.toList = some args) (C : Sp P fv M0 args p q) (hM : Hp.le M0 M)
  (k : ∀ a v w' M' C, Hp.le M M' → q v M' C → St w' M' (C ++ H) → Env a n ds ((d, v) :: l) → next a w') : (⟨some d, .call ⟨.value f, as, ats⟩, ty, pos, af, gd⟩ : Oper).wpIn (Fw r) 0 P a w next Q :=
  X_call E hd hf ha (C w M H hM S) fun a v w' ⟨M', C', h1, h2, h3⟩ E => k a v w' M' C' h1 h2 h3 E
theorem Jc {cs : Array Value} (E : Env a n ds l) (S : St w M H) (hd : Nat.blt d n = true) (hx : opv l x = some v) (hcs : v.cells = cs)
    (k : ∀ a w' b, Env a n ds ((d, .pointer (some ⟨b, 0, none⟩)) :: l) → St w' M (blk b (.cells cs t) :: H) → next a w') : (⟨some d, .box t x, ty, pos, af, gd⟩ : Oper).wpIn (Fw r) 0 P a w next Q :=
  YB E hd rfl (v := .pointer (some ⟨w.heap.size, 0, none⟩)) (w' := w.alloc (.cells cs t)) (by subst hcs; simp [execOp, E.eval hx, Instr.box, newVar, newRow]) fun a E => k a _ _ E (S.new rfl)
theorem Jp {cs : Array Value} (E : Env a n ds l) (S : St w M H) (hd : Nat.blt d n = true) (hz : ∀ w, (zeroValue t).run P w = .ok v w) (hcs : v.cells = cs)
    (k : ∀ a w' b, Env a n ds ((d, .pointer (some ⟨b, 0, none⟩)) :: l) → St w' M (blk b (.cells cs t) :: H) → next a w') : (⟨some d, .alloc t, ty, pos, af, gd⟩ : Oper).wpIn (Fw r) 0 P a w next Q :=
  YB E hd rfl (v := .pointer (some ⟨w.heap.size, 0, none⟩)) (w' := w.alloc (.cells cs t)) (by subst hcs; simp [execOp, Instr.alloc, hz, newVar, newRow]) fun a E => k a _ _ E (S.new rfl)
theorem VK {ad : Addr} (E : Env a n ds l) (hx : opv l x = some (.pointer (some ad))) (hg : (isAgg t).run P w = .ok false w) (hc : w.cell? ad = some v) :
    (execOp a.eval ⟨some d, .load t x, ty, pos, af, gd⟩).run P w = .ok (.value v) w := by
  simp [execOp, E.eval hx, Instr.loadAt, Instr.sureAddr, loadVar, hg, hc]
theorem vj {ad : Addr} {cs : List Value} (E : Env a n ds l) (hx : opv l x = some (.pointer (some ad))) (hg : (isAgg t).run P w = .ok true w) (hs : (sizeOf t).run P w = .ok cs.length w)
    (hc : ∀ j u, cs[j]? = some u → w.cell? (ad.add j) = some u) :
    (execOp a.eval ⟨some d, .load t x, ty, pos, af, gd⟩).run P w = .ok (.value (.agg cs.toArray)) w := by
  have := run_firstCells_some (P := P) w 1 cs.length ad cs.length cs.length cs (by simp) hc
  simp only [Builtin.firstCells, Nat.mul_one] at this
  simp [execOp, E.eval hx, Instr.loadAt, Instr.sureAddr, loadVar, hg, hs, this]
theorem WA {b : Nat} {u : Value} {e : TypeId} (E : Env a n ds l) (S : St w M (blk b (.cells #[v] e) :: H)) (hx : opv l x = some (.pointer (some ⟨b, 0, none⟩))) (hy : opv l y = some u)
    (hs : (sizeOf t).run P w = .ok 1 w) (h1 : u.oneCell' = true)
    (k : ∀ a w', Env a n ds l → St w' M (blk b (.cells #[u] e) :: H) → next a w') : (⟨none, .store t x y, ty, pos, af, gd⟩ : Oper).wpIn (Fw r) 0 P a w next Q := by
  have hg := S.get
  have hc : w.cell? ⟨b, 0, none⟩ = some v := by simp [World.cell?, hg]
  have hf : w.frozen? ⟨b, 0, none⟩ = false := by simp [World.frozen?, hg]
  have hcells : u.cells = #[u] := by cases u <;> first | rfl | (simp [Value.oneCell'] at h1)
  refine zY (w' := w.setCell ⟨b, 0, none⟩ u) E rfl ?_ fun a E => k a _ E ?_
  · simp [execOp, E.eval hx, E.eval hy, Instr.storeAt, Instr.sureAddr, storeVar, hs, hcells, storeCells, run_store P _ _ _ _ h1, Addr.add, hc, hf]
  · refine S.set ?_ fun c hc x hx => ?_
    · simp only [World.setCell]; rw [Array.getElem?_modify, if_pos rfl, hg]; rfl
    · simp only [World.setCell]; rw [Array.getElem?_modify, if_neg (Ne.symm hc)]; exact hx
end
end Go.Sl
