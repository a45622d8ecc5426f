/- Walks through the functions that laws.FnRuneLength reaches: what each computes; no conditions beyond what each theorem states. -/
import Derived.Test.YtjadmhlojchapaaProg
import Derived.Test.YtjadmhlojchapaaSlY
set_option linter.unusedVariables false
set_option linter.unusedSimpArgs false
namespace Go.Proofs.Ytjadmhlojchapaa.wFnRuneLength
open Go Go.Sl
theorem Try.mixed : Try.prog.follows .mixedOrders = true := by kernel_rfl
theorem T24 : SlT Try.prog 24 9 1 16 (.string .empty) := ⟨Try.underlying24, ⟨Try.t9, by kernel_rfl, rfl, rfl, rfl⟩, rfl, by decide⟩
def PF2T (P : Program) (fv : Value) (M : Hp) (f : Int → Int → Int × Bool) : Prop := fv.oneCell' = true ∧ ∀ x i : Int, Pu P fv M [.int .i64 x, .int .i64 i] (fun r _ => r = .tuple #[.int .i64 (f x i).1, .bool (f x i).2])
theorem PF2T.le {P : Program} {fv : Value} {M M' : Hp} {f : Int → Int → Int × Bool} (h : PF2T P fv M f) (hM : Hp.le M M') : PF2T P fv M' f := ⟨h.1, fun x i => (h.2 x i).le hM⟩
def SortedI (l : List Int) : Prop := l.Pairwise (· ≤ ·)
def SortedU (l : List Int) : Prop := l.Pairwise (· < ·)
theorem SortedU.le {l : List Int} (h : SortedU l) : SortedI l := List.Pairwise.imp (fun h => by omega) h
instance (l : List Int) : Decidable (SortedI l) := inferInstanceAs (Decidable (l.Pairwise (· ≤ ·)))
def g0 (l : List Int) (i : Nat) : Int := (l[i]?).getD 0
section
variable {n s : Nat} {p : List Int} {x : Int}
end
def PF2U (P : Program) (fv : Value) (M : Hp) (f : Int → Int → Int × Int) : Prop := fv.oneCell' = true ∧ ∀ x i : Int, Pu P fv M [.int .i64 x, .int .i64 i] (fun r _ => r = .tuple #[.int .i64 (f x i).1, .int .i64 (f x i).2])
theorem PF2U.le {P : Program} {fv : Value} {M M' : Hp} {f : Int → Int → Int × Int} (h : PF2U P fv M f) (hM : Hp.le M M') : PF2U P fv M' f := ⟨h.1, fun x i => (h.2 x i).le hM⟩
def PF1U (P : Program) (fv : Value) (M : Hp) (f : Int → Int × Int) : Prop := fv.oneCell' = true ∧ ∀ x : Int, Pu P fv M [.int .i64 x] (fun r _ => r = .tuple #[.int .i64 (f x).1, .int .i64 (f x).2])
theorem PF1U.le {P : Program} {fv : Value} {M M' : Hp} {f : Int → Int × Int} (h : PF1U P fv M f) (hM : Hp.le M M') : PF1U P fv M' f := ⟨h.1, fun x => (h.2 x).le hM⟩
def PF2V (P : Program) (fv : Value) (M : Hp) (f : Int → Int → Int × Int × Bool) : Prop := fv.oneCell' = true ∧ ∀ x i : Int, Pu P fv M [.int .i64 x, .int .i64 i] (fun r _ => r = .tuple #[.int .i64 (f x i).1, .int .i64 (f x i).2.1, .bool (f x i).2.2])
theorem PF2V.le {P : Program} {fv : Value} {M M' : Hp} {f : Int → Int → Int × Int × Bool} (h : PF2V P fv M f) (hM : Hp.le M M') : PF2V P fv M' f := ⟨h.1, fun x i => (h.2 x i).le hM⟩
def RMp : Hp → List Value → List (Int × Int) → Prop := fun M cs q => ∃ v, cs = [v] ∧ RdM M v (encE (Value.int .i64) q)
theorem RdMp.at {M : Hp} {v : Value} {l : List (List (Int × Int))} {k : Nat} {e : List (Int × Int)} (h : RdS 1 RMp M v l) (he : l[k]? = some e) : ∃ p u, IdxPtr v k 1 p ∧ cellM M p = some u ∧ RdM M u (encE (Value.int .i64) e) := by
  obtain ⟨p, u, h1, h2, ⟨v, h3, h4⟩⟩ := h.at1 he
  cases h3; exact ⟨p, u, h1, h2, h4⟩
theorem RdPP.at {M : Hp} {v : Value} {l : List (List (Int × Int))} {k : Nat} {e : List (Int × Int)} (h : RdS 1 (RSl 2 RP2) M v l) (he : l[k]? = some e) : ∃ p u, IdxPtr v k 1 p ∧ cellM M p = some u ∧ RdS 2 RP2 M u e := by
  obtain ⟨p, u, h1, h2, ⟨v, h3, h4⟩⟩ := h.at1 he
  cases h3; exact ⟨p, u, h1, h2, h4⟩
section
variable {r : Option Nat} {P : Program} {ops : Array Oper} {Q : Exit → Act → World → Prop} {C : Nat → World → Prop} {bf : Nat → List Nat} {E : List (Nat × Nat)}
end
section
variable {r : Option Nat} {P : Program} {ops : Array Oper} {Q : Exit → Act → World → Prop} {E : List (Nat × Nat)}
end
def PFAB (P : Program) (fv : Value) (M : Hp) (f : Int × Int → Bool) : Prop := fv.oneCell' = true ∧ ∀ x y : Int, ((-9223372036854775808 ≤ x ∧ x ≤ 9223372036854775807) ∧ (-9223372036854775808 ≤ y ∧ y ≤ 9223372036854775807)) → Pu P fv M [.agg #[.int .i64 x, .int .i64 y]] (fun r _ => r = .bool (f (x, y)))
theorem PFAB.le {P : Program} {fv : Value} {M M' : Hp} {f : Int × Int → Bool} (h : PFAB P fv M f) (hM : Hp.le M M') : PFAB P fv M' f := ⟨h.1, fun x y g => (h.2 x y g).le hM⟩
def RA2 : Hp → List Value → List (Int × Int) × List (Int × Int) → Prop := fun M cs x => ∃ u v, cs = [u, v] ∧ RdS 2 RP2 M u x.1 ∧ RdS 2 RP2 M v x.2
theorem RdA2.at {M : Hp} {v : Value} {l : List (List (Int × Int) × List (Int × Int))} {k : Nat} {e : List (Int × Int) × List (Int × Int)} (h : RdS 2 RA2 M v l) (he : l[k]? = some e) : ∃ p u1 u2, IdxPtr v k 2 p ∧ cellsM M p [u1, u2] ∧ RdS 2 RP2 M u1 e.1 ∧ RdS 2 RP2 M u2 e.2 := by
  obtain ⟨p, cs, h1, h2, ⟨u1, u2, h3, h5, h6⟩, h4⟩ := RdS.at h he
  subst h3; exact ⟨p, u1, u2, h1, h4, h5, h6⟩
section
variable {r : Option Nat} {P : Program} {Q : Exit → Act → World → Prop} {a : Act} {w : World} {n : Nat} {ds : List Deferred} {l : List (Nat × Value)} {d : Nat} {ty t el : TypeId} {pos : String} {af : Array Edge} {gd : Option (Nat × Bool)} {x y : Operand} {next : Act → World → Prop} {M : Hp} {H : List HProp} {by_ : Nat}
end
abbrev MLE := List (Int × Value × List Int)
/-- a key with a frozen list -/
def RG2 : Hp → List Value → Int × List Int → Prop := fun M cs x => ∃ v, cs = [.int .i64 x.1, v] ∧ RdI M v x.2
theorem RdG2.at {M : Hp} {v : Value} {l : List (Int × List Int)} {k : Nat} {e : Int × List Int} (h : RdS 2 RG2 M v l) (he : l[k]? = some e) : ∃ p u, IdxPtr v k 2 p ∧ cellsM M p [.int .i64 e.1, u] ∧ RdI M u e.2 := by
  obtain ⟨p, cs, h1, h2, ⟨u, h3, h5⟩, h4⟩ := RdS.at h he
  subst h3; exact ⟨p, u, h1, h4, h5⟩
/-- a frozen map of frozen lists -/
def RdML (M : Hp) (v : Value) (q : List (Int × List Int)) : Prop := ∃ t : MLE, t.map (fun x => (x.1, x.2.2)) = q ∧ RdM M v (encE Prod.fst t) ∧ ∀ x ∈ t, RdI M x.2.1 x.2.2
theorem RdML.le {M M' : Hp} {v : Value} {q : List (Int × List Int)} (h : RdML M v q) (hM : Hp.le M M') : RdML M' v q := by
  obtain ⟨t, h1, h2, h3⟩ := h; exact ⟨t, h1, h2.le hM, fun x hx => (h3 x hx).le hM⟩
section
variable {r : Option Nat} {P : Program} {Q : Exit → Act → World → Prop} {a : Act} {w : World}
  {n : Nat} {ds : List Deferred} {l : List (Nat × Value)} {ty t : TypeId} {pos : String} {af : Array Edge} {gd : Option (Nat × Bool)} {x y : Operand}
  {next : Act → World → Prop} {M : Hp} {H : List HProp}
end
section
variable {r : Option Nat} {P : Program} {Q : Exit → Act → World → Prop} {a : Act} {w : World}
  {n : Nat} {ds : List Deferred} {l : List (Nat × Value)} {d : Nat} {ty t el : TypeId} {pos : String} {af : Array Edge} {gd : Option (Nat × Bool)} {x y : Operand}
  {next : Act → World → Prop} {M : Hp} {H : List HProp} {v : Value} {by_ : Nat} {zv : Value}
end
/-! ### functions that panic, and a function that recovers -/
section
variable {P : Program}
/-- a call that panics with a value held as an interface -/
def CallP (P : Program) (fv : Value) (args : List Value) (w : World) (R : Value → World → Prop) : Prop :=
  ∀ (r : Option Nat) (o : Oper) (c : Call) (f : Operand) (a : Act) (next : Act → World → Prop) (Q : Exit → Act → World → Prop), o.op = .call c → c.callee = .value f → a.eval f = fv →
    c.args.toList.map a.eval = args → (∀ t u w', R (.iface t u) w' → Q (.panic [{ v := .iface t u, recovered := false }]) a w') → o.wpIn (Fw r) 0 P a w next Q
def PEnd (R : Value → World → Prop) : Ending → World → Prop := fun e w' => ∃ t u, e = .panicked [{ v := .iface t u, recovered := false }] ∧ R (.iface t u) w'
theorem CallP.func {g : FuncId} {first cap : Array Value} {args : List Value} {w : World} {R : Value → World → Prop}
    (hc : ∀ args w, (callFunc g args).run P w = .ok (.enter g args) w)
    (h : Calls P g (first.toList ++ args ++ cap.toList).toArray w (PEnd R)) : CallP P (.func (.func g) first cap) args w R := by
  intro r o c f a next Q h1 h2 h3 h4 h5
  refine ⟨fun _ _ => trivial, ?_⟩
  rw [semAt_nodefer (by rw [h1]; rfl)]
  have e4 : c.args.map a.eval = args.toArray := by rw [← h4, ← Array.toList_map, Array.toArray_toList]
  have : (execOp a.eval o).run P w = .ok (.enter g (first ++ args.toArray ++ cap)) w := by
    simp only [execOp, h1, resolve, h2, h3, e4, Deferred.ofValue]
    simp [invoke, hc]
  rw [this]
  refine ⟨fun h => by simp [Fw_depth] at h, ?_⟩
  rw [callsIn_Fw, show first ++ args.toArray ++ cap = (first.toList ++ args ++ cap.toList).toArray by simp]
  exact h.mono fun e w' ⟨t, u, he, hR⟩ => by subst he; exact h5 t u w' hR
/-- from the frozen memory M on: a call panics; what is owned stays -/
def PuP (P : Program) (fv : Value) (M : Hp) (args : List Value) : Prop :=
  ∀ w M1 H, Hp.le M M1 → St w M1 H → CallP P fv args w (fun _ w' => ∃ M2, Hp.le M1 M2 ∧ St w' M2 H)
theorem PuP.le {fv : Value} {M M' : Hp} {args : List Value} (h : PuP P fv M args) (hM : Hp.le M M') : PuP P fv M' args := fun w M1 H h1 => h w M1 H (hM.trans h1)
/-- a function without arguments that panics -/
def PF0P (P : Program) (fv : Value) (M : Hp) : Prop := fv.oneCell' = true ∧ PuP P fv M []
theorem PF0P.le {fv : Value} {M M' : Hp} (h : PF0P P fv M) (hM : Hp.le M M') : PF0P P fv M' := ⟨h.1, h.2.le hM⟩
variable {Q : Exit → Act → World → Prop} {a : Act} {w : World} {n : Nat} {ds : List Deferred} {l : List (Nat × Value)} {fn : Func} {R : Ending → World → Prop} {M : Hp} {H : List HProp} {next : Act → World → Prop} {r : Option Nat}
end
section
variable {P : Program} {a : Act} {w : World} {n : Nat} {ds : List Deferred} {l : List (Nat × Value)} {d : Nat} {ty t t' el : TypeId} {pos : String} {af : Array Edge} {gd : Option (Nat × Bool)} {x y : Operand} {v : Value} {l' : List Int}
end
/-! floats: the ceiling of a quotient of small whole numbers is a small whole number -/
section
open Ieee
end
section
variable {P : Program} {a : Act} {w : World} {n : Nat} {ds : List Deferred} {l : List (Nat × Value)} {d : Nat} {ty t t' : TypeId} {pos : String} {af : Array Edge} {gd : Option (Nat × Bool)} {x y : Operand} {κ : IntKind} {i : Int}
end
/-! texts: values .string (bs l) with l a list of bytes -/
def bs (l : List UInt8) : ByteArray := ⟨l.toArray⟩
theorem bs_size (l : List UInt8) : (bs l).size = l.length := by simp [bs, ByteArray.size]
theorem bs_tl (l : List UInt8) : (bs l).toList = l := ByteArray.toList_mk l
theorem bs_append (a b : List UInt8) : bs a ++ bs b = bs (a ++ b) := by
  apply ByteArray.ext; simp [bs]
theorem bs_get (l : List UInt8) (i : Nat) : (bs l)[i]? = l[i]? := by
  by_cases h : i < l.length
  · rw [ByteArray.getElem?_lt' _ _ (by rw [bs_size]; exact h), List.getElem?_eq_getElem h]; rfl
  · rw [ByteArray.getElem?_ge' _ _ (by rw [bs_size]; exact h), List.getElem?_eq_none (by omega)]
theorem bs_extract (l : List UInt8) (lo hi : Nat) : (bs l).extract lo hi = bs ((l.take hi).drop lo) := by
  apply ByteArray.ext
  simp [bs, ByteArray.data_extract, List.drop_take]
def RTx : Hp → List Value → List UInt8 → Prop := fun _ cs x => cs = [.string (bs x)]
theorem RTx_mono : RMono RTx := fun _ _ _ _ _ h => h
theorem one_RTx : ROne RTx := by intro M cs x h u hu; rw [show cs = _ from h] at hu; simp at hu; rw [hu]; rfl
theorem RdTx.at {M : Hp} {v : Value} {l : List (List UInt8)} {k : Nat} {e : List UInt8} (h : RdS 1 RTx M v l) (he : l[k]? = some e) : ∃ p, IdxPtr v k 1 p ∧ cellM M p = some (.string (bs e)) := by
  obtain ⟨p, cs, h1, h2, h3, h4⟩ := RdS.at h he
  have h5 : cs = [.string (bs e)] := h3
  subst h5
  exact ⟨p, h1, h4 0 _ rfl⟩
section
variable {P : Program} {a : Act} {w : World} {n : Nat} {ds : List Deferred} {l : List (Nat × Value)} {d : Nat} {ty t t' : TypeId} {pos : String} {af : Array Edge} {gd : Option (Nat × Bool)} {x y z : Operand} {κ κ' : IntKind} {s s' : List UInt8} {i j : Int} {lo up : Nat}
theorem R_lenS (E : Env a n ds l) (hx : opv l x = some (.string (bs s))) (hu : P.underlying t = some .string) :
    (execOp a.eval ⟨some d, .call ⟨.builtin .len, #[x], #[t]⟩, ty, pos, af, gd⟩).run P w = .ok (.value (.int .i64 ((s.length : Nat) : Int))) w := by
  simp [execOp, resolve, invoke, builtin, E.eval hx, Builtin.len_, Builtin.lenOf, run_underlying hu, goInt, bs_size, Result.andThen]
theorem R_indexS {b : UInt8} (E : Env a n ds l) (hx : opv l x = some (.string (bs s))) (hy : opv l y = some (.int κ i)) (hu : P.underlying t = some .string) (hi : i = (lo : Int)) (hb : s[lo]? = some b) :
    (execOp a.eval ⟨some d, .index t x y, ty, pos, af, gd⟩).run P w = .ok (.value (.int .u8 ((b.toNat : Nat) : Int))) w := by
  subst hi
  simp [execOp, E.eval hx, E.eval hy, Instr.index, asIntOf, run_underlying hu, bs_get, hb]
theorem R_neqS (E : Env a n ds l) (hx : opv l x = some (.string (bs s))) (hy : opv l y = some (.string (bs s'))) :
    (execOp a.eval ⟨some d, .binOp .neq t x y t', ty, pos, af, gd⟩).run P w = .ok (.value (.bool (decide (s ≠ s')))) w := by
  simp only [execOp, E.eval hx, E.eval hy]
  by_cases h : s = s' <;> simp [eqGuard, binOp, Op.stringOp, bs_tl, h]
theorem R_addS (E : Env a n ds l) (hx : opv l x = some (.string (bs s))) (hy : opv l y = some (.string (bs s'))) (hl : s.length + s'.length ≤ 1000000000000) :
    (execOp a.eval ⟨some d, .binOp .add t x y t', ty, pos, af, gd⟩).run P w = .ok (.value (.string (bs (s ++ s')))) w := by
  have h : ¬ (IntKind.i64.max < ((bs s).size : Int) + ((bs s').size : Int)) := by rw [bs_size, bs_size]; simp [IntKind.max, IntKind.signed, IntKind.bits]; omega
  have h5 : ((bs s).size : Int) + ((bs s').size : Int) ≤ 9223372036854775807 := by rw [bs_size, bs_size]; omega
  simp [execOp, E.eval hx, E.eval hy, eqGuard, binOp, Op.stringOp, h, h5, bs_append]
theorem R_sliceSL (E : Env a n ds l) (hx : opv l x = some (.string (bs s))) (hy : opv l y = some (.int κ i)) (hu : P.underlying t = some .string) (hi : i = (lo : Int)) (h1 : lo ≤ s.length) :
    (execOp a.eval ⟨some d, .slice t x (some y) none none, ty, pos, af, gd⟩).run P w = .ok (.value (.string (bs (s.drop lo)))) w := by
  subst hi
  have h2 : (lo : Int) ≤ ((bs s).size : Int) := by rw [bs_size]; omega
  simp [execOp, E.eval hx, E.eval hy, Instr.sliceAt, Instr.slice, Instr.sliceBounds, Instr.sliceBound, asIntOf, run_underlying hu, h2, bs_extract, bs_size]
  intro h9; exfalso; omega
theorem R_sliceSH (E : Env a n ds l) (hx : opv l x = some (.string (bs s))) (hy : opv l y = some (.int κ i)) (hu : P.underlying t = some .string) (hi : i = (up : Int)) (h1 : up ≤ s.length) :
    (execOp a.eval ⟨some d, .slice t x none (some y) none, ty, pos, af, gd⟩).run P w = .ok (.value (.string (bs (s.take up)))) w := by
  subst hi
  have h2 : (up : Int) ≤ ((bs s).size : Int) := by rw [bs_size]; omega
  simp [execOp, E.eval hx, E.eval hy, Instr.sliceAt, Instr.slice, Instr.sliceBounds, Instr.sliceBound, asIntOf, run_underlying hu, h2, bs_extract]
  intro h9; exfalso; rw [bs_size] at h9; omega
end
/-! ranges over texts -/
theorem run_getObj_str {P : Program} {w : World} {i : Nat} {s : ByteArray} {p : Nat} (h : w.heap[i]? = some (.stringIter s p)) : (getObj i).run P w = .ok (.stringIter s p) w := by simp [getObj, Sem.run, h]
theorem run_setObj_str {P : Program} {w : World} {i : Nat} {s : ByteArray} {p : Nat} (o : Obj) (h : w.heap[i]? = some (.stringIter s p)) : (setObj i o).run P w = .ok () (w.putObj i o) := by simp [setObj, Sem.run, h, World.putObj]
def dec (l : List UInt8) (i : Nat) : Nat × Nat := Utf8.decode (bs l) i
section
variable {r : Option Nat} {P : Program} {Q : Exit → Act → World → Prop} {a : Act} {w : World}
  {n : Nat} {ds : List Deferred} {l : List (Nat × Value)} {d : Nat} {ty t : TypeId} {pos : String} {af : Array Edge} {gd : Option (Nat × Bool)} {x : Operand}
  {next : Act → World → Prop} {M : Hp} {H : List HProp} {s : List UInt8}
theorem X_rangeS (E : Env a n ds l) (S : St w M H) (hd : Nat.blt d n = true) (hx : opv l x = some (.string (bs s))) (hu : P.underlying t = some .string)
    (kk : ∀ a w' i, Env a n ds ((d, .pointer (some ⟨i, 0, none⟩)) :: l) → St w' M (blk i (.stringIter (bs s) 0) :: H) → next a w') : (⟨some d, .range t x, ty, pos, af, gd⟩ : Oper).wpIn (Fw r) 0 P a w next Q := by
  refine X_val E hd rfl (v := .pointer (some ⟨w.heap.size, 0, none⟩)) (w' := w.alloc (.stringIter (bs s) 0)) ?_ fun a E => kk a _ _ E (S.new (o := .stringIter (bs s) 0) rfl)
  simp [execOp, Instr.range, E.eval hx, run_underlying hu, Result.andThen]
theorem X_nextS {i p : Nat} (E : Env a n ds l) (S : St w M (blk i (.stringIter (bs s) p) :: H)) (hd : Nat.blt d n = true) (hx : opv l x = some (.pointer (some ⟨i, 0, none⟩)))
    (k0 : ∀ a, Env a n ds ((d, .tuple #[.bool false]) :: l) → s.length ≤ p → St w M (blk i (.stringIter (bs s) p) :: H) → next a w)
    (k1 : ∀ a w', Env a n ds ((d, .tuple #[.bool true, .int .i64 ((p : Nat) : Int), .int .i32 (((dec s p).1 : Nat) : Int)]) :: l) → p < s.length → St w' M (blk i (.stringIter (bs s) (p + (dec s p).2)) :: H) → next a w') :
    (⟨some d, .next x true, ty, pos, af, gd⟩ : Oper).wpIn (Fw r) 0 P a w next Q := by
  have hg := S.get
  by_cases h : p < s.length
  · refine X_val E hd rfl (v := .tuple #[.bool true, .int .i64 ((p : Nat) : Int), .int .i32 (((dec s p).1 : Nat) : Int)]) (w' := w.putObj i (.stringIter (bs s) (p + (dec s p).2))) ?_ fun a E => k1 a _ E h (S.put _)
    have h2 : p < (bs s).size := by rw [bs_size]; exact h
    simp [execOp, E.eval hx, Instr.next, run_getObj_str hg, run_setObj_str _ hg, h2, goInt, dec, Result.andThen]
  · refine X_val E hd rfl (v := .tuple #[.bool false]) (w' := w) ?_ fun a E => k0 a E (by omega) S
    have h2 : ¬ p < (bs s).size := by rw [bs_size]; exact h
    simp [execOp, E.eval hx, Instr.next, run_getObj_str hg, h2, Result.andThen]
theorem look_str {l : List (Nat × Value)} {t : Nat} {i j : List UInt8} (h : Sl.look l t = some (Value.string (bs i))) (e : i = j) : Sl.look l t = some (Value.string (bs j)) := e ▸ h
end
/-! characters -/
def szN (c : Nat) : Nat := if 194 ≤ c ∧ c ≤ 223 then 2 else if 224 ≤ c ∧ c ≤ 239 then 3 else if 240 ≤ c ∧ c ≤ 244 then 4 else 0
def szLo (c : Nat) : Nat := if c = 224 then 160 else if c = 240 then 144 else 128
def szHi (c : Nat) : Nat := if c = 237 then 159 else if c = 244 then 143 else 191
def by' (l : List UInt8) (i : Nat) : Nat := (l.getD i 0).toNat
/-- how many bytes the character has with which a text begins; 0: none -/
def szC (l : List UInt8) : Nat :=
  if by' l 0 < 128 then 1
  else if szN (by' l 0) = 0 ∨ l.length < szN (by' l 0) ∨ by' l 1 < szLo (by' l 0) ∨ szHi (by' l 0) < by' l 1 then 0
  else if (3 ≤ szN (by' l 0) ∧ (by' l 2 < 128 ∨ 191 < by' l 2)) ∨ (szN (by' l 0) = 4 ∧ (by' l 3 < 128 ∨ 191 < by' l 3)) then 0
  else szN (by' l 0)
theorem by_at {l : List UInt8} {i : Nat} {b : UInt8} (h : l[i]? = some b) : by' l i = b.toNat := by unfold by'; rw [List.getD_eq_getElem?_getD, h]; rfl
theorem by_lt (l : List UInt8) (i : Nat) : by' l i < 256 := by unfold by'; exact UInt8.toNat_lt _
theorem szN_le (c : Nat) : szN c ≤ 4 := by unfold szN; split <;> (try split) <;> (try split) <;> omega
theorem szC_le (l : List UInt8) (hl : l ≠ []) : szC l ≤ l.length := by
  have h0 : 0 < l.length := List.length_pos_iff.2 hl
  unfold szC
  split
  · omega
  split
  · omega
  rename_i h
  split <;> omega
/-- the width by which a range over a text goes on -/
def wid (l : List UInt8) : Nat := if szC l = 0 then 1 else szC l
theorem wid_pos (l : List UInt8) : 0 < wid l := by unfold wid; split <;> omega
theorem wid_le {l : List UInt8} (h : l ≠ []) : wid l ≤ l.length := by
  have := szC_le l h
  have h0 : 0 < l.length := List.length_pos_iff.2 h
  unfold wid; split <;> omega
theorem get_bs (s : List UInt8) (k : Nat) : ((bs s).get! k).toNat = by' s k := by
  unfold by' bs
  rw [List.getD_eq_getElem?_getD]
  show (s.toArray[k]!).toNat = _
  rw [getElem!_def]
  simp only [List.getElem?_toArray]
  cases s[k]? <;> rfl
def zzN (b0 b1 b2 b3 m : Nat) : Nat :=
  if b0 < 128 then 1
  else if szN b0 = 0 ∨ m < szN b0 ∨ b1 < szLo b0 ∨ szHi b0 < b1 then 0
  else if (3 ≤ szN b0 ∧ (b2 < 128 ∨ 191 < b2)) ∨ (szN b0 = 4 ∧ (b3 < 128 ∨ 191 < b3)) then 0
  else szN b0
/-- what the model decodes, in numbers -/
theorem wid_num {b0 b1 b2 b3 : Nat} {k1 k2 k3 : Prop} [Decidable k1] [Decidable k2] [Decidable k3] {m : Nat} (l0 : b0 < 256) (l1 : b1 < 256) (l2 : b2 < 256) (l3 : b3 < 256) (e1 : k1 ↔ 2 ≤ m) (e2 : k2 ↔ 3 ≤ m) (e3 : k3 ↔ 4 ≤ m) :
    (if b0 < 128 then (b0, 1)
      else if b0 / 32 = 6 ∧ k1 ∧ b1 / 64 = 2 then (if b0 % 32 * 64 + b1 % 64 ≥ 128 then (b0 % 32 * 64 + b1 % 64, 2) else (Utf8.runeError, 1))
      else if (b0 / 16 = 14 ∧ k1 ∧ b1 / 64 = 2) ∧ k2 ∧ b2 / 64 = 2 then
        (if b0 % 16 * 4096 + b1 % 64 * 64 + b2 % 64 ≥ 2048 ∧ Utf8.valid ((b0 % 16 * 4096 + b1 % 64 * 64 + b2 % 64 : Nat) : Int) = true then (b0 % 16 * 4096 + b1 % 64 * 64 + b2 % 64, 3) else (Utf8.runeError, 1))
      else if ((b0 / 8 = 30 ∧ k1 ∧ b1 / 64 = 2) ∧ k2 ∧ b2 / 64 = 2) ∧ k3 ∧ b3 / 64 = 2 then
        (if b0 % 8 * 262144 + b1 % 64 * 4096 + b2 % 64 * 64 + b3 % 64 ≥ 65536 ∧ Utf8.valid ((b0 % 8 * 262144 + b1 % 64 * 4096 + b2 % 64 * 64 + b3 % 64 : Nat) : Int) = true then (b0 % 8 * 262144 + b1 % 64 * 4096 + b2 % 64 * 64 + b3 % 64, 4) else (Utf8.runeError, 1))
      else (Utf8.runeError, 1)).2 = if zzN b0 b1 b2 b3 m = 0 then 1 else zzN b0 b1 b2 b3 m := by
  have hv : ∀ x : Nat, Utf8.valid (x : Int) = true ↔ x < 55296 ∨ (57344 ≤ x ∧ x ≤ 1114111) := fun x => by
    unfold Utf8.valid; simp; omega
  simp only [hv, e1, e2, e3]
  by_cases c0 : b0 < 128
  · have hz : zzN b0 b1 b2 b3 m = 1 := by unfold zzN; rw [if_pos c0]
    rw [hz, if_pos c0]; rfl
  rw [if_neg c0]
  by_cases h2 : 194 ≤ b0 ∧ b0 ≤ 223
  · have n2 : szN b0 = 2 := by unfold szN; rw [if_pos h2]
    have lo : szLo b0 = 128 := by unfold szLo; rw [if_neg (by omega), if_neg (by omega)]
    have hi : szHi b0 = 191 := by unfold szHi; rw [if_neg (by omega), if_neg (by omega)]
    by_cases c : 2 ≤ m ∧ b1 / 64 = 2
    · have hz : zzN b0 b1 b2 b3 m = 2 := by unfold zzN; rw [if_neg c0, n2, lo, hi, if_neg (by omega), if_neg (by omega)]
      rw [hz, if_pos ⟨by omega, c⟩, if_pos (by omega)]; rfl
    · have hz : zzN b0 b1 b2 b3 m = 0 := by unfold zzN; rw [if_neg c0, n2, lo, hi, if_pos (by omega)]
      rw [hz, if_neg (fun h => c h.2), if_neg (fun h => c h.1.2), if_neg (fun h => c h.1.1.2)]; rfl
  by_cases h3 : 224 ≤ b0 ∧ b0 ≤ 239
  · have n3 : szN b0 = 3 := by unfold szN; rw [if_neg h2, if_pos h3]
    obtain ⟨H, hi, hH⟩ : ∃ H, szHi b0 = H ∧ ((b0 = 237 ∧ H = 159) ∨ (b0 ≠ 237 ∧ H = 191)) := ⟨_, rfl, by unfold szHi; by_cases e : b0 = 237 <;> simp [e]; omega⟩
    obtain ⟨L, lo, hL⟩ : ∃ L, szLo b0 = L ∧ ((b0 = 224 ∧ L = 160) ∨ (b0 ≠ 224 ∧ L = 128)) := ⟨_, rfl, by unfold szLo; by_cases e : b0 = 224 <;> simp [e]; omega⟩
    rw [if_neg (fun h => by have := h.1; omega)]
    by_cases g : 3 ≤ m ∧ L ≤ b1 ∧ b1 ≤ H ∧ 128 ≤ b2 ∧ b2 ≤ 191
    · have hz : zzN b0 b1 b2 b3 m = 3 := by unfold zzN; rw [if_neg c0, n3, lo, hi, if_neg (by omega), if_neg (by omega)]
      rw [hz, if_pos (by omega), if_pos (by omega)]; rfl
    · have hz : zzN b0 b1 b2 b3 m = 0 := by
        unfold zzN; rw [if_neg c0, n3, lo, hi]
        by_cases d : m < 3 ∨ b1 < L ∨ H < b1
        · rw [if_pos (by omega)]
        · rw [if_neg (by omega), if_pos (by omega)]
      rw [hz]
      by_cases c : (b0 / 16 = 14 ∧ 2 ≤ m ∧ b1 / 64 = 2) ∧ 3 ≤ m ∧ b2 / 64 = 2
      · rw [if_pos c, if_neg (by omega)]; rfl
      · rw [if_neg c, if_neg (fun h => by have := h.1.1.1; omega)]; rfl
  by_cases h4 : 240 ≤ b0 ∧ b0 ≤ 244
  · have n4 : szN b0 = 4 := by unfold szN; rw [if_neg h2, if_neg h3, if_pos h4]
    obtain ⟨H, hi, hH⟩ : ∃ H, szHi b0 = H ∧ ((b0 = 244 ∧ H = 143) ∨ (b0 ≠ 244 ∧ H = 191)) := ⟨_, rfl, by unfold szHi; rw [if_neg (by omega)]; by_cases e : b0 = 244 <;> simp [e]⟩
    obtain ⟨L, lo, hL⟩ : ∃ L, szLo b0 = L ∧ ((b0 = 240 ∧ L = 144) ∨ (b0 ≠ 240 ∧ L = 128)) := ⟨_, rfl, by unfold szLo; rw [if_neg (by omega)]; by_cases e : b0 = 240 <;> simp [e]⟩
    rw [if_neg (fun h => by have := h.1; omega), if_neg (fun h => by have := h.1.1; omega)]
    by_cases g : 4 ≤ m ∧ L ≤ b1 ∧ b1 ≤ H ∧ 128 ≤ b2 ∧ b2 ≤ 191 ∧ 128 ≤ b3 ∧ b3 ≤ 191
    · have hz : zzN b0 b1 b2 b3 m = 4 := by unfold zzN; rw [if_neg c0, n4, lo, hi, if_neg (by omega), if_neg (by omega)]
      rw [hz, if_pos (by omega), if_pos (by omega)]; rfl
    · have hz : zzN b0 b1 b2 b3 m = 0 := by
        unfold zzN; rw [if_neg c0, n4, lo, hi]
        by_cases d : m < 4 ∨ b1 < L ∨ H < b1
        · rw [if_pos (by omega)]
        · rw [if_neg (by omega), if_pos (by omega)]
      rw [hz]
      by_cases c : ((b0 / 8 = 30 ∧ 2 ≤ m ∧ b1 / 64 = 2) ∧ 3 ≤ m ∧ b2 / 64 = 2) ∧ 4 ≤ m ∧ b3 / 64 = 2
      · rw [if_pos c, if_neg (by omega)]; rfl
      · rw [if_neg c]; rfl
  · have n0 : szN b0 = 0 := by unfold szN; rw [if_neg h2, if_neg h3, if_neg h4]
    have hz : zzN b0 b1 b2 b3 m = 0 := by unfold zzN; rw [if_neg c0, n0, if_pos (.inl rfl)]
    rw [hz]
    by_cases c : b0 / 32 = 6 ∧ 2 ≤ m ∧ b1 / 64 = 2
    · rw [if_pos c, if_neg (by omega)]; rfl
    · rw [if_neg c, if_neg (fun h => by have := h.1.1; omega)]
      by_cases c4 : ((b0 / 8 = 30 ∧ 2 ≤ m ∧ b1 / 64 = 2) ∧ 3 ≤ m ∧ b2 / 64 = 2) ∧ 4 ≤ m ∧ b3 / 64 = 2
      · rw [if_pos c4, if_neg (by omega)]; rfl
      · rw [if_neg c4]; rfl
theorem dec_eq (s : List UInt8) (p : Nat) (hp : p < s.length) : (dec s p).2 = wid (s.drop p) := by
  have hb : ∀ k, by' (s.drop p) k = by' s (p + k) := fun k => by unfold by'; rw [List.getD_eq_getElem?_getD, List.getElem?_drop, ← List.getD_eq_getElem?_getD]
  have hl : (s.drop p).length = s.length - p := List.length_drop
  have g : ∀ k, ((bs s).get! k).toNat = by' s k := fun k => get_bs s k
  have h := wid_num (k1 := p + 1 < s.length) (k2 := p + 2 < s.length) (k3 := p + 3 < s.length) (m := s.length - p) (by_lt s p) (by_lt s (p + 1)) (by_lt s (p + 2)) (by_lt s (p + 3)) (by omega) (by omega) (by omega)
  have hz : szC (s.drop p) = zzN (by' s p) (by' s (p + 1)) (by' s (p + 2)) (by' s (p + 3)) (s.length - p) := by
    unfold szC zzN; simp only [hb, hl, Nat.add_zero]
  unfold wid
  rw [hz]
  refine Eq.trans ?_ h
  unfold dec Utf8.decode
  simp only [g, bs_size, Nat.add_zero, Bool.and_eq_true, decide_eq_true_eq, beq_iff_eq]
/-! the reference's question, path by path -/
theorem sz_one {l : List UInt8} {b : UInt8} (h : l[0]? = some b) (hb : b.toNat < 128) : szC l = 1 := by unfold szC; rw [by_at h, if_pos hb]
theorem sz_short {l : List UInt8} {b : UInt8} {n : Nat} (h : l[0]? = some b) (hb : ¬ b.toNat < 128) (hn : szN b.toNat = n) (hs : n = 0 ∨ l.length < n) : szC l = 0 := by
  unfold szC; rw [by_at h, if_neg hb, hn, if_pos (by rcases hs with h | h; exact .inl h; exact .inr (.inl h))]
theorem sz_low {l : List UInt8} {b c : UInt8} {L : Nat} (h : l[0]? = some b) (h1 : l[1]? = some c) (hb : ¬ b.toNat < 128) (hn : szLo b.toNat = L) (hs : c.toNat < L) : szC l = 0 := by
  unfold szC; rw [by_at h, by_at h1, if_neg hb, hn, if_pos (.inr (.inr (.inl hs)))]
theorem sz_high {l : List UInt8} {b c : UInt8} {L : Nat} (h : l[0]? = some b) (h1 : l[1]? = some c) (hb : ¬ b.toNat < 128) (hn : szHi b.toNat = L) (hs : L < c.toNat) : szC l = 0 := by
  unfold szC; rw [by_at h, by_at h1, if_neg hb, hn, if_pos (.inr (.inr (.inr hs)))]
theorem sz_bad {l : List UInt8} {b c : UInt8} {n i : Nat} (h : l[0]? = some b) (h1 : l[i]? = some c) (hb : ¬ b.toNat < 128) (hn : szN b.toNat = n) (h2 : 2 ≤ i) (hi : i < n) (hc : c.toNat < 128 ∨ 191 < c.toNat) : szC l = 0 := by
  have hle := szN_le b.toNat
  have hi' : i = 2 ∨ i = 3 := by omega
  unfold szC; rw [by_at h, if_neg hb]
  split
  · rfl
  rw [if_pos]
  rcases hi' with rfl | rfl
  · rw [by_at h1]; left; exact ⟨by omega, hc⟩
  · rw [by_at h1]; right; exact ⟨by omega, hc⟩
theorem sz_good {l : List UInt8} {b c : UInt8} {n L H : Nat} (h : l[0]? = some b) (h1 : l[1]? = some c) (hb : ¬ b.toNat < 128) (hn : szN b.toNat = n) (hL : szLo b.toNat = L) (hH : szHi b.toNat = H) (h0 : n ≠ 0) (hl : n ≤ l.length) (a1 : L ≤ c.toNat) (a2 : c.toNat ≤ H)
    (ha : ∀ i, 2 ≤ i → i < n → 128 ≤ by' l i ∧ by' l i ≤ 191) : szC l = n := by
  have hle := szN_le b.toNat
  unfold szC; rw [by_at h, by_at h1, if_neg hb, hn, hL, hH, if_neg (by omega), if_neg]
  intro hx
  rcases hx with ⟨h3, h4⟩ | ⟨h3, h4⟩
  · have := ha 2 (by omega) (by omega); omega
  · have := ha 3 (by omega) (by omega); omega
theorem good_step {l : List UInt8} {k : Nat} {c : UInt8} (h : l[k]? = some c) (ha : ∀ i, 2 ≤ i → i < k → 128 ≤ by' l i ∧ by' l i ≤ 191) (h1 : ¬ c.toNat < 128) (h2 : ¬ 191 < c.toNat) : ∀ i, 2 ≤ i → i < k + 1 → 128 ≤ by' l i ∧ by' l i ≤ 191 := by
  intro i h3 h4
  by_cases e : i = k
  · subst e; rw [by_at h]; omega
  · exact ha i h3 (by omega)
/-- the characters, with whether each is one -/
def runF : Nat → List UInt8 → List (List UInt8) × Bool
  | 0, _ => ([], true)
  | f + 1, l => if l = [] then ([], true) else let r := runF f (l.drop (wid l)); (l.take (wid l) :: r.1, r.2 && decide (szC l ≠ 0))
def runs (l : List UInt8) : List (List UInt8) × Bool := runF l.length l
theorem runF_more : ∀ (f g : Nat) (l : List UInt8), l.length ≤ f → l.length ≤ g → runF f l = runF g l
  | 0, g, l, h, _ => by
    have : l = [] := List.eq_nil_of_length_eq_zero (by omega)
    subst this
    cases g <;> simp [runF]
  | f + 1, 0, l, _, h => by
    have : l = [] := List.eq_nil_of_length_eq_zero (by omega)
    subst this; simp [runF]
  | f + 1, g + 1, l, h1, h2 => by
    unfold runF
    by_cases e : l = []
    · simp [e]
    · rw [if_neg e, if_neg e]
      have hw := wid_pos l
      have hl : 0 < l.length := List.length_pos_iff.2 e
      rw [runF_more f g (l.drop (wid l)) (by rw [List.length_drop]; omega) (by rw [List.length_drop]; omega)]
theorem runs_nil : runs [] = ([], true) := rfl
theorem runs_cons {l : List UInt8} (h : l ≠ []) : runs l = (l.take (wid l) :: (runs (l.drop (wid l))).1, (runs (l.drop (wid l))).2 && decide (szC l ≠ 0)) := by
  have hl : 0 < l.length := List.length_pos_iff.2 h
  obtain ⟨n, hn⟩ : ∃ n, l.length = n + 1 := ⟨l.length - 1, by omega⟩
  have hw := wid_pos l
  unfold runs
  rw [hn]
  conv => lhs; unfold runF
  rw [if_neg h]
  rw [runF_more n (l.drop (wid l)).length (l.drop (wid l)) (by rw [List.length_drop]; omega) (Nat.le_refl _)]
theorem runs_len : ∀ (n : Nat) (l : List UInt8), l.length ≤ n → (runs l).1.length ≤ l.length
  | 0, l, h => by
    have : l = [] := List.eq_nil_of_length_eq_zero (by omega)
    subst this; simp [runs_nil]
  | n + 1, l, h => by
    by_cases e : l = []
    · subst e; simp [runs_nil]
    · have hw := wid_pos l
      have hl : 0 < l.length := List.length_pos_iff.2 e
      rw [runs_cons e]
      have := runs_len n (l.drop (wid l)) (by rw [List.length_drop]; omega)
      rw [List.length_drop] at this
      simp; omega
theorem runs_le (l : List UInt8) : (runs l).1.length ≤ l.length := runs_len l.length l (Nat.le_refl _)
theorem szN_two {c : Nat} (h : szN c ≠ 0) : 2 ≤ szN c := by
  unfold szN at h ⊢
  by_cases h2 : 194 ≤ c ∧ c ≤ 223
  · rw [if_pos h2]; omega
  by_cases h3 : 224 ≤ c ∧ c ≤ 239
  · rw [if_neg h2, if_pos h3]; omega
  by_cases h4 : 240 ≤ c ∧ c ≤ 244
  · rw [if_neg h2, if_neg h3, if_pos h4]; omega
  · rw [if_neg h2, if_neg h3, if_neg h4] at h; exact absurd rfl h
theorem szC_app {a b : List UInt8} (h : szC a ≠ 0) (ha : a ≠ []) : szC (a ++ b) = szC a := by
  have hle := szC_le a ha
  have hl : 0 < a.length := List.length_pos_iff.2 ha
  have g : ∀ i, i < a.length → by' (a ++ b) i = by' a i := fun i hi => by
    unfold by'; rw [List.getD_eq_getElem?_getD, List.getD_eq_getElem?_getD, List.getElem?_append_left hi]
  have g0 := g 0 hl
  revert hle
  unfold szC at h ⊢
  rw [g0]
  by_cases c : by' a 0 < 128
  · rw [if_pos c, if_pos c]; intro _; rfl
  rw [if_neg c] at h ⊢
  rw [if_neg c]
  by_cases d : szN (by' a 0) = 0 ∨ a.length < szN (by' a 0) ∨ by' a 1 < szLo (by' a 0) ∨ szHi (by' a 0) < by' a 1
  · rw [if_pos d] at h; exact absurd rfl h
  rw [if_neg d] at h ⊢
  have h2 : 2 ≤ szN (by' a 0) := szN_two fun e => d (.inl e)
  have d' : ¬ (szN (by' a 0) = 0 ∨ (a ++ b).length < szN (by' a 0) ∨ by' a 1 < szLo (by' a 0) ∨ szHi (by' a 0) < by' a 1) := by rw [List.length_append]; omega
  rw [g 1 (by omega), if_neg d']
  by_cases e : (3 ≤ szN (by' a 0) ∧ (by' a 2 < 128 ∨ 191 < by' a 2)) ∨ (szN (by' a 0) = 4 ∧ (by' a 3 < 128 ∨ 191 < by' a 3))
  · rw [if_pos e] at h; exact absurd rfl h
  rw [if_neg e]
  intro _
  refine if_neg ?_
  intro hx
  rcases hx with ⟨h3, h4⟩ | ⟨h3, h4⟩
  · rw [g 2 (by omega)] at h4; exact e (.inl ⟨h3, h4⟩)
  · rw [g 3 (by omega)] at h4; exact e (.inr ⟨h3, h4⟩)
theorem runs_app : ∀ (n : Nat) (a b : List UInt8), a.length ≤ n → (runs a).2 = true → (runs (a ++ b)).1.length = (runs a).1.length + (runs b).1.length
  | 0, a, b, h, _ => by
    have : a = [] := List.eq_nil_of_length_eq_zero (by omega)
    subst this; simp [runs_nil]
  | n + 1, a, b, h, ht => by
    by_cases e : a = []
    · subst e; simp [runs_nil]
    · have hw := wid_pos a
      have hl : 0 < a.length := List.length_pos_iff.2 e
      rw [runs_cons e] at ht
      simp only [Bool.and_eq_true, decide_eq_true_eq] at ht
      have hs := szC_app (b := b) ht.2 e
      have hwd : wid (a ++ b) = wid a := by unfold wid; rw [hs]
      have hwl := wid_le e
      have ih := runs_app n (a.drop (wid a)) b (by rw [List.length_drop]; omega) ht.1
      rw [runs_cons e, runs_cons (l := a ++ b) (by simp [e]), hwd, List.drop_append_of_le_length hwl]
      simp only [List.length_cons]; omega
theorem rn_le {s : List UInt8} {p : Nat} (h : p < s.length) : p + wid (s.drop p) ≤ s.length := by
  have := wid_le (l := s.drop p) (by intro e; have := congrArg List.length e; simp at this; omega)
  rw [List.length_drop] at this; omega
theorem rn_ne {s : List UInt8} {p : Nat} (h : p < s.length) : s.drop p ≠ [] := by intro e; have := congrArg List.length e; simp at this; omega
theorem rn_step {s : List UInt8} {p : Nat} (h : p < s.length) : (runs (s.drop p)).1.length = (runs (s.drop (p + wid (s.drop p)))).1.length + 1 := by
  rw [runs_cons (rn_ne h), List.drop_drop]; rfl
def posn (s : List UInt8) : Nat → Nat
  | 0 => 0
  | k + 1 => posn s k + wid (s.drop (posn s k))
def okk (s : List UInt8) : Nat → Bool
  | 0 => true
  | k + 1 => okk s k && decide (szC (s.drop (posn s k)) ≠ 0)
def Rn (s : List UInt8) (k : Nat) : Prop := posn s k ≤ s.length ∧ k ≤ posn s k ∧ (runs (s.drop (posn s k))).1 = (runs s).1.drop k ∧ (runs s).2 = (okk s k && (runs (s.drop (posn s k))).2)
theorem Rn_zero (s : List UInt8) : Rn s 0 := ⟨by simp [posn], by simp [posn], by simp [posn], by simp [posn, okk]⟩
theorem Rn_lt {s : List UInt8} {k : Nat} (h : Rn s k) (hne : s.drop (posn s k) ≠ []) : posn s k < s.length := by
  have := List.length_pos_iff.2 hne; rw [List.length_drop] at this; omega
theorem Rn_step {s : List UInt8} {k : Nat} (h : Rn s k) (hne : s.drop (posn s k) ≠ []) : Rn s (k + 1) := by
  obtain ⟨h1, h1', h2, h3⟩ := h
  have hlt := Rn_lt ⟨h1, h1', h2, h3⟩ hne
  have hw := wid_pos (s.drop (posn s k))
  have e := runs_cons hne
  rw [List.drop_drop] at e
  refine ⟨rn_le hlt, by show k + 1 ≤ posn s k + wid (s.drop (posn s k)); omega, ?_, ?_⟩
  · show (runs (s.drop (posn s k + wid (s.drop (posn s k))))).1 = _
    rw [← List.drop_drop (i := 1) (j := k), ← h2, e]; rfl
  · show _ = (okk s k && decide (szC (s.drop (posn s k)) ≠ 0) && (runs (s.drop (posn s k + wid (s.drop (posn s k))))).2)
    rw [h3, e]
    cases okk s k <;> cases (runs (s.drop (posn s k + wid (s.drop (posn s k))))).2 <;> cases decide (szC (s.drop (posn s k)) ≠ 0) <;> rfl
theorem Rn_end {s : List UInt8} {k : Nat} (h : Rn s k) (he : s.drop (posn s k) = []) : (runs s).1.take k = (runs s).1 ∧ okk s k = (runs s).2 := by
  obtain ⟨h1, h1', h2, h3⟩ := h
  rw [he] at h2 h3
  refine ⟨?_, by rw [h3]; simp [runs_nil]⟩
  have := congrArg List.length h2
  rw [List.length_drop, runs_nil] at this
  exact List.take_of_length_le (by simp at this; omega)
theorem Rn_take {s : List UInt8} {k : Nat} (h : Rn s k) (hne : s.drop (posn s k) ≠ []) : (runs s).1.take (k + 1) = (runs s).1.take k ++ [(s.drop (posn s k)).take (wid (s.drop (posn s k)))] := by
  obtain ⟨h1, h1', h2, h3⟩ := h
  have e := congrArg Prod.fst (runs_cons hne)
  rw [h2] at e
  have e1 : (runs s).1[k]? = some ((s.drop (posn s k)).take (wid (s.drop (posn s k)))) := by
    have := congrArg (fun p => p[0]?) e
    simpa [List.getElem?_drop] using this
  rw [List.take_add_one, e1]; rfl

set_option maxRecDepth 100000 in
set_option maxHeartbeats 4000000 in
theorem utf8_RuneCountInString {M : Hp} {s0 : List UInt8} (hb0 : s0.length ≤ 1000000000000)  :
    Pu Try.prog (.func (.func 104) #[] #[]) M [.string (bs s0)] (fun r M' => r = .int .i64 (((runs s0).1.length : Nat) : Int)) := by
  refine Pu_enter Try.func104 rfl Try.ntmps104 rfl Try.call104 ?_
  intro a w M1 H hM1 S E
  refine WP_seq ?_
  refine WP_region ?_
  refine S_v E rfl (R_assign E rfl) rfl ?_
  clear E a; intro a E
  refine WL_nil ?_
  refine T_n ?_
  refine WP_seq ?_
  refine WP_seq ?_
  refine WP_region ?_
  refine S_v E rfl (R_move E rfl) rfl ?_
  clear E a; intro a E
  refine S_x (X_rangeS E S rfl rfl Try.underlying9 ?_)
  clear E a S; rintro a w i_1 E S
  refine WL_nil ?_
  refine T_n ?_
  refine WP_block ?_
  refine WP_loop (γ := Nat) (fun (p : Nat) a w => ∃ (M_2 : Hp), Hp.le M1 M_2 ∧ St w M_2 (blk i_1 (.stringIter (bs s0) p) :: H) ∧ Env a 10 [] [(2, .int .i64 ((((runs s0).1.length - (runs (s0.drop p)).1.length) : Nat) : Int)), (4, .pointer (some ⟨i_1, 0, none⟩))] ∧ (p ≤ s0.length) ∧ ((runs (s0.drop p)).1.length ≤ (runs s0).1.length)) (fun p => s0.length - p) 0 ⟨M1, Hp.le.refl _, S, E.keep ⟨look_nat (i := 0) rfl (by (simp)), rfl, trivial⟩, (by omega), (by simp)⟩ ?_
  try clear E
  try clear S
  try clear a
  try clear w
  rintro p a w ⟨M_2, hM_2, S, E, hL0_0, hL0_1⟩
  have hrl := runs_le s0
  refine WP_seq ?_
  refine WP_region ?_
  refine S_x (X_nextS E S rfl rfl ?_ ?_)
  · clear E a S; rintro a E hps_3 S
    refine S_v E rfl (R_extract E rfl rfl) rfl ?_
    clear E a; intro a E
    refine WL_nil ?_
    refine T_n ?_
    refine WP_seq ?_
    refine WP_condF E rfl rfl ?_
    refine WP_exit ?_
    refine T_x ?_
    refine T_x ?_
    refine B_x ?_
    refine T_n ?_
    refine WP_seq ?_
    refine WP_region ?_
    refine S_v E rfl (R_move E rfl) rfl ?_
    clear E a; intro a E
    refine S_v E rfl (R_assign E rfl) rfl ?_
    clear E a; intro a E
    refine WL_nil ?_
    refine T_n ?_
    refine WP_ret ?_
    exact F_ret1 E Try.results104 rfl ⟨_, rfl, M_2, hM_2, (congrArg (Value.int .i64) (by (rw [List.drop_eq_nil_of_le (by assumption)]; simp [runs_nil]))), S.drop⟩
  · clear E a S w; rintro a w E hps_4 S
    have hde := dec_eq s0 p hps_4
    have hlt := hps_4
    refine S_v E rfl (R_extract E rfl rfl) rfl ?_
    clear E a; intro a E
    refine WL_nil ?_
    refine T_n ?_
    refine WP_seq ?_
    refine WP_condT E rfl rfl ?_
    refine WP_skip ?_
    refine T_n ?_
    refine WP_block ?_
    refine WP_region ?_
    refine S_v E rfl (R_move E rfl) rfl ?_
    clear E a; intro a E
    refine S_v E rfl (R_addx (m := ((((runs s0).1.length - (runs (s0.drop p)).1.length) + 1 : Nat) : Int)) E rfl rfl (by omega) (by omega)) rfl ?_
    clear E a; intro a E
    refine S_v E rfl (R_assign E rfl) rfl ?_
    clear E a; intro a E
    refine WL_nil ?_
    refine B_n ?_
    refine T_n ?_
    replace S := S.as (q := blk i_1 (.stringIter (bs s0) (p + wid (s0.drop p)))) (congrArg (fun z => blk i_1 (.stringIter (bs s0) z)) (show p + (dec s0 p).2 = (p + wid (s0.drop p)) by omega))
    exact ⟨p + wid (s0.drop p), ⟨M_2, hM_2, S, E.keep ⟨look_nat (i := ((runs s0).1.length - (runs (s0.drop p)).1.length) + 1) rfl (by (have h9 := rn_step (by assumption); omega)), rfl, trivial⟩, (by exact rn_le (by assumption)), (by have h9 := rn_step (by assumption); omega)⟩, (by have h9 := wid_pos (s0.drop p); have h8 := rn_le (by assumption); omega)⟩

set_option maxRecDepth 100000 in
set_option maxHeartbeats 4000000 in
theorem lo_RuneLength {M : Hp} {s0 : List UInt8} (hb0 : s0.length ≤ 1000000000000)  :
    Pu Try.prog (.func (.func 58) #[] #[]) M [.string (bs s0)] (fun r M' => r = .int .i64 (((runs s0).1.length : Nat) : Int)) := by
  refine Pu_enter Try.func58 rfl Try.ntmps58 rfl Try.call58 ?_
  intro a w M1 H hM1 S E
  refine WP_seq ?_
  refine WP_region ?_
  refine S_v E rfl (R_assign E rfl) rfl ?_
  clear E a; intro a E
  refine WL_nil ?_
  refine T_n ?_
  refine WP_seq ?_
  refine WP_region ?_
  refine S_v E rfl (R_move E rfl) rfl ?_
  clear E a; intro a E
  refine S_x (X_pu E S rfl rfl rfl (utf8_RuneCountInString (by first | assumption | omega | (simp; done) | (simp; omega))) (Hp.le.refl _) ?_)
  clear E a S; rintro a _ w M_1 hM_1 rfl S E
  refine S_v E rfl (R_assign E rfl) rfl ?_
  clear E a; intro a E
  refine WL_nil ?_
  refine T_n ?_
  refine WP_ret ?_
  exact F_ret1 E Try.results58 rfl ⟨_, rfl, M_1, hM_1, rfl, S⟩

set_option maxRecDepth 100000 in
set_option maxHeartbeats 4000000 in
theorem impl_RuneLength {M : Hp} {s0 : List UInt8} (hb0 : s0.length ≤ 1000000000000)  :
    Pu Try.prog (.func (.func 10) #[] #[]) M [.string (bs s0)] (fun r M' => r = .int .i64 (((runs s0).1.length : Nat) : Int)) := by
  refine Pu_enter Try.func10 rfl Try.ntmps10 rfl Try.call10 ?_
  intro a w M1 H hM1 S E
  refine WP_seq ?_
  refine WP_region ?_
  refine S_v E rfl (R_assign E rfl) rfl ?_
  clear E a; intro a E
  refine WL_nil ?_
  refine T_n ?_
  refine WP_seq ?_
  refine WP_region ?_
  refine S_v E rfl (R_move E rfl) rfl ?_
  clear E a; intro a E
  refine S_x (X_pu E S rfl rfl rfl (lo_RuneLength (by first | assumption | omega | (simp; done) | (simp; omega))) (Hp.le.refl _) ?_)
  clear E a S; rintro a _ w M_1 hM_1 rfl S E
  refine S_v E rfl (R_assign E rfl) rfl ?_
  clear E a; intro a E
  refine WL_nil ?_
  refine T_n ?_
  refine WP_ret ?_
  exact F_ret1 E Try.results10 rfl ⟨_, rfl, M_1, hM_1, rfl, S⟩

set_option maxRecDepth 100000 in
set_option maxHeartbeats 4000000 in
theorem laws_long {M : Hp} {s0 : List UInt8}  :
    Pu Try.prog (.func (.func 11) #[] #[]) M [.string (bs s0)] (fun r M' => r = .bool (decide (3000 < ((s0).length : Int)))) := by
  refine Pu_enter Try.func11 rfl Try.ntmps11 rfl Try.call11 ?_
  intro a w M1 H hM1 S E
  refine WP_seq ?_
  refine WP_region ?_
  refine S_v E rfl (R_assign E rfl) rfl ?_
  clear E a; intro a E
  refine WL_nil ?_
  refine T_n ?_
  refine WP_seq ?_
  refine WP_region ?_
  refine S_v E rfl (R_move E rfl) rfl ?_
  clear E a; intro a E
  refine S_v E rfl (R_lenS E rfl Try.underlying9) rfl ?_
  clear E a; intro a E
  refine S_v E rfl (R_gtr E rfl rfl) rfl ?_
  clear E a; intro a E
  refine S_v E rfl (R_assign E rfl) rfl ?_
  clear E a; intro a E
  refine WL_nil ?_
  refine T_n ?_
  refine WP_ret ?_
  exact F_ret1 E Try.results11 rfl ⟨_, rfl, M1, (Hp.le.refl _), (congrArg Value.bool (by ((try clear S); (try clear E); first | assumption | omega | rfl | (simp; done) | (simp_all; done) | (simp [List.take_add_one, *]; done) | grind [List.take_add_one]))), S⟩

set_option maxRecDepth 100000 in
set_option maxHeartbeats 4000000 in
theorem spec_size {M : Hp} {s0 : List UInt8} (hne : s0 ≠ []) :
    Pu Try.prog (.func (.func 59) #[] #[]) M [.string (bs s0)] (fun r M' => r = .int .i64 ((szC s0 : Nat) : Int)) := by
  refine Pu_enter Try.func59 rfl Try.ntmps59 rfl Try.call59 ?_
  intro a w M1 H hM1 S E
  have hl0 : 0 < s0.length := List.length_pos_iff.2 hne
  refine WP_seq ?_
  refine WP_region ?_
  refine S_v E rfl (R_assign E rfl) rfl ?_
  clear E a; intro a E
  refine WL_nil ?_
  refine T_n ?_
  refine WP_seq ?_
  refine WP_region ?_
  refine S_v E rfl (R_move E rfl) rfl ?_
  clear E a; intro a E
  obtain ⟨c_1, hc_1⟩ : ∃ x, (s0)[0]? = some x := ⟨_, List.getElem?_eq_getElem (by (first | omega | (have hz2 := szN_two (c := c_1.toNat) (by omega); omega)))⟩
  have rc_1 := UInt8.toNat_lt c_1
  refine S_v E rfl (R_indexS (lo := 0) E rfl rfl Try.underlying9 (by omega) hc_1) rfl ?_
  clear E a; intro a E
  refine S_v E rfl (R_assign E rfl) rfl ?_
  clear E a; intro a E
  refine S_v E rfl (R_assign E rfl) rfl ?_
  clear E a; intro a E
  refine WL_nil ?_
  refine T_n ?_
  refine WP_seq ?_
  refine WP_region ?_
  refine S_v E rfl (R_assign E rfl) rfl ?_
  clear E a; intro a E
  refine S_v E rfl (R_assign E rfl) rfl ?_
  clear E a; intro a E
  refine WL_nil ?_
  refine T_n ?_
  refine WP_seq ?_
  refine WP_join (fun a w => ∃ (M_2 : Hp), Hp.le M1 M_2 ∧ St w M_2 (H) ∧ Env a 79 [] [(0, .string (bs s0)), (3, .int .u8 ((c_1.toNat : Nat) : Int)), (4, .int .i64 ((szN c_1.toNat : Nat) : Int)), (5, .int .u8 128), (6, .int .u8 191)] ∧ (¬ c_1.toNat < 128)) ?_ ?_
  · refine WP_block ?_
    refine WP_seq ?_
    refine WP_region ?_
    refine S_v E rfl (R_move E rfl) rfl ?_
    clear E a; intro a E
    refine S_v E rfl (R_lss E rfl rfl) rfl ?_
    clear E a; intro a E
    refine S_v E rfl (R_assign E rfl) rfl ?_
    clear E a; intro a E
    refine WL_nil ?_
    refine T_n ?_
    refine WP_cond E rfl (fun hc_3 => ?_) (fun hc_3 => ?_)
    · replace hc_3 := of_decide_eq_true hc_3
      refine WP_seq ?_
      refine WP_region ?_
      refine S_v E rfl (R_assign E rfl) rfl ?_
      clear E a; intro a E
      refine WL_nil ?_
      refine T_n ?_
      refine WP_ret ?_
      refine B_r ?_
      refine .inr ⟨by simp, ?_⟩
      refine T_r ?_
      exact F_ret1 E Try.results59 rfl ⟨_, rfl, M1, (Hp.le.refl _), (congrArg (Value.int .i64) (by (first | (have h9 : szC s0 = 1 := sz_one (by assumption) (by omega); rw [h9]; rfl) | (have h9 : szC s0 = 0 := sz_short (by assumption) (by omega) rfl (.inl (by omega)); rw [h9]; rfl) | (have h9 : szC s0 = 0 := sz_short (by assumption) (by omega) rfl (.inr (by omega)); rw [h9]; rfl) | (have h9 : szC s0 = 0 := sz_low (by assumption) (by assumption) (by omega) rfl (by omega); rw [h9]; rfl) | (have h9 : szC s0 = 0 := sz_high (by assumption) (by assumption) (by omega) rfl (by omega); rw [h9]; rfl) | (have h9 : szC s0 = 0 := sz_bad (i := k) (by assumption) (by assumption) (by omega) rfl (by omega) (by omega) (by omega); rw [h9]; rfl) | (have h9 : szC s0 = szN c_1.toNat := sz_good (by assumption) (by assumption) (by omega) rfl rfl rfl (by omega) (by omega) (by omega) (by omega) (fun i h1 h2 => hL0_0 i h1 (by omega)); rw [h9])))), S⟩
    · replace hc_3 := of_decide_eq_false hc_3
      refine WP_seq ?_
      refine WP_region ?_
      refine S_v E rfl (R_move E rfl) rfl ?_
      clear E a; intro a E
      refine S_v E rfl (R_geq E rfl rfl) rfl ?_
      clear E a; intro a E
      refine S_v E rfl (R_move E rfl) rfl ?_
      clear E a; intro a E
      refine split_bool (decide (194 ≤ ((c_1.toNat : Nat) : Int))) (fun hc_4 => ?_) (fun hc_4 => ?_)
      · replace E := E.val (t := 15) rfl hc_4
        replace E := E.val (t := 16) rfl hc_4
        replace hc_4 := of_decide_eq_true hc_4
        refine WL_guard_yes E rfl rfl ?_
        refine S_v E rfl (R_move E rfl) rfl ?_
        clear E a; intro a E
        refine WL_guard_yes E rfl rfl ?_
        refine S_v E rfl (R_leq E rfl rfl) rfl ?_
        clear E a; intro a E
        refine S_v E rfl (R_pickT E rfl rfl) rfl ?_
        clear E a; intro a E
        refine S_v E rfl (R_assign E rfl) rfl ?_
        clear E a; intro a E
        refine WL_nil ?_
        refine T_n ?_
        refine WP_cond E rfl (fun hc_5 => ?_) (fun hc_5 => ?_)
        · replace hc_5 := of_decide_eq_true hc_5
          refine WP_region ?_
          refine S_v E rfl (R_assign E rfl) rfl ?_
          clear E a; intro a E
          refine WL_nil ?_
          refine B_n ?_
          refine .inl ⟨rfl, ?_⟩
          exact ⟨M1, (Hp.le.refl _), S, E.keep ⟨rfl, rfl, (look_int (i := 2) rfl (by (first | omega | (unfold szN; (repeat' split) <;> omega) | (unfold szLo; (repeat' split) <;> omega) | (unfold szHi; (repeat' split) <;> omega)))), rfl, rfl, trivial⟩, (by (first | omega | (unfold szN; (repeat' split) <;> omega) | (unfold szLo; (repeat' split) <;> omega) | (unfold szHi; (repeat' split) <;> omega)))⟩
        · replace hc_5 := of_decide_eq_false hc_5
          refine WP_seq ?_
          refine WP_region ?_
          refine S_v E rfl (R_move E rfl) rfl ?_
          clear E a; intro a E
          refine S_v E rfl (R_geq E rfl rfl) rfl ?_
          clear E a; intro a E
          refine S_v E rfl (R_move E rfl) rfl ?_
          clear E a; intro a E
          refine split_bool (decide (224 ≤ ((c_1.toNat : Nat) : Int))) (fun hc_6 => ?_) (fun hc_6 => ?_)
          · replace E := E.val (t := 22) rfl hc_6
            replace E := E.val (t := 23) rfl hc_6
            replace hc_6 := of_decide_eq_true hc_6
            refine WL_guard_yes E rfl rfl ?_
            refine S_v E rfl (R_move E rfl) rfl ?_
            clear E a; intro a E
            refine WL_guard_yes E rfl rfl ?_
            refine S_v E rfl (R_leq E rfl rfl) rfl ?_
            clear E a; intro a E
            refine S_v E rfl (R_pickT E rfl rfl) rfl ?_
            clear E a; intro a E
            refine S_v E rfl (R_assign E rfl) rfl ?_
            clear E a; intro a E
            refine WL_nil ?_
            refine T_n ?_
            refine WP_cond E rfl (fun hc_7 => ?_) (fun hc_7 => ?_)
            · replace hc_7 := of_decide_eq_true hc_7
              refine WP_region ?_
              refine S_v E rfl (R_assign E rfl) rfl ?_
              clear E a; intro a E
              refine WL_nil ?_
              refine B_n ?_
              refine .inl ⟨rfl, ?_⟩
              exact ⟨M1, (Hp.le.refl _), S, E.keep ⟨rfl, rfl, (look_int (i := 3) rfl (by (first | omega | (unfold szN; (repeat' split) <;> omega) | (unfold szLo; (repeat' split) <;> omega) | (unfold szHi; (repeat' split) <;> omega)))), rfl, rfl, trivial⟩, (by (first | omega | (unfold szN; (repeat' split) <;> omega) | (unfold szLo; (repeat' split) <;> omega) | (unfold szHi; (repeat' split) <;> omega)))⟩
            · replace hc_7 := of_decide_eq_false hc_7
              refine WP_seq ?_
              refine WP_region ?_
              refine S_v E rfl (R_move E rfl) rfl ?_
              clear E a; intro a E
              refine S_v E rfl (R_geq E rfl rfl) rfl ?_
              clear E a; intro a E
              refine S_v E rfl (R_move E rfl) rfl ?_
              clear E a; intro a E
              refine split_bool (decide (240 ≤ ((c_1.toNat : Nat) : Int))) (fun hc_8 => ?_) (fun hc_8 => ?_)
              · replace E := E.val (t := 29) rfl hc_8
                replace E := E.val (t := 30) rfl hc_8
                replace hc_8 := of_decide_eq_true hc_8
                refine WL_guard_yes E rfl rfl ?_
                refine S_v E rfl (R_move E rfl) rfl ?_
                clear E a; intro a E
                refine WL_guard_yes E rfl rfl ?_
                refine S_v E rfl (R_leq E rfl rfl) rfl ?_
                clear E a; intro a E
                refine S_v E rfl (R_pickT E rfl rfl) rfl ?_
                clear E a; intro a E
                refine S_v E rfl (R_assign E rfl) rfl ?_
                clear E a; intro a E
                refine WL_nil ?_
                refine T_n ?_
                refine WP_cond E rfl (fun hc_9 => ?_) (fun hc_9 => ?_)
                · replace hc_9 := of_decide_eq_true hc_9
                  refine WP_region ?_
                  refine S_v E rfl (R_assign E rfl) rfl ?_
                  clear E a; intro a E
                  refine WL_nil ?_
                  refine B_n ?_
                  refine .inl ⟨rfl, ?_⟩
                  exact ⟨M1, (Hp.le.refl _), S, E.keep ⟨rfl, rfl, (look_int (i := 4) rfl (by (first | omega | (unfold szN; (repeat' split) <;> omega) | (unfold szLo; (repeat' split) <;> omega) | (unfold szHi; (repeat' split) <;> omega)))), rfl, rfl, trivial⟩, (by (first | omega | (unfold szN; (repeat' split) <;> omega) | (unfold szLo; (repeat' split) <;> omega) | (unfold szHi; (repeat' split) <;> omega)))⟩
                · replace hc_9 := of_decide_eq_false hc_9
                  refine WP_skip ?_
                  refine B_n ?_
                  refine .inl ⟨rfl, ?_⟩
                  exact ⟨M1, (Hp.le.refl _), S, E.keep ⟨rfl, rfl, (look_int (i := 0) rfl (by (first | omega | (unfold szN; (repeat' split) <;> omega) | (unfold szLo; (repeat' split) <;> omega) | (unfold szHi; (repeat' split) <;> omega)))), rfl, rfl, trivial⟩, (by (first | omega | (unfold szN; (repeat' split) <;> omega) | (unfold szLo; (repeat' split) <;> omega) | (unfold szHi; (repeat' split) <;> omega)))⟩
              · replace E := E.val (t := 29) rfl hc_8
                replace E := E.val (t := 30) rfl hc_8
                replace hc_8 := of_decide_eq_false hc_8
                refine WL_guard_no E rfl rfl rfl rfl fun a E => ?_
                refine WL_guard_no E rfl rfl rfl rfl fun a E => ?_
                refine S_v E rfl (R_pickF E rfl rfl) rfl ?_
                clear E a; intro a E
                refine S_v E rfl (R_assign E rfl) rfl ?_
                clear E a; intro a E
                refine WL_nil ?_
                refine T_n ?_
                refine WP_condF E rfl rfl ?_
                refine WP_skip ?_
                refine B_n ?_
                refine .inl ⟨rfl, ?_⟩
                exact ⟨M1, (Hp.le.refl _), S, E.keep ⟨rfl, rfl, (look_int (i := 0) rfl (by (first | omega | (unfold szN; (repeat' split) <;> omega) | (unfold szLo; (repeat' split) <;> omega) | (unfold szHi; (repeat' split) <;> omega)))), rfl, rfl, trivial⟩, (by (first | omega | (unfold szN; (repeat' split) <;> omega) | (unfold szLo; (repeat' split) <;> omega) | (unfold szHi; (repeat' split) <;> omega)))⟩
          · replace E := E.val (t := 22) rfl hc_6
            replace E := E.val (t := 23) rfl hc_6
            replace hc_6 := of_decide_eq_false hc_6
            refine WL_guard_no E rfl rfl rfl rfl fun a E => ?_
            refine WL_guard_no E rfl rfl rfl rfl fun a E => ?_
            refine S_v E rfl (R_pickF E rfl rfl) rfl ?_
            clear E a; intro a E
            refine S_v E rfl (R_assign E rfl) rfl ?_
            clear E a; intro a E
            refine WL_nil ?_
            refine T_n ?_
            refine WP_condF E rfl rfl ?_
            refine WP_seq ?_
            refine WP_region ?_
            refine S_v E rfl (R_move E rfl) rfl ?_
            clear E a; intro a E
            refine S_v E rfl (R_geq E rfl rfl) rfl ?_
            clear E a; intro a E
            refine S_v E rfl (R_move E rfl) rfl ?_
            clear E a; intro a E
            refine split_bool (decide (240 ≤ ((c_1.toNat : Nat) : Int))) (fun hc_10 => ?_) (fun hc_10 => ?_)
            · replace E := E.val (t := 29) rfl hc_10
              replace E := E.val (t := 30) rfl hc_10
              replace hc_10 := of_decide_eq_true hc_10
              refine WL_guard_yes E rfl rfl ?_
              refine S_v E rfl (R_move E rfl) rfl ?_
              clear E a; intro a E
              refine WL_guard_yes E rfl rfl ?_
              refine S_v E rfl (R_leq E rfl rfl) rfl ?_
              clear E a; intro a E
              refine S_v E rfl (R_pickT E rfl rfl) rfl ?_
              clear E a; intro a E
              refine S_v E rfl (R_assign E rfl) rfl ?_
              clear E a; intro a E
              refine WL_nil ?_
              refine T_n ?_
              refine WP_cond E rfl (fun hc_11 => ?_) (fun hc_11 => ?_)
              · replace hc_11 := of_decide_eq_true hc_11
                refine WP_region ?_
                refine S_v E rfl (R_assign E rfl) rfl ?_
                clear E a; intro a E
                refine WL_nil ?_
                refine B_n ?_
                refine .inl ⟨rfl, ?_⟩
                exact ⟨M1, (Hp.le.refl _), S, E.keep ⟨rfl, rfl, (look_int (i := 4) rfl (by (first | omega | (unfold szN; (repeat' split) <;> omega) | (unfold szLo; (repeat' split) <;> omega) | (unfold szHi; (repeat' split) <;> omega)))), rfl, rfl, trivial⟩, (by (first | omega | (unfold szN; (repeat' split) <;> omega) | (unfold szLo; (repeat' split) <;> omega) | (unfold szHi; (repeat' split) <;> omega)))⟩
              · replace hc_11 := of_decide_eq_false hc_11
                refine WP_skip ?_
                refine B_n ?_
                refine .inl ⟨rfl, ?_⟩
                exact ⟨M1, (Hp.le.refl _), S, E.keep ⟨rfl, rfl, (look_int (i := 0) rfl (by (first | omega | (unfold szN; (repeat' split) <;> omega) | (unfold szLo; (repeat' split) <;> omega) | (unfold szHi; (repeat' split) <;> omega)))), rfl, rfl, trivial⟩, (by (first | omega | (unfold szN; (repeat' split) <;> omega) | (unfold szLo; (repeat' split) <;> omega) | (unfold szHi; (repeat' split) <;> omega)))⟩
            · replace E := E.val (t := 29) rfl hc_10
              replace E := E.val (t := 30) rfl hc_10
              replace hc_10 := of_decide_eq_false hc_10
              refine WL_guard_no E rfl rfl rfl rfl fun a E => ?_
              refine WL_guard_no E rfl rfl rfl rfl fun a E => ?_
              refine S_v E rfl (R_pickF E rfl rfl) rfl ?_
              clear E a; intro a E
              refine S_v E rfl (R_assign E rfl) rfl ?_
              clear E a; intro a E
              refine WL_nil ?_
              refine T_n ?_
              refine WP_condF E rfl rfl ?_
              refine WP_skip ?_
              refine B_n ?_
              refine .inl ⟨rfl, ?_⟩
              exact ⟨M1, (Hp.le.refl _), S, E.keep ⟨rfl, rfl, (look_int (i := 0) rfl (by (first | omega | (unfold szN; (repeat' split) <;> omega) | (unfold szLo; (repeat' split) <;> omega) | (unfold szHi; (repeat' split) <;> omega)))), rfl, rfl, trivial⟩, (by (first | omega | (unfold szN; (repeat' split) <;> omega) | (unfold szLo; (repeat' split) <;> omega) | (unfold szHi; (repeat' split) <;> omega)))⟩
      · replace E := E.val (t := 15) rfl hc_4
        replace E := E.val (t := 16) rfl hc_4
        replace hc_4 := of_decide_eq_false hc_4
        refine WL_guard_no E rfl rfl rfl rfl fun a E => ?_
        refine WL_guard_no E rfl rfl rfl rfl fun a E => ?_
        refine S_v E rfl (R_pickF E rfl rfl) rfl ?_
        clear E a; intro a E
        refine S_v E rfl (R_assign E rfl) rfl ?_
        clear E a; intro a E
        refine WL_nil ?_
        refine T_n ?_
        refine WP_condF E rfl rfl ?_
        refine WP_seq ?_
        refine WP_region ?_
        refine S_v E rfl (R_move E rfl) rfl ?_
        clear E a; intro a E
        refine S_v E rfl (R_geq E rfl rfl) rfl ?_
        clear E a; intro a E
        refine S_v E rfl (R_move E rfl) rfl ?_
        clear E a; intro a E
        refine split_bool (decide (224 ≤ ((c_1.toNat : Nat) : Int))) (fun hc_12 => ?_) (fun hc_12 => ?_)
        · replace E := E.val (t := 22) rfl hc_12
          replace E := E.val (t := 23) rfl hc_12
          replace hc_12 := of_decide_eq_true hc_12
          refine WL_guard_yes E rfl rfl ?_
          refine S_v E rfl (R_move E rfl) rfl ?_
          clear E a; intro a E
          refine WL_guard_yes E rfl rfl ?_
          refine S_v E rfl (R_leq E rfl rfl) rfl ?_
          clear E a; intro a E
          refine S_v E rfl (R_pickT E rfl rfl) rfl ?_
          clear E a; intro a E
          refine S_v E rfl (R_assign E rfl) rfl ?_
          clear E a; intro a E
          refine WL_nil ?_
          refine T_n ?_
          refine WP_cond E rfl (fun hc_13 => ?_) (fun hc_13 => ?_)
          · replace hc_13 := of_decide_eq_true hc_13
            refine WP_region ?_
            refine S_v E rfl (R_assign E rfl) rfl ?_
            clear E a; intro a E
            refine WL_nil ?_
            refine B_n ?_
            refine .inl ⟨rfl, ?_⟩
            exact ⟨M1, (Hp.le.refl _), S, E.keep ⟨rfl, rfl, (look_int (i := 3) rfl (by (first | omega | (unfold szN; (repeat' split) <;> omega) | (unfold szLo; (repeat' split) <;> omega) | (unfold szHi; (repeat' split) <;> omega)))), rfl, rfl, trivial⟩, (by (first | omega | (unfold szN; (repeat' split) <;> omega) | (unfold szLo; (repeat' split) <;> omega) | (unfold szHi; (repeat' split) <;> omega)))⟩
          · replace hc_13 := of_decide_eq_false hc_13
            refine WP_seq ?_
            refine WP_region ?_
            refine S_v E rfl (R_move E rfl) rfl ?_
            clear E a; intro a E
            refine S_v E rfl (R_geq E rfl rfl) rfl ?_
            clear E a; intro a E
            refine S_v E rfl (R_move E rfl) rfl ?_
            clear E a; intro a E
            refine split_bool (decide (240 ≤ ((c_1.toNat : Nat) : Int))) (fun hc_14 => ?_) (fun hc_14 => ?_)
            · replace E := E.val (t := 29) rfl hc_14
              replace E := E.val (t := 30) rfl hc_14
              replace hc_14 := of_decide_eq_true hc_14
              refine WL_guard_yes E rfl rfl ?_
              refine S_v E rfl (R_move E rfl) rfl ?_
              clear E a; intro a E
              refine WL_guard_yes E rfl rfl ?_
              refine S_v E rfl (R_leq E rfl rfl) rfl ?_
              clear E a; intro a E
              refine S_v E rfl (R_pickT E rfl rfl) rfl ?_
              clear E a; intro a E
              refine S_v E rfl (R_assign E rfl) rfl ?_
              clear E a; intro a E
              refine WL_nil ?_
              refine T_n ?_
              refine WP_cond E rfl (fun hc_15 => ?_) (fun hc_15 => ?_)
              · replace hc_15 := of_decide_eq_true hc_15
                refine WP_region ?_
                refine S_v E rfl (R_assign E rfl) rfl ?_
                clear E a; intro a E
                refine WL_nil ?_
                refine B_n ?_
                refine .inl ⟨rfl, ?_⟩
                exact ⟨M1, (Hp.le.refl _), S, E.keep ⟨rfl, rfl, (look_int (i := 4) rfl (by (first | omega | (unfold szN; (repeat' split) <;> omega) | (unfold szLo; (repeat' split) <;> omega) | (unfold szHi; (repeat' split) <;> omega)))), rfl, rfl, trivial⟩, (by (first | omega | (unfold szN; (repeat' split) <;> omega) | (unfold szLo; (repeat' split) <;> omega) | (unfold szHi; (repeat' split) <;> omega)))⟩
              · replace hc_15 := of_decide_eq_false hc_15
                refine WP_skip ?_
                refine B_n ?_
                refine .inl ⟨rfl, ?_⟩
                exact ⟨M1, (Hp.le.refl _), S, E.keep ⟨rfl, rfl, (look_int (i := 0) rfl (by (first | omega | (unfold szN; (repeat' split) <;> omega) | (unfold szLo; (repeat' split) <;> omega) | (unfold szHi; (repeat' split) <;> omega)))), rfl, rfl, trivial⟩, (by (first | omega | (unfold szN; (repeat' split) <;> omega) | (unfold szLo; (repeat' split) <;> omega) | (unfold szHi; (repeat' split) <;> omega)))⟩
            · replace E := E.val (t := 29) rfl hc_14
              replace E := E.val (t := 30) rfl hc_14
              replace hc_14 := of_decide_eq_false hc_14
              refine WL_guard_no E rfl rfl rfl rfl fun a E => ?_
              refine WL_guard_no E rfl rfl rfl rfl fun a E => ?_
              refine S_v E rfl (R_pickF E rfl rfl) rfl ?_
              clear E a; intro a E
              refine S_v E rfl (R_assign E rfl) rfl ?_
              clear E a; intro a E
              refine WL_nil ?_
              refine T_n ?_
              refine WP_condF E rfl rfl ?_
              refine WP_skip ?_
              refine B_n ?_
              refine .inl ⟨rfl, ?_⟩
              exact ⟨M1, (Hp.le.refl _), S, E.keep ⟨rfl, rfl, (look_int (i := 0) rfl (by (first | omega | (unfold szN; (repeat' split) <;> omega) | (unfold szLo; (repeat' split) <;> omega) | (unfold szHi; (repeat' split) <;> omega)))), rfl, rfl, trivial⟩, (by (first | omega | (unfold szN; (repeat' split) <;> omega) | (unfold szLo; (repeat' split) <;> omega) | (unfold szHi; (repeat' split) <;> omega)))⟩
        · replace E := E.val (t := 22) rfl hc_12
          replace E := E.val (t := 23) rfl hc_12
          replace hc_12 := of_decide_eq_false hc_12
          refine WL_guard_no E rfl rfl rfl rfl fun a E => ?_
          refine WL_guard_no E rfl rfl rfl rfl fun a E => ?_
          refine S_v E rfl (R_pickF E rfl rfl) rfl ?_
          clear E a; intro a E
          refine S_v E rfl (R_assign E rfl) rfl ?_
          clear E a; intro a E
          refine WL_nil ?_
          refine T_n ?_
          refine WP_condF E rfl rfl ?_
          refine WP_seq ?_
          refine WP_region ?_
          refine S_v E rfl (R_move E rfl) rfl ?_
          clear E a; intro a E
          refine S_v E rfl (R_geq E rfl rfl) rfl ?_
          clear E a; intro a E
          refine S_v E rfl (R_move E rfl) rfl ?_
          clear E a; intro a E
          refine split_bool (decide (240 ≤ ((c_1.toNat : Nat) : Int))) (fun hc_16 => ?_) (fun hc_16 => ?_)
          · replace E := E.val (t := 29) rfl hc_16
            replace E := E.val (t := 30) rfl hc_16
            replace hc_16 := of_decide_eq_true hc_16
            refine WL_guard_yes E rfl rfl ?_
            refine S_v E rfl (R_move E rfl) rfl ?_
            clear E a; intro a E
            refine WL_guard_yes E rfl rfl ?_
            refine S_v E rfl (R_leq E rfl rfl) rfl ?_
            clear E a; intro a E
            refine S_v E rfl (R_pickT E rfl rfl) rfl ?_
            clear E a; intro a E
            refine S_v E rfl (R_assign E rfl) rfl ?_
            clear E a; intro a E
            refine WL_nil ?_
            refine T_n ?_
            refine WP_cond E rfl (fun hc_17 => ?_) (fun hc_17 => ?_)
            · replace hc_17 := of_decide_eq_true hc_17
              refine WP_region ?_
              refine S_v E rfl (R_assign E rfl) rfl ?_
              clear E a; intro a E
              refine WL_nil ?_
              refine B_n ?_
              refine .inl ⟨rfl, ?_⟩
              exact ⟨M1, (Hp.le.refl _), S, E.keep ⟨rfl, rfl, (look_int (i := 4) rfl (by (first | omega | (unfold szN; (repeat' split) <;> omega) | (unfold szLo; (repeat' split) <;> omega) | (unfold szHi; (repeat' split) <;> omega)))), rfl, rfl, trivial⟩, (by (first | omega | (unfold szN; (repeat' split) <;> omega) | (unfold szLo; (repeat' split) <;> omega) | (unfold szHi; (repeat' split) <;> omega)))⟩
            · replace hc_17 := of_decide_eq_false hc_17
              refine WP_skip ?_
              refine B_n ?_
              refine .inl ⟨rfl, ?_⟩
              exact ⟨M1, (Hp.le.refl _), S, E.keep ⟨rfl, rfl, (look_int (i := 0) rfl (by (first | omega | (unfold szN; (repeat' split) <;> omega) | (unfold szLo; (repeat' split) <;> omega) | (unfold szHi; (repeat' split) <;> omega)))), rfl, rfl, trivial⟩, (by (first | omega | (unfold szN; (repeat' split) <;> omega) | (unfold szLo; (repeat' split) <;> omega) | (unfold szHi; (repeat' split) <;> omega)))⟩
          · replace E := E.val (t := 29) rfl hc_16
            replace E := E.val (t := 30) rfl hc_16
            replace hc_16 := of_decide_eq_false hc_16
            refine WL_guard_no E rfl rfl rfl rfl fun a E => ?_
            refine WL_guard_no E rfl rfl rfl rfl fun a E => ?_
            refine S_v E rfl (R_pickF E rfl rfl) rfl ?_
            clear E a; intro a E
            refine S_v E rfl (R_assign E rfl) rfl ?_
            clear E a; intro a E
            refine WL_nil ?_
            refine T_n ?_
            refine WP_condF E rfl rfl ?_
            refine WP_skip ?_
            refine B_n ?_
            refine .inl ⟨rfl, ?_⟩
            exact ⟨M1, (Hp.le.refl _), S, E.keep ⟨rfl, rfl, (look_int (i := 0) rfl (by (first | omega | (unfold szN; (repeat' split) <;> omega) | (unfold szLo; (repeat' split) <;> omega) | (unfold szHi; (repeat' split) <;> omega)))), rfl, rfl, trivial⟩, (by (first | omega | (unfold szN; (repeat' split) <;> omega) | (unfold szLo; (repeat' split) <;> omega) | (unfold szHi; (repeat' split) <;> omega)))⟩
  · clear E S a w
    rintro a w ⟨M_2, hM_2, S, E, hj_18⟩
    refine T_n ?_
    refine WP_seq ?_
    refine WP_seq ?_
    refine WP_region ?_
    refine S_v E rfl (R_move E rfl) rfl ?_
    clear E a; intro a E
    refine WL_nil ?_
    refine T_n ?_
    refine WP_join (fun a w => ∃ (M_19 : Hp), Hp.le M_2 M_19 ∧ St w M_19 (H) ∧ Env a 79 [] [(0, .string (bs s0)), (4, .int .i64 ((szN c_1.toNat : Nat) : Int)), (5, .int .u8 ((szLo c_1.toNat : Nat) : Int)), (6, .int .u8 ((szHi c_1.toNat : Nat) : Int))]) ?_ ?_
    · refine WP_block ?_
      refine WP_seq ?_
      refine WP_region ?_
      refine S_v E rfl (R_eql E rfl rfl) rfl ?_
      clear E a; intro a E
      refine S_v E rfl (R_assign E rfl) rfl ?_
      clear E a; intro a E
      refine WL_nil ?_
      refine T_n ?_
      refine WP_cond E rfl (fun hc_20 => ?_) (fun hc_20 => ?_)
      · replace hc_20 := of_decide_eq_true hc_20
        refine WP_region ?_
        refine S_v E rfl (R_assign E rfl) rfl ?_
        clear E a; intro a E
        refine WL_nil ?_
        refine B_n ?_
        refine .inl ⟨rfl, ?_⟩
        exact ⟨M_2, (Hp.le.refl _), S, E.keep ⟨rfl, rfl, (look_int (i := 160) rfl (by (first | omega | (unfold szN; (repeat' split) <;> omega) | (unfold szLo; (repeat' split) <;> omega) | (unfold szHi; (repeat' split) <;> omega)))), (look_int (i := 191) rfl (by (first | omega | (unfold szN; (repeat' split) <;> omega) | (unfold szLo; (repeat' split) <;> omega) | (unfold szHi; (repeat' split) <;> omega)))), trivial⟩⟩
      · replace hc_20 := of_decide_eq_false hc_20
        refine WP_seq ?_
        refine WP_region ?_
        refine S_v E rfl (R_eql E rfl rfl) rfl ?_
        clear E a; intro a E
        refine S_v E rfl (R_assign E rfl) rfl ?_
        clear E a; intro a E
        refine WL_nil ?_
        refine T_n ?_
        refine WP_cond E rfl (fun hc_21 => ?_) (fun hc_21 => ?_)
        · replace hc_21 := of_decide_eq_true hc_21
          refine WP_region ?_
          refine S_v E rfl (R_assign E rfl) rfl ?_
          clear E a; intro a E
          refine WL_nil ?_
          refine B_n ?_
          refine .inl ⟨rfl, ?_⟩
          exact ⟨M_2, (Hp.le.refl _), S, E.keep ⟨rfl, rfl, (look_int (i := 128) rfl (by (first | omega | (unfold szN; (repeat' split) <;> omega) | (unfold szLo; (repeat' split) <;> omega) | (unfold szHi; (repeat' split) <;> omega)))), (look_int (i := 159) rfl (by (first | omega | (unfold szN; (repeat' split) <;> omega) | (unfold szLo; (repeat' split) <;> omega) | (unfold szHi; (repeat' split) <;> omega)))), trivial⟩⟩
        · replace hc_21 := of_decide_eq_false hc_21
          refine WP_seq ?_
          refine WP_region ?_
          refine S_v E rfl (R_eql E rfl rfl) rfl ?_
          clear E a; intro a E
          refine S_v E rfl (R_assign E rfl) rfl ?_
          clear E a; intro a E
          refine WL_nil ?_
          refine T_n ?_
          refine WP_cond E rfl (fun hc_22 => ?_) (fun hc_22 => ?_)
          · replace hc_22 := of_decide_eq_true hc_22
            refine WP_region ?_
            refine S_v E rfl (R_assign E rfl) rfl ?_
            clear E a; intro a E
            refine WL_nil ?_
            refine B_n ?_
            refine .inl ⟨rfl, ?_⟩
            exact ⟨M_2, (Hp.le.refl _), S, E.keep ⟨rfl, rfl, (look_int (i := 144) rfl (by (first | omega | (unfold szN; (repeat' split) <;> omega) | (unfold szLo; (repeat' split) <;> omega) | (unfold szHi; (repeat' split) <;> omega)))), (look_int (i := 191) rfl (by (first | omega | (unfold szN; (repeat' split) <;> omega) | (unfold szLo; (repeat' split) <;> omega) | (unfold szHi; (repeat' split) <;> omega)))), trivial⟩⟩
          · replace hc_22 := of_decide_eq_false hc_22
            refine WP_seq ?_
            refine WP_region ?_
            refine S_v E rfl (R_eql E rfl rfl) rfl ?_
            clear E a; intro a E
            refine S_v E rfl (R_assign E rfl) rfl ?_
            clear E a; intro a E
            refine WL_nil ?_
            refine T_n ?_
            refine WP_cond E rfl (fun hc_23 => ?_) (fun hc_23 => ?_)
            · replace hc_23 := of_decide_eq_true hc_23
              refine WP_region ?_
              refine S_v E rfl (R_assign E rfl) rfl ?_
              clear E a; intro a E
              refine WL_nil ?_
              refine B_n ?_
              refine .inl ⟨rfl, ?_⟩
              exact ⟨M_2, (Hp.le.refl _), S, E.keep ⟨rfl, rfl, (look_int (i := 128) rfl (by (first | omega | (unfold szN; (repeat' split) <;> omega) | (unfold szLo; (repeat' split) <;> omega) | (unfold szHi; (repeat' split) <;> omega)))), (look_int (i := 143) rfl (by (first | omega | (unfold szN; (repeat' split) <;> omega) | (unfold szLo; (repeat' split) <;> omega) | (unfold szHi; (repeat' split) <;> omega)))), trivial⟩⟩
            · replace hc_23 := of_decide_eq_false hc_23
              refine WP_skip ?_
              refine B_n ?_
              refine .inl ⟨rfl, ?_⟩
              exact ⟨M_2, (Hp.le.refl _), S, E.keep ⟨rfl, rfl, (look_int (i := 128) rfl (by (first | omega | (unfold szN; (repeat' split) <;> omega) | (unfold szLo; (repeat' split) <;> omega) | (unfold szHi; (repeat' split) <;> omega)))), (look_int (i := 191) rfl (by (first | omega | (unfold szN; (repeat' split) <;> omega) | (unfold szLo; (repeat' split) <;> omega) | (unfold szHi; (repeat' split) <;> omega)))), trivial⟩⟩
    · clear E S a w
      rintro a w ⟨M_19, hM_19, S, E⟩
      refine T_n ?_
      refine WP_seq ?_
      refine WP_seq ?_
      refine WP_region ?_
      refine S_v E rfl (R_move E rfl) rfl ?_
      clear E a; intro a E
      refine S_v E rfl (R_eql E rfl rfl) rfl ?_
      clear E a; intro a E
      refine S_v E rfl (R_move E rfl) rfl ?_
      clear E a; intro a E
      refine split_bool (decide (((szN c_1.toNat : Nat) : Int) = 0)) (fun hc_24 => ?_) (fun hc_24 => ?_)
      · replace E := E.val (t := 44) rfl hc_24
        replace E := E.val (t := 45) rfl hc_24
        replace hc_24 := of_decide_eq_true hc_24
        refine WL_guard_no E rfl rfl rfl rfl fun a E => ?_
        refine WL_guard_no E rfl rfl rfl rfl fun a E => ?_
        refine WL_guard_no E rfl rfl rfl rfl fun a E => ?_
        refine WL_guard_no E rfl rfl rfl rfl fun a E => ?_
        refine S_v E rfl (R_pickT E rfl rfl) rfl ?_
        clear E a; intro a E
        refine S_v E rfl (R_move E rfl) rfl ?_
        clear E a; intro a E
        refine WL_guard_no E rfl rfl rfl rfl fun a E => ?_
        refine WL_guard_no E rfl rfl rfl rfl fun a E => ?_
        refine WL_guard_no E rfl rfl rfl rfl fun a E => ?_
        refine WL_guard_no E rfl rfl rfl rfl fun a E => ?_
        refine S_v E rfl (R_pickT E rfl rfl) rfl ?_
        clear E a; intro a E
        refine S_v E rfl (R_move E rfl) rfl ?_
        clear E a; intro a E
        refine WL_guard_no E rfl rfl rfl rfl fun a E => ?_
        refine WL_guard_no E rfl rfl rfl rfl fun a E => ?_
        refine WL_guard_no E rfl rfl rfl rfl fun a E => ?_
        refine WL_guard_no E rfl rfl rfl rfl fun a E => ?_
        refine S_v E rfl (R_pickT E rfl rfl) rfl ?_
        clear E a; intro a E
        refine WL_nil ?_
        refine T_n ?_
        refine WP_condT E rfl rfl ?_
        refine WP_seq ?_
        refine WP_region ?_
        refine S_v E rfl (R_assign E rfl) rfl ?_
        clear E a; intro a E
        refine WL_nil ?_
        refine T_n ?_
        refine WP_ret ?_
        refine T_r ?_
        exact F_ret1 E Try.results59 rfl ⟨_, rfl, M_19, (hM_2.trans hM_19), (congrArg (Value.int .i64) (by (first | (have h9 : szC s0 = 1 := sz_one (by assumption) (by omega); rw [h9]; rfl) | (have h9 : szC s0 = 0 := sz_short (by assumption) (by omega) rfl (.inl (by omega)); rw [h9]; rfl) | (have h9 : szC s0 = 0 := sz_short (by assumption) (by omega) rfl (.inr (by omega)); rw [h9]; rfl) | (have h9 : szC s0 = 0 := sz_low (by assumption) (by assumption) (by omega) rfl (by omega); rw [h9]; rfl) | (have h9 : szC s0 = 0 := sz_high (by assumption) (by assumption) (by omega) rfl (by omega); rw [h9]; rfl) | (have h9 : szC s0 = 0 := sz_bad (i := k) (by assumption) (by assumption) (by omega) rfl (by omega) (by omega) (by omega); rw [h9]; rfl) | (have h9 : szC s0 = szN c_1.toNat := sz_good (by assumption) (by assumption) (by omega) rfl rfl rfl (by omega) (by omega) (by omega) (by omega) (fun i h1 h2 => hL0_0 i h1 (by omega)); rw [h9])))), S⟩
      · replace E := E.val (t := 44) rfl hc_24
        replace E := E.val (t := 45) rfl hc_24
        replace hc_24 := of_decide_eq_false hc_24
        refine WL_guard_yes E rfl rfl ?_
        refine S_v E rfl (R_move E rfl) rfl ?_
        clear E a; intro a E
        refine WL_guard_yes E rfl rfl ?_
        refine S_v E rfl (R_lenS E rfl Try.underlying9) rfl ?_
        clear E a; intro a E
        refine WL_guard_yes E rfl rfl ?_
        refine S_v E rfl (R_move E rfl) rfl ?_
        clear E a; intro a E
        refine WL_guard_yes E rfl rfl ?_
        refine S_v E rfl (R_lss E rfl rfl) rfl ?_
        clear E a; intro a E
        refine S_v E rfl (R_pickF E rfl rfl) rfl ?_
        clear E a; intro a E
        refine S_v E rfl (R_move E rfl) rfl ?_
        clear E a; intro a E
        refine split_bool (decide ((((s0).length : Nat) : Int) < ((szN c_1.toNat : Nat) : Int))) (fun hc_25 => ?_) (fun hc_25 => ?_)
        · replace E := E.val (t := 49) rfl hc_25
          replace E := E.val (t := 50) rfl hc_25
          replace E := E.val (t := 51) rfl hc_25
          replace hc_25 := of_decide_eq_true hc_25
          refine WL_guard_no E rfl rfl rfl rfl fun a E => ?_
          refine WL_guard_no E rfl rfl rfl rfl fun a E => ?_
          refine WL_guard_no E rfl rfl rfl rfl fun a E => ?_
          refine WL_guard_no E rfl rfl rfl rfl fun a E => ?_
          refine S_v E rfl (R_pickT E rfl rfl) rfl ?_
          clear E a; intro a E
          refine S_v E rfl (R_move E rfl) rfl ?_
          clear E a; intro a E
          refine WL_guard_no E rfl rfl rfl rfl fun a E => ?_
          refine WL_guard_no E rfl rfl rfl rfl fun a E => ?_
          refine WL_guard_no E rfl rfl rfl rfl fun a E => ?_
          refine WL_guard_no E rfl rfl rfl rfl fun a E => ?_
          refine S_v E rfl (R_pickT E rfl rfl) rfl ?_
          clear E a; intro a E
          refine WL_nil ?_
          refine T_n ?_
          refine WP_condT E rfl rfl ?_
          refine WP_seq ?_
          refine WP_region ?_
          refine S_v E rfl (R_assign E rfl) rfl ?_
          clear E a; intro a E
          refine WL_nil ?_
          refine T_n ?_
          refine WP_ret ?_
          refine T_r ?_
          exact F_ret1 E Try.results59 rfl ⟨_, rfl, M_19, (hM_2.trans hM_19), (congrArg (Value.int .i64) (by (first | (have h9 : szC s0 = 1 := sz_one (by assumption) (by omega); rw [h9]; rfl) | (have h9 : szC s0 = 0 := sz_short (by assumption) (by omega) rfl (.inl (by omega)); rw [h9]; rfl) | (have h9 : szC s0 = 0 := sz_short (by assumption) (by omega) rfl (.inr (by omega)); rw [h9]; rfl) | (have h9 : szC s0 = 0 := sz_low (by assumption) (by assumption) (by omega) rfl (by omega); rw [h9]; rfl) | (have h9 : szC s0 = 0 := sz_high (by assumption) (by assumption) (by omega) rfl (by omega); rw [h9]; rfl) | (have h9 : szC s0 = 0 := sz_bad (i := k) (by assumption) (by assumption) (by omega) rfl (by omega) (by omega) (by omega); rw [h9]; rfl) | (have h9 : szC s0 = szN c_1.toNat := sz_good (by assumption) (by assumption) (by omega) rfl rfl rfl (by omega) (by omega) (by omega) (by omega) (fun i h1 h2 => hL0_0 i h1 (by omega)); rw [h9])))), S⟩
        · replace E := E.val (t := 49) rfl hc_25
          replace E := E.val (t := 50) rfl hc_25
          replace E := E.val (t := 51) rfl hc_25
          replace hc_25 := of_decide_eq_false hc_25
          refine WL_guard_yes E rfl rfl ?_
          refine S_v E rfl (R_move E rfl) rfl ?_
          clear E a; intro a E
          obtain ⟨c_26, hc_26⟩ : ∃ x, (s0)[1]? = some x := ⟨_, List.getElem?_eq_getElem (by (first | omega | (have hz2 := szN_two (c := c_1.toNat) (by omega); omega)))⟩
          have rc_26 := UInt8.toNat_lt c_26
          refine WL_guard_yes E rfl rfl ?_
          refine S_v E rfl (R_indexS (lo := 1) E rfl rfl Try.underlying9 (by omega) hc_26) rfl ?_
          clear E a; intro a E
          refine WL_guard_yes E rfl rfl ?_
          refine S_v E rfl (R_move E rfl) rfl ?_
          clear E a; intro a E
          refine WL_guard_yes E rfl rfl ?_
          refine S_v E rfl (R_lss E rfl rfl) rfl ?_
          clear E a; intro a E
          refine S_v E rfl (R_pickF E rfl rfl) rfl ?_
          clear E a; intro a E
          refine S_v E rfl (R_move E rfl) rfl ?_
          clear E a; intro a E
          refine split_bool (decide (((c_26.toNat : Nat) : Int) < ((szLo c_1.toNat : Nat) : Int))) (fun hc_27 => ?_) (fun hc_27 => ?_)
          · replace E := E.val (t := 55) rfl hc_27
            replace E := E.val (t := 56) rfl hc_27
            replace E := E.val (t := 57) rfl hc_27
            replace hc_27 := of_decide_eq_true hc_27
            refine WL_guard_no E rfl rfl rfl rfl fun a E => ?_
            refine WL_guard_no E rfl rfl rfl rfl fun a E => ?_
            refine WL_guard_no E rfl rfl rfl rfl fun a E => ?_
            refine WL_guard_no E rfl rfl rfl rfl fun a E => ?_
            refine S_v E rfl (R_pickT E rfl rfl) rfl ?_
            clear E a; intro a E
            refine WL_nil ?_
            refine T_n ?_
            refine WP_condT E rfl rfl ?_
            refine WP_seq ?_
            refine WP_region ?_
            refine S_v E rfl (R_assign E rfl) rfl ?_
            clear E a; intro a E
            refine WL_nil ?_
            refine T_n ?_
            refine WP_ret ?_
            refine T_r ?_
            exact F_ret1 E Try.results59 rfl ⟨_, rfl, M_19, (hM_2.trans hM_19), (congrArg (Value.int .i64) (by (first | (have h9 : szC s0 = 1 := sz_one (by assumption) (by omega); rw [h9]; rfl) | (have h9 : szC s0 = 0 := sz_short (by assumption) (by omega) rfl (.inl (by omega)); rw [h9]; rfl) | (have h9 : szC s0 = 0 := sz_short (by assumption) (by omega) rfl (.inr (by omega)); rw [h9]; rfl) | (have h9 : szC s0 = 0 := sz_low (by assumption) (by assumption) (by omega) rfl (by omega); rw [h9]; rfl) | (have h9 : szC s0 = 0 := sz_high (by assumption) (by assumption) (by omega) rfl (by omega); rw [h9]; rfl) | (have h9 : szC s0 = 0 := sz_bad (i := k) (by assumption) (by assumption) (by omega) rfl (by omega) (by omega) (by omega); rw [h9]; rfl) | (have h9 : szC s0 = szN c_1.toNat := sz_good (by assumption) (by assumption) (by omega) rfl rfl rfl (by omega) (by omega) (by omega) (by omega) (fun i h1 h2 => hL0_0 i h1 (by omega)); rw [h9])))), S⟩
          · replace E := E.val (t := 55) rfl hc_27
            replace E := E.val (t := 56) rfl hc_27
            replace E := E.val (t := 57) rfl hc_27
            replace hc_27 := of_decide_eq_false hc_27
            refine WL_guard_yes E rfl rfl ?_
            refine S_v E rfl (R_move E rfl) rfl ?_
            clear E a; intro a E
            refine WL_guard_yes E rfl rfl ?_
            refine S_v E rfl (R_indexS (lo := 1) E rfl rfl Try.underlying9 (by omega) hc_26) rfl ?_
            clear E a; intro a E
            refine WL_guard_yes E rfl rfl ?_
            refine S_v E rfl (R_move E rfl) rfl ?_
            clear E a; intro a E
            refine WL_guard_yes E rfl rfl ?_
            refine S_v E rfl (R_gtr E rfl rfl) rfl ?_
            clear E a; intro a E
            refine S_v E rfl (R_pickF E rfl rfl) rfl ?_
            clear E a; intro a E
            refine WL_nil ?_
            refine T_n ?_
            refine WP_cond E rfl (fun hc_28 => ?_) (fun hc_28 => ?_)
            · replace hc_28 := of_decide_eq_true hc_28
              refine WP_seq ?_
              refine WP_region ?_
              refine S_v E rfl (R_assign E rfl) rfl ?_
              clear E a; intro a E
              refine WL_nil ?_
              refine T_n ?_
              refine WP_ret ?_
              refine T_r ?_
              exact F_ret1 E Try.results59 rfl ⟨_, rfl, M_19, (hM_2.trans hM_19), (congrArg (Value.int .i64) (by (first | (have h9 : szC s0 = 1 := sz_one (by assumption) (by omega); rw [h9]; rfl) | (have h9 : szC s0 = 0 := sz_short (by assumption) (by omega) rfl (.inl (by omega)); rw [h9]; rfl) | (have h9 : szC s0 = 0 := sz_short (by assumption) (by omega) rfl (.inr (by omega)); rw [h9]; rfl) | (have h9 : szC s0 = 0 := sz_low (by assumption) (by assumption) (by omega) rfl (by omega); rw [h9]; rfl) | (have h9 : szC s0 = 0 := sz_high (by assumption) (by assumption) (by omega) rfl (by omega); rw [h9]; rfl) | (have h9 : szC s0 = 0 := sz_bad (i := k) (by assumption) (by assumption) (by omega) rfl (by omega) (by omega) (by omega); rw [h9]; rfl) | (have h9 : szC s0 = szN c_1.toNat := sz_good (by assumption) (by assumption) (by omega) rfl rfl rfl (by omega) (by omega) (by omega) (by omega) (fun i h1 h2 => hL0_0 i h1 (by omega)); rw [h9])))), S⟩
            · replace hc_28 := of_decide_eq_false hc_28
              have hzl := szN_le c_1.toNat
              refine WP_skip ?_
              refine T_n ?_
              refine WP_seq ?_
              refine WP_seq ?_
              refine WP_region ?_
              refine S_v E rfl (R_assign E rfl) rfl ?_
              clear E a; intro a E
              refine WL_nil ?_
              refine T_n ?_
              refine WP_block ?_
              refine WP_loop (γ := Nat) (fun (k : Nat) a w => ∃ (M_29 : Hp), Hp.le M_19 M_29 ∧ St w M_29 (H) ∧ Env a 79 [] [(0, .string (bs s0)), (4, .int .i64 ((szN c_1.toNat : Nat) : Int)), (7, .int .i64 ((k : Nat) : Int))] ∧ (∀ i, 2 ≤ i → i < k → 128 ≤ by' s0 i ∧ by' s0 i ≤ 191) ∧ (2 ≤ k) ∧ (k ≤ 4 ∨ k ≤ 2)) (fun k => 5 - k) 2 ⟨M_19, Hp.le.refl _, S, E.keep ⟨rfl, rfl, rfl, trivial⟩, (by intro i h1 h2; omega), (by omega), (by omega)⟩ ?_
              try clear E
              try clear S
              try clear a
              try clear w
              rintro k a w ⟨M_29, hM_29, S, E, hL0_0, hL0_1, hL0_2⟩
              refine WP_seq ?_
              refine WP_seq ?_
              refine WP_region ?_
              refine S_v E rfl (R_move E rfl) rfl ?_
              clear E a; intro a E
              refine S_v E rfl (R_move E rfl) rfl ?_
              clear E a; intro a E
              refine S_v E rfl (R_lss E rfl rfl) rfl ?_
              clear E a; intro a E
              refine WL_nil ?_
              refine T_n ?_
              refine WP_cond E rfl (fun hc_30 => ?_) (fun hc_30 => ?_)
              · replace hc_30 := of_decide_eq_true hc_30
                refine WP_skip ?_
                refine T_n ?_
                refine WP_seq ?_
                refine WP_block ?_
                refine WP_seq ?_
                refine WP_region ?_
                refine S_v E rfl (R_move E rfl) rfl ?_
                clear E a; intro a E
                refine S_v E rfl (R_move E rfl) rfl ?_
                clear E a; intro a E
                obtain ⟨c_31, hc_31⟩ : ∃ x, (s0)[k]? = some x := ⟨_, List.getElem?_eq_getElem (by (first | omega | (have hz2 := szN_two (c := c_1.toNat) (by omega); omega)))⟩
                have rc_31 := UInt8.toNat_lt c_31
                refine S_v E rfl (R_indexS (lo := k) E rfl rfl Try.underlying9 (by omega) hc_31) rfl ?_
                clear E a; intro a E
                refine S_v E rfl (R_lss E rfl rfl) rfl ?_
                clear E a; intro a E
                refine S_v E rfl (R_move E rfl) rfl ?_
                clear E a; intro a E
                refine split_bool (decide (((c_31.toNat : Nat) : Int) < 128)) (fun hc_32 => ?_) (fun hc_32 => ?_)
                · replace E := E.val (t := 71) rfl hc_32
                  replace E := E.val (t := 72) rfl hc_32
                  replace hc_32 := of_decide_eq_true hc_32
                  refine WL_guard_no E rfl rfl rfl rfl fun a E => ?_
                  refine WL_guard_no E rfl rfl rfl rfl fun a E => ?_
                  refine WL_guard_no E rfl rfl rfl rfl fun a E => ?_
                  refine WL_guard_no E rfl rfl rfl rfl fun a E => ?_
                  refine S_v E rfl (R_pickT E rfl rfl) rfl ?_
                  clear E a; intro a E
                  refine WL_nil ?_
                  refine T_n ?_
                  refine WP_condT E rfl rfl ?_
                  refine WP_seq ?_
                  refine WP_region ?_
                  refine S_v E rfl (R_assign E rfl) rfl ?_
                  clear E a; intro a E
                  refine WL_nil ?_
                  refine T_n ?_
                  refine WP_ret ?_
                  refine B_r ?_
                  refine T_r ?_
                  refine T_r ?_
                  refine B_r ?_
                  refine T_r ?_
                  exact F_ret1 E Try.results59 rfl ⟨_, rfl, M_29, (hM_2.trans (hM_19.trans hM_29)), (congrArg (Value.int .i64) (by (first | (have h9 : szC s0 = 1 := sz_one (by assumption) (by omega); rw [h9]; rfl) | (have h9 : szC s0 = 0 := sz_short (by assumption) (by omega) rfl (.inl (by omega)); rw [h9]; rfl) | (have h9 : szC s0 = 0 := sz_short (by assumption) (by omega) rfl (.inr (by omega)); rw [h9]; rfl) | (have h9 : szC s0 = 0 := sz_low (by assumption) (by assumption) (by omega) rfl (by omega); rw [h9]; rfl) | (have h9 : szC s0 = 0 := sz_high (by assumption) (by assumption) (by omega) rfl (by omega); rw [h9]; rfl) | (have h9 : szC s0 = 0 := sz_bad (i := k) (by assumption) (by assumption) (by omega) rfl (by omega) (by omega) (by omega); rw [h9]; rfl) | (have h9 : szC s0 = szN c_1.toNat := sz_good (by assumption) (by assumption) (by omega) rfl rfl rfl (by omega) (by omega) (by omega) (by omega) (fun i h1 h2 => hL0_0 i h1 (by omega)); rw [h9])))), S⟩
                · replace E := E.val (t := 71) rfl hc_32
                  replace E := E.val (t := 72) rfl hc_32
                  replace hc_32 := of_decide_eq_false hc_32
                  refine WL_guard_yes E rfl rfl ?_
                  refine S_v E rfl (R_move E rfl) rfl ?_
                  clear E a; intro a E
                  refine WL_guard_yes E rfl rfl ?_
                  refine S_v E rfl (R_move E rfl) rfl ?_
                  clear E a; intro a E
                  refine WL_guard_yes E rfl rfl ?_
                  refine S_v E rfl (R_indexS (lo := k) E rfl rfl Try.underlying9 (by omega) hc_31) rfl ?_
                  clear E a; intro a E
                  refine WL_guard_yes E rfl rfl ?_
                  refine S_v E rfl (R_gtr E rfl rfl) rfl ?_
                  clear E a; intro a E
                  refine S_v E rfl (R_pickF E rfl rfl) rfl ?_
                  clear E a; intro a E
                  refine WL_nil ?_
                  refine T_n ?_
                  refine WP_cond E rfl (fun hc_33 => ?_) (fun hc_33 => ?_)
                  · replace hc_33 := of_decide_eq_true hc_33
                    refine WP_seq ?_
                    refine WP_region ?_
                    refine S_v E rfl (R_assign E rfl) rfl ?_
                    clear E a; intro a E
                    refine WL_nil ?_
                    refine T_n ?_
                    refine WP_ret ?_
                    refine B_r ?_
                    refine T_r ?_
                    refine T_r ?_
                    refine B_r ?_
                    refine T_r ?_
                    exact F_ret1 E Try.results59 rfl ⟨_, rfl, M_29, (hM_2.trans (hM_19.trans hM_29)), (congrArg (Value.int .i64) (by (first | (have h9 : szC s0 = 1 := sz_one (by assumption) (by omega); rw [h9]; rfl) | (have h9 : szC s0 = 0 := sz_short (by assumption) (by omega) rfl (.inl (by omega)); rw [h9]; rfl) | (have h9 : szC s0 = 0 := sz_short (by assumption) (by omega) rfl (.inr (by omega)); rw [h9]; rfl) | (have h9 : szC s0 = 0 := sz_low (by assumption) (by assumption) (by omega) rfl (by omega); rw [h9]; rfl) | (have h9 : szC s0 = 0 := sz_high (by assumption) (by assumption) (by omega) rfl (by omega); rw [h9]; rfl) | (have h9 : szC s0 = 0 := sz_bad (i := k) (by assumption) (by assumption) (by omega) rfl (by omega) (by omega) (by omega); rw [h9]; rfl) | (have h9 : szC s0 = szN c_1.toNat := sz_good (by assumption) (by assumption) (by omega) rfl rfl rfl (by omega) (by omega) (by omega) (by omega) (fun i h1 h2 => hL0_0 i h1 (by omega)); rw [h9])))), S⟩
                  · replace hc_33 := of_decide_eq_false hc_33
                    refine WP_skip ?_
                    refine B_n ?_
                    refine T_n ?_
                    refine WP_region ?_
                    refine S_v E rfl (R_move E rfl) rfl ?_
                    clear E a; intro a E
                    refine S_v E rfl (R_addx (m := ((k + 1 : Nat) : Int)) E rfl rfl (by omega) (by omega)) rfl ?_
                    clear E a; intro a E
                    refine S_v E rfl (R_assign E rfl) rfl ?_
                    clear E a; intro a E
                    refine WL_nil ?_
                    refine T_n ?_
                    exact ⟨k + 1, ⟨M_29, hM_29, S, E.keep ⟨rfl, rfl, rfl, trivial⟩, (by exact good_step (by assumption) (by assumption) (by omega) (by omega)), (by omega), (by omega)⟩, by omega⟩
              · replace hc_30 := of_decide_eq_false hc_30
                refine WP_exit ?_
                refine T_x ?_
                refine T_x ?_
                refine B_x ?_
                refine T_n ?_
                refine WP_seq ?_
                refine WP_region ?_
                refine S_v E rfl (R_move E rfl) rfl ?_
                clear E a; intro a E
                refine S_v E rfl (R_assign E rfl) rfl ?_
                clear E a; intro a E
                refine WL_nil ?_
                refine T_n ?_
                refine WP_ret ?_
                exact F_ret1 E Try.results59 rfl ⟨_, rfl, M_29, (hM_2.trans (hM_19.trans hM_29)), (congrArg (Value.int .i64) (by (first | (have h9 : szC s0 = 1 := sz_one (by assumption) (by omega); rw [h9]; rfl) | (have h9 : szC s0 = 0 := sz_short (by assumption) (by omega) rfl (.inl (by omega)); rw [h9]; rfl) | (have h9 : szC s0 = 0 := sz_short (by assumption) (by omega) rfl (.inr (by omega)); rw [h9]; rfl) | (have h9 : szC s0 = 0 := sz_low (by assumption) (by assumption) (by omega) rfl (by omega); rw [h9]; rfl) | (have h9 : szC s0 = 0 := sz_high (by assumption) (by assumption) (by omega) rfl (by omega); rw [h9]; rfl) | (have h9 : szC s0 = 0 := sz_bad (i := k) (by assumption) (by assumption) (by omega) rfl (by omega) (by omega) (by omega); rw [h9]; rfl) | (have h9 : szC s0 = szN c_1.toNat := sz_good (by assumption) (by assumption) (by omega) rfl rfl rfl (by omega) (by omega) (by omega) (by omega) (fun i h1 h2 => hL0_0 i h1 (by omega)); rw [h9])))), S⟩

set_option maxRecDepth 100000 in
set_option maxHeartbeats 4000000 in
theorem spec_Runes {M : Hp} {s0 : List UInt8} (hb0 : s0.length ≤ 1000000000000)  :
    Pu Try.prog (.func (.func 12) #[] #[]) M [.string (bs s0)] (fun r M' => ∃ t0, r = .tuple #[t0, .bool ((runs s0).2)] ∧ RdS 1 RTx M' t0 ((runs s0).1)) := by
  refine Pu_enter Try.func12 rfl Try.ntmps12 rfl Try.call12 ?_
  intro a w M1 H hM1 S E
  refine WP_seq ?_
  refine WP_region ?_
  refine S_v E rfl (R_assign E rfl) rfl ?_
  clear E a; intro a E
  refine S_v E rfl (R_assign E rfl) rfl ?_
  clear E a; intro a E
  refine WL_nil ?_
  refine T_n ?_
  refine WP_seq ?_
  refine WP_region ?_
  refine S_v E rfl (R_assign E rfl) rfl ?_
  clear E a; intro a E
  refine WL_nil ?_
  refine T_n ?_
  refine WP_seq ?_
  refine WP_region ?_
  refine S_v E rfl (R_assign E rfl) rfl ?_
  clear E a; intro a E
  refine WL_nil ?_
  refine T_n ?_
  refine WP_seq ?_
  refine WP_block ?_
  replace S : St w M1 (OwnC 9 1 (.slice none 0 0) ([] : List (List UInt8)).length [] :: _) := S.ownNil
  have hr_2 : RowsR RTx 1 M1 ([] : List (List UInt8)) [] := RowsR.nil
  have hre : ([] : List (List UInt8)) = ((runs s0).1.take 0) := by (first | (rw [Rn_take (by assumption) hne, hw]; done) | (simp; done))
  replace S := S.reR hre
  replace hr_2 := hr_2.eq hre
  clear hre
  refine WP_loop (γ := Nat) (fun (p : Nat) a w => ∃ (M_3 : Hp) (u4 : Value) (xs4 : List Value), Hp.le M1 M_3 ∧ St w M_3 (OwnC 9 1 u4 ((runs s0).1.take p).length xs4 :: H) ∧ Env a 24 [] [(0, .string (bs (s0.drop (posn s0 p)))), (4, u4), (5, .bool (okk s0 p))] ∧ (Rn s0 p) ∧ RowsR RTx 1 M_3 ((runs s0).1.take p) xs4) (fun p => s0.length - posn s0 p) 0 ⟨M1, _, _, Hp.le.refl _, S, E.keep ⟨look_str (i := s0) rfl (by (rfl)), rfl, look_bool (i := true) rfl (by (rfl)), trivial⟩, (by exact Rn_zero s0), hr_2⟩ ?_
  try clear E
  try clear S
  try clear a
  try clear w
  rintro p a w ⟨M_3, u4, xs4, hM_3, S, E, hL0_0, hr4⟩
  refine WP_seq ?_
  refine WP_seq ?_
  refine WP_region ?_
  refine S_v E rfl (R_move E rfl) rfl ?_
  clear E a; intro a E
  refine S_v E rfl (R_neqS E rfl rfl) rfl ?_
  clear E a; intro a E
  refine WL_nil ?_
  refine T_n ?_
  refine WP_cond E rfl (fun hc_4 => ?_) (fun hc_4 => ?_)
  · replace hc_4 := of_decide_eq_true hc_4
    have hne : (s0.drop (posn s0 p)) ≠ [] := by assumption
    have hlt := Rn_lt (by assumption) hne
    have hrl := runs_le s0
    have hpl := (show Rn s0 p by assumption).2.1
    refine WP_skip ?_
    refine T_n ?_
    refine WP_block ?_
    refine WP_seq ?_
    refine WP_region ?_
    refine S_v E rfl (R_move E rfl) rfl ?_
    clear E a; intro a E
    refine S_x (X_pu E S rfl rfl rfl (spec_size (by first | assumption | omega)) (Hp.le.refl _) ?_)
    clear E a S; rintro a _ w M_5 hM_5 rfl S E
    replace hr4 := hr4.le RTx_mono hM_5
    refine S_v E rfl (R_assign E rfl) rfl ?_
    clear E a; intro a E
    refine WL_nil ?_
    refine T_n ?_
    refine WP_seq ?_
    refine WP_seq ?_
    refine WP_region ?_
    refine S_v E rfl (R_move E rfl) rfl ?_
    clear E a; intro a E
    refine S_v E rfl (R_eql E rfl rfl) rfl ?_
    clear E a; intro a E
    refine WL_nil ?_
    refine T_n ?_
    refine WP_cond E rfl (fun hc_6 => ?_) (fun hc_6 => ?_)
    · replace hc_6 := of_decide_eq_true hc_6
      have hw : wid (s0.drop (posn s0 p)) = 1 := by unfold wid; rw [if_pos (by omega)]
      have hzl := wid_le hne
      rw [hw, List.length_drop] at hzl
      have hz : szC (s0.drop (posn s0 p)) = 0 := by omega
      refine WP_region ?_
      refine S_v E rfl (R_assign E rfl) rfl ?_
      clear E a; intro a E
      refine S_v E rfl (R_assign E rfl) rfl ?_
      clear E a; intro a E
      refine WL_nil ?_
      refine T_n ?_
      refine WP_seq ?_
      refine WP_region ?_
      refine S_v E rfl (R_move E rfl) rfl ?_
      clear E a; intro a E
      refine S_v E rfl (R_move E rfl) rfl ?_
      clear E a; intro a E
      refine S_v E rfl (R_move E rfl) rfl ?_
      clear E a; intro a E
      refine S_v E rfl (R_sliceSH (up := 1) E rfl rfl Try.underlying9 (by omega) (by first | omega | (rw [List.length_drop]; omega))) rfl ?_
      clear E a; intro a E
      refine S_x (X_buildM (R := RTx) (vs := [.string (bs ((s0.drop (posn s0 p)).take 1))]) (xs := [(s0.drop (posn s0 p)).take 1]) RTx_mono E S rfl T24 rfl rfl rfl (by intro u hu; simp only [List.mem_cons, List.not_mem_nil, or_false] at hu; rcases hu with rfl <;> rfl) rfl (rowsC (R := RTx) rfl rowsN) ?_)
      clear E a S; rintro a v_7 w M_8 hM_8 hv_7 S E
      replace hr4 := hr4.le RTx_mono hM_8
      refine S_x (X_appendR (R := RTx) (zs := ((runs s0).1.take p)) (ys := [(s0.drop (posn s0 p)).take 1]) E S hr4 rfl rfl rfl T24 hv_7 one_RTx (by first | omega | (simp; done) | (simp; omega) | (simp_all; omega)) (by first | omega | (simp; done) | (simp; omega) | (simp_all; omega)) ?_)
      clear E a S; rintro a w v_9 xs_10 E hr_11 S
      refine S_v E rfl (R_assign E rfl) rfl ?_
      clear E a; intro a E
      refine WL_nil ?_
      refine T_n ?_
      refine WP_region ?_
      refine S_v E rfl (R_move E rfl) rfl ?_
      clear E a; intro a E
      refine S_v E rfl (R_move E rfl) rfl ?_
      clear E a; intro a E
      refine S_v E rfl (R_sliceSL (lo := 1) E rfl rfl Try.underlying9 (by omega) (by first | omega | (rw [List.length_drop]; omega))) rfl ?_
      clear E a; intro a E
      refine S_v E rfl (R_assign E rfl) rfl ?_
      clear E a; intro a E
      refine WL_nil ?_
      refine B_n ?_
      refine T_n ?_
      have hre : ((runs s0).1.take p) ++ [(s0.drop (posn s0 p)).take 1] = ((runs s0).1.take (p + 1)) := by (first | (rw [Rn_take (by assumption) hne, hw]; done) | (simp; done))
      replace S := S.reR hre
      replace hr_11 := hr_11.eq hre
      clear hre
      exact ⟨p + 1, ⟨M_8, _, _, (hM_3.trans (hM_5.trans hM_8)), S, E.keep ⟨look_str (i := (s0.drop (posn s0 p)).drop 1) rfl (by (show List.drop _ (s0.drop (posn s0 p)) = s0.drop (posn s0 p + wid (s0.drop (posn s0 p))); rw [hw, List.drop_drop])), rfl, look_bool (i := false) rfl (by (show _ = (okk s0 p && decide (szC (s0.drop (posn s0 p)) ≠ 0)); first | (rw [hz]; simp; done) | (rw [decide_eq_true hz]; simp))), trivial⟩, (by exact Rn_step (by assumption) (by assumption)), hr_11⟩, (by have h9 := wid_pos (s0.drop (posn s0 p)); show s0.length - (posn s0 p + wid (s0.drop (posn s0 p))) < _; omega)⟩
    · replace hc_6 := of_decide_eq_false hc_6
      have hw : wid (s0.drop (posn s0 p)) = szC (s0.drop (posn s0 p)) := by unfold wid; rw [if_neg (by omega)]
      have hzl := wid_le hne
      rw [hw, List.length_drop] at hzl
      have hz : ¬ szC (s0.drop (posn s0 p)) = 0 := by omega
      refine WP_skip ?_
      refine T_n ?_
      refine WP_seq ?_
      refine WP_region ?_
      refine S_v E rfl (R_move E rfl) rfl ?_
      clear E a; intro a E
      refine S_v E rfl (R_move E rfl) rfl ?_
      clear E a; intro a E
      refine S_v E rfl (R_move E rfl) rfl ?_
      clear E a; intro a E
      refine S_v E rfl (R_sliceSH (up := szC (s0.drop (posn s0 p))) E rfl rfl Try.underlying9 (by omega) (by first | omega | (rw [List.length_drop]; omega))) rfl ?_
      clear E a; intro a E
      refine S_x (X_buildM (R := RTx) (vs := [.string (bs ((s0.drop (posn s0 p)).take (szC (s0.drop (posn s0 p)))))]) (xs := [(s0.drop (posn s0 p)).take (szC (s0.drop (posn s0 p)))]) RTx_mono E S rfl T24 rfl rfl rfl (by intro u hu; simp only [List.mem_cons, List.not_mem_nil, or_false] at hu; rcases hu with rfl <;> rfl) rfl (rowsC (R := RTx) rfl rowsN) ?_)
      clear E a S; rintro a v_12 w M_13 hM_13 hv_12 S E
      replace hr4 := hr4.le RTx_mono hM_13
      refine S_x (X_appendR (R := RTx) (zs := ((runs s0).1.take p)) (ys := [(s0.drop (posn s0 p)).take (szC (s0.drop (posn s0 p)))]) E S hr4 rfl rfl rfl T24 hv_12 one_RTx (by first | omega | (simp; done) | (simp; omega) | (simp_all; omega)) (by first | omega | (simp; done) | (simp; omega) | (simp_all; omega)) ?_)
      clear E a S; rintro a w v_14 xs_15 E hr_16 S
      refine S_v E rfl (R_assign E rfl) rfl ?_
      clear E a; intro a E
      refine WL_nil ?_
      refine T_n ?_
      refine WP_region ?_
      refine S_v E rfl (R_move E rfl) rfl ?_
      clear E a; intro a E
      refine S_v E rfl (R_move E rfl) rfl ?_
      clear E a; intro a E
      refine S_v E rfl (R_sliceSL (lo := szC (s0.drop (posn s0 p))) E rfl rfl Try.underlying9 (by omega) (by first | omega | (rw [List.length_drop]; omega))) rfl ?_
      clear E a; intro a E
      refine S_v E rfl (R_assign E rfl) rfl ?_
      clear E a; intro a E
      refine WL_nil ?_
      refine B_n ?_
      refine T_n ?_
      have hre : ((runs s0).1.take p) ++ [(s0.drop (posn s0 p)).take (szC (s0.drop (posn s0 p)))] = ((runs s0).1.take (p + 1)) := by (first | (rw [Rn_take (by assumption) hne, hw]; done) | (simp; done))
      replace S := S.reR hre
      replace hr_16 := hr_16.eq hre
      clear hre
      exact ⟨p + 1, ⟨M_13, _, _, (hM_3.trans (hM_5.trans hM_13)), S, E.keep ⟨look_str (i := (s0.drop (posn s0 p)).drop (szC (s0.drop (posn s0 p)))) rfl (by (show List.drop _ (s0.drop (posn s0 p)) = s0.drop (posn s0 p + wid (s0.drop (posn s0 p))); rw [hw, List.drop_drop])), rfl, look_bool (i := okk s0 p) rfl (by (show _ = (okk s0 p && decide (szC (s0.drop (posn s0 p)) ≠ 0)); first | (rw [hz]; simp; done) | (rw [decide_eq_true hz]; simp))), trivial⟩, (by exact Rn_step (by assumption) (by assumption)), hr_16⟩, (by have h9 := wid_pos (s0.drop (posn s0 p)); show s0.length - (posn s0 p + wid (s0.drop (posn s0 p))) < _; omega)⟩
  · replace hc_4 := of_decide_eq_false hc_4
    have hen := Rn_end (s := s0) (k := p) (by assumption) (by simpa using (by assumption : ¬ (s0.drop (posn s0 p)) ≠ []))
    have hrl := runs_le s0
    refine WP_exit ?_
    refine T_x ?_
    refine T_x ?_
    refine B_x ?_
    refine T_n ?_
    refine WP_seq ?_
    refine WP_region ?_
    refine S_v E rfl (R_move E rfl) rfl ?_
    clear E a; intro a E
    refine S_v E rfl (R_move E rfl) rfl ?_
    clear E a; intro a E
    refine S_v E rfl (R_assign E rfl) rfl ?_
    clear E a; intro a E
    refine S_v E rfl (R_assign E rfl) rfl ?_
    clear E a; intro a E
    refine WL_nil ?_
    refine T_n ?_
    refine WP_ret ?_
    have S0 := S; clear S
    obtain ⟨M_17, hM_17, hz_18, S⟩ := S0.freezeR hr4 RTx_mono (by (first | omega | (simp; omega) | (simp; done) | (simp_all; omega) | grind))
    clear S0
    exact F_ret2 E Try.results12 rfl rfl ⟨_, rfl, M_17, (hM_3.trans hM_17), ⟨_, (by rw [hen.2]), (by rw [show ((runs s0).1) = ((runs s0).1.take p) from by exact hen.1.symm]; exact hz_18)⟩, S⟩

set_option maxRecDepth 100000 in
set_option maxHeartbeats 4000000 in
theorem spec_RuneLength {M : Hp} {s0 : List UInt8} (hb0 : s0.length ≤ 1000000000000)  :
    Pu Try.prog (.func (.func 13) #[] #[]) M [.string (bs s0)] (fun r M' => r = .int .i64 (((runs s0).1.length : Nat) : Int)) := by
  refine Pu_enter Try.func13 rfl Try.ntmps13 rfl Try.call13 ?_
  intro a w M1 H hM1 S E
  have hrl := runs_le s0
  refine WP_seq ?_
  refine WP_region ?_
  refine S_v E rfl (R_assign E rfl) rfl ?_
  clear E a; intro a E
  refine WL_nil ?_
  refine T_n ?_
  refine WP_seq ?_
  refine WP_region ?_
  refine S_v E rfl (R_move E rfl) rfl ?_
  clear E a; intro a E
  refine S_x (X_pu E S rfl rfl rfl (spec_Runes (by first | assumption | omega | (simp; done) | (simp; omega))) (Hp.le.refl _) ?_)
  clear E a S; rintro a _ w M_1 hM_1 ⟨v_2, rfl, hv_2⟩ S E
  refine S_v E rfl (R_move E rfl) rfl ?_
  clear E a; intro a E
  refine S_v E rfl (R_extract E rfl rfl) rfl ?_
  clear E a; intro a E
  refine S_v E rfl (R_extract E rfl rfl) rfl ?_
  clear E a; intro a E
  refine S_v E rfl (R_assign E rfl) rfl ?_
  clear E a; intro a E
  refine S_v E rfl (R_assign E rfl) rfl ?_
  clear E a; intro a E
  refine WL_nil ?_
  refine T_n ?_
  refine WP_seq ?_
  refine WP_region ?_
  refine S_v E rfl (R_move E rfl) rfl ?_
  clear E a; intro a E
  refine S_v E rfl (R_lenV E rfl T24 hv_2.len) rfl ?_
  clear E a; intro a E
  refine S_v E rfl (R_assign E rfl) rfl ?_
  clear E a; intro a E
  refine WL_nil ?_
  refine T_n ?_
  refine WP_ret ?_
  exact F_ret1 E Try.results13 rfl ⟨_, rfl, M_1, hM_1, (congrArg (Value.int .i64) (by ((try clear S); (try clear E); first | assumption | omega | rfl | (simp; done) | (simp_all; done) | (simp [List.take_add_one, *]; done) | grind [List.take_add_one]))), S⟩

set_option maxRecDepth 100000 in
set_option maxHeartbeats 4000000 in
theorem laws_FnRuneLength {M : Hp} {s0 s1 : List UInt8}  :
    PuC Try.prog 3 M [.string (bs s0), .string (bs s1)] (fun r M' => r = .bool true) := by
  refine PuC_enter Try.func3 rfl Try.ntmps3 rfl ?_
  intro a w M1 H hM1 S E
  have hrl0 := runs_le s0
  have hrl1 := runs_le s1
  refine WP_seq ?_
  refine WP_region ?_
  refine S_v E rfl (R_assign E rfl) rfl ?_
  clear E a; intro a E
  refine WL_nil ?_
  refine T_n ?_
  refine WP_seq ?_
  refine WP_seq ?_
  refine WP_region ?_
  refine S_v E rfl (R_move E rfl) rfl ?_
  clear E a; intro a E
  refine S_v E rfl (R_lenS E rfl Try.underlying9) rfl ?_
  clear E a; intro a E
  refine S_v E rfl (R_gtr E rfl rfl) rfl ?_
  clear E a; intro a E
  refine S_v E rfl (R_move E rfl) rfl ?_
  clear E a; intro a E
  refine split_bool (decide (2147483647 < (((s0).length : Nat) : Int))) (fun hc_1 => ?_) (fun hc_1 => ?_)
  · replace E := E.val (t := 9) rfl hc_1
    replace E := E.val (t := 10) rfl hc_1
    replace hc_1 := of_decide_eq_true hc_1
    refine WL_guard_no E rfl rfl rfl rfl fun a E => ?_
    refine WL_guard_no E rfl rfl rfl rfl fun a E => ?_
    refine WL_guard_no E rfl rfl rfl rfl fun a E => ?_
    refine S_v E rfl (R_pickT E rfl rfl) rfl ?_
    clear E a; intro a E
    refine WL_nil ?_
    refine T_n ?_
    refine WP_condT E rfl rfl ?_
    refine WP_seq ?_
    refine WP_region ?_
    refine S_v E rfl (R_assign E rfl) rfl ?_
    clear E a; intro a E
    refine WL_nil ?_
    refine T_n ?_
    refine WP_ret ?_
    refine T_r ?_
    exact F_ret1 E Try.results3 rfl ⟨_, rfl, M1, (Hp.le.refl _), rfl, S⟩
  · replace E := E.val (t := 9) rfl hc_1
    replace E := E.val (t := 10) rfl hc_1
    replace hc_1 := of_decide_eq_false hc_1
    refine WL_guard_yes E rfl rfl ?_
    refine S_v E rfl (R_move E rfl) rfl ?_
    clear E a; intro a E
    refine WL_guard_yes E rfl rfl ?_
    refine S_v E rfl (R_lenS E rfl Try.underlying9) rfl ?_
    clear E a; intro a E
    refine WL_guard_yes E rfl rfl ?_
    refine S_v E rfl (R_gtr E rfl rfl) rfl ?_
    clear E a; intro a E
    refine S_v E rfl (R_pickF E rfl rfl) rfl ?_
    clear E a; intro a E
    refine WL_nil ?_
    refine T_n ?_
    refine WP_cond E rfl (fun hc_2 => ?_) (fun hc_2 => ?_)
    · replace hc_2 := of_decide_eq_true hc_2
      refine WP_seq ?_
      refine WP_region ?_
      refine S_v E rfl (R_assign E rfl) rfl ?_
      clear E a; intro a E
      refine WL_nil ?_
      refine T_n ?_
      refine WP_ret ?_
      refine T_r ?_
      exact F_ret1 E Try.results3 rfl ⟨_, rfl, M1, (Hp.le.refl _), rfl, S⟩
    · replace hc_2 := of_decide_eq_false hc_2
      refine WP_skip ?_
      refine T_n ?_
      refine WP_seq ?_
      refine WP_seq ?_
      refine WP_region ?_
      refine S_x (X_pu E S rfl rfl rfl (impl_RuneLength (by first | assumption | omega | (simp; done) | (simp; omega))) (Hp.le.refl _) ?_)
      clear E a S; rintro a _ w M_3 hM_3 rfl S E
      refine S_v E rfl (R_neq E rfl rfl) rfl ?_
      clear E a; intro a E
      refine WL_nil ?_
      refine T_n ?_
      have hc_4 : (decide ((((runs ([195, 169] : List UInt8)).1.length : Nat) : Int) ≠ 1)) = false := by (first | rfl | (simp; done) | omega | (rw [hap]; simp; done) | (exact absurd (show (runs ([195, 169] : List UInt8)).1.length = 1 by decide +kernel) (by omega)))
      refine WP_condF E rfl hc_4 ?_
      refine WP_skip ?_
      refine T_n ?_
      refine WP_seq ?_
      refine WP_seq ?_
      refine WP_region ?_
      refine S_v E rfl (R_move E rfl) rfl ?_
      clear E a; intro a E
      refine S_x (X_pu E S rfl rfl rfl (laws_long ) (Hp.le.refl _) ?_)
      clear E a S; rintro a _ w M_5 hM_5 rfl S E
      refine S_v E rfl (R_move E rfl) rfl ?_
      clear E a; intro a E
      refine split_bool (decide (3000 < ((s0).length : Int))) (fun hc_6 => ?_) (fun hc_6 => ?_)
      · replace E := E.val (t := 18) rfl hc_6
        replace E := E.val (t := 19) rfl hc_6
        replace hc_6 := of_decide_eq_true hc_6
        refine WL_guard_no E rfl rfl rfl rfl fun a E => ?_
        refine WL_guard_no E rfl rfl rfl rfl fun a E => ?_
        refine S_v E rfl (R_pickT E rfl rfl) rfl ?_
        clear E a; intro a E
        refine WL_nil ?_
        refine T_n ?_
        refine WP_condT E rfl rfl ?_
        refine WP_seq ?_
        refine WP_region ?_
        refine S_v E rfl (R_assign E rfl) rfl ?_
        clear E a; intro a E
        refine WL_nil ?_
        refine T_n ?_
        refine WP_ret ?_
        refine T_r ?_
        exact F_ret1 E Try.results3 rfl ⟨_, rfl, M_5, (hM_3.trans hM_5), rfl, S⟩
      · replace E := E.val (t := 18) rfl hc_6
        replace E := E.val (t := 19) rfl hc_6
        replace hc_6 := of_decide_eq_false hc_6
        refine WL_guard_yes E rfl rfl ?_
        refine S_v E rfl (R_move E rfl) rfl ?_
        clear E a; intro a E
        refine WL_guard_yes E rfl rfl ?_
        refine S_x (X_pu E S rfl rfl rfl (laws_long ) (Hp.le.refl _) ?_)
        clear E a S; rintro a _ w M_7 hM_7 rfl S E
        refine S_v E rfl (R_pickF E rfl rfl) rfl ?_
        clear E a; intro a E
        refine WL_nil ?_
        refine T_n ?_
        refine WP_cond E rfl (fun hc_8 => ?_) (fun hc_8 => ?_)
        · replace hc_8 := of_decide_eq_true hc_8
          refine WP_seq ?_
          refine WP_region ?_
          refine S_v E rfl (R_assign E rfl) rfl ?_
          clear E a; intro a E
          refine WL_nil ?_
          refine T_n ?_
          refine WP_ret ?_
          refine T_r ?_
          exact F_ret1 E Try.results3 rfl ⟨_, rfl, M_7, (hM_3.trans (hM_5.trans hM_7)), rfl, S⟩
        · replace hc_8 := of_decide_eq_false hc_8
          refine WP_skip ?_
          refine T_n ?_
          refine WP_seq ?_
          refine WP_seq ?_
          refine WP_region ?_
          refine S_v E rfl (R_move E rfl) rfl ?_
          clear E a; intro a E
          refine S_x (X_pu E S rfl rfl rfl (spec_Runes (by first | assumption | omega | (simp; done) | (simp; omega))) (Hp.le.refl _) ?_)
          clear E a S; rintro a _ w M_9 hM_9 ⟨v_10, rfl, hv_10⟩ S E
          refine S_v E rfl (R_move E rfl) rfl ?_
          clear E a; intro a E
          refine S_v E rfl (R_extract E rfl rfl) rfl ?_
          clear E a; intro a E
          refine S_v E rfl (R_extract E rfl rfl) rfl ?_
          clear E a; intro a E
          refine S_v E rfl (R_assign E rfl) rfl ?_
          clear E a; intro a E
          refine S_v E rfl (R_assign E rfl) rfl ?_
          clear E a; intro a E
          refine WL_nil ?_
          refine T_n ?_
          refine WP_seq ?_
          refine WP_region ?_
          refine S_v E rfl (R_move E rfl) rfl ?_
          clear E a; intro a E
          refine S_v E rfl (R_not E rfl) rfl ?_
          clear E a; intro a E
          refine WL_nil ?_
          refine T_n ?_
          refine WP_cond E rfl (fun hc_11 => ?_) (fun hc_11 => ?_)
          · refine WP_seq ?_
            refine WP_region ?_
            refine S_v E rfl (R_move E rfl) rfl ?_
            clear E a; intro a E
            refine S_x (X_pu E S rfl rfl rfl (impl_RuneLength (by first | assumption | omega | (simp; done) | (simp; omega))) (Hp.le.refl _) ?_)
            clear E a S; rintro a _ w M_12 hM_12 rfl S E
            replace hv_10 := hv_10.le RTx_mono hM_12
            refine S_v E rfl (R_move E rfl) rfl ?_
            clear E a; intro a E
            refine S_x (X_pu E S rfl rfl rfl (spec_RuneLength (by first | assumption | omega | (simp; done) | (simp; omega))) (Hp.le.refl _) ?_)
            clear E a S; rintro a _ w M_13 hM_13 rfl S E
            replace hv_10 := hv_10.le RTx_mono hM_13
            refine S_v E rfl (R_eql E rfl rfl) rfl ?_
            clear E a; intro a E
            refine S_v E rfl (R_assign E rfl) rfl ?_
            clear E a; intro a E
            refine WL_nil ?_
            refine T_n ?_
            refine WP_ret ?_
            refine T_r ?_
            exact F_ret1 E Try.results3 rfl ⟨_, rfl, M_13, (hM_3.trans (hM_5.trans (hM_7.trans (hM_9.trans (hM_12.trans hM_13))))), (congrArg Value.bool (by (first | rfl | (simp; done) | omega | (rw [hap]; simp; done) | (exact absurd (show (runs ([195, 169] : List UInt8)).1.length = 1 by decide +kernel) (by omega))))), S⟩
          · have hok : (runs s0).2 = true := by first | assumption | (simpa using (by assumption : (!(runs s0).2) = false))
            have hap := runs_app s0.length s0 s1 (Nat.le_refl _) hok
            refine WP_skip ?_
            refine T_n ?_
            refine WP_seq ?_
            refine WP_region ?_
            refine S_v E rfl (R_move E rfl) rfl ?_
            clear E a; intro a E
            refine S_x (X_pu E S rfl rfl rfl (impl_RuneLength (by first | assumption | omega | (simp; done) | (simp; omega))) (Hp.le.refl _) ?_)
            clear E a S; rintro a _ w M_14 hM_14 rfl S E
            replace hv_10 := hv_10.le RTx_mono hM_14
            refine S_v E rfl (R_move E rfl) rfl ?_
            clear E a; intro a E
            refine S_x (X_pu E S rfl rfl rfl (spec_RuneLength (by first | assumption | omega | (simp; done) | (simp; omega))) (Hp.le.refl _) ?_)
            clear E a S; rintro a _ w M_15 hM_15 rfl S E
            replace hv_10 := hv_10.le RTx_mono hM_15
            refine S_v E rfl (R_eql E rfl rfl) rfl ?_
            clear E a; intro a E
            refine S_v E rfl (R_move E rfl) rfl ?_
            clear E a; intro a E
            have hc_16 : (decide ((((runs s0).1.length : Nat) : Int) = (((runs s0).1.length : Nat) : Int))) = true := by (first | rfl | (simp; done) | omega | (rw [hap]; simp; done) | (exact absurd (show (runs ([195, 169] : List UInt8)).1.length = 1 by decide +kernel) (by omega)))
            replace E := E.val (t := 39) rfl hc_16
            replace E := E.val (t := 40) rfl hc_16
            refine WL_guard_yes E rfl rfl ?_
            refine S_v E rfl (R_move E rfl) rfl ?_
            clear E a; intro a E
            refine WL_guard_yes E rfl rfl ?_
            refine S_v E rfl (R_move E rfl) rfl ?_
            clear E a; intro a E
            refine WL_guard_yes E rfl rfl ?_
            refine S_v E rfl (R_addS E rfl rfl (by first | omega | (simp; omega) | (simp only [List.length_append, List.length_cons, List.length_nil]; omega))) rfl ?_
            clear E a; intro a E
            refine WL_guard_yes E rfl rfl ?_
            refine S_x (X_pu E S rfl rfl rfl (impl_RuneLength (by first | assumption | omega | (simp; done) | (simp; omega))) (Hp.le.refl _) ?_)
            clear E a S; rintro a _ w M_17 hM_17 rfl S E
            replace hv_10 := hv_10.le RTx_mono hM_17
            refine WL_guard_yes E rfl rfl ?_
            refine S_v E rfl (R_move E rfl) rfl ?_
            clear E a; intro a E
            refine WL_guard_yes E rfl rfl ?_
            refine S_x (X_pu E S rfl rfl rfl (impl_RuneLength (by first | assumption | omega | (simp; done) | (simp; omega))) (Hp.le.refl _) ?_)
            clear E a S; rintro a _ w M_18 hM_18 rfl S E
            replace hv_10 := hv_10.le RTx_mono hM_18
            refine WL_guard_yes E rfl rfl ?_
            refine S_v E rfl (R_move E rfl) rfl ?_
            clear E a; intro a E
            refine WL_guard_yes E rfl rfl ?_
            refine S_x (X_pu E S rfl rfl rfl (impl_RuneLength (by first | assumption | omega | (simp; done) | (simp; omega))) (Hp.le.refl _) ?_)
            clear E a S; rintro a _ w M_19 hM_19 rfl S E
            replace hv_10 := hv_10.le RTx_mono hM_19
            refine WL_guard_yes E rfl rfl ?_
            refine S_v E rfl (R_addx (m := (((runs s0).1.length + (runs s1).1.length : Nat) : Int)) E rfl rfl (by omega) (by omega)) rfl ?_
            clear E a; intro a E
            refine WL_guard_yes E rfl rfl ?_
            refine S_v E rfl (R_eql E rfl rfl) rfl ?_
            clear E a; intro a E
            refine S_v E rfl (R_pickT E rfl rfl) rfl ?_
            clear E a; intro a E
            refine S_v E rfl (R_assign E rfl) rfl ?_
            clear E a; intro a E
            refine WL_nil ?_
            refine T_n ?_
            refine WP_ret ?_
            exact F_ret1 E Try.results3 rfl ⟨_, rfl, M_19, (hM_3.trans (hM_5.trans (hM_7.trans (hM_9.trans (hM_14.trans (hM_15.trans (hM_17.trans (hM_18.trans hM_19)))))))), (congrArg Value.bool (by (first | rfl | (simp; done) | omega | (rw [hap]; simp; done) | (exact absurd (show (runs ([195, 169] : List UInt8)).1.length = 1 by decide +kernel) (by omega))))), S⟩

end Go.Proofs.Ytjadmhlojchapaa.wFnRuneLength
