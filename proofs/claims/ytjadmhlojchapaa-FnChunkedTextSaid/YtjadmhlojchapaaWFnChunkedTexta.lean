/- Walks through the functions that laws.FnChunkedText reaches: what each computes; no conditions beyond what each theorem states. -/
import Derived.Test.YtjadmhlojchapaaProg
import Derived.Test.YtjadmhlojchapaaSlY
set_option linter.unusedVariables false
set_option linter.unusedSimpArgs false
namespace Go.Proofs.Ytjadmhlojchapaa.wFnChunkedText
open Go Go.Sl
theorem Try.mixed : Try.prog.follows .mixedOrders = true := by kernel_rfl
theorem T24 : SlT Try.prog 24 9 1 16 (.string .empty) := ⟨Try.underlying24, ⟨Try.t9, by kernel_rfl, rfl, rfl, rfl⟩, rfl, by decide⟩
def PF2T (P : Program) (fv : Value) (M : Hp) (f : Int → Int → Int × Bool) : Prop := fv.oneCell' = true ∧ ∀ x i : Int, Pu P fv M [.int .i64 x, .int .i64 i] (fun r _ => r = .tuple #[.int .i64 (f x i).1, .bool (f x i).2])
theorem PF2T.le {P : Program} {fv : Value} {M M' : Hp} {f : Int → Int → Int × Bool} (h : PF2T P fv M f) (hM : Hp.le M M') : PF2T P fv M' f := ⟨h.1, fun x i => (h.2 x i).le hM⟩
def SortedI (l : List Int) : Prop := l.Pairwise (· ≤ ·)
def SortedU (l : List Int) : Prop := l.Pairwise (· < ·)
theorem SortedU.le {l : List Int} (h : SortedU l) : SortedI l := List.Pairwise.imp (fun h => by omega) h
instance (l : List Int) : Decidable (SortedI l) := inferInstanceAs (Decidable (l.Pairwise (· ≤ ·)))
structure SlS where
  buf : List Int
  cnt : Nat
  skip : Nat
  out : List (List Int)
section
variable {n s : Nat} {p : List Int} {x : Int}
end
theorem SLeqR {α : Type} {sz : Nat} {R : Hp → List Value → α → Prop} {M : Hp} {v : Value} {l l' : List α} (h : RdS sz R M v l) (e : l = l') : RdS sz R M v l' := e ▸ h
def PF2U (P : Program) (fv : Value) (M : Hp) (f : Int → Int → Int × Int) : Prop := fv.oneCell' = true ∧ ∀ x i : Int, Pu P fv M [.int .i64 x, .int .i64 i] (fun r _ => r = .tuple #[.int .i64 (f x i).1, .int .i64 (f x i).2])
theorem PF2U.le {P : Program} {fv : Value} {M M' : Hp} {f : Int → Int → Int × Int} (h : PF2U P fv M f) (hM : Hp.le M M') : PF2U P fv M' f := ⟨h.1, fun x i => (h.2 x i).le hM⟩
def PF1U (P : Program) (fv : Value) (M : Hp) (f : Int → Int × Int) : Prop := fv.oneCell' = true ∧ ∀ x : Int, Pu P fv M [.int .i64 x] (fun r _ => r = .tuple #[.int .i64 (f x).1, .int .i64 (f x).2])
theorem PF1U.le {P : Program} {fv : Value} {M M' : Hp} {f : Int → Int × Int} (h : PF1U P fv M f) (hM : Hp.le M M') : PF1U P fv M' f := ⟨h.1, fun x => (h.2 x).le hM⟩
def PF2V (P : Program) (fv : Value) (M : Hp) (f : Int → Int → Int × Int × Bool) : Prop := fv.oneCell' = true ∧ ∀ x i : Int, Pu P fv M [.int .i64 x, .int .i64 i] (fun r _ => r = .tuple #[.int .i64 (f x i).1, .int .i64 (f x i).2.1, .bool (f x i).2.2])
theorem PF2V.le {P : Program} {fv : Value} {M M' : Hp} {f : Int → Int → Int × Int × Bool} (h : PF2V P fv M f) (hM : Hp.le M M') : PF2V P fv M' f := ⟨h.1, fun x i => (h.2 x i).le hM⟩
def RMp : Hp → List Value → List (Int × Int) → Prop := fun M cs q => ∃ v, cs = [v] ∧ RdM M v (encE (Value.int .i64) q)
theorem RdMp.at {M : Hp} {v : Value} {l : List (List (Int × Int))} {k : Nat} {e : List (Int × Int)} (h : RdS 1 RMp M v l) (he : l[k]? = some e) : ∃ p u, IdxPtr v k 1 p ∧ cellM M p = some u ∧ RdM M u (encE (Value.int .i64) e) := by
  obtain ⟨p, u, h1, h2, ⟨v, h3, h4⟩⟩ := h.at1 he
  cases h3; exact ⟨p, u, h1, h2, h4⟩
theorem RdPP.at {M : Hp} {v : Value} {l : List (List (Int × Int))} {k : Nat} {e : List (Int × Int)} (h : RdS 1 (RSl 2 RP2) M v l) (he : l[k]? = some e) : ∃ p u, IdxPtr v k 1 p ∧ cellM M p = some u ∧ RdS 2 RP2 M u e := by
  obtain ⟨p, u, h1, h2, ⟨v, h3, h4⟩⟩ := h.at1 he
  cases h3; exact ⟨p, u, h1, h2, h4⟩
section
variable {r : Option Nat} {P : Program} {ops : Array Oper} {Q : Exit → Act → World → Prop} {C : Nat → World → Prop} {bf : Nat → List Nat} {E : List (Nat × Nat)}
end
section
variable {r : Option Nat} {P : Program} {ops : Array Oper} {Q : Exit → Act → World → Prop} {E : List (Nat × Nat)}
end
def PFAB (P : Program) (fv : Value) (M : Hp) (f : Int × Int → Bool) : Prop := fv.oneCell' = true ∧ ∀ x y : Int, ((-9223372036854775808 ≤ x ∧ x ≤ 9223372036854775807) ∧ (-9223372036854775808 ≤ y ∧ y ≤ 9223372036854775807)) → Pu P fv M [.agg #[.int .i64 x, .int .i64 y]] (fun r _ => r = .bool (f (x, y)))
theorem PFAB.le {P : Program} {fv : Value} {M M' : Hp} {f : Int × Int → Bool} (h : PFAB P fv M f) (hM : Hp.le M M') : PFAB P fv M' f := ⟨h.1, fun x y g => (h.2 x y g).le hM⟩
def RA2 : Hp → List Value → List (Int × Int) × List (Int × Int) → Prop := fun M cs x => ∃ u v, cs = [u, v] ∧ RdS 2 RP2 M u x.1 ∧ RdS 2 RP2 M v x.2
theorem RdA2.at {M : Hp} {v : Value} {l : List (List (Int × Int) × List (Int × Int))} {k : Nat} {e : List (Int × Int) × List (Int × Int)} (h : RdS 2 RA2 M v l) (he : l[k]? = some e) : ∃ p u1 u2, IdxPtr v k 2 p ∧ cellsM M p [u1, u2] ∧ RdS 2 RP2 M u1 e.1 ∧ RdS 2 RP2 M u2 e.2 := by
  obtain ⟨p, cs, h1, h2, ⟨u1, u2, h3, h5, h6⟩, h4⟩ := RdS.at h he
  subst h3; exact ⟨p, u1, u2, h1, h4, h5, h6⟩
section
variable {r : Option Nat} {P : Program} {Q : Exit → Act → World → Prop} {a : Act} {w : World} {n : Nat} {ds : List Deferred} {l : List (Nat × Value)} {d : Nat} {ty t el : TypeId} {pos : String} {af : Array Edge} {gd : Option (Nat × Bool)} {x y : Operand} {next : Act → World → Prop} {M : Hp} {H : List HProp} {by_ : Nat}
end
abbrev MLE := List (Int × Value × List Int)
/-- a key with a frozen list -/
def RG2 : Hp → List Value → Int × List Int → Prop := fun M cs x => ∃ v, cs = [.int .i64 x.1, v] ∧ RdI M v x.2
theorem RdG2.at {M : Hp} {v : Value} {l : List (Int × List Int)} {k : Nat} {e : Int × List Int} (h : RdS 2 RG2 M v l) (he : l[k]? = some e) : ∃ p u, IdxPtr v k 2 p ∧ cellsM M p [.int .i64 e.1, u] ∧ RdI M u e.2 := by
  obtain ⟨p, cs, h1, h2, ⟨u, h3, h5⟩, h4⟩ := RdS.at h he
  subst h3; exact ⟨p, u, h1, h4, h5⟩
/-- a frozen map of frozen lists -/
def RdML (M : Hp) (v : Value) (q : List (Int × List Int)) : Prop := ∃ t : MLE, t.map (fun x => (x.1, x.2.2)) = q ∧ RdM M v (encE Prod.fst t) ∧ ∀ x ∈ t, RdI M x.2.1 x.2.2
theorem RdML.le {M M' : Hp} {v : Value} {q : List (Int × List Int)} (h : RdML M v q) (hM : Hp.le M M') : RdML M' v q := by
  obtain ⟨t, h1, h2, h3⟩ := h; exact ⟨t, h1, h2.le hM, fun x hx => (h3 x hx).le hM⟩
theorem RdML.one' {M : Hp} {v : Value} {q : List (Int × List Int)} (h : RdML M v q) : v.oneCell' = true := by obtain ⟨_, _, h, _⟩ := h; exact h.one'
section
variable {r : Option Nat} {P : Program} {Q : Exit → Act → World → Prop} {a : Act} {w : World}
  {n : Nat} {ds : List Deferred} {l : List (Nat × Value)} {ty t : TypeId} {pos : String} {af : Array Edge} {gd : Option (Nat × Bool)} {x y : Operand}
  {next : Act → World → Prop} {M : Hp} {H : List HProp}
end
section
variable {r : Option Nat} {P : Program} {Q : Exit → Act → World → Prop} {a : Act} {w : World}
  {n : Nat} {ds : List Deferred} {l : List (Nat × Value)} {d : Nat} {ty t el : TypeId} {pos : String} {af : Array Edge} {gd : Option (Nat × Bool)} {x y : Operand}
  {next : Act → World → Prop} {M : Hp} {H : List HProp} {v : Value} {by_ : Nat} {zv : Value}
end
/-! ### functions that panic, and a function that recovers -/
section
variable {P : Program}
/-- a call that panics with a value held as an interface -/
def CallP (P : Program) (fv : Value) (args : List Value) (w : World) (R : Value → World → Prop) : Prop :=
  ∀ (r : Option Nat) (o : Oper) (c : Call) (f : Operand) (a : Act) (next : Act → World → Prop) (Q : Exit → Act → World → Prop), o.op = .call c → c.callee = .value f → a.eval f = fv →
    c.args.toList.map a.eval = args → (∀ t u w', R (.iface t u) w' → Q (.panic [{ v := .iface t u, recovered := false }]) a w') → o.wpIn (Fw r) 0 P a w next Q
def PEnd (R : Value → World → Prop) : Ending → World → Prop := fun e w' => ∃ t u, e = .panicked [{ v := .iface t u, recovered := false }] ∧ R (.iface t u) w'
theorem CallP.func {g : FuncId} {first cap : Array Value} {args : List Value} {w : World} {R : Value → World → Prop}
    (hc : ∀ args w, (callFunc g args).run P w = .ok (.enter g args) w)
    (h : Calls P g (first.toList ++ args ++ cap.toList).toArray w (PEnd R)) : CallP P (.func (.func g) first cap) args w R := by
  intro r o c f a next Q h1 h2 h3 h4 h5
  refine ⟨fun _ _ => trivial, ?_⟩
  rw [semAt_nodefer (by rw [h1]; rfl)]
  have e4 : c.args.map a.eval = args.toArray := by rw [← h4, ← Array.toList_map, Array.toArray_toList]
  have : (execOp a.eval o).run P w = .ok (.enter g (first ++ args.toArray ++ cap)) w := by
    simp only [execOp, h1, resolve, h2, h3, e4, Deferred.ofValue]
    simp [invoke, hc]
  rw [this]
  refine ⟨fun h => by simp [Fw_depth] at h, ?_⟩
  rw [callsIn_Fw, show first ++ args.toArray ++ cap = (first.toList ++ args ++ cap.toList).toArray by simp]
  exact h.mono fun e w' ⟨t, u, he, hR⟩ => by subst he; exact h5 t u w' hR
/-- from the frozen memory M on: a call panics; what is owned stays -/
def PuP (P : Program) (fv : Value) (M : Hp) (args : List Value) : Prop :=
  ∀ w M1 H, Hp.le M M1 → St w M1 H → CallP P fv args w (fun _ w' => ∃ M2, Hp.le M1 M2 ∧ St w' M2 H)
theorem PuP.le {fv : Value} {M M' : Hp} {args : List Value} (h : PuP P fv M args) (hM : Hp.le M M') : PuP P fv M' args := fun w M1 H h1 => h w M1 H (hM.trans h1)
theorem PuP_enter {g : FuncId} {fn : Func} {c : Code} {first cap : Array Value} {args : List Value} {M : Hp}
    (hf : P.funcs[g]? = some fn) (hb : fn.body = some c) {m : Nat} (hm : fn.ntmps = m) (hl : Nat.ble (first.toList ++ args ++ cap.toList).length m = true)
    (hc : ∀ args w, (callFunc g args).run P w = .ok (.enter g args) w)
    (h : ∀ a w M1 H, Hp.le M M1 → St w M1 H → Env a m [] (initL (first.toList ++ args ++ cap.toList) 0) →
      WP none P c (FPost P fn (PEnd fun _ w' => ∃ M2, Hp.le M1 M2 ∧ St w' M2 H)) a w) : PuP P (.func (.func g) first cap) M args :=
  fun w M1 H hM S => CallP.func hc (Calls_enter hf hb hm hl fun a E => h a w M1 H hM S E)
/-- a function without arguments that panics -/
def PF0P (P : Program) (fv : Value) (M : Hp) : Prop := fv.oneCell' = true ∧ PuP P fv M []
theorem PF0P.le {fv : Value} {M M' : Hp} (h : PF0P P fv M) (hM : Hp.le M M') : PF0P P fv M' := ⟨h.1, h.2.le hM⟩
variable {Q : Exit → Act → World → Prop} {a : Act} {w : World} {n : Nat} {ds : List Deferred} {l : List (Nat × Value)} {fn : Func} {R : Ending → World → Prop} {M : Hp} {H : List HProp} {next : Act → World → Prop} {r : Option Nat}
theorem F_panic {ch : List PanicEntry} (E : Env a n [] l) (h : R (.panicked ch) w) : FPost P fn R (.panic ch) a w := by
  show LeavesInM _ _ _ _ _ _ a.defers _ w
  rw [E.dfr]; exact h
theorem X_panic {dst : Option Nat} {x : Operand} {ty : TypeId} {pos : String} {af : Array Edge} {gd : Option (Nat × Bool)} {t : TypeId} {u : Value} (E : Env a n ds l) (hx : opv l x = some (.iface t u)) (h : Q (.panic [{ v := .iface t u, recovered := false }]) a w) :
    (⟨dst, .panic x, ty, pos, af, gd⟩ : Oper).wpIn (Fw r) 0 P a w next Q := by
  refine ⟨fun _ _ => trivial, ?_⟩
  rw [semAt_nodefer rfl]
  have : (execOp a.eval ⟨dst, .panic x, ty, pos, af, gd⟩).run P w = .halt (.panic (.iface t u)) w := by simp [execOp, E.eval hx, Instr.panic, Result.andThen]
  rw [this]; exact h
theorem X_puP {dst : Option Nat} {ty : TypeId} {ats : Array TypeId} {pos : String} {af : Array Edge} {gd : Option (Nat × Bool)} {f : Operand} {aa : Array Operand} {fv : Value} {args : List Value} {M0 : Hp}
    (E : Env a n ds l) (S : St w M H) (hf : opv l f = some fv) (ha : opvs l aa.toList = some args) (C : PuP P fv M0 args) (hM : Hp.le M0 M)
    (k : ∀ t u w' M', Hp.le M M' → St w' M' H → Q (.panic [{ v := .iface t u, recovered := false }]) a w') : (⟨dst, .call ⟨.value f, aa, ats⟩, ty, pos, af, gd⟩ : Oper).wpIn (Fw r) 0 P a w next Q :=
  C w M H hM S r _ _ f a _ Q rfl rfl (E.eval hf) (E.evals ha) fun t u w' ⟨M', h1, h2⟩ => k t u w' M' h1 h2
theorem R_ifaceS {d : Nat} {x : Operand} {t : TypeId} {ty : TypeId} {pos : String} {af : Array Edge} {gd : Option (Nat × Bool)} {v : Value} (E : Env a n ds l) (hx : opv l x = some v) (hu : P.underlying t = some .string) :
    (execOp a.eval ⟨some d, .makeInterface t x, ty, pos, af, gd⟩).run P w = .ok (.value (.iface t v)) w := by
  simp [execOp, E.eval hx, Instr.makeInterface, run_underlying hu]
/-- two results in cells, a deferred function that recovers and sets both -/
theorem F_panicDC2 {g : FuncId} {t t' : Tmp} {ty ty' e e' : TypeId} {b b' : Nat} {v v' u1 u2 u : Value} {T : TypeId} (E : Env a n [⟨.fn (.func g) #[.pointer (some ⟨b, 0, none⟩), .pointer (some ⟨b', 0, none⟩)], #[]⟩] l) (S : St w M (blk b (.cells #[v] e) :: blk b' (.cells #[v'] e') :: H)) (h : fn.results = #[.cell t ty, .cell t' ty'])
    (hp : Sl.look l t = some (.pointer (some ⟨b, 0, none⟩))) (hp' : Sl.look l t' = some (.pointer (some ⟨b', 0, none⟩))) (hg : ∀ w, (isAgg ty).run P w = .ok false w) (hg' : ∀ w, (isAgg ty').run P w = .ok false w)
    (hc : ∀ args w, (callFunc g args).run P w = .ok (.enter g args) w)
    (hD : ∀ w, w.heap[b]? = some (.cells #[v] e) → (w.setCell ⟨b, 0, none⟩ u1).heap[b']? = some (.cells #[v'] e') → CallsDIn (Fw none) 0 P g #[.pointer (some ⟨b, 0, none⟩), .pointer (some ⟨b', 0, none⟩)] (.panicking [{ v := .iface T u, recovered := false }]) w
      (fun e u' w' => e = .returned (.tuple #[]) ∧ u' = .panicking [{ v := .iface T u, recovered := true }] ∧ w' = (w.setCell ⟨b, 0, none⟩ u1).setCell ⟨b', 0, none⟩ u2))
    (hR : ∀ w', St w' M (blk b (.cells #[u1] e) :: blk b' (.cells #[u2] e') :: H) → R (.returned (.tuple #[u1, u2])) w') : FPost P fn R (.panic [{ v := .iface T u, recovered := false }]) a w := by
  show LeavesInM _ _ _ _ _ _ a.defers _ w
  rw [E.dfr]
  have hgb := S.get
  have S1 : St (w.setCell ⟨b, 0, none⟩ u1) M (blk b (.cells #[u1] e) :: blk b' (.cells #[v'] e') :: H) := by
    refine S.set ?_ fun c hc x hx => ?_
    · simp only [World.setCell]; rw [Array.getElem?_modify, if_pos rfl, hgb]; rfl
    · simp only [World.setCell]; rw [Array.getElem?_modify, if_neg (Ne.symm hc)]; exact hx
  have hgb' := S1.swap.get
  have S2 : St ((w.setCell ⟨b, 0, none⟩ u1).setCell ⟨b', 0, none⟩ u2) M (blk b (.cells #[u1] e) :: blk b' (.cells #[u2] e') :: H) := by
    refine St.swap (S1.swap.set ?_ fun c hc x hx => ?_)
    · simp only [World.setCell]; rw [Array.getElem?_modify, if_pos rfl, show (w.heap.modify b _)[b']? = _ from hgb']; rfl
    · simp only [World.setCell]; rw [Array.getElem?_modify, if_neg (Ne.symm hc)]; exact hx
  refine ⟨by simp, .inr ⟨by simp [Fw, Fence.wide], .func g, _, g, _, rfl, by simp [invoke, hc], fun _ _ => trivial, (hD w hgb hgb').mono ?_⟩⟩
  rintro _ _ _ ⟨rfl, rfl, rfl⟩
  show LeavesInM _ _ _ _ _ _ [] (settle _) _
  refine ⟨.tuple #[u1, u2], ?_, hR _ S2⟩
  have h1 := E.eval (o := .tmp t) hp
  have h2 := E.eval (o := .tmp t') hp'
  simp only [Act.eval, Array.getD_eq_getD_getElem?] at h1 h2
  simp [results, h, h1, h2, asAddr, run_cellvar hg S2.get, run_cellvar hg' S2.swap.get]
end
section
variable {P : Program} {a : Act} {w : World} {n : Nat} {ds : List Deferred} {l : List (Nat × Value)} {d : Nat} {ty t t' el : TypeId} {pos : String} {af : Array Edge} {gd : Option (Nat × Bool)} {x y : Operand} {v : Value} {l' : List Int}
end
/-! floats: the ceiling of a quotient of small whole numbers is a small whole number -/
section
open Ieee
end
section
variable {P : Program} {a : Act} {w : World} {n : Nat} {ds : List Deferred} {l : List (Nat × Value)} {d : Nat} {ty t t' : TypeId} {pos : String} {af : Array Edge} {gd : Option (Nat × Bool)} {x y : Operand} {κ : IntKind} {i : Int}
end
/-! texts: values .string (bs l) with l a list of bytes -/
def bs (l : List UInt8) : ByteArray := ⟨l.toArray⟩
theorem bs_size (l : List UInt8) : (bs l).size = l.length := by simp [bs, ByteArray.size]
theorem bs_tl (l : List UInt8) : (bs l).toList = l := ByteArray.toList_mk l
theorem bs_append (a b : List UInt8) : bs a ++ bs b = bs (a ++ b) := by
  apply ByteArray.ext; simp [bs]
theorem bs_get (l : List UInt8) (i : Nat) : (bs l)[i]? = l[i]? := by
  by_cases h : i < l.length
  · rw [ByteArray.getElem?_lt' _ _ (by rw [bs_size]; exact h), List.getElem?_eq_getElem h]; rfl
  · rw [ByteArray.getElem?_ge' _ _ (by rw [bs_size]; exact h), List.getElem?_eq_none (by omega)]
theorem bs_extract (l : List UInt8) (lo hi : Nat) : (bs l).extract lo hi = bs ((l.take hi).drop lo) := by
  apply ByteArray.ext
  simp [bs, ByteArray.data_extract, List.drop_take]
def RTx : Hp → List Value → List UInt8 → Prop := fun _ cs x => cs = [.string (bs x)]
theorem RTx_mono : RMono RTx := fun _ _ _ _ _ h => h
theorem one_RTx : ROne RTx := by intro M cs x h u hu; rw [show cs = _ from h] at hu; simp at hu; rw [hu]; rfl
theorem RdTx.at {M : Hp} {v : Value} {l : List (List UInt8)} {k : Nat} {e : List UInt8} (h : RdS 1 RTx M v l) (he : l[k]? = some e) : ∃ p, IdxPtr v k 1 p ∧ cellM M p = some (.string (bs e)) := by
  obtain ⟨p, cs, h1, h2, h3, h4⟩ := RdS.at h he
  have h5 : cs = [.string (bs e)] := h3
  subst h5
  exact ⟨p, h1, h4 0 _ rfl⟩
section
variable {P : Program} {a : Act} {w : World} {n : Nat} {ds : List Deferred} {l : List (Nat × Value)} {d : Nat} {ty t t' : TypeId} {pos : String} {af : Array Edge} {gd : Option (Nat × Bool)} {x y z : Operand} {κ κ' : IntKind} {s s' : List UInt8} {i j : Int} {lo up : Nat}
theorem R_lenS (E : Env a n ds l) (hx : opv l x = some (.string (bs s))) (hu : P.underlying t = some .string) :
    (execOp a.eval ⟨some d, .call ⟨.builtin .len, #[x], #[t]⟩, ty, pos, af, gd⟩).run P w = .ok (.value (.int .i64 ((s.length : Nat) : Int))) w := by
  simp [execOp, resolve, invoke, builtin, E.eval hx, Builtin.len_, Builtin.lenOf, run_underlying hu, goInt, bs_size, Result.andThen]
theorem R_indexS {b : UInt8} (E : Env a n ds l) (hx : opv l x = some (.string (bs s))) (hy : opv l y = some (.int κ i)) (hu : P.underlying t = some .string) (hi : i = (lo : Int)) (hb : s[lo]? = some b) :
    (execOp a.eval ⟨some d, .index t x y, ty, pos, af, gd⟩).run P w = .ok (.value (.int .u8 ((b.toNat : Nat) : Int))) w := by
  subst hi
  simp [execOp, E.eval hx, E.eval hy, Instr.index, asIntOf, run_underlying hu, bs_get, hb]
theorem R_eqlS (E : Env a n ds l) (hx : opv l x = some (.string (bs s))) (hy : opv l y = some (.string (bs s'))) :
    (execOp a.eval ⟨some d, .binOp .eql t x y t', ty, pos, af, gd⟩).run P w = .ok (.value (.bool (decide (s = s')))) w := by
  simp only [execOp, E.eval hx, E.eval hy]
  by_cases h : s = s' <;> simp [eqGuard, binOp, Op.stringOp, bs_tl, h]
theorem R_neqS (E : Env a n ds l) (hx : opv l x = some (.string (bs s))) (hy : opv l y = some (.string (bs s'))) :
    (execOp a.eval ⟨some d, .binOp .neq t x y t', ty, pos, af, gd⟩).run P w = .ok (.value (.bool (decide (s ≠ s')))) w := by
  simp only [execOp, E.eval hx, E.eval hy]
  by_cases h : s = s' <;> simp [eqGuard, binOp, Op.stringOp, bs_tl, h]
theorem R_addS (E : Env a n ds l) (hx : opv l x = some (.string (bs s))) (hy : opv l y = some (.string (bs s'))) (hl : s.length + s'.length ≤ 1000000000000) :
    (execOp a.eval ⟨some d, .binOp .add t x y t', ty, pos, af, gd⟩).run P w = .ok (.value (.string (bs (s ++ s')))) w := by
  have h : ¬ (IntKind.i64.max < ((bs s).size : Int) + ((bs s').size : Int)) := by rw [bs_size, bs_size]; simp [IntKind.max, IntKind.signed, IntKind.bits]; omega
  have h5 : ((bs s).size : Int) + ((bs s').size : Int) ≤ 9223372036854775807 := by rw [bs_size, bs_size]; omega
  simp [execOp, E.eval hx, E.eval hy, eqGuard, binOp, Op.stringOp, h, h5, bs_append]
theorem R_sliceSL (E : Env a n ds l) (hx : opv l x = some (.string (bs s))) (hy : opv l y = some (.int κ i)) (hu : P.underlying t = some .string) (hi : i = (lo : Int)) (h1 : lo ≤ s.length) :
    (execOp a.eval ⟨some d, .slice t x (some y) none none, ty, pos, af, gd⟩).run P w = .ok (.value (.string (bs (s.drop lo)))) w := by
  subst hi
  have h2 : (lo : Int) ≤ ((bs s).size : Int) := by rw [bs_size]; omega
  simp [execOp, E.eval hx, E.eval hy, Instr.sliceAt, Instr.slice, Instr.sliceBounds, Instr.sliceBound, asIntOf, run_underlying hu, h2, bs_extract, bs_size]
  intro h9; exfalso; omega
theorem R_sliceSH (E : Env a n ds l) (hx : opv l x = some (.string (bs s))) (hy : opv l y = some (.int κ i)) (hu : P.underlying t = some .string) (hi : i = (up : Int)) (h1 : up ≤ s.length) :
    (execOp a.eval ⟨some d, .slice t x none (some y) none, ty, pos, af, gd⟩).run P w = .ok (.value (.string (bs (s.take up)))) w := by
  subst hi
  have h2 : (up : Int) ≤ ((bs s).size : Int) := by rw [bs_size]; omega
  simp [execOp, E.eval hx, E.eval hy, Instr.sliceAt, Instr.slice, Instr.sliceBounds, Instr.sliceBound, asIntOf, run_underlying hu, h2, bs_extract]
  intro h9; exfalso; rw [bs_size] at h9; omega
theorem R_sliceSLH (E : Env a n ds l) (hx : opv l x = some (.string (bs s))) (hy : opv l y = some (.int κ i)) (hz : opv l z = some (.int κ' j)) (hu : P.underlying t = some .string) (hi : i = (lo : Int)) (hj : j = (up : Int)) (h1 : lo ≤ up) (h2 : up ≤ s.length) :
    (execOp a.eval ⟨some d, .slice t x (some y) (some z) none, ty, pos, af, gd⟩).run P w = .ok (.value (.string (bs ((s.take up).drop lo)))) w := by
  subst hi; subst hj
  have h3 : (up : Int) ≤ ((bs s).size : Int) := by rw [bs_size]; omega
  have h4 : (lo : Int) ≤ (up : Int) := by omega
  simp [execOp, E.eval hx, E.eval hy, E.eval hz, Instr.sliceAt, Instr.slice, Instr.sliceBounds, Instr.sliceBound, asIntOf, run_underlying hu, h3, h4, bs_extract]
  rw [if_pos (by rw [bs_size]; exact h2), if_pos h1]
end
/-! ranges over texts -/
theorem run_getObj_str {P : Program} {w : World} {i : Nat} {s : ByteArray} {p : Nat} (h : w.heap[i]? = some (.stringIter s p)) : (getObj i).run P w = .ok (.stringIter s p) w := by simp [getObj, Sem.run, h]
theorem run_setObj_str {P : Program} {w : World} {i : Nat} {s : ByteArray} {p : Nat} (o : Obj) (h : w.heap[i]? = some (.stringIter s p)) : (setObj i o).run P w = .ok () (w.putObj i o) := by simp [setObj, Sem.run, h, World.putObj]
def dec (l : List UInt8) (i : Nat) : Nat × Nat := Utf8.decode (bs l) i
section
variable {r : Option Nat} {P : Program} {Q : Exit → Act → World → Prop} {a : Act} {w : World}
  {n : Nat} {ds : List Deferred} {l : List (Nat × Value)} {d : Nat} {ty t : TypeId} {pos : String} {af : Array Edge} {gd : Option (Nat × Bool)} {x : Operand}
  {next : Act → World → Prop} {M : Hp} {H : List HProp} {s : List UInt8}
theorem X_rangeS (E : Env a n ds l) (S : St w M H) (hd : Nat.blt d n = true) (hx : opv l x = some (.string (bs s))) (hu : P.underlying t = some .string)
    (kk : ∀ a w' i, Env a n ds ((d, .pointer (some ⟨i, 0, none⟩)) :: l) → St w' M (blk i (.stringIter (bs s) 0) :: H) → next a w') : (⟨some d, .range t x, ty, pos, af, gd⟩ : Oper).wpIn (Fw r) 0 P a w next Q := by
  refine X_val E hd rfl (v := .pointer (some ⟨w.heap.size, 0, none⟩)) (w' := w.alloc (.stringIter (bs s) 0)) ?_ fun a E => kk a _ _ E (S.new (o := .stringIter (bs s) 0) rfl)
  simp [execOp, Instr.range, E.eval hx, run_underlying hu, Result.andThen]
theorem X_nextS {i p : Nat} (E : Env a n ds l) (S : St w M (blk i (.stringIter (bs s) p) :: H)) (hd : Nat.blt d n = true) (hx : opv l x = some (.pointer (some ⟨i, 0, none⟩)))
    (k0 : ∀ a, Env a n ds ((d, .tuple #[.bool false]) :: l) → s.length ≤ p → St w M (blk i (.stringIter (bs s) p) :: H) → next a w)
    (k1 : ∀ a w', Env a n ds ((d, .tuple #[.bool true, .int .i64 ((p : Nat) : Int), .int .i32 (((dec s p).1 : Nat) : Int)]) :: l) → p < s.length → St w' M (blk i (.stringIter (bs s) (p + (dec s p).2)) :: H) → next a w') :
    (⟨some d, .next x true, ty, pos, af, gd⟩ : Oper).wpIn (Fw r) 0 P a w next Q := by
  have hg := S.get
  by_cases h : p < s.length
  · refine X_val E hd rfl (v := .tuple #[.bool true, .int .i64 ((p : Nat) : Int), .int .i32 (((dec s p).1 : Nat) : Int)]) (w' := w.putObj i (.stringIter (bs s) (p + (dec s p).2))) ?_ fun a E => k1 a _ E h (S.put _)
    have h2 : p < (bs s).size := by rw [bs_size]; exact h
    simp [execOp, E.eval hx, Instr.next, run_getObj_str hg, run_setObj_str _ hg, h2, goInt, dec, Result.andThen]
  · refine X_val E hd rfl (v := .tuple #[.bool false]) (w' := w) ?_ fun a E => k0 a E (by omega) S
    have h2 : ¬ p < (bs s).size := by rw [bs_size]; exact h
    simp [execOp, E.eval hx, Instr.next, run_getObj_str hg, h2, Result.andThen]
theorem look_str {l : List (Nat × Value)} {t : Nat} {i j : List UInt8} (h : Sl.look l t = some (Value.string (bs i))) (e : i = j) : Sl.look l t = some (Value.string (bs j)) := e ▸ h
end
/-! characters -/
def szN (c : Nat) : Nat := if 194 ≤ c ∧ c ≤ 223 then 2 else if 224 ≤ c ∧ c ≤ 239 then 3 else if 240 ≤ c ∧ c ≤ 244 then 4 else 0
def szLo (c : Nat) : Nat := if c = 224 then 160 else if c = 240 then 144 else 128
def szHi (c : Nat) : Nat := if c = 237 then 159 else if c = 244 then 143 else 191
def by' (l : List UInt8) (i : Nat) : Nat := (l.getD i 0).toNat
/-- how many bytes the character has with which a text begins; 0: none -/
def szC (l : List UInt8) : Nat :=
  if by' l 0 < 128 then 1
  else if szN (by' l 0) = 0 ∨ l.length < szN (by' l 0) ∨ by' l 1 < szLo (by' l 0) ∨ szHi (by' l 0) < by' l 1 then 0
  else if (3 ≤ szN (by' l 0) ∧ (by' l 2 < 128 ∨ 191 < by' l 2)) ∨ (szN (by' l 0) = 4 ∧ (by' l 3 < 128 ∨ 191 < by' l 3)) then 0
  else szN (by' l 0)
theorem by_at {l : List UInt8} {i : Nat} {b : UInt8} (h : l[i]? = some b) : by' l i = b.toNat := by unfold by'; rw [List.getD_eq_getElem?_getD, h]; rfl
theorem by_lt (l : List UInt8) (i : Nat) : by' l i < 256 := by unfold by'; exact UInt8.toNat_lt _
theorem szN_le (c : Nat) : szN c ≤ 4 := by unfold szN; split <;> (try split) <;> (try split) <;> omega
theorem szC_le (l : List UInt8) (hl : l ≠ []) : szC l ≤ l.length := by
  have h0 : 0 < l.length := List.length_pos_iff.2 hl
  unfold szC
  split
  · omega
  split
  · omega
  rename_i h
  split <;> omega
/-- the width by which a range over a text goes on -/
def wid (l : List UInt8) : Nat := if szC l = 0 then 1 else szC l
theorem wid_pos (l : List UInt8) : 0 < wid l := by unfold wid; split <;> omega
theorem wid_le {l : List UInt8} (h : l ≠ []) : wid l ≤ l.length := by
  have := szC_le l h
  have h0 : 0 < l.length := List.length_pos_iff.2 h
  unfold wid; split <;> omega
theorem get_bs (s : List UInt8) (k : Nat) : ((bs s).get! k).toNat = by' s k := by
  unfold by' bs
  rw [List.getD_eq_getElem?_getD]
  show (s.toArray[k]!).toNat = _
  rw [getElem!_def]
  simp only [List.getElem?_toArray]
  cases s[k]? <;> rfl
def zzN (b0 b1 b2 b3 m : Nat) : Nat :=
  if b0 < 128 then 1
  else if szN b0 = 0 ∨ m < szN b0 ∨ b1 < szLo b0 ∨ szHi b0 < b1 then 0
  else if (3 ≤ szN b0 ∧ (b2 < 128 ∨ 191 < b2)) ∨ (szN b0 = 4 ∧ (b3 < 128 ∨ 191 < b3)) then 0
  else szN b0
/-- what the model decodes, in numbers -/
theorem wid_num {b0 b1 b2 b3 : Nat} {k1 k2 k3 : Prop} [Decidable k1] [Decidable k2] [Decidable k3] {m : Nat} (l0 : b0 < 256) (l1 : b1 < 256) (l2 : b2 < 256) (l3 : b3 < 256) (e1 : k1 ↔ 2 ≤ m) (e2 : k2 ↔ 3 ≤ m) (e3 : k3 ↔ 4 ≤ m) :
    (if b0 < 128 then (b0, 1)
      else if b0 / 32 = 6 ∧ k1 ∧ b1 / 64 = 2 then (if b0 % 32 * 64 + b1 % 64 ≥ 128 then (b0 % 32 * 64 + b1 % 64, 2) else (Utf8.runeError, 1))
      else if (b0 / 16 = 14 ∧ k1 ∧ b1 / 64 = 2) ∧ k2 ∧ b2 / 64 = 2 then
        (if b0 % 16 * 4096 + b1 % 64 * 64 + b2 % 64 ≥ 2048 ∧ Utf8.valid ((b0 % 16 * 4096 + b1 % 64 * 64 + b2 % 64 : Nat) : Int) = true then (b0 % 16 * 4096 + b1 % 64 * 64 + b2 % 64, 3) else (Utf8.runeError, 1))
      else if ((b0 / 8 = 30 ∧ k1 ∧ b1 / 64 = 2) ∧ k2 ∧ b2 / 64 = 2) ∧ k3 ∧ b3 / 64 = 2 then
        (if b0 % 8 * 262144 + b1 % 64 * 4096 + b2 % 64 * 64 + b3 % 64 ≥ 65536 ∧ Utf8.valid ((b0 % 8 * 262144 + b1 % 64 * 4096 + b2 % 64 * 64 + b3 % 64 : Nat) : Int) = true then (b0 % 8 * 262144 + b1 % 64 * 4096 + b2 % 64 * 64 + b3 % 64, 4) else (Utf8.runeError, 1))
      else (Utf8.runeError, 1)).2 = if zzN b0 b1 b2 b3 m = 0 then 1 else zzN b0 b1 b2 b3 m := by
  have hv : ∀ x : Nat, Utf8.valid (x : Int) = true ↔ x < 55296 ∨ (57344 ≤ x ∧ x ≤ 1114111) := fun x => by
    unfold Utf8.valid; simp; omega
  simp only [hv, e1, e2, e3]
  by_cases c0 : b0 < 128
  · have hz : zzN b0 b1 b2 b3 m = 1 := by unfold zzN; rw [if_pos c0]
    rw [hz, if_pos c0]; rfl
  rw [if_neg c0]
  by_cases h2 : 194 ≤ b0 ∧ b0 ≤ 223
  · have n2 : szN b0 = 2 := by unfold szN; rw [if_pos h2]
    have lo : szLo b0 = 128 := by unfold szLo; rw [if_neg (by omega), if_neg (by omega)]
    have hi : szHi b0 = 191 := by unfold szHi; rw [if_neg (by omega), if_neg (by omega)]
    by_cases c : 2 ≤ m ∧ b1 / 64 = 2
    · have hz : zzN b0 b1 b2 b3 m = 2 := by unfold zzN; rw [if_neg c0, n2, lo, hi, if_neg (by omega), if_neg (by omega)]
      rw [hz, if_pos ⟨by omega, c⟩, if_pos (by omega)]; rfl
    · have hz : zzN b0 b1 b2 b3 m = 0 := by unfold zzN; rw [if_neg c0, n2, lo, hi, if_pos (by omega)]
      rw [hz, if_neg (fun h => c h.2), if_neg (fun h => c h.1.2), if_neg (fun h => c h.1.1.2)]; rfl
  by_cases h3 : 224 ≤ b0 ∧ b0 ≤ 239
  · have n3 : szN b0 = 3 := by unfold szN; rw [if_neg h2, if_pos h3]
    obtain ⟨H, hi, hH⟩ : ∃ H, szHi b0 = H ∧ ((b0 = 237 ∧ H = 159) ∨ (b0 ≠ 237 ∧ H = 191)) := ⟨_, rfl, by unfold szHi; by_cases e : b0 = 237 <;> simp [e]; omega⟩
    obtain ⟨L, lo, hL⟩ : ∃ L, szLo b0 = L ∧ ((b0 = 224 ∧ L = 160) ∨ (b0 ≠ 224 ∧ L = 128)) := ⟨_, rfl, by unfold szLo; by_cases e : b0 = 224 <;> simp [e]; omega⟩
    rw [if_neg (fun h => by have := h.1; omega)]
    by_cases g : 3 ≤ m ∧ L ≤ b1 ∧ b1 ≤ H ∧ 128 ≤ b2 ∧ b2 ≤ 191
    · have hz : zzN b0 b1 b2 b3 m = 3 := by unfold zzN; rw [if_neg c0, n3, lo, hi, if_neg (by omega), if_neg (by omega)]
      rw [hz, if_pos (by omega), if_pos (by omega)]; rfl
    · have hz : zzN b0 b1 b2 b3 m = 0 := by
        unfold zzN; rw [if_neg c0, n3, lo, hi]
        by_cases d : m < 3 ∨ b1 < L ∨ H < b1
        · rw [if_pos (by omega)]
        · rw [if_neg (by omega), if_pos (by omega)]
      rw [hz]
      by_cases c : (b0 / 16 = 14 ∧ 2 ≤ m ∧ b1 / 64 = 2) ∧ 3 ≤ m ∧ b2 / 64 = 2
      · rw [if_pos c, if_neg (by omega)]; rfl
      · rw [if_neg c, if_neg (fun h => by have := h.1.1.1; omega)]; rfl
  by_cases h4 : 240 ≤ b0 ∧ b0 ≤ 244
  · have n4 : szN b0 = 4 := by unfold szN; rw [if_neg h2, if_neg h3, if_pos h4]
    obtain ⟨H, hi, hH⟩ : ∃ H, szHi b0 = H ∧ ((b0 = 244 ∧ H = 143) ∨ (b0 ≠ 244 ∧ H = 191)) := ⟨_, rfl, by unfold szHi; rw [if_neg (by omega)]; by_cases e : b0 = 244 <;> simp [e]⟩
    obtain ⟨L, lo, hL⟩ : ∃ L, szLo b0 = L ∧ ((b0 = 240 ∧ L = 144) ∨ (b0 ≠ 240 ∧ L = 128)) := ⟨_, rfl, by unfold szLo; rw [if_neg (by omega)]; by_cases e : b0 = 240 <;> simp [e]⟩
    rw [if_neg (fun h => by have := h.1; omega), if_neg (fun h => by have := h.1.1; omega)]
    by_cases g : 4 ≤ m ∧ L ≤ b1 ∧ b1 ≤ H ∧ 128 ≤ b2 ∧ b2 ≤ 191 ∧ 128 ≤ b3 ∧ b3 ≤ 191
    · have hz : zzN b0 b1 b2 b3 m = 4 := by unfold zzN; rw [if_neg c0, n4, lo, hi, if_neg (by omega), if_neg (by omega)]
      rw [hz, if_pos (by omega), if_pos (by omega)]; rfl
    · have hz : zzN b0 b1 b2 b3 m = 0 := by
        unfold zzN; rw [if_neg c0, n4, lo, hi]
        by_cases d : m < 4 ∨ b1 < L ∨ H < b1
        · rw [if_pos (by omega)]
        · rw [if_neg (by omega), if_pos (by omega)]
      rw [hz]
      by_cases c : ((b0 / 8 = 30 ∧ 2 ≤ m ∧ b1 / 64 = 2) ∧ 3 ≤ m ∧ b2 / 64 = 2) ∧ 4 ≤ m ∧ b3 / 64 = 2
      · rw [if_pos c, if_neg (by omega)]; rfl
      · rw [if_neg c]; rfl
  · have n0 : szN b0 = 0 := by unfold szN; rw [if_neg h2, if_neg h3, if_neg h4]
    have hz : zzN b0 b1 b2 b3 m = 0 := by unfold zzN; rw [if_neg c0, n0, if_pos (.inl rfl)]
    rw [hz]
    by_cases c : b0 / 32 = 6 ∧ 2 ≤ m ∧ b1 / 64 = 2
    · rw [if_pos c, if_neg (by omega)]; rfl
    · rw [if_neg c, if_neg (fun h => by have := h.1.1; omega)]
      by_cases c4 : ((b0 / 8 = 30 ∧ 2 ≤ m ∧ b1 / 64 = 2) ∧ 3 ≤ m ∧ b2 / 64 = 2) ∧ 4 ≤ m ∧ b3 / 64 = 2
      · rw [if_pos c4, if_neg (by omega)]; rfl
      · rw [if_neg c4]; rfl
theorem dec_eq (s : List UInt8) (p : Nat) (hp : p < s.length) : (dec s p).2 = wid (s.drop p) := by
  have hb : ∀ k, by' (s.drop p) k = by' s (p + k) := fun k => by unfold by'; rw [List.getD_eq_getElem?_getD, List.getElem?_drop, ← List.getD_eq_getElem?_getD]
  have hl : (s.drop p).length = s.length - p := List.length_drop
  have g : ∀ k, ((bs s).get! k).toNat = by' s k := fun k => get_bs s k
  have h := wid_num (k1 := p + 1 < s.length) (k2 := p + 2 < s.length) (k3 := p + 3 < s.length) (m := s.length - p) (by_lt s p) (by_lt s (p + 1)) (by_lt s (p + 2)) (by_lt s (p + 3)) (by omega) (by omega) (by omega)
  have hz : szC (s.drop p) = zzN (by' s p) (by' s (p + 1)) (by' s (p + 2)) (by' s (p + 3)) (s.length - p) := by
    unfold szC zzN; simp only [hb, hl, Nat.add_zero]
  unfold wid
  rw [hz]
  refine Eq.trans ?_ h
  unfold dec Utf8.decode
  simp only [g, bs_size, Nat.add_zero, Bool.and_eq_true, decide_eq_true_eq, beq_iff_eq]
/-! the reference's question, path by path -/
theorem sz_one {l : List UInt8} {b : UInt8} (h : l[0]? = some b) (hb : b.toNat < 128) : szC l = 1 := by unfold szC; rw [by_at h, if_pos hb]
theorem sz_short {l : List UInt8} {b : UInt8} {n : Nat} (h : l[0]? = some b) (hb : ¬ b.toNat < 128) (hn : szN b.toNat = n) (hs : n = 0 ∨ l.length < n) : szC l = 0 := by
  unfold szC; rw [by_at h, if_neg hb, hn, if_pos (by rcases hs with h | h; exact .inl h; exact .inr (.inl h))]
theorem sz_low {l : List UInt8} {b c : UInt8} {L : Nat} (h : l[0]? = some b) (h1 : l[1]? = some c) (hb : ¬ b.toNat < 128) (hn : szLo b.toNat = L) (hs : c.toNat < L) : szC l = 0 := by
  unfold szC; rw [by_at h, by_at h1, if_neg hb, hn, if_pos (.inr (.inr (.inl hs)))]
theorem sz_high {l : List UInt8} {b c : UInt8} {L : Nat} (h : l[0]? = some b) (h1 : l[1]? = some c) (hb : ¬ b.toNat < 128) (hn : szHi b.toNat = L) (hs : L < c.toNat) : szC l = 0 := by
  unfold szC; rw [by_at h, by_at h1, if_neg hb, hn, if_pos (.inr (.inr (.inr hs)))]
theorem sz_bad {l : List UInt8} {b c : UInt8} {n i : Nat} (h : l[0]? = some b) (h1 : l[i]? = some c) (hb : ¬ b.toNat < 128) (hn : szN b.toNat = n) (h2 : 2 ≤ i) (hi : i < n) (hc : c.toNat < 128 ∨ 191 < c.toNat) : szC l = 0 := by
  have hle := szN_le b.toNat
  have hi' : i = 2 ∨ i = 3 := by omega
  unfold szC; rw [by_at h, if_neg hb]
  split
  · rfl
  rw [if_pos]
  rcases hi' with rfl | rfl
  · rw [by_at h1]; left; exact ⟨by omega, hc⟩
  · rw [by_at h1]; right; exact ⟨by omega, hc⟩
theorem sz_good {l : List UInt8} {b c : UInt8} {n L H : Nat} (h : l[0]? = some b) (h1 : l[1]? = some c) (hb : ¬ b.toNat < 128) (hn : szN b.toNat = n) (hL : szLo b.toNat = L) (hH : szHi b.toNat = H) (h0 : n ≠ 0) (hl : n ≤ l.length) (a1 : L ≤ c.toNat) (a2 : c.toNat ≤ H)
    (ha : ∀ i, 2 ≤ i → i < n → 128 ≤ by' l i ∧ by' l i ≤ 191) : szC l = n := by
  have hle := szN_le b.toNat
  unfold szC; rw [by_at h, by_at h1, if_neg hb, hn, hL, hH, if_neg (by omega), if_neg]
  intro hx
  rcases hx with ⟨h3, h4⟩ | ⟨h3, h4⟩
  · have := ha 2 (by omega) (by omega); omega
  · have := ha 3 (by omega) (by omega); omega
theorem good_step {l : List UInt8} {k : Nat} {c : UInt8} (h : l[k]? = some c) (ha : ∀ i, 2 ≤ i → i < k → 128 ≤ by' l i ∧ by' l i ≤ 191) (h1 : ¬ c.toNat < 128) (h2 : ¬ 191 < c.toNat) : ∀ i, 2 ≤ i → i < k + 1 → 128 ≤ by' l i ∧ by' l i ≤ 191 := by
  intro i h3 h4
  by_cases e : i = k
  · subst e; rw [by_at h]; omega
  · exact ha i h3 (by omega)
/-- the characters, with whether each is one -/
def runF : Nat → List UInt8 → List (List UInt8) × Bool
  | 0, _ => ([], true)
  | f + 1, l => if l = [] then ([], true) else let r := runF f (l.drop (wid l)); (l.take (wid l) :: r.1, r.2 && decide (szC l ≠ 0))
def runs (l : List UInt8) : List (List UInt8) × Bool := runF l.length l
theorem runF_more : ∀ (f g : Nat) (l : List UInt8), l.length ≤ f → l.length ≤ g → runF f l = runF g l
  | 0, g, l, h, _ => by
    have : l = [] := List.eq_nil_of_length_eq_zero (by omega)
    subst this
    cases g <;> simp [runF]
  | f + 1, 0, l, _, h => by
    have : l = [] := List.eq_nil_of_length_eq_zero (by omega)
    subst this; simp [runF]
  | f + 1, g + 1, l, h1, h2 => by
    unfold runF
    by_cases e : l = []
    · simp [e]
    · rw [if_neg e, if_neg e]
      have hw := wid_pos l
      have hl : 0 < l.length := List.length_pos_iff.2 e
      rw [runF_more f g (l.drop (wid l)) (by rw [List.length_drop]; omega) (by rw [List.length_drop]; omega)]
theorem runs_nil : runs [] = ([], true) := rfl
theorem runs_cons {l : List UInt8} (h : l ≠ []) : runs l = (l.take (wid l) :: (runs (l.drop (wid l))).1, (runs (l.drop (wid l))).2 && decide (szC l ≠ 0)) := by
  have hl : 0 < l.length := List.length_pos_iff.2 h
  obtain ⟨n, hn⟩ : ∃ n, l.length = n + 1 := ⟨l.length - 1, by omega⟩
  have hw := wid_pos l
  unfold runs
  rw [hn]
  conv => lhs; unfold runF
  rw [if_neg h]
  rw [runF_more n (l.drop (wid l)).length (l.drop (wid l)) (by rw [List.length_drop]; omega) (Nat.le_refl _)]
theorem runs_len : ∀ (n : Nat) (l : List UInt8), l.length ≤ n → (runs l).1.length ≤ l.length
  | 0, l, h => by
    have : l = [] := List.eq_nil_of_length_eq_zero (by omega)
    subst this; simp [runs_nil]
  | n + 1, l, h => by
    by_cases e : l = []
    · subst e; simp [runs_nil]
    · have hw := wid_pos l
      have hl : 0 < l.length := List.length_pos_iff.2 e
      rw [runs_cons e]
      have := runs_len n (l.drop (wid l)) (by rw [List.length_drop]; omega)
      rw [List.length_drop] at this
      simp; omega
theorem runs_le (l : List UInt8) : (runs l).1.length ≤ l.length := runs_len l.length l (Nat.le_refl _)
/-- the characters joined are the text -/
theorem runs_flat : ∀ (n : Nat) (l : List UInt8), l.length ≤ n → (runs l).1.flatten = l
  | 0, l, h => by
    have : l = [] := List.eq_nil_of_length_eq_zero (by omega)
    subst this; rfl
  | n + 1, l, h => by
    by_cases e : l = []
    · subst e; rfl
    · have hw := wid_pos l
      have hl : 0 < l.length := List.length_pos_iff.2 e
      rw [runs_cons e]
      simp only [List.flatten_cons]
      rw [runs_flat n (l.drop (wid l)) (by rw [List.length_drop]; omega), List.take_append_drop]
theorem szN_two {c : Nat} (h : szN c ≠ 0) : 2 ≤ szN c := by
  unfold szN at h ⊢
  by_cases h2 : 194 ≤ c ∧ c ≤ 223
  · rw [if_pos h2]; omega
  by_cases h3 : 224 ≤ c ∧ c ≤ 239
  · rw [if_neg h2, if_pos h3]; omega
  by_cases h4 : 240 ≤ c ∧ c ≤ 244
  · rw [if_neg h2, if_neg h3, if_pos h4]; omega
  · rw [if_neg h2, if_neg h3, if_neg h4] at h; exact absurd rfl h
theorem rn_le {s : List UInt8} {p : Nat} (h : p < s.length) : p + wid (s.drop p) ≤ s.length := by
  have := wid_le (l := s.drop p) (by intro e; have := congrArg List.length e; simp at this; omega)
  rw [List.length_drop] at this; omega
theorem rn_ne {s : List UInt8} {p : Nat} (h : p < s.length) : s.drop p ≠ [] := by intro e; have := congrArg List.length e; simp at this; omega
def posn (s : List UInt8) : Nat → Nat
  | 0 => 0
  | k + 1 => posn s k + wid (s.drop (posn s k))
def okk (s : List UInt8) : Nat → Bool
  | 0 => true
  | k + 1 => okk s k && decide (szC (s.drop (posn s k)) ≠ 0)
def Rn (s : List UInt8) (k : Nat) : Prop := posn s k ≤ s.length ∧ k ≤ posn s k ∧ (runs (s.drop (posn s k))).1 = (runs s).1.drop k ∧ (runs s).2 = (okk s k && (runs (s.drop (posn s k))).2)
theorem Rn_zero (s : List UInt8) : Rn s 0 := ⟨by simp [posn], by simp [posn], by simp [posn], by simp [posn, okk]⟩
theorem Rn_lt {s : List UInt8} {k : Nat} (h : Rn s k) (hne : s.drop (posn s k) ≠ []) : posn s k < s.length := by
  have := List.length_pos_iff.2 hne; rw [List.length_drop] at this; omega
theorem Rn_step {s : List UInt8} {k : Nat} (h : Rn s k) (hne : s.drop (posn s k) ≠ []) : Rn s (k + 1) := by
  obtain ⟨h1, h1', h2, h3⟩ := h
  have hlt := Rn_lt ⟨h1, h1', h2, h3⟩ hne
  have hw := wid_pos (s.drop (posn s k))
  have e := runs_cons hne
  rw [List.drop_drop] at e
  refine ⟨rn_le hlt, by show k + 1 ≤ posn s k + wid (s.drop (posn s k)); omega, ?_, ?_⟩
  · show (runs (s.drop (posn s k + wid (s.drop (posn s k))))).1 = _
    rw [← List.drop_drop (i := 1) (j := k), ← h2, e]; rfl
  · show _ = (okk s k && decide (szC (s.drop (posn s k)) ≠ 0) && (runs (s.drop (posn s k + wid (s.drop (posn s k))))).2)
    rw [h3, e]
    cases okk s k <;> cases (runs (s.drop (posn s k + wid (s.drop (posn s k))))).2 <;> cases decide (szC (s.drop (posn s k)) ≠ 0) <;> rfl
theorem Rn_end {s : List UInt8} {k : Nat} (h : Rn s k) (he : s.drop (posn s k) = []) : (runs s).1.take k = (runs s).1 ∧ okk s k = (runs s).2 := by
  obtain ⟨h1, h1', h2, h3⟩ := h
  rw [he] at h2 h3
  refine ⟨?_, by rw [h3]; simp [runs_nil]⟩
  have := congrArg List.length h2
  rw [List.length_drop, runs_nil] at this
  exact List.take_of_length_le (by simp at this; omega)
theorem Rn_take {s : List UInt8} {k : Nat} (h : Rn s k) (hne : s.drop (posn s k) ≠ []) : (runs s).1.take (k + 1) = (runs s).1.take k ++ [(s.drop (posn s k)).take (wid (s.drop (posn s k)))] := by
  obtain ⟨h1, h1', h2, h3⟩ := h
  have e := congrArg Prod.fst (runs_cons hne)
  rw [h2] at e
  have e1 : (runs s).1[k]? = some ((s.drop (posn s k)).take (wid (s.drop (posn s k)))) := by
    have := congrArg (fun p => p[0]?) e
    simpa [List.getElem?_drop] using this
  rw [List.take_add_one, e1]; rfl
/-! texts in parts -/
def tcF (n : Nat) : Nat → List (List UInt8) → List (List UInt8)
  | 0, l => [l.flatten]
  | f + 1, l => if l.length ≤ n then [l.flatten] else (l.take n).flatten :: tcF n f (l.drop n)
def tc (n : Nat) (l : List (List UInt8)) : List (List UInt8) := tcF n l.length l
theorem tcF_le {n : Nat} : ∀ (f : Nat) {l : List (List UInt8)}, l.length ≤ n → tcF n f l = [l.flatten]
  | 0, _, _ => rfl
  | _ + 1, _, h => if_pos h
theorem tcF_more {n : Nat} (hn : 0 < n) : ∀ (f g : Nat) (l : List (List UInt8)), l.length ≤ f → l.length ≤ g → tcF n f l = tcF n g l
  | 0, g, l, h, _ => by
    rw [tcF_le (n := n) 0 (by omega), tcF_le g (by omega)]
  | f + 1, 0, l, _, h => by
    rw [tcF_le (n := n) 0 (by omega), tcF_le (f + 1) (by omega)]
  | f + 1, g + 1, l, h1, h2 => by
    by_cases h : l.length ≤ n
    · rw [tcF_le _ h, tcF_le _ h]
    · show (if _ then _ else _) = (if _ then _ else _)
      rw [if_neg h, if_neg h, tcF_more hn f g (l.drop n) (by rw [List.length_drop]; omega) (by rw [List.length_drop]; omega)]
theorem tc_le {n : Nat} {l : List (List UInt8)} (h : l.length ≤ n) : tc n l = [l.flatten] := tcF_le _ h
theorem tc_gt {n : Nat} (hn : 0 < n) {l : List (List UInt8)} (h : n < l.length) : tc n l = (l.take n).flatten :: tc n (l.drop n) := by
  unfold tc
  rw [tcF_more hn l.length (l.length - 1 + 1) l (Nat.le_refl _) (by omega)]
  show (if _ then _ else _) = _
  rw [if_neg (by omega), tcF_more hn (l.length - 1) (l.drop n).length (l.drop n) (by rw [List.length_drop]; omega) (Nat.le_refl _)]
theorem tcF_flat {n : Nat} : ∀ (f : Nat) (l : List (List UInt8)), (tcF n f l).flatten = l.flatten
  | 0, l => by simp [tcF]
  | f + 1, l => by
    show (if _ then _ else _ : List (List UInt8)).flatten = _
    split
    · simp
    · rw [List.flatten_cons, tcF_flat f, ← List.flatten_append, List.take_append_drop]
theorem tc_flat (n : Nat) (l : List (List UInt8)) : (tc n l).flatten = l.flatten := tcF_flat _ _
theorem tcF_len {n : Nat} : ∀ (f : Nat) (l : List (List UInt8)), (tcF n f l).length ≤ f + 1
  | 0, l => by simp [tcF]
  | f + 1, l => by
    show (if _ then _ else _ : List (List UInt8)).length ≤ _
    split
    · simp
    · have := tcF_len (n := n) f (l.drop n); simp only [List.length_cons]; omega
theorem tc_len (n : Nat) (l : List (List UInt8)) : (tc n l).length ≤ l.length + 1 := tcF_len _ _
theorem runs_all (s : List UInt8) : (runs s).1.flatten = s := runs_flat s.length s (Nat.le_refl _)
theorem Rn_ne {s : List UInt8} {k : Nat} (h : Rn s k) (hk : k < (runs s).1.length) : s.drop (posn s k) ≠ [] := by
  intro e
  have h2 := h.2.2.1
  rw [e, runs_nil] at h2
  have := congrArg List.length h2
  rw [List.length_drop] at this; simp at this; omega
theorem Rn_lt2 {s : List UInt8} {k : Nat} (h : Rn s k) (hne : s.drop (posn s k) ≠ []) : k < (runs s).1.length := by
  have h2 := congrArg List.length h.2.2.1
  rw [runs_cons hne, List.length_drop] at h2; simp at h2; omega
theorem Rn_all (s : List UInt8) : ∀ (k : Nat), k ≤ (runs s).1.length → Rn s k
  | 0, _ => Rn_zero s
  | k + 1, h => Rn_step (Rn_all s k (by omega)) (Rn_ne (Rn_all s k (by omega)) (by omega))
theorem flat_drop {s : List UInt8} {k : Nat} (h : Rn s k) : ((runs s).1.drop k).flatten = s.drop (posn s k) := by rw [← h.2.2.1, runs_all]
theorem flat_take {s : List UInt8} {k : Nat} (h : Rn s k) : ((runs s).1.take k).flatten = s.take (posn s k) := by
  have e : ((runs s).1.take k).flatten ++ ((runs s).1.drop k).flatten = s.take (posn s k) ++ s.drop (posn s k) := by
    rw [← List.flatten_append, List.take_append_drop, List.take_append_drop, runs_all]
  rw [flat_drop h] at e
  exact List.append_cancel_right e
theorem posn_mono (s : List UInt8) {a : Nat} : ∀ {b : Nat}, a ≤ b → posn s a ≤ posn s b
  | 0, h => by rw [Nat.le_zero.1 h]; exact Nat.le_refl _
  | b + 1, h => by
    rcases Nat.eq_or_lt_of_le h with e | e
    · rw [e]; exact Nat.le_refl _
    · exact Nat.le_trans (posn_mono s (b := b) (by omega)) (Nat.le_add_right _ _)
def seg (s : List UInt8) (a b : Nat) : List UInt8 := (s.take (posn s b)).drop (posn s a)
theorem seg_eq {s : List UInt8} {a b : Nat} (h : a ≤ b) (hb : b ≤ (runs s).1.length) : seg s a b = (((runs s).1.drop a).take (b - a)).flatten := by
  have h1 := flat_take (Rn_all s b hb)
  have h2 := flat_take (Rn_all s a (by omega))
  have e : s.take (posn s b) = s.take (posn s a) ++ (((runs s).1.drop a).take (b - a)).flatten := by
    rw [← h1, ← h2, ← List.flatten_append]
    rw [← List.take_append_drop a ((runs s).1.take b), List.take_take, Nat.min_eq_left h, List.drop_take]
  have hl : (s.take (posn s a)).length = posn s a := by rw [List.length_take]; have := (Rn_all s a (by omega)).1; omega
  unfold seg
  rw [e, List.drop_left' hl]
def cst (n : Nat) : Nat → Nat × Nat
  | 0 => (0, 0)
  | k + 1 => if (cst n k).2 = n then (k, 1) else ((cst n k).1, (cst n k).2 + 1)
def emt (s : List UInt8) (n : Nat) : Nat → List (List UInt8)
  | 0 => []
  | k + 1 => if (cst n k).2 = n then emt s n k ++ [seg s (cst n k).1 k] else emt s n k
theorem cst_inv {n : Nat} (hn : 0 < n) : ∀ k, (cst n k).1 + (cst n k).2 = k ∧ (cst n k).2 ≤ n
  | 0 => ⟨rfl, Nat.zero_le _⟩
  | k + 1 => by
    have h := cst_inv hn k
    by_cases e : (cst n k).2 = n
    · rw [show cst n (k + 1) = (k, 1) from if_pos e]; exact ⟨rfl, hn⟩
    · rw [show cst n (k + 1) = ((cst n k).1, (cst n k).2 + 1) from if_neg e]
      exact ⟨by show (cst n k).1 + ((cst n k).2 + 1) = k + 1; omega, by show (cst n k).2 + 1 ≤ n; omega⟩
theorem emt_len (s : List UInt8) (n : Nat) : ∀ k, (emt s n k).length ≤ k
  | 0 => Nat.le_refl _
  | k + 1 => by
    have h := emt_len s n k
    show (if _ then _ else _ : List (List UInt8)).length ≤ _
    split
    · simp; omega
    · omega
theorem emt_inv {s : List UInt8} {n : Nat} (hn : 0 < n) : ∀ k, k ≤ (runs s).1.length → emt s n k ++ tc n ((runs s).1.drop (cst n k).1) = tc n (runs s).1
  | 0, _ => rfl
  | k + 1, h => by
    have ih := emt_inv (s := s) hn k (by omega)
    have hc := cst_inv hn k
    by_cases e : (cst n k).2 = n
    · rw [show cst n (k + 1) = (k, 1) from if_pos e, show emt s n (k + 1) = emt s n k ++ [seg s (cst n k).1 k] from if_pos e, ← ih, List.append_assoc]
      congr 1
      rw [tc_gt hn (l := (runs s).1.drop (cst n k).1) (by rw [List.length_drop]; omega), List.drop_drop, seg_eq (by omega) (by omega)]
      have e1 : (cst n k).1 + n = k := by omega
      have e2 : k - (cst n k).1 = n := by omega
      rw [e1, e2]; rfl
    · rw [show cst n (k + 1) = ((cst n k).1, (cst n k).2 + 1) from if_neg e, show emt s n (k + 1) = emt s n k from if_neg e]
      exact ih
theorem emt_end {s : List UInt8} {n k : Nat} (hn : 0 < n) (hk : k ≤ (runs s).1.length) (he : s.length ≤ posn s k) : emt s n k ++ [s.drop (posn s (cst n k).1)] = tc n (runs s).1 := by
  have hr := Rn_all s k hk
  have hK : k = (runs s).1.length := by
    rcases Nat.eq_or_lt_of_le hk with e | e
    · exact e
    · exact absurd (List.drop_eq_nil_of_le he) (Rn_ne hr e)
  have hc := cst_inv hn k
  rw [← emt_inv hn k hk, tc_le (l := (runs s).1.drop (cst n k).1) (by rw [List.length_drop]; omega), flat_drop (Rn_all s _ (by omega))]
theorem tc_all {s : List UInt8} {n : Nat} (h : s.length ≤ n) : tc n (runs s).1 = [s] := by
  rw [tc_le (Nat.le_trans (runs_le s) h), runs_all]
theorem flat_at {l : List (List UInt8)} {k : Nat} {x : List UInt8} (h : l[k]? = some x) : (l.take (k + 1)).flatten = (l.take k).flatten ++ x := by
  rw [List.take_add_one, h]; simp
theorem flat_le (l : List (List UInt8)) (k : Nat) : (l.take k).flatten.length ≤ l.flatten.length := by
  have e := congrArg List.length (congrArg List.flatten (List.take_append_drop k l))
  rw [List.flatten_append, List.length_append] at e; omega
theorem emt_pre {s : List UInt8} {n k : Nat} (hn : 0 < n) (hk : k ≤ (runs s).1.length) (e : (cst n k).2 = n) (hl : k < (runs s).1.length) : emt s n k ++ [seg s (cst n k).1 k] <+: tc n (runs s).1 := by
  have h := emt_inv (s := s) hn (k + 1) (by omega)
  rw [show emt s n (k + 1) = emt s n k ++ [seg s (cst n k).1 k] from if_pos e] at h
  exact ⟨_, h⟩
def rem' (n : Nat) (l : List (List UInt8)) : Nat → List (List UInt8)
  | 0 => l
  | k + 1 => (rem' n l k).drop n
def oc (n : Nat) (l : List (List UInt8)) : Nat → List (List UInt8)
  | 0 => []
  | k + 1 => oc n l k ++ [((rem' n l k).take n).flatten]
theorem oc_len (n : Nat) (l : List (List UInt8)) : ∀ k, (oc n l k).length = k
  | 0 => rfl
  | k + 1 => by simp [oc, oc_len n l k]
def OcI (n : Nat) (l : List (List UInt8)) (k : Nat) : Prop := oc n l k ++ tc n (rem' n l k) = tc n l ∧ (rem' n l k).length + k ≤ l.length
theorem OcI_zero (n : Nat) (l : List (List UInt8)) : OcI n l 0 := ⟨rfl, Nat.le_refl _⟩
theorem OcI_step {n k : Nat} {l : List (List UInt8)} (hn : 0 < n) (h : OcI n l k) (hl : n < (rem' n l k).length) : OcI n l (k + 1) := by
  obtain ⟨h1, h2⟩ := h
  refine ⟨?_, ?_⟩
  · show (oc n l k ++ [((rem' n l k).take n).flatten]) ++ tc n ((rem' n l k).drop n) = _
    rw [← h1, tc_gt hn hl, List.append_assoc]; rfl
  · show ((rem' n l k).drop n).length + (k + 1) ≤ _
    rw [List.length_drop]; omega
theorem OcI_end {n k : Nat} {l : List (List UInt8)} (h : OcI n l k) (hl : (rem' n l k).length ≤ n) : oc n l k ++ [(rem' n l k).flatten] = tc n l := by rw [← h.1, tc_le hl]
theorem flat_dle (l : List (List UInt8)) (k : Nat) : (l.drop k).flatten.length ≤ l.flatten.length := by
  have e := congrArg List.length (congrArg List.flatten (List.take_append_drop k l))
  rw [List.flatten_append, List.length_append] at e; omega
theorem rem_flat (n : Nat) (l : List (List UInt8)) : ∀ k, (rem' n l k).flatten.length ≤ l.flatten.length
  | 0 => Nat.le_refl _
  | k + 1 => Nat.le_trans (flat_dle _ _) (rem_flat n l k)
def chW (n : Nat) (s : List UInt8) : List (List UInt8) := if (runs s).2 = true ∧ 0 < n then tc n (runs s).1 else []
def chS' (n : Nat) (s : List UInt8) : Nat := if (runs s).2 = true ∧ 0 < n then 1 else 2
theorem chW_pos {n : Nat} {s : List UInt8} (h : (runs s).2 = true) (hn : 0 < n) : chW n s = tc n (runs s).1 := if_pos ⟨h, hn⟩
theorem chS_pos {n : Nat} {s : List UInt8} (h : (runs s).2 = true) (hn : 0 < n) : chS' n s = 1 := if_pos ⟨h, hn⟩
theorem chW_neg {n : Nat} {s : List UInt8} (h : (runs s).2 = false ∨ n = 0) : chW n s = [] := if_neg (by rintro ⟨h1, h2⟩; (rcases h with e | e); (rw [e] at h1; exact Bool.noConfusion h1); omega)
theorem chS_neg {n : Nat} {s : List UInt8} (h : (runs s).2 = false ∨ n = 0) : chS' n s = 2 := if_neg (by rintro ⟨h1, h2⟩; (rcases h with e | e); (rw [e] at h1; exact Bool.noConfusion h1); omega)
def chT (n : Nat) (s : List UInt8) : List (List UInt8) := if 0 < n then tc n (runs s).1 else []
theorem chT_pos {n : Nat} {s : List UInt8} (hn : 0 < n) : chT n s = tc n (runs s).1 := if_pos hn

theorem chS_one {n : Nat} {s : List UInt8} (h : chS' n s ≠ 2) : (runs s).2 = true ∧ 0 < n := by
  unfold chS' at h
  by_cases e : (runs s).2 = true ∧ 0 < n
  · exact e
  · rw [if_neg e] at h; exact absurd rfl h
theorem chT_len (n : Nat) (s : List UInt8) : (chT n s).length ≤ s.length + 1 := by
  unfold chT
  split
  · exact Nat.le_trans (tc_len _ _) (by have := runs_le s; omega)
  · simp
theorem chW_len (n : Nat) (s : List UInt8) : (chW n s).length ≤ s.length + 1 := by
  unfold chW
  split
  · exact Nat.le_trans (tc_len _ _) (by have := runs_le s; omega)
  · simp

set_option maxRecDepth 100000 in
set_option maxHeartbeats 4000000 in
theorem lo_ChunkString {M : Hp} {s0 : List UInt8} {n1 : Nat} (hn : 0 < n1) (hb1 : n1 ≤ 1000000) (hb : s0.length ≤ 1000000) :
    Pu Try.prog (.func (.func 61) #[] #[]) M [.string (bs s0), .int .i64 ((n1 : Nat) : Int)] (fun r M' => RdS 1 RTx M' r (tc n1 (runs s0).1)) := by
  refine Pu_enter Try.func61 rfl Try.ntmps61 rfl Try.call61 ?_
  intro a w M1 H hM1 S E
  have hcl := tc_len n1 (runs s0).1
  have hrl := runs_le s0
  refine WP_seq ?_
  refine WP_region ?_
  refine S_v E rfl (R_assign E rfl) rfl ?_
  clear E a; intro a E
  refine WL_nil ?_
  refine T_n ?_
  refine WP_seq ?_
  refine WP_seq ?_
  refine WP_region ?_
  refine S_v E rfl (R_move E rfl) rfl ?_
  clear E a; intro a E
  refine S_v E rfl (R_leq E rfl rfl) rfl ?_
  clear E a; intro a E
  refine WL_nil ?_
  refine T_n ?_
  have hc_1 : (decide (((n1 : Nat) : Int) ≤ 0)) = false := by (apply decide_eq_false; omega)
  refine WP_condF E rfl hc_1 ?_
  refine WP_skip ?_
  refine T_n ?_
  refine WP_seq ?_
  refine WP_seq ?_
  refine WP_region ?_
  refine S_v E rfl (R_move E rfl) rfl ?_
  clear E a; intro a E
  refine S_v E rfl (R_move E rfl) rfl ?_
  clear E a; intro a E
  refine S_v E rfl (R_lenS E rfl Try.underlying9) rfl ?_
  clear E a; intro a E
  refine S_v E rfl (R_geq E rfl rfl) rfl ?_
  clear E a; intro a E
  refine WL_nil ?_
  refine T_n ?_
  refine WP_cond E rfl (fun hc_2 => ?_) (fun hc_2 => ?_)
  · replace hc_2 := of_decide_eq_true hc_2
    refine WP_seq ?_
    refine WP_region ?_
    refine S_v E rfl (R_move E rfl) rfl ?_
    clear E a; intro a E
    refine S_x (X_buildM (R := RTx) (vs := [.string (bs s0)]) (xs := [s0]) RTx_mono E S rfl T24 rfl rfl rfl (by intro u hu; simp only [List.mem_cons, List.not_mem_nil, or_false] at hu; rcases hu with rfl <;> rfl) rfl (rowsC (R := RTx) rfl rowsN) ?_)
    clear E a S; rintro a v_3 w M_4 hM_4 hv_3 S E
    refine S_v E rfl (R_assign E rfl) rfl ?_
    clear E a; intro a E
    refine WL_nil ?_
    refine T_n ?_
    refine WP_ret ?_
    refine T_r ?_
    exact F_ret1 E Try.results61 rfl ⟨_, rfl, M_4, hM_4, (by rw [show (tc n1 (runs s0).1) = [s0] from by (first | exact (tc_all (n := n1) (by omega)).symm | exact tc_all (n := n1) (by omega))]; exact hv_3), S⟩
  · replace hc_2 := of_decide_eq_false hc_2
    have hdv := Nat.div_le_self (s0.length - 1) n1
    refine WP_skip ?_
    refine T_n ?_
    refine WP_seq ?_
    refine WP_region ?_
    refine S_v E rfl (R_move E rfl) rfl ?_
    clear E a; intro a E
    refine S_v E rfl (R_lenS E rfl Try.underlying9) rfl ?_
    clear E a; intro a E
    refine S_v E rfl (R_subx (m := (((s0).length - 1 : Nat) : Int)) E rfl rfl (by (have h9 := Nat.div_le_self (s0.length - 1) n1; generalize (s0.length - 1) / n1 = qz at *; omega)) (by (have h9 := Nat.div_le_self (s0.length - 1) n1; generalize (s0.length - 1) / n1 = qz at *; omega))) rfl ?_
    clear E a; intro a E
    refine S_v E rfl (R_move E rfl) rfl ?_
    clear E a; intro a E
    refine S_v E rfl (R_quon (p := (s0).length - 1) (q := n1) E rfl rfl (by omega) (by omega)) rfl ?_
    clear E a; intro a E
    refine S_v E rfl (R_addx (m := ((((s0).length - 1) / n1 + 1 : Nat) : Int)) E rfl rfl (by (have h9 := Nat.div_le_self (s0.length - 1) n1; generalize (s0.length - 1) / n1 = qz at *; omega)) (by (have h9 := Nat.div_le_self (s0.length - 1) n1; generalize (s0.length - 1) / n1 = qz at *; omega))) rfl ?_
    clear E a; intro a E
    refine S_x (X_make0 (k := ((s0).length - 1) / n1 + 1) E S rfl rfl rfl T24 rfl (by omega) (by (have h9 := Nat.div_le_self (s0.length - 1) n1; generalize (s0.length - 1) / n1 = qz at *; omega)) (by (have h9 := Nat.div_le_self (s0.length - 1) n1; generalize (s0.length - 1) / n1 = qz at *; omega)) ?_)
    clear E a S; rintro a w v_5 E S
    have hr_6 : RowsR RTx 1 M1 ([] : List (List UInt8)) [] := RowsR.nil
    replace S : St w M1 (OwnC 9 1 v_5 ([] : List (List UInt8)).length [] :: _) := S
    refine S_v E rfl (R_assign E rfl) rfl ?_
    clear E a; intro a E
    refine WL_nil ?_
    refine T_n ?_
    refine WP_seq ?_
    refine WP_region ?_
    refine S_v E rfl (R_assign E rfl) rfl ?_
    clear E a; intro a E
    refine WL_nil ?_
    refine T_n ?_
    refine WP_seq ?_
    refine WP_region ?_
    refine S_v E rfl (R_assign E rfl) rfl ?_
    clear E a; intro a E
    refine WL_nil ?_
    refine T_n ?_
    refine WP_seq ?_
    refine WP_seq ?_
    refine WP_region ?_
    refine S_v E rfl (R_move E rfl) rfl ?_
    clear E a; intro a E
    refine S_x (X_rangeS E S rfl rfl Try.underlying9 ?_)
    clear E a S; rintro a w i_7 E S
    refine WL_nil ?_
    refine T_n ?_
    refine WP_block ?_
    replace S := S.front1
    replace S := S.front1
    replace S := S.as (q := blk i_7 (.stringIter (bs s0) (posn s0 0))) (congrArg (fun z => blk i_7 (.stringIter (bs s0) z)) (show 0 = posn s0 0 by (first | rfl | (show _ = posn s0 k + wid _; omega))))
    replace S := S.front1
    have hre : ([] : List (List UInt8)) = (emt s0 n1 0) := by (first | rfl | (rw [he1]; done) | (rw [he1]; rfl))
    replace S := S.reR hre
    replace hr_6 := hr_6.eq hre
    clear hre
    replace S := S.front1
    refine WP_loop (γ := Nat) (fun (k : Nat) a w => ∃ (M_8 : Hp) (u5 : Value) (xs5 : List Value), Hp.le M1 M_8 ∧ St w M_8 (blk i_7 (.stringIter (bs s0) (posn s0 k)) :: OwnC 9 1 u5 (emt s0 n1 k).length xs5 :: H) ∧ Env a 50 [] [(0, .string (bs s0)), (1, .int .i64 ((n1 : Nat) : Int)), (5, u5), (6, .int .i64 (((cst n1 k).2 : Nat) : Int)), (7, .int .i64 ((posn s0 (cst n1 k).1 : Nat) : Int)), (26, .pointer (some ⟨i_7, 0, none⟩))] ∧ (Rn s0 k) ∧ (k ≤ (runs s0).1.length) ∧ RowsR RTx 1 M_8 (emt s0 n1 k) xs5) (fun k => s0.length - posn s0 k) 0 ⟨M1, _, _, Hp.le.refl _, S, E.keep ⟨rfl, rfl, rfl, look_nat (i := 0) rfl (by (rfl)), look_nat (i := 0) rfl (by (rfl)), rfl, trivial⟩, (by exact Rn_zero s0), (by omega), hr_6⟩ ?_
    try clear E
    try clear S
    try clear a
    try clear w
    rintro k a w ⟨M_8, u5, xs5, hM_8, S, E, hL0_0, hL0_1, hr5⟩
    have hci := cst_inv hn k
    have hkn := emt_len s0 n1 k
    have hrl := runs_le s0
    have hpm := posn_mono s0 (a := (cst n1 k).1) (b := k) (by omega)
    refine WP_seq ?_
    refine WP_region ?_
    refine S_x (X_nextS E S rfl rfl ?_ ?_)
    · clear E a S; rintro a E hps_9 S
      refine S_v E rfl (R_extract E rfl rfl) rfl ?_
      clear E a; intro a E
      refine WL_nil ?_
      refine T_n ?_
      refine WP_seq ?_
      refine WP_condF E rfl rfl ?_
      refine WP_exit ?_
      refine T_x ?_
      refine T_x ?_
      refine B_x ?_
      refine T_n ?_
      refine WP_seq ?_
      refine WP_region ?_
      refine S_v E rfl (R_move E rfl) rfl ?_
      clear E a; intro a E
      refine S_v E rfl (R_move E rfl) rfl ?_
      clear E a; intro a E
      refine S_v E rfl (R_move E rfl) rfl ?_
      clear E a; intro a E
      refine S_v E rfl (R_sliceSL (lo := posn s0 (cst n1 k).1) E rfl rfl Try.underlying9 (by omega) (by (first | omega | (have h9 := (show Rn s0 k by assumption).1; omega)))) rfl ?_
      clear E a; intro a E
      refine S_x (X_buildM (R := RTx) (vs := [.string (bs ((s0).drop (posn s0 (cst n1 k).1)))]) (xs := [(s0).drop (posn s0 (cst n1 k).1)]) RTx_mono E S rfl T24 rfl rfl rfl (by intro u hu; simp only [List.mem_cons, List.not_mem_nil, or_false] at hu; rcases hu with rfl <;> rfl) rfl (rowsC (R := RTx) rfl rowsN) ?_)
      clear E a S; rintro a v_10 w M_11 hM_11 hv_10 S E
      replace hr5 := hr5.le RTx_mono hM_11
      replace S := S.front1
      refine S_x (X_appendR (R := RTx) (zs := (emt s0 n1 k)) (ys := [(s0).drop (posn s0 (cst n1 k).1)]) E S hr5 rfl rfl rfl T24 hv_10 one_RTx (by (simp only [List.length_cons, List.length_nil]; omega)) (by (simp only [List.length_cons, List.length_nil]; omega)) ?_)
      clear E a S; rintro a w v_12 xs_13 E hr_14 S
      refine S_v E rfl (R_assign E rfl) rfl ?_
      clear E a; intro a E
      refine WL_nil ?_
      refine T_n ?_
      refine WP_seq ?_
      refine WP_region ?_
      refine S_v E rfl (R_move E rfl) rfl ?_
      clear E a; intro a E
      refine S_v E rfl (R_assign E rfl) rfl ?_
      clear E a; intro a E
      refine WL_nil ?_
      refine T_n ?_
      refine WP_ret ?_
      have S0 := S; clear S
      obtain ⟨M_15, hM_15, hz_16, S⟩ := S0.freezeR hr_14 RTx_mono (by (first | omega | (simp; omega) | (simp; done) | (simp_all; omega) | grind))
      clear S0
      replace hv_10 := hv_10.le RTx_mono hM_15
      exact F_ret1 E Try.results61 rfl ⟨_, rfl, M_15, (hM_8.trans (hM_11.trans hM_15)), (by rw [show (tc n1 (runs s0).1) = ((emt s0 n1 k) ++ [(s0).drop (posn s0 (cst n1 k).1)]) from by (exact (emt_end hn (by assumption) (by assumption)).symm)]; exact hz_16), S.drop⟩
    · clear E a S w; rintro a w E hps_17 S
      have hde := dec_eq s0 _ hps_17
      have hlt := hps_17
      have hkK := Rn_lt2 (s := s0) (k := k) (by assumption) (rn_ne hps_17)
      have hwp := wid_pos (s0.drop (posn s0 k))
      refine S_v E rfl (R_extract E rfl rfl) rfl ?_
      clear E a; intro a E
      refine WL_nil ?_
      refine T_n ?_
      refine WP_seq ?_
      refine WP_condT E rfl rfl ?_
      refine WP_skip ?_
      refine T_n ?_
      refine WP_block ?_
      refine WP_seq ?_
      refine WP_region ?_
      refine S_v E rfl (R_extract E rfl rfl) rfl ?_
      clear E a; intro a E
      refine S_v E rfl (R_assign E rfl) rfl ?_
      clear E a; intro a E
      refine WL_nil ?_
      refine T_n ?_
      refine WP_seq ?_
      refine WP_seq ?_
      refine WP_region ?_
      refine S_v E rfl (R_move E rfl) rfl ?_
      clear E a; intro a E
      refine S_v E rfl (R_move E rfl) rfl ?_
      clear E a; intro a E
      refine S_v E rfl (R_eql E rfl rfl) rfl ?_
      clear E a; intro a E
      refine WL_nil ?_
      refine T_n ?_
      refine WP_cond E rfl (fun hc_18 => ?_) (fun hc_18 => ?_)
      · replace hc_18 := of_decide_eq_true hc_18
        have hcn : (cst n1 k).2 = n1 := by omega
        have hc1 : cst n1 (k + 1) = (k, 1) := if_pos hcn
        have he1 : emt s0 n1 (k + 1) = emt s0 n1 k ++ [seg s0 (cst n1 k).1 k] := if_pos hcn
        refine WP_seq ?_
        refine WP_region ?_
        refine S_v E rfl (R_move E rfl) rfl ?_
        clear E a; intro a E
        refine S_v E rfl (R_move E rfl) rfl ?_
        clear E a; intro a E
        refine S_v E rfl (R_move E rfl) rfl ?_
        clear E a; intro a E
        refine S_v E rfl (R_move E rfl) rfl ?_
        clear E a; intro a E
        refine S_v E rfl (R_sliceSLH (lo := posn s0 (cst n1 k).1) (up := posn s0 k) E rfl rfl rfl Try.underlying9 (by omega) (by omega) (by (first | omega | (have h9 := (show Rn s0 k by assumption).1; omega))) (by (first | omega | (have h9 := (show Rn s0 k by assumption).1; omega)))) rfl ?_
        clear E a; intro a E
        refine S_x (X_buildM (R := RTx) (vs := [.string (bs (((s0).take (posn s0 k)).drop (posn s0 (cst n1 k).1)))]) (xs := [((s0).take (posn s0 k)).drop (posn s0 (cst n1 k).1)]) RTx_mono E S rfl T24 rfl rfl rfl (by intro u hu; simp only [List.mem_cons, List.not_mem_nil, or_false] at hu; rcases hu with rfl <;> rfl) rfl (rowsC (R := RTx) rfl rowsN) ?_)
        clear E a S; rintro a v_19 w M_20 hM_20 hv_19 S E
        replace hr5 := hr5.le RTx_mono hM_20
        replace S := S.front1
        refine S_x (X_appendR (R := RTx) (zs := (emt s0 n1 k)) (ys := [((s0).take (posn s0 k)).drop (posn s0 (cst n1 k).1)]) E S hr5 rfl rfl rfl T24 hv_19 one_RTx (by (simp only [List.length_cons, List.length_nil]; omega)) (by (simp only [List.length_cons, List.length_nil]; omega)) ?_)
        clear E a S; rintro a w v_21 xs_22 E hr_23 S
        refine S_v E rfl (R_assign E rfl) rfl ?_
        clear E a; intro a E
        refine WL_nil ?_
        refine T_n ?_
        refine WP_seq ?_
        refine WP_region ?_
        refine S_v E rfl (R_assign E rfl) rfl ?_
        clear E a; intro a E
        refine WL_nil ?_
        refine T_n ?_
        refine WP_region ?_
        refine S_v E rfl (R_move E rfl) rfl ?_
        clear E a; intro a E
        refine S_v E rfl (R_assign E rfl) rfl ?_
        clear E a; intro a E
        refine WL_nil ?_
        refine T_n ?_
        refine WP_region ?_
        refine S_v E rfl (R_move E rfl) rfl ?_
        clear E a; intro a E
        refine S_v E rfl (R_addx (m := ((1 : Nat) : Int)) E rfl rfl (by (first | omega | (push_cast; rfl) | (rw [← Int.natCast_mul]; omega))) (by (first | omega | (push_cast; rfl) | (rw [← Int.natCast_mul]; omega)))) rfl ?_
        clear E a; intro a E
        refine S_v E rfl (R_assign E rfl) rfl ?_
        clear E a; intro a E
        refine WL_nil ?_
        refine B_n ?_
        refine T_n ?_
        replace S := S.front1
        replace S := S.as (q := blk i_7 (.stringIter (bs s0) (posn s0 (k + 1)))) (congrArg (fun z => blk i_7 (.stringIter (bs s0) z)) (show posn s0 k + (dec s0 (posn s0 k)).2 = posn s0 (k + 1) by (first | rfl | (show _ = posn s0 k + wid _; omega))))
        replace S := S.front1
        have hre : (emt s0 n1 k) ++ [((s0).take (posn s0 k)).drop (posn s0 (cst n1 k).1)] = (emt s0 n1 (k + 1)) := by (first | rfl | (rw [he1]; done) | (rw [he1]; rfl))
        replace S := S.reR hre
        replace hr_23 := hr_23.eq hre
        clear hre
        replace S := S.front1
        exact ⟨k + 1, ⟨M_20, _, _, (hM_8.trans hM_20), S, E.keep ⟨rfl, rfl, rfl, look_nat (i := 1) rfl (by (first | rfl | (rw [hc1]; done) | (rw [hc1]))), look_nat (i := posn s0 k) rfl (by (first | rfl | (rw [hc1]; done) | (rw [hc1]))), rfl, trivial⟩, (by have h9 := rn_le (s := s0) (p := posn s0 k) (by assumption); exact Rn_step (by assumption) (rn_ne (by assumption))), (by omega), hr_23⟩, (by show s0.length - (posn s0 k + wid (s0.drop (posn s0 k))) < _; omega)⟩
      · replace hc_18 := of_decide_eq_false hc_18
        have hcn : ¬ (cst n1 k).2 = n1 := by omega
        have hc1 : cst n1 (k + 1) = ((cst n1 k).1, (cst n1 k).2 + 1) := if_neg hcn
        have he1 : emt s0 n1 (k + 1) = emt s0 n1 k := if_neg hcn
        refine WP_skip ?_
        refine T_n ?_
        refine WP_region ?_
        refine S_v E rfl (R_move E rfl) rfl ?_
        clear E a; intro a E
        refine S_v E rfl (R_addx (m := (((cst n1 k).2 + 1 : Nat) : Int)) E rfl rfl (by (first | omega | (push_cast; rfl) | (rw [← Int.natCast_mul]; omega))) (by (first | omega | (push_cast; rfl) | (rw [← Int.natCast_mul]; omega)))) rfl ?_
        clear E a; intro a E
        refine S_v E rfl (R_assign E rfl) rfl ?_
        clear E a; intro a E
        refine WL_nil ?_
        refine B_n ?_
        refine T_n ?_
        replace S := S.as (q := blk i_7 (.stringIter (bs s0) (posn s0 (k + 1)))) (congrArg (fun z => blk i_7 (.stringIter (bs s0) z)) (show posn s0 k + (dec s0 (posn s0 k)).2 = posn s0 (k + 1) by (first | rfl | (show _ = posn s0 k + wid _; omega))))
        replace S := S.front1
        have hre : (emt s0 n1 k) = (emt s0 n1 (k + 1)) := by (first | rfl | (rw [he1]; done) | (rw [he1]; rfl))
        replace S := S.reR hre
        replace hr5 := hr5.eq hre
        clear hre
        replace S := S.front1
        exact ⟨k + 1, ⟨M_8, _, _, hM_8, S, E.keep ⟨rfl, rfl, rfl, look_nat (i := (cst n1 k).2 + 1) rfl (by (first | rfl | (rw [hc1]; done) | (rw [hc1]))), look_nat (i := posn s0 (cst n1 k).1) rfl (by (first | rfl | (rw [hc1]; done) | (rw [hc1]))), rfl, trivial⟩, (by have h9 := rn_le (s := s0) (p := posn s0 k) (by assumption); exact Rn_step (by assumption) (rn_ne (by assumption))), (by omega), hr5⟩, (by show s0.length - (posn s0 k + wid (s0.drop (posn s0 k))) < _; omega)⟩

set_option maxRecDepth 100000 in
set_option maxHeartbeats 4000000 in
theorem lo_ChunkStringP {M : Hp} {s0 : List UInt8} {n1 : Nat} (hz : n1 = 0) :
    PuP Try.prog (.func (.func 61) #[] #[]) M [.string (bs s0), .int .i64 ((n1 : Nat) : Int)] := by
  refine PuP_enter Try.func61 rfl Try.ntmps61 rfl Try.call61 ?_
  intro a w M1 H hM1 S E
  refine WP_seq ?_
  refine WP_region ?_
  refine S_v E rfl (R_assign E rfl) rfl ?_
  clear E a; intro a E
  refine WL_nil ?_
  refine T_n ?_
  refine WP_seq ?_
  refine WP_seq ?_
  refine WP_region ?_
  refine S_v E rfl (R_move E rfl) rfl ?_
  clear E a; intro a E
  refine S_v E rfl (R_leq E rfl rfl) rfl ?_
  clear E a; intro a E
  refine WL_nil ?_
  refine T_n ?_
  have hc_1 : (decide (((n1 : Nat) : Int) ≤ 0)) = true := by (apply decide_eq_true; omega)
  refine WP_condT E rfl hc_1 ?_
  refine WP_region ?_
  refine S_v E rfl (R_ifaceS E rfl Try.underlying9) rfl ?_
  clear E a; intro a E
  exact S_x0 (X_panic E rfl (F_panic E ⟨_, _, rfl, M1, (Hp.le.refl _), S⟩))

set_option maxRecDepth 100000 in
set_option maxHeartbeats 4000000 in
theorem impl_ChunkString1R (b b' : Nat) (T : TypeId) (u : Value) (w : World) {v v' : Value} {e e' : TypeId} (h : w.heap[b]? = some (.cells #[v] e)) (h' : (w.setCell ⟨b, 0, none⟩ (.slice none 0 0)).heap[b']? = some (.cells #[v'] e')) :
    CallsDIn (Fw none) 0 Try.prog 60 #[.pointer (some ⟨b, 0, none⟩), .pointer (some ⟨b', 0, none⟩)] (.panicking [{ v := .iface T u, recovered := false }]) w
      (fun e u' w' => e = .returned (.tuple #[]) ∧ u' = .panicking [{ v := .iface T u, recovered := true }] ∧ w' = (w.setCell ⟨b, 0, none⟩ (.slice none 0 0)).setCell ⟨b', 0, none⟩ (.bool false)) := by
  have hc : w.cell? ⟨b, 0, none⟩ = some v := by simp [World.cell?, h]
  have hf : w.frozen? ⟨b, 0, none⟩ = false := by simp [World.frozen?, h]
  have hc' : (w.setCell ⟨b, 0, none⟩ (.slice none 0 0)).cell? ⟨b', 0, none⟩ = some v' := by simp [World.cell?, h']
  have hf' : (w.setCell ⟨b, 0, none⟩ (.slice none 0 0)).frozen? ⟨b', 0, none⟩ = false := by simp [World.frozen?, h']
  refine callsDIn_of_wpSIn Try.func60 rfl trivial fun c₀ cs hu => ?_
  apply wpSIn_seq
  apply wpSIn_region
  simp [wpOpsSIn, go_sem, recoverD, hu, Try.ntmps60, Exit.thenS]
  refine wpSIn_cond (t := true) (by simp [Act.eval, Array.replicate]) ?_
  simp only [if_true]
  apply wpSIn_region
  simp [wpOpsSIn, go_sem, hc, hf, hc', hf', bodyPostS, results, Try.results60, Try.sizeOf24]

set_option maxRecDepth 100000 in
set_option maxHeartbeats 4000000 in
theorem impl_ChunkString_pos {M : Hp} {s0 : List UInt8} {n1 : Nat} (hn : 0 < n1) (hb1 : n1 ≤ 1000000) (hb : s0.length ≤ 1000000) :
    Pu Try.prog (.func (.func 14) #[] #[]) M [.string (bs s0), .int .i64 ((n1 : Nat) : Int)] (fun r M' => ∃ t0, r = .tuple #[t0, .bool true] ∧ RdS 1 RTx M' t0 (tc n1 (runs s0).1)) := by
  refine Pu_enter Try.func14 rfl Try.ntmps14 rfl Try.call14 ?_
  intro a w M1 H hM1 S E
  have hcl := tc_len n1 (runs s0).1
  have hrl := runs_le s0
  refine WP_seq ?_
  refine WP_region ?_
  refine S_x (X_alloc (cs := #[.slice none 0 0]) E S rfl Try.zeroValue24 rfl ?_)
  clear E a S; rintro a w b_1 E S
  refine S_x (X_alloc (cs := #[.bool false]) E S rfl Try.zeroValue4 rfl ?_)
  clear E a S; rintro a w b_2 E S
  refine WL_nil ?_
  refine T_n ?_
  refine WP_seq ?_
  refine WP_region ?_
  refine S_v E rfl (R_makeFunc E rfl rfl) rfl ?_
  clear E a; intro a E
  refine S_defer E rfl ?_
  clear E a; intro a E
  replace E : Env a 10 [⟨.fn (.func 60) #[.pointer (some ⟨b_1, 0, none⟩), .pointer (some ⟨b_2, 0, none⟩)], #[]⟩] _ := E
  refine WL_nil ?_
  refine T_n ?_
  refine WP_seq ?_
  refine WP_region ?_
  refine S_v E rfl (R_move E rfl) rfl ?_
  clear E a; intro a E
  refine S_v E rfl (R_move E rfl) rfl ?_
  clear E a; intro a E
  refine S_x (X_pu E S rfl rfl rfl (lo_ChunkString (by first | omega | (simp; done) | (simp; omega)) (by first | omega | (simp; done) | (simp; omega)) (by first | omega | (simp; done) | (simp; omega))) (Hp.le.refl _) ?_)
  clear E a S; rintro a v_4 w M_3 hM_3 hv_4 S E
  replace S := S.front1
  refine S_x0 (X_store E S rfl rfl (Try.sizeOf24 _) (RdS.one' hv_4) ?_)
  clear E a S; rintro a w E S
  replace S := S.front1
  refine S_x0 (X_store E S rfl rfl (Try.sizeOf4 _) rfl ?_)
  clear E a S; rintro a w E S
  refine WL_nil ?_
  refine T_n ?_
  refine WP_ret ?_
  replace S := S.front1
  exact F_retDC2 E S Try.results14 rfl rfl (fun w => Try.isAgg24 w) (fun w => Try.isAgg4 w) Try.call60 (fun w => recover_none Try.func60 rfl Try.results60 Try.ntmps60 rfl rfl (by simp) (run_eq_nilIface Try.underlying20)) ⟨_, rfl, M_3, hM_3, ⟨_, (by first | rfl | (simp; done) | (simp_all; done)), hv_4⟩, S.drop.drop⟩
theorem impl_ChunkString_zero {M : Hp} {s0 : List UInt8} {n1 : Nat} (hz : n1 = 0) :
    Pu Try.prog (.func (.func 14) #[] #[]) M [.string (bs s0), .int .i64 ((n1 : Nat) : Int)] (fun r M' => ∃ t0, r = .tuple #[t0, .bool false] ∧ RdS 1 RTx M' t0 ([] : List (List UInt8))) := by
  refine Pu_enter Try.func14 rfl Try.ntmps14 rfl Try.call14 ?_
  intro a w M1 H hM1 S E
  refine WP_seq ?_
  refine WP_region ?_
  refine S_x (X_alloc (cs := #[.slice none 0 0]) E S rfl Try.zeroValue24 rfl ?_)
  clear E a S; rintro a w b_1 E S
  refine S_x (X_alloc (cs := #[.bool false]) E S rfl Try.zeroValue4 rfl ?_)
  clear E a S; rintro a w b_2 E S
  refine WL_nil ?_
  refine T_n ?_
  refine WP_seq ?_
  refine WP_region ?_
  refine S_v E rfl (R_makeFunc E rfl rfl) rfl ?_
  clear E a; intro a E
  refine S_defer E rfl ?_
  clear E a; intro a E
  replace E : Env a 10 [⟨.fn (.func 60) #[.pointer (some ⟨b_1, 0, none⟩), .pointer (some ⟨b_2, 0, none⟩)], #[]⟩] _ := E
  refine WL_nil ?_
  refine T_n ?_
  refine WP_seq ?_
  refine WP_region ?_
  refine S_v E rfl (R_move E rfl) rfl ?_
  clear E a; intro a E
  refine S_v E rfl (R_move E rfl) rfl ?_
  clear E a; intro a E
  replace S := S.front1
  exact S_x (X_puP E S rfl rfl (lo_ChunkStringP (by first | assumption | rfl | omega)) (Hp.le.refl _) (fun _ _ w M_ h S => F_panicDC2 E S Try.results14 rfl rfl (fun w => Try.isAgg24 w) (fun w => Try.isAgg4 w) Try.call60 (fun w h1 h2 => impl_ChunkString1R _ _ _ _ w h1 h2) (fun w S => ⟨_, rfl, M_, (((Hp.le.refl _)).trans h), ⟨_, rfl, RdS.nil _⟩, S.drop.drop⟩)))
theorem impl_ChunkString {M : Hp} {s0 : List UInt8} {n1 : Nat} (hb1 : n1 ≤ 1000000) (hb : s0.length ≤ 1000000) :
    Pu Try.prog (.func (.func 14) #[] #[]) M [.string (bs s0), .int .i64 ((n1 : Nat) : Int)] (fun r M' => ∃ t0, r = .tuple #[t0, .bool (decide (0 < n1))] ∧ RdS 1 RTx M' t0 (chT n1 s0)) := by
  rcases Nat.eq_zero_or_pos n1 with h | h
  · have h9 := impl_ChunkString_zero (M := M) (s0 := s0) h
    subst h; exact h9
  · have h9 := impl_ChunkString_pos (M := M) (s0 := s0) h hb1 hb
    rw [chT_pos h, decide_eq_true h]; exact h9

set_option maxRecDepth 100000 in
set_option maxHeartbeats 4000000 in
theorem laws_long {M : Hp} {s0 : List UInt8}  :
    Pu Try.prog (.func (.func 11) #[] #[]) M [.string (bs s0)] (fun r M' => r = .bool (decide (3000 < ((s0).length : Int)))) := by
  refine Pu_enter Try.func11 rfl Try.ntmps11 rfl Try.call11 ?_
  intro a w M1 H hM1 S E
  refine WP_seq ?_
  refine WP_region ?_
  refine S_v E rfl (R_assign E rfl) rfl ?_
  clear E a; intro a E
  refine WL_nil ?_
  refine T_n ?_
  refine WP_seq ?_
  refine WP_region ?_
  refine S_v E rfl (R_move E rfl) rfl ?_
  clear E a; intro a E
  refine S_v E rfl (R_lenS E rfl Try.underlying9) rfl ?_
  clear E a; intro a E
  refine S_v E rfl (R_gtr E rfl rfl) rfl ?_
  clear E a; intro a E
  refine S_v E rfl (R_assign E rfl) rfl ?_
  clear E a; intro a E
  refine WL_nil ?_
  refine T_n ?_
  refine WP_ret ?_
  exact F_ret1 E Try.results11 rfl ⟨_, rfl, M1, (Hp.le.refl _), (congrArg Value.bool (by ((try clear S); (try clear E); first | assumption | omega | rfl | (simp; done) | (simp_all; done) | (simp [List.take_add_one, *]; done) | grind [List.take_add_one]))), S⟩

set_option maxRecDepth 100000 in
set_option maxHeartbeats 4000000 in
theorem spec_size {M : Hp} {s0 : List UInt8} (hne : s0 ≠ []) :
    Pu Try.prog (.func (.func 59) #[] #[]) M [.string (bs s0)] (fun r M' => r = .int .i64 ((szC s0 : Nat) : Int)) := by
  refine Pu_enter Try.func59 rfl Try.ntmps59 rfl Try.call59 ?_
  intro a w M1 H hM1 S E
  have hl0 : 0 < s0.length := List.length_pos_iff.2 hne
  refine WP_seq ?_
  refine WP_region ?_
  refine S_v E rfl (R_assign E rfl) rfl ?_
  clear E a; intro a E
  refine WL_nil ?_
  refine T_n ?_
  refine WP_seq ?_
  refine WP_region ?_
  refine S_v E rfl (R_move E rfl) rfl ?_
  clear E a; intro a E
  obtain ⟨c_1, hc_1⟩ : ∃ x, (s0)[0]? = some x := ⟨_, List.getElem?_eq_getElem (by (first | omega | (have hz2 := szN_two (c := c_1.toNat) (by omega); omega)))⟩
  have rc_1 := UInt8.toNat_lt c_1
  refine S_v E rfl (R_indexS (lo := 0) E rfl rfl Try.underlying9 (by omega) hc_1) rfl ?_
  clear E a; intro a E
  refine S_v E rfl (R_assign E rfl) rfl ?_
  clear E a; intro a E
  refine S_v E rfl (R_assign E rfl) rfl ?_
  clear E a; intro a E
  refine WL_nil ?_
  refine T_n ?_
  refine WP_seq ?_
  refine WP_region ?_
  refine S_v E rfl (R_assign E rfl) rfl ?_
  clear E a; intro a E
  refine S_v E rfl (R_assign E rfl) rfl ?_
  clear E a; intro a E
  refine WL_nil ?_
  refine T_n ?_
  refine WP_seq ?_
  refine WP_join (fun a w => ∃ (M_2 : Hp), Hp.le M1 M_2 ∧ St w M_2 (H) ∧ Env a 79 [] [(0, .string (bs s0)), (3, .int .u8 ((c_1.toNat : Nat) : Int)), (4, .int .i64 ((szN c_1.toNat : Nat) : Int)), (5, .int .u8 128), (6, .int .u8 191)] ∧ (¬ c_1.toNat < 128)) ?_ ?_
  · refine WP_block ?_
    refine WP_seq ?_
    refine WP_region ?_
    refine S_v E rfl (R_move E rfl) rfl ?_
    clear E a; intro a E
    refine S_v E rfl (R_lss E rfl rfl) rfl ?_
    clear E a; intro a E
    refine S_v E rfl (R_assign E rfl) rfl ?_
    clear E a; intro a E
    refine WL_nil ?_
    refine T_n ?_
    refine WP_cond E rfl (fun hc_3 => ?_) (fun hc_3 => ?_)
    · replace hc_3 := of_decide_eq_true hc_3
      refine WP_seq ?_
      refine WP_region ?_
      refine S_v E rfl (R_assign E rfl) rfl ?_
      clear E a; intro a E
      refine WL_nil ?_
      refine T_n ?_
      refine WP_ret ?_
      refine B_r ?_
      refine .inr ⟨by simp, ?_⟩
      refine T_r ?_
      exact F_ret1 E Try.results59 rfl ⟨_, rfl, M1, (Hp.le.refl _), (congrArg (Value.int .i64) (by (first | (have h9 : szC s0 = 1 := sz_one (by assumption) (by omega); rw [h9]; rfl) | (have h9 : szC s0 = 0 := sz_short (by assumption) (by omega) rfl (.inl (by omega)); rw [h9]; rfl) | (have h9 : szC s0 = 0 := sz_short (by assumption) (by omega) rfl (.inr (by omega)); rw [h9]; rfl) | (have h9 : szC s0 = 0 := sz_low (by assumption) (by assumption) (by omega) rfl (by omega); rw [h9]; rfl) | (have h9 : szC s0 = 0 := sz_high (by assumption) (by assumption) (by omega) rfl (by omega); rw [h9]; rfl) | (have h9 : szC s0 = 0 := sz_bad (i := k) (by assumption) (by assumption) (by omega) rfl (by omega) (by omega) (by omega); rw [h9]; rfl) | (have h9 : szC s0 = szN c_1.toNat := sz_good (by assumption) (by assumption) (by omega) rfl rfl rfl (by omega) (by omega) (by omega) (by omega) (fun i h1 h2 => hL0_0 i h1 (by omega)); rw [h9])))), S⟩
    · replace hc_3 := of_decide_eq_false hc_3
      refine WP_seq ?_
      refine WP_region ?_
      refine S_v E rfl (R_move E rfl) rfl ?_
      clear E a; intro a E
      refine S_v E rfl (R_geq E rfl rfl) rfl ?_
      clear E a; intro a E
      refine S_v E rfl (R_move E rfl) rfl ?_
      clear E a; intro a E
      refine split_bool (decide (194 ≤ ((c_1.toNat : Nat) : Int))) (fun hc_4 => ?_) (fun hc_4 => ?_)
      · replace E := E.val (t := 15) rfl hc_4
        replace E := E.val (t := 16) rfl hc_4
        replace hc_4 := of_decide_eq_true hc_4
        refine WL_guard_yes E rfl rfl ?_
        refine S_v E rfl (R_move E rfl) rfl ?_
        clear E a; intro a E
        refine WL_guard_yes E rfl rfl ?_
        refine S_v E rfl (R_leq E rfl rfl) rfl ?_
        clear E a; intro a E
        refine S_v E rfl (R_pickT E rfl rfl) rfl ?_
        clear E a; intro a E
        refine S_v E rfl (R_assign E rfl) rfl ?_
        clear E a; intro a E
        refine WL_nil ?_
        refine T_n ?_
        refine WP_cond E rfl (fun hc_5 => ?_) (fun hc_5 => ?_)
        · replace hc_5 := of_decide_eq_true hc_5
          refine WP_region ?_
          refine S_v E rfl (R_assign E rfl) rfl ?_
          clear E a; intro a E
          refine WL_nil ?_
          refine B_n ?_
          refine .inl ⟨rfl, ?_⟩
          exact ⟨M1, (Hp.le.refl _), S, E.keep ⟨rfl, rfl, (look_int (i := 2) rfl (by (first | omega | (unfold szN; (repeat' split) <;> omega) | (unfold szLo; (repeat' split) <;> omega) | (unfold szHi; (repeat' split) <;> omega)))), rfl, rfl, trivial⟩, (by (first | omega | (unfold szN; (repeat' split) <;> omega) | (unfold szLo; (repeat' split) <;> omega) | (unfold szHi; (repeat' split) <;> omega)))⟩
        · replace hc_5 := of_decide_eq_false hc_5
          refine WP_seq ?_
          refine WP_region ?_
          refine S_v E rfl (R_move E rfl) rfl ?_
          clear E a; intro a E
          refine S_v E rfl (R_geq E rfl rfl) rfl ?_
          clear E a; intro a E
          refine S_v E rfl (R_move E rfl) rfl ?_
          clear E a; intro a E
          refine split_bool (decide (224 ≤ ((c_1.toNat : Nat) : Int))) (fun hc_6 => ?_) (fun hc_6 => ?_)
          · replace E := E.val (t := 22) rfl hc_6
            replace E := E.val (t := 23) rfl hc_6
            replace hc_6 := of_decide_eq_true hc_6
            refine WL_guard_yes E rfl rfl ?_
            refine S_v E rfl (R_move E rfl) rfl ?_
            clear E a; intro a E
            refine WL_guard_yes E rfl rfl ?_
            refine S_v E rfl (R_leq E rfl rfl) rfl ?_
            clear E a; intro a E
            refine S_v E rfl (R_pickT E rfl rfl) rfl ?_
            clear E a; intro a E
            refine S_v E rfl (R_assign E rfl) rfl ?_
            clear E a; intro a E
            refine WL_nil ?_
            refine T_n ?_
            refine WP_cond E rfl (fun hc_7 => ?_) (fun hc_7 => ?_)
            · replace hc_7 := of_decide_eq_true hc_7
              refine WP_region ?_
              refine S_v E rfl (R_assign E rfl) rfl ?_
              clear E a; intro a E
              refine WL_nil ?_
              refine B_n ?_
              refine .inl ⟨rfl, ?_⟩
              exact ⟨M1, (Hp.le.refl _), S, E.keep ⟨rfl, rfl, (look_int (i := 3) rfl (by (first | omega | (unfold szN; (repeat' split) <;> omega) | (unfold szLo; (repeat' split) <;> omega) | (unfold szHi; (repeat' split) <;> omega)))), rfl, rfl, trivial⟩, (by (first | omega | (unfold szN; (repeat' split) <;> omega) | (unfold szLo; (repeat' split) <;> omega) | (unfold szHi; (repeat' split) <;> omega)))⟩
            · replace hc_7 := of_decide_eq_false hc_7
              refine WP_seq ?_
              refine WP_region ?_
              refine S_v E rfl (R_move E rfl) rfl ?_
              clear E a; intro a E
              refine S_v E rfl (R_geq E rfl rfl) rfl ?_
              clear E a; intro a E
              refine S_v E rfl (R_move E rfl) rfl ?_
              clear E a; intro a E
              refine split_bool (decide (240 ≤ ((c_1.toNat : Nat) : Int))) (fun hc_8 => ?_) (fun hc_8 => ?_)
              · replace E := E.val (t := 29) rfl hc_8
                replace E := E.val (t := 30) rfl hc_8
                replace hc_8 := of_decide_eq_true hc_8
                refine WL_guard_yes E rfl rfl ?_
                refine S_v E rfl (R_move E rfl) rfl ?_
                clear E a; intro a E
                refine WL_guard_yes E rfl rfl ?_
                refine S_v E rfl (R_leq E rfl rfl) rfl ?_
                clear E a; intro a E
                refine S_v E rfl (R_pickT E rfl rfl) rfl ?_
                clear E a; intro a E
                refine S_v E rfl (R_assign E rfl) rfl ?_
                clear E a; intro a E
                refine WL_nil ?_
                refine T_n ?_
                refine WP_cond E rfl (fun hc_9 => ?_) (fun hc_9 => ?_)
                · replace hc_9 := of_decide_eq_true hc_9
                  refine WP_region ?_
                  refine S_v E rfl (R_assign E rfl) rfl ?_
                  clear E a; intro a E
                  refine WL_nil ?_
                  refine B_n ?_
                  refine .inl ⟨rfl, ?_⟩
                  exact ⟨M1, (Hp.le.refl _), S, E.keep ⟨rfl, rfl, (look_int (i := 4) rfl (by (first | omega | (unfold szN; (repeat' split) <;> omega) | (unfold szLo; (repeat' split) <;> omega) | (unfold szHi; (repeat' split) <;> omega)))), rfl, rfl, trivial⟩, (by (first | omega | (unfold szN; (repeat' split) <;> omega) | (unfold szLo; (repeat' split) <;> omega) | (unfold szHi; (repeat' split) <;> omega)))⟩
                · replace hc_9 := of_decide_eq_false hc_9
                  refine WP_skip ?_
                  refine B_n ?_
                  refine .inl ⟨rfl, ?_⟩
                  exact ⟨M1, (Hp.le.refl _), S, E.keep ⟨rfl, rfl, (look_int (i := 0) rfl (by (first | omega | (unfold szN; (repeat' split) <;> omega) | (unfold szLo; (repeat' split) <;> omega) | (unfold szHi; (repeat' split) <;> omega)))), rfl, rfl, trivial⟩, (by (first | omega | (unfold szN; (repeat' split) <;> omega) | (unfold szLo; (repeat' split) <;> omega) | (unfold szHi; (repeat' split) <;> omega)))⟩
              · replace E := E.val (t := 29) rfl hc_8
                replace E := E.val (t := 30) rfl hc_8
                replace hc_8 := of_decide_eq_false hc_8
                refine WL_guard_no E rfl rfl rfl rfl fun a E => ?_
                refine WL_guard_no E rfl rfl rfl rfl fun a E => ?_
                refine S_v E rfl (R_pickF E rfl rfl) rfl ?_
                clear E a; intro a E
                refine S_v E rfl (R_assign E rfl) rfl ?_
                clear E a; intro a E
                refine WL_nil ?_
                refine T_n ?_
                refine WP_condF E rfl rfl ?_
                refine WP_skip ?_
                refine B_n ?_
                refine .inl ⟨rfl, ?_⟩
                exact ⟨M1, (Hp.le.refl _), S, E.keep ⟨rfl, rfl, (look_int (i := 0) rfl (by (first | omega | (unfold szN; (repeat' split) <;> omega) | (unfold szLo; (repeat' split) <;> omega) | (unfold szHi; (repeat' split) <;> omega)))), rfl, rfl, trivial⟩, (by (first | omega | (unfold szN; (repeat' split) <;> omega) | (unfold szLo; (repeat' split) <;> omega) | (unfold szHi; (repeat' split) <;> omega)))⟩
          · replace E := E.val (t := 22) rfl hc_6
            replace E := E.val (t := 23) rfl hc_6
            replace hc_6 := of_decide_eq_false hc_6
            refine WL_guard_no E rfl rfl rfl rfl fun a E => ?_
            refine WL_guard_no E rfl rfl rfl rfl fun a E => ?_
            refine S_v E rfl (R_pickF E rfl rfl) rfl ?_
            clear E a; intro a E
            refine S_v E rfl (R_assign E rfl) rfl ?_
            clear E a; intro a E
            refine WL_nil ?_
            refine T_n ?_
            refine WP_condF E rfl rfl ?_
            refine WP_seq ?_
            refine WP_region ?_
            refine S_v E rfl (R_move E rfl) rfl ?_
            clear E a; intro a E
            refine S_v E rfl (R_geq E rfl rfl) rfl ?_
            clear E a; intro a E
            refine S_v E rfl (R_move E rfl) rfl ?_
            clear E a; intro a E
            refine split_bool (decide (240 ≤ ((c_1.toNat : Nat) : Int))) (fun hc_10 => ?_) (fun hc_10 => ?_)
            · replace E := E.val (t := 29) rfl hc_10
              replace E := E.val (t := 30) rfl hc_10
              replace hc_10 := of_decide_eq_true hc_10
              refine WL_guard_yes E rfl rfl ?_
              refine S_v E rfl (R_move E rfl) rfl ?_
              clear E a; intro a E
              refine WL_guard_yes E rfl rfl ?_
              refine S_v E rfl (R_leq E rfl rfl) rfl ?_
              clear E a; intro a E
              refine S_v E rfl (R_pickT E rfl rfl) rfl ?_
              clear E a; intro a E
              refine S_v E rfl (R_assign E rfl) rfl ?_
              clear E a; intro a E
              refine WL_nil ?_
              refine T_n ?_
              refine WP_cond E rfl (fun hc_11 => ?_) (fun hc_11 => ?_)
              · replace hc_11 := of_decide_eq_true hc_11
                refine WP_region ?_
                refine S_v E rfl (R_assign E rfl) rfl ?_
                clear E a; intro a E
                refine WL_nil ?_
                refine B_n ?_
                refine .inl ⟨rfl, ?_⟩
                exact ⟨M1, (Hp.le.refl _), S, E.keep ⟨rfl, rfl, (look_int (i := 4) rfl (by (first | omega | (unfold szN; (repeat' split) <;> omega) | (unfold szLo; (repeat' split) <;> omega) | (unfold szHi; (repeat' split) <;> omega)))), rfl, rfl, trivial⟩, (by (first | omega | (unfold szN; (repeat' split) <;> omega) | (unfold szLo; (repeat' split) <;> omega) | (unfold szHi; (repeat' split) <;> omega)))⟩
              · replace hc_11 := of_decide_eq_false hc_11
                refine WP_skip ?_
                refine B_n ?_
                refine .inl ⟨rfl, ?_⟩
                exact ⟨M1, (Hp.le.refl _), S, E.keep ⟨rfl, rfl, (look_int (i := 0) rfl (by (first | omega | (unfold szN; (repeat' split) <;> omega) | (unfold szLo; (repeat' split) <;> omega) | (unfold szHi; (repeat' split) <;> omega)))), rfl, rfl, trivial⟩, (by (first | omega | (unfold szN; (repeat' split) <;> omega) | (unfold szLo; (repeat' split) <;> omega) | (unfold szHi; (repeat' split) <;> omega)))⟩
            · replace E := E.val (t := 29) rfl hc_10
              replace E := E.val (t := 30) rfl hc_10
              replace hc_10 := of_decide_eq_false hc_10
              refine WL_guard_no E rfl rfl rfl rfl fun a E => ?_
              refine WL_guard_no E rfl rfl rfl rfl fun a E => ?_
              refine S_v E rfl (R_pickF E rfl rfl) rfl ?_
              clear E a; intro a E
              refine S_v E rfl (R_assign E rfl) rfl ?_
              clear E a; intro a E
              refine WL_nil ?_
              refine T_n ?_
              refine WP_condF E rfl rfl ?_
              refine WP_skip ?_
              refine B_n ?_
              refine .inl ⟨rfl, ?_⟩
              exact ⟨M1, (Hp.le.refl _), S, E.keep ⟨rfl, rfl, (look_int (i := 0) rfl (by (first | omega | (unfold szN; (repeat' split) <;> omega) | (unfold szLo; (repeat' split) <;> omega) | (unfold szHi; (repeat' split) <;> omega)))), rfl, rfl, trivial⟩, (by (first | omega | (unfold szN; (repeat' split) <;> omega) | (unfold szLo; (repeat' split) <;> omega) | (unfold szHi; (repeat' split) <;> omega)))⟩
      · replace E := E.val (t := 15) rfl hc_4
        replace E := E.val (t := 16) rfl hc_4
        replace hc_4 := of_decide_eq_false hc_4
        refine WL_guard_no E rfl rfl rfl rfl fun a E => ?_
        refine WL_guard_no E rfl rfl rfl rfl fun a E => ?_
        refine S_v E rfl (R_pickF E rfl rfl) rfl ?_
        clear E a; intro a E
        refine S_v E rfl (R_assign E rfl) rfl ?_
        clear E a; intro a E
        refine WL_nil ?_
        refine T_n ?_
        refine WP_condF E rfl rfl ?_
        refine WP_seq ?_
        refine WP_region ?_
        refine S_v E rfl (R_move E rfl) rfl ?_
        clear E a; intro a E
        refine S_v E rfl (R_geq E rfl rfl) rfl ?_
        clear E a; intro a E
        refine S_v E rfl (R_move E rfl) rfl ?_
        clear E a; intro a E
        refine split_bool (decide (224 ≤ ((c_1.toNat : Nat) : Int))) (fun hc_12 => ?_) (fun hc_12 => ?_)
        · replace E := E.val (t := 22) rfl hc_12
          replace E := E.val (t := 23) rfl hc_12
          replace hc_12 := of_decide_eq_true hc_12
          refine WL_guard_yes E rfl rfl ?_
          refine S_v E rfl (R_move E rfl) rfl ?_
          clear E a; intro a E
          refine WL_guard_yes E rfl rfl ?_
          refine S_v E rfl (R_leq E rfl rfl) rfl ?_
          clear E a; intro a E
          refine S_v E rfl (R_pickT E rfl rfl) rfl ?_
          clear E a; intro a E
          refine S_v E rfl (R_assign E rfl) rfl ?_
          clear E a; intro a E
          refine WL_nil ?_
          refine T_n ?_
          refine WP_cond E rfl (fun hc_13 => ?_) (fun hc_13 => ?_)
          · replace hc_13 := of_decide_eq_true hc_13
            refine WP_region ?_
            refine S_v E rfl (R_assign E rfl) rfl ?_
            clear E a; intro a E
            refine WL_nil ?_
            refine B_n ?_
            refine .inl ⟨rfl, ?_⟩
            exact ⟨M1, (Hp.le.refl _), S, E.keep ⟨rfl, rfl, (look_int (i := 3) rfl (by (first | omega | (unfold szN; (repeat' split) <;> omega) | (unfold szLo; (repeat' split) <;> omega) | (unfold szHi; (repeat' split) <;> omega)))), rfl, rfl, trivial⟩, (by (first | omega | (unfold szN; (repeat' split) <;> omega) | (unfold szLo; (repeat' split) <;> omega) | (unfold szHi; (repeat' split) <;> omega)))⟩
          · replace hc_13 := of_decide_eq_false hc_13
            refine WP_seq ?_
            refine WP_region ?_
            refine S_v E rfl (R_move E rfl) rfl ?_
            clear E a; intro a E
            refine S_v E rfl (R_geq E rfl rfl) rfl ?_
            clear E a; intro a E
            refine S_v E rfl (R_move E rfl) rfl ?_
            clear E a; intro a E
            refine split_bool (decide (240 ≤ ((c_1.toNat : Nat) : Int))) (fun hc_14 => ?_) (fun hc_14 => ?_)
            · replace E := E.val (t := 29) rfl hc_14
              replace E := E.val (t := 30) rfl hc_14
              replace hc_14 := of_decide_eq_true hc_14
              refine WL_guard_yes E rfl rfl ?_
              refine S_v E rfl (R_move E rfl) rfl ?_
              clear E a; intro a E
              refine WL_guard_yes E rfl rfl ?_
              refine S_v E rfl (R_leq E rfl rfl) rfl ?_
              clear E a; intro a E
              refine S_v E rfl (R_pickT E rfl rfl) rfl ?_
              clear E a; intro a E
              refine S_v E rfl (R_assign E rfl) rfl ?_
              clear E a; intro a E
              refine WL_nil ?_
              refine T_n ?_
              refine WP_cond E rfl (fun hc_15 => ?_) (fun hc_15 => ?_)
              · replace hc_15 := of_decide_eq_true hc_15
                refine WP_region ?_
                refine S_v E rfl (R_assign E rfl) rfl ?_
                clear E a; intro a E
                refine WL_nil ?_
                refine B_n ?_
                refine .inl ⟨rfl, ?_⟩
                exact ⟨M1, (Hp.le.refl _), S, E.keep ⟨rfl, rfl, (look_int (i := 4) rfl (by (first | omega | (unfold szN; (repeat' split) <;> omega) | (unfold szLo; (repeat' split) <;> omega) | (unfold szHi; (repeat' split) <;> omega)))), rfl, rfl, trivial⟩, (by (first | omega | (unfold szN; (repeat' split) <;> omega) | (unfold szLo; (repeat' split) <;> omega) | (unfold szHi; (repeat' split) <;> omega)))⟩
              · replace hc_15 := of_decide_eq_false hc_15
                refine WP_skip ?_
                refine B_n ?_
                refine .inl ⟨rfl, ?_⟩
                exact ⟨M1, (Hp.le.refl _), S, E.keep ⟨rfl, rfl, (look_int (i := 0) rfl (by (first | omega | (unfold szN; (repeat' split) <;> omega) | (unfold szLo; (repeat' split) <;> omega) | (unfold szHi; (repeat' split) <;> omega)))), rfl, rfl, trivial⟩, (by (first | omega | (unfold szN; (repeat' split) <;> omega) | (unfold szLo; (repeat' split) <;> omega) | (unfold szHi; (repeat' split) <;> omega)))⟩
            · replace E := E.val (t := 29) rfl hc_14
              replace E := E.val (t := 30) rfl hc_14
              replace hc_14 := of_decide_eq_false hc_14
              refine WL_guard_no E rfl rfl rfl rfl fun a E => ?_
              refine WL_guard_no E rfl rfl rfl rfl fun a E => ?_
              refine S_v E rfl (R_pickF E rfl rfl) rfl ?_
              clear E a; intro a E
              refine S_v E rfl (R_assign E rfl) rfl ?_
              clear E a; intro a E
              refine WL_nil ?_
              refine T_n ?_
              refine WP_condF E rfl rfl ?_
              refine WP_skip ?_
              refine B_n ?_
              refine .inl ⟨rfl, ?_⟩
              exact ⟨M1, (Hp.le.refl _), S, E.keep ⟨rfl, rfl, (look_int (i := 0) rfl (by (first | omega | (unfold szN; (repeat' split) <;> omega) | (unfold szLo; (repeat' split) <;> omega) | (unfold szHi; (repeat' split) <;> omega)))), rfl, rfl, trivial⟩, (by (first | omega | (unfold szN; (repeat' split) <;> omega) | (unfold szLo; (repeat' split) <;> omega) | (unfold szHi; (repeat' split) <;> omega)))⟩
        · replace E := E.val (t := 22) rfl hc_12
          replace E := E.val (t := 23) rfl hc_12
          replace hc_12 := of_decide_eq_false hc_12
          refine WL_guard_no E rfl rfl rfl rfl fun a E => ?_
          refine WL_guard_no E rfl rfl rfl rfl fun a E => ?_
          refine S_v E rfl (R_pickF E rfl rfl) rfl ?_
          clear E a; intro a E
          refine S_v E rfl (R_assign E rfl) rfl ?_
          clear E a; intro a E
          refine WL_nil ?_
          refine T_n ?_
          refine WP_condF E rfl rfl ?_
          refine WP_seq ?_
          refine WP_region ?_
          refine S_v E rfl (R_move E rfl) rfl ?_
          clear E a; intro a E
          refine S_v E rfl (R_geq E rfl rfl) rfl ?_
          clear E a; intro a E
          refine S_v E rfl (R_move E rfl) rfl ?_
          clear E a; intro a E
          refine split_bool (decide (240 ≤ ((c_1.toNat : Nat) : Int))) (fun hc_16 => ?_) (fun hc_16 => ?_)
          · replace E := E.val (t := 29) rfl hc_16
            replace E := E.val (t := 30) rfl hc_16
            replace hc_16 := of_decide_eq_true hc_16
            refine WL_guard_yes E rfl rfl ?_
            refine S_v E rfl (R_move E rfl) rfl ?_
            clear E a; intro a E
            refine WL_guard_yes E rfl rfl ?_
            refine S_v E rfl (R_leq E rfl rfl) rfl ?_
            clear E a; intro a E
            refine S_v E rfl (R_pickT E rfl rfl) rfl ?_
            clear E a; intro a E
            refine S_v E rfl (R_assign E rfl) rfl ?_
            clear E a; intro a E
            refine WL_nil ?_
            refine T_n ?_
            refine WP_cond E rfl (fun hc_17 => ?_) (fun hc_17 => ?_)
            · replace hc_17 := of_decide_eq_true hc_17
              refine WP_region ?_
              refine S_v E rfl (R_assign E rfl) rfl ?_
              clear E a; intro a E
              refine WL_nil ?_
              refine B_n ?_
              refine .inl ⟨rfl, ?_⟩
              exact ⟨M1, (Hp.le.refl _), S, E.keep ⟨rfl, rfl, (look_int (i := 4) rfl (by (first | omega | (unfold szN; (repeat' split) <;> omega) | (unfold szLo; (repeat' split) <;> omega) | (unfold szHi; (repeat' split) <;> omega)))), rfl, rfl, trivial⟩, (by (first | omega | (unfold szN; (repeat' split) <;> omega) | (unfold szLo; (repeat' split) <;> omega) | (unfold szHi; (repeat' split) <;> omega)))⟩
            · replace hc_17 := of_decide_eq_false hc_17
              refine WP_skip ?_
              refine B_n ?_
              refine .inl ⟨rfl, ?_⟩
              exact ⟨M1, (Hp.le.refl _), S, E.keep ⟨rfl, rfl, (look_int (i := 0) rfl (by (first | omega | (unfold szN; (repeat' split) <;> omega) | (unfold szLo; (repeat' split) <;> omega) | (unfold szHi; (repeat' split) <;> omega)))), rfl, rfl, trivial⟩, (by (first | omega | (unfold szN; (repeat' split) <;> omega) | (unfold szLo; (repeat' split) <;> omega) | (unfold szHi; (repeat' split) <;> omega)))⟩
          · replace E := E.val (t := 29) rfl hc_16
            replace E := E.val (t := 30) rfl hc_16
            replace hc_16 := of_decide_eq_false hc_16
            refine WL_guard_no E rfl rfl rfl rfl fun a E => ?_
            refine WL_guard_no E rfl rfl rfl rfl fun a E => ?_
            refine S_v E rfl (R_pickF E rfl rfl) rfl ?_
            clear E a; intro a E
            refine S_v E rfl (R_assign E rfl) rfl ?_
            clear E a; intro a E
            refine WL_nil ?_
            refine T_n ?_
            refine WP_condF E rfl rfl ?_
            refine WP_skip ?_
            refine B_n ?_
            refine .inl ⟨rfl, ?_⟩
            exact ⟨M1, (Hp.le.refl _), S, E.keep ⟨rfl, rfl, (look_int (i := 0) rfl (by (first | omega | (unfold szN; (repeat' split) <;> omega) | (unfold szLo; (repeat' split) <;> omega) | (unfold szHi; (repeat' split) <;> omega)))), rfl, rfl, trivial⟩, (by (first | omega | (unfold szN; (repeat' split) <;> omega) | (unfold szLo; (repeat' split) <;> omega) | (unfold szHi; (repeat' split) <;> omega)))⟩
  · clear E S a w
    rintro a w ⟨M_2, hM_2, S, E, hj_18⟩
    refine T_n ?_
    refine WP_seq ?_
    refine WP_seq ?_
    refine WP_region ?_
    refine S_v E rfl (R_move E rfl) rfl ?_
    clear E a; intro a E
    refine WL_nil ?_
    refine T_n ?_
    refine WP_join (fun a w => ∃ (M_19 : Hp), Hp.le M_2 M_19 ∧ St w M_19 (H) ∧ Env a 79 [] [(0, .string (bs s0)), (4, .int .i64 ((szN c_1.toNat : Nat) : Int)), (5, .int .u8 ((szLo c_1.toNat : Nat) : Int)), (6, .int .u8 ((szHi c_1.toNat : Nat) : Int))]) ?_ ?_
    · refine WP_block ?_
      refine WP_seq ?_
      refine WP_region ?_
      refine S_v E rfl (R_eql E rfl rfl) rfl ?_
      clear E a; intro a E
      refine S_v E rfl (R_assign E rfl) rfl ?_
      clear E a; intro a E
      refine WL_nil ?_
      refine T_n ?_
      refine WP_cond E rfl (fun hc_20 => ?_) (fun hc_20 => ?_)
      · replace hc_20 := of_decide_eq_true hc_20
        refine WP_region ?_
        refine S_v E rfl (R_assign E rfl) rfl ?_
        clear E a; intro a E
        refine WL_nil ?_
        refine B_n ?_
        refine .inl ⟨rfl, ?_⟩
        exact ⟨M_2, (Hp.le.refl _), S, E.keep ⟨rfl, rfl, (look_int (i := 160) rfl (by (first | omega | (unfold szN; (repeat' split) <;> omega) | (unfold szLo; (repeat' split) <;> omega) | (unfold szHi; (repeat' split) <;> omega)))), (look_int (i := 191) rfl (by (first | omega | (unfold szN; (repeat' split) <;> omega) | (unfold szLo; (repeat' split) <;> omega) | (unfold szHi; (repeat' split) <;> omega)))), trivial⟩⟩
      · replace hc_20 := of_decide_eq_false hc_20
        refine WP_seq ?_
        refine WP_region ?_
        refine S_v E rfl (R_eql E rfl rfl) rfl ?_
        clear E a; intro a E
        refine S_v E rfl (R_assign E rfl) rfl ?_
        clear E a; intro a E
        refine WL_nil ?_
        refine T_n ?_
        refine WP_cond E rfl (fun hc_21 => ?_) (fun hc_21 => ?_)
        · replace hc_21 := of_decide_eq_true hc_21
          refine WP_region ?_
          refine S_v E rfl (R_assign E rfl) rfl ?_
          clear E a; intro a E
          refine WL_nil ?_
          refine B_n ?_
          refine .inl ⟨rfl, ?_⟩
          exact ⟨M_2, (Hp.le.refl _), S, E.keep ⟨rfl, rfl, (look_int (i := 128) rfl (by (first | omega | (unfold szN; (repeat' split) <;> omega) | (unfold szLo; (repeat' split) <;> omega) | (unfold szHi; (repeat' split) <;> omega)))), (look_int (i := 159) rfl (by (first | omega | (unfold szN; (repeat' split) <;> omega) | (unfold szLo; (repeat' split) <;> omega) | (unfold szHi; (repeat' split) <;> omega)))), trivial⟩⟩
        · replace hc_21 := of_decide_eq_false hc_21
          refine WP_seq ?_
          refine WP_region ?_
          refine S_v E rfl (R_eql E rfl rfl) rfl ?_
          clear E a; intro a E
          refine S_v E rfl (R_assign E rfl) rfl ?_
          clear E a; intro a E
          refine WL_nil ?_
          refine T_n ?_
          refine WP_cond E rfl (fun hc_22 => ?_) (fun hc_22 => ?_)
          · replace hc_22 := of_decide_eq_true hc_22
            refine WP_region ?_
            refine S_v E rfl (R_assign E rfl) rfl ?_
            clear E a; intro a E
            refine WL_nil ?_
            refine B_n ?_
            refine .inl ⟨rfl, ?_⟩
            exact ⟨M_2, (Hp.le.refl _), S, E.keep ⟨rfl, rfl, (look_int (i := 144) rfl (by (first | omega | (unfold szN; (repeat' split) <;> omega) | (unfold szLo; (repeat' split) <;> omega) | (unfold szHi; (repeat' split) <;> omega)))), (look_int (i := 191) rfl (by (first | omega | (unfold szN; (repeat' split) <;> omega) | (unfold szLo; (repeat' split) <;> omega) | (unfold szHi; (repeat' split) <;> omega)))), trivial⟩⟩
          · replace hc_22 := of_decide_eq_false hc_22
            refine WP_seq ?_
            refine WP_region ?_
            refine S_v E rfl (R_eql E rfl rfl) rfl ?_
            clear E a; intro a E
            refine S_v E rfl (R_assign E rfl) rfl ?_
            clear E a; intro a E
            refine WL_nil ?_
            refine T_n ?_
            refine WP_cond E rfl (fun hc_23 => ?_) (fun hc_23 => ?_)
            · replace hc_23 := of_decide_eq_true hc_23
              refine WP_region ?_
              refine S_v E rfl (R_assign E rfl) rfl ?_
              clear E a; intro a E
              refine WL_nil ?_
              refine B_n ?_
              refine .inl ⟨rfl, ?_⟩
              exact ⟨M_2, (Hp.le.refl _), S, E.keep ⟨rfl, rfl, (look_int (i := 128) rfl (by (first | omega | (unfold szN; (repeat' split) <;> omega) | (unfold szLo; (repeat' split) <;> omega) | (unfold szHi; (repeat' split) <;> omega)))), (look_int (i := 143) rfl (by (first | omega | (unfold szN; (repeat' split) <;> omega) | (unfold szLo; (repeat' split) <;> omega) | (unfold szHi; (repeat' split) <;> omega)))), trivial⟩⟩
            · replace hc_23 := of_decide_eq_false hc_23
              refine WP_skip ?_
              refine B_n ?_
              refine .inl ⟨rfl, ?_⟩
              exact ⟨M_2, (Hp.le.refl _), S, E.keep ⟨rfl, rfl, (look_int (i := 128) rfl (by (first | omega | (unfold szN; (repeat' split) <;> omega) | (unfold szLo; (repeat' split) <;> omega) | (unfold szHi; (repeat' split) <;> omega)))), (look_int (i := 191) rfl (by (first | omega | (unfold szN; (repeat' split) <;> omega) | (unfold szLo; (repeat' split) <;> omega) | (unfold szHi; (repeat' split) <;> omega)))), trivial⟩⟩
    · clear E S a w
      rintro a w ⟨M_19, hM_19, S, E⟩
      refine T_n ?_
      refine WP_seq ?_
      refine WP_seq ?_
      refine WP_region ?_
      refine S_v E rfl (R_move E rfl) rfl ?_
      clear E a; intro a E
      refine S_v E rfl (R_eql E rfl rfl) rfl ?_
      clear E a; intro a E
      refine S_v E rfl (R_move E rfl) rfl ?_
      clear E a; intro a E
      refine split_bool (decide (((szN c_1.toNat : Nat) : Int) = 0)) (fun hc_24 => ?_) (fun hc_24 => ?_)
      · replace E := E.val (t := 44) rfl hc_24
        replace E := E.val (t := 45) rfl hc_24
        replace hc_24 := of_decide_eq_true hc_24
        refine WL_guard_no E rfl rfl rfl rfl fun a E => ?_
        refine WL_guard_no E rfl rfl rfl rfl fun a E => ?_
        refine WL_guard_no E rfl rfl rfl rfl fun a E => ?_
        refine WL_guard_no E rfl rfl rfl rfl fun a E => ?_
        refine S_v E rfl (R_pickT E rfl rfl) rfl ?_
        clear E a; intro a E
        refine S_v E rfl (R_move E rfl) rfl ?_
        clear E a; intro a E
        refine WL_guard_no E rfl rfl rfl rfl fun a E => ?_
        refine WL_guard_no E rfl rfl rfl rfl fun a E => ?_
        refine WL_guard_no E rfl rfl rfl rfl fun a E => ?_
        refine WL_guard_no E rfl rfl rfl rfl fun a E => ?_
        refine S_v E rfl (R_pickT E rfl rfl) rfl ?_
        clear E a; intro a E
        refine S_v E rfl (R_move E rfl) rfl ?_
        clear E a; intro a E
        refine WL_guard_no E rfl rfl rfl rfl fun a E => ?_
        refine WL_guard_no E rfl rfl rfl rfl fun a E => ?_
        refine WL_guard_no E rfl rfl rfl rfl fun a E => ?_
        refine WL_guard_no E rfl rfl rfl rfl fun a E => ?_
        refine S_v E rfl (R_pickT E rfl rfl) rfl ?_
        clear E a; intro a E
        refine WL_nil ?_
        refine T_n ?_
        refine WP_condT E rfl rfl ?_
        refine WP_seq ?_
        refine WP_region ?_
        refine S_v E rfl (R_assign E rfl) rfl ?_
        clear E a; intro a E
        refine WL_nil ?_
        refine T_n ?_
        refine WP_ret ?_
        refine T_r ?_
        exact F_ret1 E Try.results59 rfl ⟨_, rfl, M_19, (hM_2.trans hM_19), (congrArg (Value.int .i64) (by (first | (have h9 : szC s0 = 1 := sz_one (by assumption) (by omega); rw [h9]; rfl) | (have h9 : szC s0 = 0 := sz_short (by assumption) (by omega) rfl (.inl (by omega)); rw [h9]; rfl) | (have h9 : szC s0 = 0 := sz_short (by assumption) (by omega) rfl (.inr (by omega)); rw [h9]; rfl) | (have h9 : szC s0 = 0 := sz_low (by assumption) (by assumption) (by omega) rfl (by omega); rw [h9]; rfl) | (have h9 : szC s0 = 0 := sz_high (by assumption) (by assumption) (by omega) rfl (by omega); rw [h9]; rfl) | (have h9 : szC s0 = 0 := sz_bad (i := k) (by assumption) (by assumption) (by omega) rfl (by omega) (by omega) (by omega); rw [h9]; rfl) | (have h9 : szC s0 = szN c_1.toNat := sz_good (by assumption) (by assumption) (by omega) rfl rfl rfl (by omega) (by omega) (by omega) (by omega) (fun i h1 h2 => hL0_0 i h1 (by omega)); rw [h9])))), S⟩
      · replace E := E.val (t := 44) rfl hc_24
        replace E := E.val (t := 45) rfl hc_24
        replace hc_24 := of_decide_eq_false hc_24
        refine WL_guard_yes E rfl rfl ?_
        refine S_v E rfl (R_move E rfl) rfl ?_
        clear E a; intro a E
        refine WL_guard_yes E rfl rfl ?_
        refine S_v E rfl (R_lenS E rfl Try.underlying9) rfl ?_
        clear E a; intro a E
        refine WL_guard_yes E rfl rfl ?_
        refine S_v E rfl (R_move E rfl) rfl ?_
        clear E a; intro a E
        refine WL_guard_yes E rfl rfl ?_
        refine S_v E rfl (R_lss E rfl rfl) rfl ?_
        clear E a; intro a E
        refine S_v E rfl (R_pickF E rfl rfl) rfl ?_
        clear E a; intro a E
        refine S_v E rfl (R_move E rfl) rfl ?_
        clear E a; intro a E
        refine split_bool (decide ((((s0).length : Nat) : Int) < ((szN c_1.toNat : Nat) : Int))) (fun hc_25 => ?_) (fun hc_25 => ?_)
        · replace E := E.val (t := 49) rfl hc_25
          replace E := E.val (t := 50) rfl hc_25
          replace E := E.val (t := 51) rfl hc_25
          replace hc_25 := of_decide_eq_true hc_25
          refine WL_guard_no E rfl rfl rfl rfl fun a E => ?_
          refine WL_guard_no E rfl rfl rfl rfl fun a E => ?_
          refine WL_guard_no E rfl rfl rfl rfl fun a E => ?_
          refine WL_guard_no E rfl rfl rfl rfl fun a E => ?_
          refine S_v E rfl (R_pickT E rfl rfl) rfl ?_
          clear E a; intro a E
          refine S_v E rfl (R_move E rfl) rfl ?_
          clear E a; intro a E
          refine WL_guard_no E rfl rfl rfl rfl fun a E => ?_
          refine WL_guard_no E rfl rfl rfl rfl fun a E => ?_
          refine WL_guard_no E rfl rfl rfl rfl fun a E => ?_
          refine WL_guard_no E rfl rfl rfl rfl fun a E => ?_
          refine S_v E rfl (R_pickT E rfl rfl) rfl ?_
          clear E a; intro a E
          refine WL_nil ?_
          refine T_n ?_
          refine WP_condT E rfl rfl ?_
          refine WP_seq ?_
          refine WP_region ?_
          refine S_v E rfl (R_assign E rfl) rfl ?_
          clear E a; intro a E
          refine WL_nil ?_
          refine T_n ?_
          refine WP_ret ?_
          refine T_r ?_
          exact F_ret1 E Try.results59 rfl ⟨_, rfl, M_19, (hM_2.trans hM_19), (congrArg (Value.int .i64) (by (first | (have h9 : szC s0 = 1 := sz_one (by assumption) (by omega); rw [h9]; rfl) | (have h9 : szC s0 = 0 := sz_short (by assumption) (by omega) rfl (.inl (by omega)); rw [h9]; rfl) | (have h9 : szC s0 = 0 := sz_short (by assumption) (by omega) rfl (.inr (by omega)); rw [h9]; rfl) | (have h9 : szC s0 = 0 := sz_low (by assumption) (by assumption) (by omega) rfl (by omega); rw [h9]; rfl) | (have h9 : szC s0 = 0 := sz_high (by assumption) (by assumption) (by omega) rfl (by omega); rw [h9]; rfl) | (have h9 : szC s0 = 0 := sz_bad (i := k) (by assumption) (by assumption) (by omega) rfl (by omega) (by omega) (by omega); rw [h9]; rfl) | (have h9 : szC s0 = szN c_1.toNat := sz_good (by assumption) (by assumption) (by omega) rfl rfl rfl (by omega) (by omega) (by omega) (by omega) (fun i h1 h2 => hL0_0 i h1 (by omega)); rw [h9])))), S⟩
        · replace E := E.val (t := 49) rfl hc_25
          replace E := E.val (t := 50) rfl hc_25
          replace E := E.val (t := 51) rfl hc_25
          replace hc_25 := of_decide_eq_false hc_25
          refine WL_guard_yes E rfl rfl ?_
          refine S_v E rfl (R_move E rfl) rfl ?_
          clear E a; intro a E
          obtain ⟨c_26, hc_26⟩ : ∃ x, (s0)[1]? = some x := ⟨_, List.getElem?_eq_getElem (by (first | omega | (have hz2 := szN_two (c := c_1.toNat) (by omega); omega)))⟩
          have rc_26 := UInt8.toNat_lt c_26
          refine WL_guard_yes E rfl rfl ?_
          refine S_v E rfl (R_indexS (lo := 1) E rfl rfl Try.underlying9 (by omega) hc_26) rfl ?_
          clear E a; intro a E
          refine WL_guard_yes E rfl rfl ?_
          refine S_v E rfl (R_move E rfl) rfl ?_
          clear E a; intro a E
          refine WL_guard_yes E rfl rfl ?_
          refine S_v E rfl (R_lss E rfl rfl) rfl ?_
          clear E a; intro a E
          refine S_v E rfl (R_pickF E rfl rfl) rfl ?_
          clear E a; intro a E
          refine S_v E rfl (R_move E rfl) rfl ?_
          clear E a; intro a E
          refine split_bool (decide (((c_26.toNat : Nat) : Int) < ((szLo c_1.toNat : Nat) : Int))) (fun hc_27 => ?_) (fun hc_27 => ?_)
          · replace E := E.val (t := 55) rfl hc_27
            replace E := E.val (t := 56) rfl hc_27
            replace E := E.val (t := 57) rfl hc_27
            replace hc_27 := of_decide_eq_true hc_27
            refine WL_guard_no E rfl rfl rfl rfl fun a E => ?_
            refine WL_guard_no E rfl rfl rfl rfl fun a E => ?_
            refine WL_guard_no E rfl rfl rfl rfl fun a E => ?_
            refine WL_guard_no E rfl rfl rfl rfl fun a E => ?_
            refine S_v E rfl (R_pickT E rfl rfl) rfl ?_
            clear E a; intro a E
            refine WL_nil ?_
            refine T_n ?_
            refine WP_condT E rfl rfl ?_
            refine WP_seq ?_
            refine WP_region ?_
            refine S_v E rfl (R_assign E rfl) rfl ?_
            clear E a; intro a E
            refine WL_nil ?_
            refine T_n ?_
            refine WP_ret ?_
            refine T_r ?_
            exact F_ret1 E Try.results59 rfl ⟨_, rfl, M_19, (hM_2.trans hM_19), (congrArg (Value.int .i64) (by (first | (have h9 : szC s0 = 1 := sz_one (by assumption) (by omega); rw [h9]; rfl) | (have h9 : szC s0 = 0 := sz_short (by assumption) (by omega) rfl (.inl (by omega)); rw [h9]; rfl) | (have h9 : szC s0 = 0 := sz_short (by assumption) (by omega) rfl (.inr (by omega)); rw [h9]; rfl) | (have h9 : szC s0 = 0 := sz_low (by assumption) (by assumption) (by omega) rfl (by omega); rw [h9]; rfl) | (have h9 : szC s0 = 0 := sz_high (by assumption) (by assumption) (by omega) rfl (by omega); rw [h9]; rfl) | (have h9 : szC s0 = 0 := sz_bad (i := k) (by assumption) (by assumption) (by omega) rfl (by omega) (by omega) (by omega); rw [h9]; rfl) | (have h9 : szC s0 = szN c_1.toNat := sz_good (by assumption) (by assumption) (by omega) rfl rfl rfl (by omega) (by omega) (by omega) (by omega) (fun i h1 h2 => hL0_0 i h1 (by omega)); rw [h9])))), S⟩
          · replace E := E.val (t := 55) rfl hc_27
            replace E := E.val (t := 56) rfl hc_27
            replace E := E.val (t := 57) rfl hc_27
            replace hc_27 := of_decide_eq_false hc_27
            refine WL_guard_yes E rfl rfl ?_
            refine S_v E rfl (R_move E rfl) rfl ?_
            clear E a; intro a E
            refine WL_guard_yes E rfl rfl ?_
            refine S_v E rfl (R_indexS (lo := 1) E rfl rfl Try.underlying9 (by omega) hc_26) rfl ?_
            clear E a; intro a E
            refine WL_guard_yes E rfl rfl ?_
            refine S_v E rfl (R_move E rfl) rfl ?_
            clear E a; intro a E
            refine WL_guard_yes E rfl rfl ?_
            refine S_v E rfl (R_gtr E rfl rfl) rfl ?_
            clear E a; intro a E
            refine S_v E rfl (R_pickF E rfl rfl) rfl ?_
            clear E a; intro a E
            refine WL_nil ?_
            refine T_n ?_
            refine WP_cond E rfl (fun hc_28 => ?_) (fun hc_28 => ?_)
            · replace hc_28 := of_decide_eq_true hc_28
              refine WP_seq ?_
              refine WP_region ?_
              refine S_v E rfl (R_assign E rfl) rfl ?_
              clear E a; intro a E
              refine WL_nil ?_
              refine T_n ?_
              refine WP_ret ?_
              refine T_r ?_
              exact F_ret1 E Try.results59 rfl ⟨_, rfl, M_19, (hM_2.trans hM_19), (congrArg (Value.int .i64) (by (first | (have h9 : szC s0 = 1 := sz_one (by assumption) (by omega); rw [h9]; rfl) | (have h9 : szC s0 = 0 := sz_short (by assumption) (by omega) rfl (.inl (by omega)); rw [h9]; rfl) | (have h9 : szC s0 = 0 := sz_short (by assumption) (by omega) rfl (.inr (by omega)); rw [h9]; rfl) | (have h9 : szC s0 = 0 := sz_low (by assumption) (by assumption) (by omega) rfl (by omega); rw [h9]; rfl) | (have h9 : szC s0 = 0 := sz_high (by assumption) (by assumption) (by omega) rfl (by omega); rw [h9]; rfl) | (have h9 : szC s0 = 0 := sz_bad (i := k) (by assumption) (by assumption) (by omega) rfl (by omega) (by omega) (by omega); rw [h9]; rfl) | (have h9 : szC s0 = szN c_1.toNat := sz_good (by assumption) (by assumption) (by omega) rfl rfl rfl (by omega) (by omega) (by omega) (by omega) (fun i h1 h2 => hL0_0 i h1 (by omega)); rw [h9])))), S⟩
            · replace hc_28 := of_decide_eq_false hc_28
              have hzl := szN_le c_1.toNat
              refine WP_skip ?_
              refine T_n ?_
              refine WP_seq ?_
              refine WP_seq ?_
              refine WP_region ?_
              refine S_v E rfl (R_assign E rfl) rfl ?_
              clear E a; intro a E
              refine WL_nil ?_
              refine T_n ?_
              refine WP_block ?_
              refine WP_loop (γ := Nat) (fun (k : Nat) a w => ∃ (M_29 : Hp), Hp.le M_19 M_29 ∧ St w M_29 (H) ∧ Env a 79 [] [(0, .string (bs s0)), (4, .int .i64 ((szN c_1.toNat : Nat) : Int)), (7, .int .i64 ((k : Nat) : Int))] ∧ (∀ i, 2 ≤ i → i < k → 128 ≤ by' s0 i ∧ by' s0 i ≤ 191) ∧ (2 ≤ k) ∧ (k ≤ 4 ∨ k ≤ 2)) (fun k => 5 - k) 2 ⟨M_19, Hp.le.refl _, S, E.keep ⟨rfl, rfl, rfl, trivial⟩, (by intro i h1 h2; omega), (by omega), (by omega)⟩ ?_
              try clear E
              try clear S
              try clear a
              try clear w
              rintro k a w ⟨M_29, hM_29, S, E, hL0_0, hL0_1, hL0_2⟩
              refine WP_seq ?_
              refine WP_seq ?_
              refine WP_region ?_
              refine S_v E rfl (R_move E rfl) rfl ?_
              clear E a; intro a E
              refine S_v E rfl (R_move E rfl) rfl ?_
              clear E a; intro a E
              refine S_v E rfl (R_lss E rfl rfl) rfl ?_
              clear E a; intro a E
              refine WL_nil ?_
              refine T_n ?_
              refine WP_cond E rfl (fun hc_30 => ?_) (fun hc_30 => ?_)
              · replace hc_30 := of_decide_eq_true hc_30
                refine WP_skip ?_
                refine T_n ?_
                refine WP_seq ?_
                refine WP_block ?_
                refine WP_seq ?_
                refine WP_region ?_
                refine S_v E rfl (R_move E rfl) rfl ?_
                clear E a; intro a E
                refine S_v E rfl (R_move E rfl) rfl ?_
                clear E a; intro a E
                obtain ⟨c_31, hc_31⟩ : ∃ x, (s0)[k]? = some x := ⟨_, List.getElem?_eq_getElem (by (first | omega | (have hz2 := szN_two (c := c_1.toNat) (by omega); omega)))⟩
                have rc_31 := UInt8.toNat_lt c_31
                refine S_v E rfl (R_indexS (lo := k) E rfl rfl Try.underlying9 (by omega) hc_31) rfl ?_
                clear E a; intro a E
                refine S_v E rfl (R_lss E rfl rfl) rfl ?_
                clear E a; intro a E
                refine S_v E rfl (R_move E rfl) rfl ?_
                clear E a; intro a E
                refine split_bool (decide (((c_31.toNat : Nat) : Int) < 128)) (fun hc_32 => ?_) (fun hc_32 => ?_)
                · replace E := E.val (t := 71) rfl hc_32
                  replace E := E.val (t := 72) rfl hc_32
                  replace hc_32 := of_decide_eq_true hc_32
                  refine WL_guard_no E rfl rfl rfl rfl fun a E => ?_
                  refine WL_guard_no E rfl rfl rfl rfl fun a E => ?_
                  refine WL_guard_no E rfl rfl rfl rfl fun a E => ?_
                  refine WL_guard_no E rfl rfl rfl rfl fun a E => ?_
                  refine S_v E rfl (R_pickT E rfl rfl) rfl ?_
                  clear E a; intro a E
                  refine WL_nil ?_
                  refine T_n ?_
                  refine WP_condT E rfl rfl ?_
                  refine WP_seq ?_
                  refine WP_region ?_
                  refine S_v E rfl (R_assign E rfl) rfl ?_
                  clear E a; intro a E
                  refine WL_nil ?_
                  refine T_n ?_
                  refine WP_ret ?_
                  refine B_r ?_
                  refine T_r ?_
                  refine T_r ?_
                  refine B_r ?_
                  refine T_r ?_
                  exact F_ret1 E Try.results59 rfl ⟨_, rfl, M_29, (hM_2.trans (hM_19.trans hM_29)), (congrArg (Value.int .i64) (by (first | (have h9 : szC s0 = 1 := sz_one (by assumption) (by omega); rw [h9]; rfl) | (have h9 : szC s0 = 0 := sz_short (by assumption) (by omega) rfl (.inl (by omega)); rw [h9]; rfl) | (have h9 : szC s0 = 0 := sz_short (by assumption) (by omega) rfl (.inr (by omega)); rw [h9]; rfl) | (have h9 : szC s0 = 0 := sz_low (by assumption) (by assumption) (by omega) rfl (by omega); rw [h9]; rfl) | (have h9 : szC s0 = 0 := sz_high (by assumption) (by assumption) (by omega) rfl (by omega); rw [h9]; rfl) | (have h9 : szC s0 = 0 := sz_bad (i := k) (by assumption) (by assumption) (by omega) rfl (by omega) (by omega) (by omega); rw [h9]; rfl) | (have h9 : szC s0 = szN c_1.toNat := sz_good (by assumption) (by assumption) (by omega) rfl rfl rfl (by omega) (by omega) (by omega) (by omega) (fun i h1 h2 => hL0_0 i h1 (by omega)); rw [h9])))), S⟩
                · replace E := E.val (t := 71) rfl hc_32
                  replace E := E.val (t := 72) rfl hc_32
                  replace hc_32 := of_decide_eq_false hc_32
                  refine WL_guard_yes E rfl rfl ?_
                  refine S_v E rfl (R_move E rfl) rfl ?_
                  clear E a; intro a E
                  refine WL_guard_yes E rfl rfl ?_
                  refine S_v E rfl (R_move E rfl) rfl ?_
                  clear E a; intro a E
                  refine WL_guard_yes E rfl rfl ?_
                  refine S_v E rfl (R_indexS (lo := k) E rfl rfl Try.underlying9 (by omega) hc_31) rfl ?_
                  clear E a; intro a E
                  refine WL_guard_yes E rfl rfl ?_
                  refine S_v E rfl (R_gtr E rfl rfl) rfl ?_
                  clear E a; intro a E
                  refine S_v E rfl (R_pickF E rfl rfl) rfl ?_
                  clear E a; intro a E
                  refine WL_nil ?_
                  refine T_n ?_
                  refine WP_cond E rfl (fun hc_33 => ?_) (fun hc_33 => ?_)
                  · replace hc_33 := of_decide_eq_true hc_33
                    refine WP_seq ?_
                    refine WP_region ?_
                    refine S_v E rfl (R_assign E rfl) rfl ?_
                    clear E a; intro a E
                    refine WL_nil ?_
                    refine T_n ?_
                    refine WP_ret ?_
                    refine B_r ?_
                    refine T_r ?_
                    refine T_r ?_
                    refine B_r ?_
                    refine T_r ?_
                    exact F_ret1 E Try.results59 rfl ⟨_, rfl, M_29, (hM_2.trans (hM_19.trans hM_29)), (congrArg (Value.int .i64) (by (first | (have h9 : szC s0 = 1 := sz_one (by assumption) (by omega); rw [h9]; rfl) | (have h9 : szC s0 = 0 := sz_short (by assumption) (by omega) rfl (.inl (by omega)); rw [h9]; rfl) | (have h9 : szC s0 = 0 := sz_short (by assumption) (by omega) rfl (.inr (by omega)); rw [h9]; rfl) | (have h9 : szC s0 = 0 := sz_low (by assumption) (by assumption) (by omega) rfl (by omega); rw [h9]; rfl) | (have h9 : szC s0 = 0 := sz_high (by assumption) (by assumption) (by omega) rfl (by omega); rw [h9]; rfl) | (have h9 : szC s0 = 0 := sz_bad (i := k) (by assumption) (by assumption) (by omega) rfl (by omega) (by omega) (by omega); rw [h9]; rfl) | (have h9 : szC s0 = szN c_1.toNat := sz_good (by assumption) (by assumption) (by omega) rfl rfl rfl (by omega) (by omega) (by omega) (by omega) (fun i h1 h2 => hL0_0 i h1 (by omega)); rw [h9])))), S⟩
                  · replace hc_33 := of_decide_eq_false hc_33
                    refine WP_skip ?_
                    refine B_n ?_
                    refine T_n ?_
                    refine WP_region ?_
                    refine S_v E rfl (R_move E rfl) rfl ?_
                    clear E a; intro a E
                    refine S_v E rfl (R_addx (m := ((k + 1 : Nat) : Int)) E rfl rfl (by omega) (by omega)) rfl ?_
                    clear E a; intro a E
                    refine S_v E rfl (R_assign E rfl) rfl ?_
                    clear E a; intro a E
                    refine WL_nil ?_
                    refine T_n ?_
                    exact ⟨k + 1, ⟨M_29, hM_29, S, E.keep ⟨rfl, rfl, rfl, trivial⟩, (by exact good_step (by assumption) (by assumption) (by omega) (by omega)), (by omega), (by omega)⟩, by omega⟩
              · replace hc_30 := of_decide_eq_false hc_30
                refine WP_exit ?_
                refine T_x ?_
                refine T_x ?_
                refine B_x ?_
                refine T_n ?_
                refine WP_seq ?_
                refine WP_region ?_
                refine S_v E rfl (R_move E rfl) rfl ?_
                clear E a; intro a E
                refine S_v E rfl (R_assign E rfl) rfl ?_
                clear E a; intro a E
                refine WL_nil ?_
                refine T_n ?_
                refine WP_ret ?_
                exact F_ret1 E Try.results59 rfl ⟨_, rfl, M_29, (hM_2.trans (hM_19.trans hM_29)), (congrArg (Value.int .i64) (by (first | (have h9 : szC s0 = 1 := sz_one (by assumption) (by omega); rw [h9]; rfl) | (have h9 : szC s0 = 0 := sz_short (by assumption) (by omega) rfl (.inl (by omega)); rw [h9]; rfl) | (have h9 : szC s0 = 0 := sz_short (by assumption) (by omega) rfl (.inr (by omega)); rw [h9]; rfl) | (have h9 : szC s0 = 0 := sz_low (by assumption) (by assumption) (by omega) rfl (by omega); rw [h9]; rfl) | (have h9 : szC s0 = 0 := sz_high (by assumption) (by assumption) (by omega) rfl (by omega); rw [h9]; rfl) | (have h9 : szC s0 = 0 := sz_bad (i := k) (by assumption) (by assumption) (by omega) rfl (by omega) (by omega) (by omega); rw [h9]; rfl) | (have h9 : szC s0 = szN c_1.toNat := sz_good (by assumption) (by assumption) (by omega) rfl rfl rfl (by omega) (by omega) (by omega) (by omega) (fun i h1 h2 => hL0_0 i h1 (by omega)); rw [h9])))), S⟩

set_option maxRecDepth 100000 in
set_option maxHeartbeats 4000000 in
theorem spec_Runes {M : Hp} {s0 : List UInt8} (hb0 : s0.length ≤ 1000000000000)  :
    Pu Try.prog (.func (.func 12) #[] #[]) M [.string (bs s0)] (fun r M' => ∃ t0, r = .tuple #[t0, .bool ((runs s0).2)] ∧ RdS 1 RTx M' t0 ((runs s0).1)) := by
  refine Pu_enter Try.func12 rfl Try.ntmps12 rfl Try.call12 ?_
  intro a w M1 H hM1 S E
  refine WP_seq ?_
  refine WP_region ?_
  refine S_v E rfl (R_assign E rfl) rfl ?_
  clear E a; intro a E
  refine S_v E rfl (R_assign E rfl) rfl ?_
  clear E a; intro a E
  refine WL_nil ?_
  refine T_n ?_
  refine WP_seq ?_
  refine WP_region ?_
  refine S_v E rfl (R_assign E rfl) rfl ?_
  clear E a; intro a E
  refine WL_nil ?_
  refine T_n ?_
  refine WP_seq ?_
  refine WP_region ?_
  refine S_v E rfl (R_assign E rfl) rfl ?_
  clear E a; intro a E
  refine WL_nil ?_
  refine T_n ?_
  refine WP_seq ?_
  refine WP_block ?_
  replace S : St w M1 (OwnC 9 1 (.slice none 0 0) ([] : List (List UInt8)).length [] :: _) := S.ownNil
  have hr_2 : RowsR RTx 1 M1 ([] : List (List UInt8)) [] := RowsR.nil
  have hre : ([] : List (List UInt8)) = ((runs s0).1.take 0) := by (first | (rw [Rn_take (by assumption) hne, hw]; done) | (simp; done))
  replace S := S.reR hre
  replace hr_2 := hr_2.eq hre
  clear hre
  refine WP_loop (γ := Nat) (fun (p : Nat) a w => ∃ (M_3 : Hp) (u4 : Value) (xs4 : List Value), Hp.le M1 M_3 ∧ St w M_3 (OwnC 9 1 u4 ((runs s0).1.take p).length xs4 :: H) ∧ Env a 24 [] [(0, .string (bs (s0.drop (posn s0 p)))), (4, u4), (5, .bool (okk s0 p))] ∧ (Rn s0 p) ∧ RowsR RTx 1 M_3 ((runs s0).1.take p) xs4) (fun p => s0.length - posn s0 p) 0 ⟨M1, _, _, Hp.le.refl _, S, E.keep ⟨look_str (i := s0) rfl (by (rfl)), rfl, look_bool (i := true) rfl (by (rfl)), trivial⟩, (by exact Rn_zero s0), hr_2⟩ ?_
  try clear E
  try clear S
  try clear a
  try clear w
  rintro p a w ⟨M_3, u4, xs4, hM_3, S, E, hL0_0, hr4⟩
  refine WP_seq ?_
  refine WP_seq ?_
  refine WP_region ?_
  refine S_v E rfl (R_move E rfl) rfl ?_
  clear E a; intro a E
  refine S_v E rfl (R_neqS E rfl rfl) rfl ?_
  clear E a; intro a E
  refine WL_nil ?_
  refine T_n ?_
  refine WP_cond E rfl (fun hc_4 => ?_) (fun hc_4 => ?_)
  · replace hc_4 := of_decide_eq_true hc_4
    have hne : (s0.drop (posn s0 p)) ≠ [] := by assumption
    have hlt := Rn_lt (by assumption) hne
    have hrl := runs_le s0
    have hpl := (show Rn s0 p by assumption).2.1
    refine WP_skip ?_
    refine T_n ?_
    refine WP_block ?_
    refine WP_seq ?_
    refine WP_region ?_
    refine S_v E rfl (R_move E rfl) rfl ?_
    clear E a; intro a E
    refine S_x (X_pu E S rfl rfl rfl (spec_size (by first | assumption | omega)) (Hp.le.refl _) ?_)
    clear E a S; rintro a _ w M_5 hM_5 rfl S E
    replace hr4 := hr4.le RTx_mono hM_5
    refine S_v E rfl (R_assign E rfl) rfl ?_
    clear E a; intro a E
    refine WL_nil ?_
    refine T_n ?_
    refine WP_seq ?_
    refine WP_seq ?_
    refine WP_region ?_
    refine S_v E rfl (R_move E rfl) rfl ?_
    clear E a; intro a E
    refine S_v E rfl (R_eql E rfl rfl) rfl ?_
    clear E a; intro a E
    refine WL_nil ?_
    refine T_n ?_
    refine WP_cond E rfl (fun hc_6 => ?_) (fun hc_6 => ?_)
    · replace hc_6 := of_decide_eq_true hc_6
      have hw : wid (s0.drop (posn s0 p)) = 1 := by unfold wid; rw [if_pos (by omega)]
      have hzl := wid_le hne
      rw [hw, List.length_drop] at hzl
      have hz : szC (s0.drop (posn s0 p)) = 0 := by omega
      refine WP_region ?_
      refine S_v E rfl (R_assign E rfl) rfl ?_
      clear E a; intro a E
      refine S_v E rfl (R_assign E rfl) rfl ?_
      clear E a; intro a E
      refine WL_nil ?_
      refine T_n ?_
      refine WP_seq ?_
      refine WP_region ?_
      refine S_v E rfl (R_move E rfl) rfl ?_
      clear E a; intro a E
      refine S_v E rfl (R_move E rfl) rfl ?_
      clear E a; intro a E
      refine S_v E rfl (R_move E rfl) rfl ?_
      clear E a; intro a E
      refine S_v E rfl (R_sliceSH (up := 1) E rfl rfl Try.underlying9 (by omega) (by first | omega | (rw [List.length_drop]; omega))) rfl ?_
      clear E a; intro a E
      refine S_x (X_buildM (R := RTx) (vs := [.string (bs ((s0.drop (posn s0 p)).take 1))]) (xs := [(s0.drop (posn s0 p)).take 1]) RTx_mono E S rfl T24 rfl rfl rfl (by intro u hu; simp only [List.mem_cons, List.not_mem_nil, or_false] at hu; rcases hu with rfl <;> rfl) rfl (rowsC (R := RTx) rfl rowsN) ?_)
      clear E a S; rintro a v_7 w M_8 hM_8 hv_7 S E
      replace hr4 := hr4.le RTx_mono hM_8
      refine S_x (X_appendR (R := RTx) (zs := ((runs s0).1.take p)) (ys := [(s0.drop (posn s0 p)).take 1]) E S hr4 rfl rfl rfl T24 hv_7 one_RTx (by first | omega | (simp; done) | (simp; omega) | (simp_all; omega)) (by first | omega | (simp; done) | (simp; omega) | (simp_all; omega)) ?_)
      clear E a S; rintro a w v_9 xs_10 E hr_11 S
      refine S_v E rfl (R_assign E rfl) rfl ?_
      clear E a; intro a E
      refine WL_nil ?_
      refine T_n ?_
      refine WP_region ?_
      refine S_v E rfl (R_move E rfl) rfl ?_
      clear E a; intro a E
      refine S_v E rfl (R_move E rfl) rfl ?_
      clear E a; intro a E
      refine S_v E rfl (R_sliceSL (lo := 1) E rfl rfl Try.underlying9 (by omega) (by first | omega | (rw [List.length_drop]; omega))) rfl ?_
      clear E a; intro a E
      refine S_v E rfl (R_assign E rfl) rfl ?_
      clear E a; intro a E
      refine WL_nil ?_
      refine B_n ?_
      refine T_n ?_
      have hre : ((runs s0).1.take p) ++ [(s0.drop (posn s0 p)).take 1] = ((runs s0).1.take (p + 1)) := by (first | (rw [Rn_take (by assumption) hne, hw]; done) | (simp; done))
      replace S := S.reR hre
      replace hr_11 := hr_11.eq hre
      clear hre
      exact ⟨p + 1, ⟨M_8, _, _, (hM_3.trans (hM_5.trans hM_8)), S, E.keep ⟨look_str (i := (s0.drop (posn s0 p)).drop 1) rfl (by (show List.drop _ (s0.drop (posn s0 p)) = s0.drop (posn s0 p + wid (s0.drop (posn s0 p))); rw [hw, List.drop_drop])), rfl, look_bool (i := false) rfl (by (show _ = (okk s0 p && decide (szC (s0.drop (posn s0 p)) ≠ 0)); first | (rw [hz]; simp; done) | (rw [decide_eq_true hz]; simp))), trivial⟩, (by exact Rn_step (by assumption) (by assumption)), hr_11⟩, (by have h9 := wid_pos (s0.drop (posn s0 p)); show s0.length - (posn s0 p + wid (s0.drop (posn s0 p))) < _; omega)⟩
    · replace hc_6 := of_decide_eq_false hc_6
      have hw : wid (s0.drop (posn s0 p)) = szC (s0.drop (posn s0 p)) := by unfold wid; rw [if_neg (by omega)]
      have hzl := wid_le hne
      rw [hw, List.length_drop] at hzl
      have hz : ¬ szC (s0.drop (posn s0 p)) = 0 := by omega
      refine WP_skip ?_
      refine T_n ?_
      refine WP_seq ?_
      refine WP_region ?_
      refine S_v E rfl (R_move E rfl) rfl ?_
      clear E a; intro a E
      refine S_v E rfl (R_move E rfl) rfl ?_
      clear E a; intro a E
      refine S_v E rfl (R_move E rfl) rfl ?_
      clear E a; intro a E
      refine S_v E rfl (R_sliceSH (up := szC (s0.drop (posn s0 p))) E rfl rfl Try.underlying9 (by omega) (by first | omega | (rw [List.length_drop]; omega))) rfl ?_
      clear E a; intro a E
      refine S_x (X_buildM (R := RTx) (vs := [.string (bs ((s0.drop (posn s0 p)).take (szC (s0.drop (posn s0 p)))))]) (xs := [(s0.drop (posn s0 p)).take (szC (s0.drop (posn s0 p)))]) RTx_mono E S rfl T24 rfl rfl rfl (by intro u hu; simp only [List.mem_cons, List.not_mem_nil, or_false] at hu; rcases hu with rfl <;> rfl) rfl (rowsC (R := RTx) rfl rowsN) ?_)
      clear E a S; rintro a v_12 w M_13 hM_13 hv_12 S E
      replace hr4 := hr4.le RTx_mono hM_13
      refine S_x (X_appendR (R := RTx) (zs := ((runs s0).1.take p)) (ys := [(s0.drop (posn s0 p)).take (szC (s0.drop (posn s0 p)))]) E S hr4 rfl rfl rfl T24 hv_12 one_RTx (by first | omega | (simp; done) | (simp; omega) | (simp_all; omega)) (by first | omega | (simp; done) | (simp; omega) | (simp_all; omega)) ?_)
      clear E a S; rintro a w v_14 xs_15 E hr_16 S
      refine S_v E rfl (R_assign E rfl) rfl ?_
      clear E a; intro a E
      refine WL_nil ?_
      refine T_n ?_
      refine WP_region ?_
      refine S_v E rfl (R_move E rfl) rfl ?_
      clear E a; intro a E
      refine S_v E rfl (R_move E rfl) rfl ?_
      clear E a; intro a E
      refine S_v E rfl (R_sliceSL (lo := szC (s0.drop (posn s0 p))) E rfl rfl Try.underlying9 (by omega) (by first | omega | (rw [List.length_drop]; omega))) rfl ?_
      clear E a; intro a E
      refine S_v E rfl (R_assign E rfl) rfl ?_
      clear E a; intro a E
      refine WL_nil ?_
      refine B_n ?_
      refine T_n ?_
      have hre : ((runs s0).1.take p) ++ [(s0.drop (posn s0 p)).take (szC (s0.drop (posn s0 p)))] = ((runs s0).1.take (p + 1)) := by (first | (rw [Rn_take (by assumption) hne, hw]; done) | (simp; done))
      replace S := S.reR hre
      replace hr_16 := hr_16.eq hre
      clear hre
      exact ⟨p + 1, ⟨M_13, _, _, (hM_3.trans (hM_5.trans hM_13)), S, E.keep ⟨look_str (i := (s0.drop (posn s0 p)).drop (szC (s0.drop (posn s0 p)))) rfl (by (show List.drop _ (s0.drop (posn s0 p)) = s0.drop (posn s0 p + wid (s0.drop (posn s0 p))); rw [hw, List.drop_drop])), rfl, look_bool (i := okk s0 p) rfl (by (show _ = (okk s0 p && decide (szC (s0.drop (posn s0 p)) ≠ 0)); first | (rw [hz]; simp; done) | (rw [decide_eq_true hz]; simp))), trivial⟩, (by exact Rn_step (by assumption) (by assumption)), hr_16⟩, (by have h9 := wid_pos (s0.drop (posn s0 p)); show s0.length - (posn s0 p + wid (s0.drop (posn s0 p))) < _; omega)⟩
  · replace hc_4 := of_decide_eq_false hc_4
    have hen := Rn_end (s := s0) (k := p) (by assumption) (by simpa using (by assumption : ¬ (s0.drop (posn s0 p)) ≠ []))
    have hrl := runs_le s0
    refine WP_exit ?_
    refine T_x ?_
    refine T_x ?_
    refine B_x ?_
    refine T_n ?_
    refine WP_seq ?_
    refine WP_region ?_
    refine S_v E rfl (R_move E rfl) rfl ?_
    clear E a; intro a E
    refine S_v E rfl (R_move E rfl) rfl ?_
    clear E a; intro a E
    refine S_v E rfl (R_assign E rfl) rfl ?_
    clear E a; intro a E
    refine S_v E rfl (R_assign E rfl) rfl ?_
    clear E a; intro a E
    refine WL_nil ?_
    refine T_n ?_
    refine WP_ret ?_
    have S0 := S; clear S
    obtain ⟨M_17, hM_17, hz_18, S⟩ := S0.freezeR hr4 RTx_mono (by (first | omega | (simp; omega) | (simp; done) | (simp_all; omega) | grind))
    clear S0
    exact F_ret2 E Try.results12 rfl rfl ⟨_, rfl, M_17, (hM_3.trans hM_17), ⟨_, (by rw [hen.2]), (by rw [show ((runs s0).1) = ((runs s0).1.take p) from by exact hen.1.symm]; exact hz_18)⟩, S⟩

set_option maxRecDepth 100000 in
set_option maxHeartbeats 4000000 in
theorem spec_joined {M : Hp} {v0 : Value} {l0 : List (List UInt8)} (h0 : RdS 1 RTx M v0 l0) (hb0 : l0.flatten.length ≤ 1000000000000)  :
    Pu Try.prog (.func (.func 62) #[] #[]) M [v0, .string (bs ([] : List UInt8))] (fun r M' => r = .string (bs l0.flatten)) := by
  refine Pu_enter Try.func62 rfl Try.ntmps62 rfl Try.call62 ?_
  intro a w M1 H hM1 S E
  replace h0 := h0.le RTx_mono hM1
  have b0 := h0.bound
  refine WP_seq ?_
  refine WP_region ?_
  refine S_v E rfl (R_assign E rfl) rfl ?_
  clear E a; intro a E
  refine WL_nil ?_
  refine T_n ?_
  refine WP_seq ?_
  refine WP_region ?_
  refine S_v E rfl (R_assign E rfl) rfl ?_
  clear E a; intro a E
  refine WL_nil ?_
  refine T_n ?_
  refine WP_seq ?_
  refine WP_seq ?_
  refine WP_region ?_
  refine S_v E rfl (R_move E rfl) rfl ?_
  clear E a; intro a E
  refine S_v E rfl (R_lenV E rfl T24 h0.len) rfl ?_
  clear E a; intro a E
  refine S_v E rfl (R_move E rfl) rfl ?_
  clear E a; intro a E
  refine WL_nil ?_
  refine T_n ?_
  refine WP_block ?_
  refine WP_loop (γ := Nat) (fun (k : Nat) a w => ∃ (M_1 : Hp), Hp.le M1 M_1 ∧ St w M_1 (H) ∧ Env a 25 [] [(0, v0), (1, .string (bs ([] : List UInt8))), (5, .string (bs ((l0.take k).flatten))), (8, .int .i64 (((l0).length : Nat) : Int)), (9, .int .i64 ((k : Nat) : Int))] ∧ (k ≤ (l0).length)) (fun k => ((l0).length) - k) 0 ⟨M1, Hp.le.refl _, S, E.keep ⟨rfl, rfl, look_str (i := ([] : List UInt8)) rfl (by (rfl)), rfl, rfl, trivial⟩, by ((try clear S); (try clear E); first | assumption | omega | rfl | (simp; done) | (simp_all; done) | (simp [List.take_add_one, *]; done) | grind [List.take_add_one])⟩ ?_
  try clear E
  try clear S
  try clear a
  try clear w
  rintro k a w ⟨M_1, hM_1, S, E, hL0_0⟩
  replace h0 := h0.le RTx_mono hM_1
  have hfl := flat_le l0 (k + 1)
  refine WP_seq ?_
  refine WP_region ?_
  refine S_v E rfl (R_lss E rfl rfl) rfl ?_
  clear E a; intro a E
  refine WL_nil ?_
  refine T_n ?_
  refine WP_seq ?_
  refine WP_cond E rfl (fun hc_2 => ?_) (fun hc_2 => ?_)
  · replace hc_2 := of_decide_eq_true hc_2
    refine WP_skip ?_
    refine T_n ?_
    refine WP_seq ?_
    refine WP_block ?_
    refine WP_seq ?_
    refine WP_region ?_
    refine S_v E rfl (R_move E rfl) rfl ?_
    clear E a; intro a E
    refine S_v E rfl (R_assign E rfl) rfl ?_
    clear E a; intro a E
    refine WL_nil ?_
    refine T_n ?_
    refine WP_seq ?_
    refine WP_seq ?_
    refine WP_region ?_
    refine S_v E rfl (R_move E rfl) rfl ?_
    clear E a; intro a E
    refine S_v E rfl (R_gtr E rfl rfl) rfl ?_
    clear E a; intro a E
    refine WL_nil ?_
    refine T_n ?_
    refine WP_cond E rfl (fun hc_3 => ?_) (fun hc_3 => ?_)
    · replace hc_3 := of_decide_eq_true hc_3
      refine WP_region ?_
      refine S_v E rfl (R_move E rfl) rfl ?_
      clear E a; intro a E
      refine S_v E rfl (R_move E rfl) rfl ?_
      clear E a; intro a E
      refine S_v E rfl (R_addS E rfl rfl (by (have hfk := flat_le l0 k; first | omega | (simp only [List.length_append, List.length_nil]; omega) | (rw [flat_at (by assumption), List.length_append] at hfl; (try simp only [List.length_append, List.length_nil]); omega)))) rfl ?_
      clear E a; intro a E
      refine S_v E rfl (R_assign E rfl) rfl ?_
      clear E a; intro a E
      refine WL_nil ?_
      refine T_n ?_
      refine WP_region ?_
      refine S_v E rfl (R_move E rfl) rfl ?_
      clear E a; intro a E
      refine S_v E rfl (R_move E rfl) rfl ?_
      clear E a; intro a E
      refine S_v E rfl (R_move E rfl) rfl ?_
      clear E a; intro a E
      obtain ⟨x_4, hx_4⟩ : ∃ x, (l0)[k]? = some x := ⟨_, List.getElem?_eq_getElem (by first | omega | (simp; done) | (simp; omega) | (simp_all; omega))⟩
      obtain ⟨p_5, hp_5, qp_5⟩ := RdTx.at h0 hx_4
      refine S_v E rfl (R_idx E rfl rfl T24 hp_5 rfl) rfl ?_
      clear E a; intro a E
      refine S_v E rfl (R_loadM E rfl Try.isAgg9 S.imm qp_5) rfl ?_
      clear E a; intro a E
      refine S_v E rfl (R_addS E rfl rfl (by (have hfk := flat_le l0 k; first | omega | (simp only [List.length_append, List.length_nil]; omega) | (rw [flat_at (by assumption), List.length_append] at hfl; (try simp only [List.length_append, List.length_nil]); omega)))) rfl ?_
      clear E a; intro a E
      refine S_v E rfl (R_assign E rfl) rfl ?_
      clear E a; intro a E
      refine WL_nil ?_
      refine B_n ?_
      refine T_n ?_
      refine WP_region ?_
      refine S_v E rfl (R_addx (m := ((k + 1 : Nat) : Int)) E rfl rfl (by omega) (by omega)) rfl ?_
      clear E a; intro a E
      refine S_v E rfl (R_move E rfl) rfl ?_
      clear E a; intro a E
      refine WL_nil ?_
      refine T_n ?_
      exact ⟨k + 1, ⟨M_1, hM_1, S, E.keep ⟨rfl, rfl, look_str (i := (((l0.take k).flatten) ++ ([] : List UInt8)) ++ x_4) rfl (by (first | (rw [flat_at (by assumption)]; done) | (rw [flat_at (by assumption), List.append_nil]))), rfl, rfl, trivial⟩, by ((try clear S); (try clear E); first | assumption | omega | rfl | (simp; done) | (simp_all; done) | (simp [List.take_add_one, *]; done) | grind [List.take_add_one])⟩, by omega⟩
    · replace hc_3 := of_decide_eq_false hc_3
      refine WP_skip ?_
      refine T_n ?_
      refine WP_region ?_
      refine S_v E rfl (R_move E rfl) rfl ?_
      clear E a; intro a E
      refine S_v E rfl (R_move E rfl) rfl ?_
      clear E a; intro a E
      refine S_v E rfl (R_move E rfl) rfl ?_
      clear E a; intro a E
      obtain ⟨x_6, hx_6⟩ : ∃ x, (l0)[k]? = some x := ⟨_, List.getElem?_eq_getElem (by first | omega | (simp; done) | (simp; omega) | (simp_all; omega))⟩
      obtain ⟨p_7, hp_7, qp_7⟩ := RdTx.at h0 hx_6
      refine S_v E rfl (R_idx E rfl rfl T24 hp_7 rfl) rfl ?_
      clear E a; intro a E
      refine S_v E rfl (R_loadM E rfl Try.isAgg9 S.imm qp_7) rfl ?_
      clear E a; intro a E
      refine S_v E rfl (R_addS E rfl rfl (by (have hfk := flat_le l0 k; first | omega | (simp only [List.length_append, List.length_nil]; omega) | (rw [flat_at (by assumption), List.length_append] at hfl; (try simp only [List.length_append, List.length_nil]); omega)))) rfl ?_
      clear E a; intro a E
      refine S_v E rfl (R_assign E rfl) rfl ?_
      clear E a; intro a E
      refine WL_nil ?_
      refine B_n ?_
      refine T_n ?_
      refine WP_region ?_
      refine S_v E rfl (R_addx (m := ((k + 1 : Nat) : Int)) E rfl rfl (by omega) (by omega)) rfl ?_
      clear E a; intro a E
      refine S_v E rfl (R_move E rfl) rfl ?_
      clear E a; intro a E
      refine WL_nil ?_
      refine T_n ?_
      exact ⟨k + 1, ⟨M_1, hM_1, S, E.keep ⟨rfl, rfl, look_str (i := ((l0.take k).flatten) ++ x_6) rfl (by (first | (rw [flat_at (by assumption)]; done) | (rw [flat_at (by assumption), List.append_nil]))), rfl, rfl, trivial⟩, by ((try clear S); (try clear E); first | assumption | omega | rfl | (simp; done) | (simp_all; done) | (simp [List.take_add_one, *]; done) | grind [List.take_add_one])⟩, by omega⟩
  · replace hc_2 := of_decide_eq_false hc_2
    refine WP_exit ?_
    refine T_x ?_
    refine T_x ?_
    refine B_x ?_
    refine T_n ?_
    refine WP_seq ?_
    refine WP_region ?_
    refine S_v E rfl (R_move E rfl) rfl ?_
    clear E a; intro a E
    refine S_v E rfl (R_assign E rfl) rfl ?_
    clear E a; intro a E
    refine WL_nil ?_
    refine T_n ?_
    refine WP_ret ?_
    exact F_ret1 E Try.results62 rfl ⟨_, rfl, M_1, hM_1, (congrArg (fun z => Value.string (bs z)) (by (rw [List.take_of_length_le (by omega)]))), S⟩

set_option maxRecDepth 100000 in
set_option maxHeartbeats 4000000 in
theorem spec_ChunkString {M : Hp} {s0 : List UInt8} {n1 : Nat} (hb1 : n1 ≤ 1000000) (hb : s0.length ≤ 1000000) :
    Pu Try.prog (.func (.func 15) #[] #[]) M [.string (bs s0), .int .i64 ((n1 : Nat) : Int)] (fun r M' => ∃ t0, r = .tuple #[t0, .int .i64 ((chS' n1 s0 : Nat) : Int)] ∧ RdS 1 RTx M' t0 (chW n1 s0)) := by
  refine Pu_enter Try.func15 rfl Try.ntmps15 rfl Try.call15 ?_
  intro a w M1 H hM1 S E
  have hrl := runs_le s0
  have hra := congrArg List.length (runs_all s0)
  refine WP_seq ?_
  refine WP_region ?_
  refine S_v E rfl (R_assign E rfl) rfl ?_
  clear E a; intro a E
  refine S_v E rfl (R_assign E rfl) rfl ?_
  clear E a; intro a E
  refine WL_nil ?_
  refine T_n ?_
  refine WP_seq ?_
  refine WP_region ?_
  refine S_v E rfl (R_move E rfl) rfl ?_
  clear E a; intro a E
  refine S_x (X_pu E S rfl rfl rfl (spec_Runes (by first | assumption | omega | (simp; done) | (simp; omega))) (Hp.le.refl _) ?_)
  clear E a S; rintro a _ w M_1 hM_1 ⟨v_2, rfl, hv_2⟩ S E
  refine S_v E rfl (R_move E rfl) rfl ?_
  clear E a; intro a E
  refine S_v E rfl (R_extract E rfl rfl) rfl ?_
  clear E a; intro a E
  refine S_v E rfl (R_extract E rfl rfl) rfl ?_
  clear E a; intro a E
  refine S_v E rfl (R_assign E rfl) rfl ?_
  clear E a; intro a E
  refine S_v E rfl (R_assign E rfl) rfl ?_
  clear E a; intro a E
  refine WL_nil ?_
  refine T_n ?_
  refine WP_seq ?_
  refine WP_seq ?_
  refine WP_region ?_
  refine S_v E rfl (R_move E rfl) rfl ?_
  clear E a; intro a E
  refine S_v E rfl (R_not E rfl) rfl ?_
  clear E a; intro a E
  refine S_v E rfl (R_move E rfl) rfl ?_
  clear E a; intro a E
  refine split_bool (!((runs s0).2)) (fun hc_3 => ?_) (fun hc_3 => ?_)
  · replace E := E.val (t := 15) rfl hc_3
    replace E := E.val (t := 16) rfl hc_3
    refine WL_guard_no E rfl rfl rfl rfl fun a E => ?_
    refine WL_guard_no E rfl rfl rfl rfl fun a E => ?_
    refine S_v E rfl (R_pickT E rfl rfl) rfl ?_
    clear E a; intro a E
    refine WL_nil ?_
    refine T_n ?_
    refine WP_condT E rfl rfl ?_
    refine WP_seq ?_
    refine WP_region ?_
    refine S_v E rfl (R_assign E rfl) rfl ?_
    clear E a; intro a E
    refine S_v E rfl (R_assign E rfl) rfl ?_
    clear E a; intro a E
    refine WL_nil ?_
    refine T_n ?_
    refine WP_ret ?_
    refine T_r ?_
    exact F_ret2 E Try.results15 rfl rfl ⟨_, rfl, M_1, hM_1, ⟨_, (by (have hno : (runs s0).2 = false ∨ n1 = 0 := (by first | (right; omega) | (left; have h9 : (!(runs s0).2) = true := (by assumption); simpa using h9)); rw [chS_neg hno]; rfl)), (by rw [show chW n1 s0 = [] from by (have hno : (runs s0).2 = false ∨ n1 = 0 := (by first | (right; omega) | (left; have h9 : (!(runs s0).2) = true := (by assumption); simpa using h9)); exact chW_neg hno)]; exact RdS.nil _)⟩, S⟩
  · replace E := E.val (t := 15) rfl hc_3
    replace E := E.val (t := 16) rfl hc_3
    refine WL_guard_yes E rfl rfl ?_
    refine S_v E rfl (R_move E rfl) rfl ?_
    clear E a; intro a E
    refine WL_guard_yes E rfl rfl ?_
    refine S_v E rfl (R_lss E rfl rfl) rfl ?_
    clear E a; intro a E
    refine S_v E rfl (R_pickF E rfl rfl) rfl ?_
    clear E a; intro a E
    refine WL_nil ?_
    refine T_n ?_
    refine WP_cond E rfl (fun hc_4 => ?_) (fun hc_4 => ?_)
    · replace hc_4 := of_decide_eq_true hc_4
      have hno : (runs s0).2 = false ∨ n1 = 0 := by first | (left; assumption) | (right; omega) | (left; simp_all; done) | (right; simp_all; omega)
      refine WP_seq ?_
      refine WP_region ?_
      refine S_v E rfl (R_assign E rfl) rfl ?_
      clear E a; intro a E
      refine S_v E rfl (R_assign E rfl) rfl ?_
      clear E a; intro a E
      refine WL_nil ?_
      refine T_n ?_
      refine WP_ret ?_
      refine T_r ?_
      exact F_ret2 E Try.results15 rfl rfl ⟨_, rfl, M_1, hM_1, ⟨_, (by (have hno : (runs s0).2 = false ∨ n1 = 0 := (by first | (right; omega) | (left; have h9 : (!(runs s0).2) = true := (by assumption); simpa using h9)); rw [chS_neg hno]; rfl)), (by rw [show chW n1 s0 = [] from by (have hno : (runs s0).2 = false ∨ n1 = 0 := (by first | (right; omega) | (left; have h9 : (!(runs s0).2) = true := (by assumption); simpa using h9)); exact chW_neg hno)]; exact RdS.nil _)⟩, S⟩
    · replace hc_4 := of_decide_eq_false hc_4
      have hok : (runs s0).2 = true := by first | assumption | (simp_all; done)
      have hn : 0 < n1 := by first | omega | (simp_all; omega)
      refine WP_skip ?_
      refine T_n ?_
      refine WP_seq ?_
      refine WP_region ?_
      refine S_v E rfl (R_assign E rfl) rfl ?_
      clear E a; intro a E
      refine WL_nil ?_
      refine T_n ?_
      refine WP_seq ?_
      refine WP_block ?_
      replace S : St w M_1 (OwnC 9 1 (.slice none 0 0) ([] : List (List UInt8)).length [] :: _) := S.ownNil
      have hr_6 : RowsR RTx 1 M_1 ([] : List (List UInt8)) [] := RowsR.nil
      have hre : ([] : List (List UInt8)) = (oc n1 (runs s0).1 0) := by rfl
      replace S := S.reR hre
      replace hr_6 := hr_6.eq hre
      clear hre
      refine WP_loop (γ := Nat) (fun (k : Nat) a w => ∃ (M_7 : Hp) (u8 : Value) (xs8 : List Value) (u6 : Value), Hp.le M_1 M_7 ∧ St w M_7 (OwnC 9 1 u8 (oc n1 (runs s0).1 k).length xs8 :: H) ∧ Env a 39 [] [(1, .int .i64 ((n1 : Nat) : Int)), (6, u6), (8, u8)] ∧ (OcI n1 (runs s0).1 k) ∧ RowsR RTx 1 M_7 (oc n1 (runs s0).1 k) xs8 ∧ RdS 1 RTx M_7 u6 (rem' n1 (runs s0).1 k)) (fun k => (rem' n1 (runs s0).1 k).length) 0 ⟨M_1, _, _, _, Hp.le.refl _, S, E.keep ⟨rfl, rfl, rfl, trivial⟩, (by exact OcI_zero _ _), hr_6, (SLeqR hv_2 (by rfl))⟩ ?_
      try clear E
      try clear S
      try clear a
      try clear w
      rintro k a w ⟨M_7, u8, xs8, u6, hM_7, S, E, hL0_0, hr8, hs6_0⟩
      replace hv_2 := hv_2.le RTx_mono hM_7
      have hfr : (rem' n1 (runs s0).1 k).flatten.length ≤ 1000000000000 := (by have h9 := rem_flat n1 (runs s0).1 k; omega)
      have hft : ((rem' n1 (runs s0).1 k).take n1).flatten.length ≤ 1000000000000 := (by have h9 := rem_flat n1 (runs s0).1 k; have h8 := flat_le (rem' n1 (runs s0).1 k) n1; omega)
      have hoc := (show OcI n1 (runs s0).1 k by assumption).2
      have hol := oc_len n1 (runs s0).1 k
      refine WP_seq ?_
      refine WP_seq ?_
      refine WP_region ?_
      refine S_v E rfl (R_move E rfl) rfl ?_
      clear E a; intro a E
      refine S_v E rfl (R_lenV E rfl T24 hs6_0.len) rfl ?_
      clear E a; intro a E
      refine S_v E rfl (R_move E rfl) rfl ?_
      clear E a; intro a E
      refine S_v E rfl (R_gtr E rfl rfl) rfl ?_
      clear E a; intro a E
      refine WL_nil ?_
      refine T_n ?_
      refine WP_cond E rfl (fun hc_8 => ?_) (fun hc_8 => ?_)
      · replace hc_8 := of_decide_eq_true hc_8
        refine WP_skip ?_
        refine T_n ?_
        refine WP_block ?_
        refine WP_seq ?_
        refine WP_region ?_
        refine S_v E rfl (R_move E rfl) rfl ?_
        clear E a; intro a E
        refine S_v E rfl (R_move E rfl) rfl ?_
        clear E a; intro a E
        refine S_v E rfl (R_move E rfl) rfl ?_
        clear E a; intro a E
        obtain ⟨v_9, sv_9, hv_9⟩ := hs6_0.subv 0 n1 (by omega) (by omega)
        simp only [List.drop_zero] at hv_9
        refine S_v E rfl (R_sliceH E rfl rfl T24 sv_9 (by omega)) rfl ?_
        clear E a; intro a E
        refine S_x (X_pu E S rfl rfl rfl (spec_joined hv_9 (by first | assumption | omega)) (Hp.le.refl _) ?_)
        clear E a S; rintro a _ w M_10 hM_10 rfl S E
        replace hv_2 := hv_2.le RTx_mono hM_10
        replace hr8 := hr8.le RTx_mono hM_10
        replace hs6_0 := hs6_0.le RTx_mono hM_10
        replace hv_9 := hv_9.le RTx_mono hM_10
        refine S_x (X_buildM (R := RTx) (vs := [.string (bs ((((rem' n1 (runs s0).1 k)).take n1).flatten))]) (xs := [(((rem' n1 (runs s0).1 k)).take n1).flatten]) RTx_mono E S rfl T24 rfl rfl rfl (by intro u hu; simp only [List.mem_cons, List.not_mem_nil, or_false] at hu; rcases hu with rfl <;> rfl) rfl (rowsC (R := RTx) rfl rowsN) ?_)
        clear E a S; rintro a v_11 w M_12 hM_12 hv_11 S E
        replace hv_2 := hv_2.le RTx_mono hM_12
        replace hr8 := hr8.le RTx_mono hM_12
        replace hs6_0 := hs6_0.le RTx_mono hM_12
        replace hv_9 := hv_9.le RTx_mono hM_12
        refine S_x (X_appendR (R := RTx) (zs := (oc n1 (runs s0).1 k)) (ys := [(((rem' n1 (runs s0).1 k)).take n1).flatten]) E S hr8 rfl rfl rfl T24 hv_11 one_RTx (by (simp only [List.length_cons, List.length_nil]; omega)) (by (simp only [List.length_cons, List.length_nil]; omega)) ?_)
        clear E a S; rintro a w v_13 xs_14 E hr_15 S
        refine S_v E rfl (R_assign E rfl) rfl ?_
        clear E a; intro a E
        refine WL_nil ?_
        refine T_n ?_
        refine WP_region ?_
        refine S_v E rfl (R_move E rfl) rfl ?_
        clear E a; intro a E
        refine S_v E rfl (R_move E rfl) rfl ?_
        clear E a; intro a E
        obtain ⟨v_16, sv_16, hv_16⟩ := hs6_0.subv n1 (((rem' n1 (runs s0).1 k)).length) (by omega) (by omega)
        simp only [List.take_length] at hv_16
        refine S_v E rfl (R_sliceL E rfl rfl T24 hs6_0.len sv_16 (by omega)) rfl ?_
        clear E a; intro a E
        refine S_v E rfl (R_assign E rfl) rfl ?_
        clear E a; intro a E
        refine WL_nil ?_
        refine B_n ?_
        refine T_n ?_
        have hre : (oc n1 (runs s0).1 k) ++ [(((rem' n1 (runs s0).1 k)).take n1).flatten] = (oc n1 (runs s0).1 (k + 1)) := by rfl
        replace S := S.reR hre
        replace hr_15 := hr_15.eq hre
        clear hre
        exact ⟨k + 1, ⟨M_12, _, _, _, (hM_7.trans (hM_10.trans hM_12)), S, E.keep ⟨rfl, rfl, rfl, trivial⟩, (by exact OcI_step hn (by assumption) (by omega)), hr_15, (SLeqR hv_16 (by rfl))⟩, (by show ((rem' n1 (runs s0).1 k).drop n1).length < _; rw [List.length_drop]; omega)⟩
      · replace hc_8 := of_decide_eq_false hc_8
        refine WP_exit ?_
        refine T_x ?_
        refine T_x ?_
        refine B_x ?_
        refine T_n ?_
        refine WP_seq ?_
        refine WP_region ?_
        refine S_v E rfl (R_move E rfl) rfl ?_
        clear E a; intro a E
        refine S_v E rfl (R_move E rfl) rfl ?_
        clear E a; intro a E
        refine S_x (X_pu E S rfl rfl rfl (spec_joined hs6_0 (by first | assumption | omega)) (Hp.le.refl _) ?_)
        clear E a S; rintro a _ w M_17 hM_17 rfl S E
        replace hv_2 := hv_2.le RTx_mono hM_17
        replace hr8 := hr8.le RTx_mono hM_17
        replace hs6_0 := hs6_0.le RTx_mono hM_17
        refine S_x (X_buildM (R := RTx) (vs := [.string (bs ((rem' n1 (runs s0).1 k).flatten))]) (xs := [(rem' n1 (runs s0).1 k).flatten]) RTx_mono E S rfl T24 rfl rfl rfl (by intro u hu; simp only [List.mem_cons, List.not_mem_nil, or_false] at hu; rcases hu with rfl <;> rfl) rfl (rowsC (R := RTx) rfl rowsN) ?_)
        clear E a S; rintro a v_18 w M_19 hM_19 hv_18 S E
        replace hv_2 := hv_2.le RTx_mono hM_19
        replace hr8 := hr8.le RTx_mono hM_19
        replace hs6_0 := hs6_0.le RTx_mono hM_19
        refine S_x (X_appendR (R := RTx) (zs := (oc n1 (runs s0).1 k)) (ys := [(rem' n1 (runs s0).1 k).flatten]) E S hr8 rfl rfl rfl T24 hv_18 one_RTx (by (simp only [List.length_cons, List.length_nil]; omega)) (by (simp only [List.length_cons, List.length_nil]; omega)) ?_)
        clear E a S; rintro a w v_20 xs_21 E hr_22 S
        refine S_v E rfl (R_assign E rfl) rfl ?_
        clear E a; intro a E
        refine S_v E rfl (R_assign E rfl) rfl ?_
        clear E a; intro a E
        refine WL_nil ?_
        refine T_n ?_
        refine WP_ret ?_
        have S0 := S; clear S
        obtain ⟨M_23, hM_23, hz_24, S⟩ := S0.freezeR hr_22 RTx_mono (by (first | omega | (simp only [List.length_append, List.length_cons, List.length_nil]; omega)))
        clear S0
        replace hv_2 := hv_2.le RTx_mono hM_23
        replace hs6_0 := hs6_0.le RTx_mono hM_23
        replace hv_18 := hv_18.le RTx_mono hM_23
        exact F_ret2 E Try.results15 rfl rfl ⟨_, rfl, M_23, (hM_1.trans (hM_7.trans (hM_17.trans (hM_19.trans hM_23)))), ⟨_, (by (first | (rw [chS_pos hok hn]; done) | (rw [chS_pos hok hn]; rfl))), (by rw [show (chW n1 s0) = ((oc n1 (runs s0).1 k) ++ [(rem' n1 (runs s0).1 k).flatten]) from by (first | (rw [chW_pos hok hn]; exact (OcI_end (by assumption) (by omega)).symm) | (rw [chW_pos hok hn]; exact OcI_end (by assumption) (by omega)))]; exact hz_24)⟩, S⟩

set_option maxRecDepth 100000 in
set_option maxHeartbeats 4000000 in
theorem it_ChunkString1 {M : Hp} {s0 : List UInt8} {n1 : Nat} (hn : 0 < n1) (hb1 : n1 ≤ 1000000) (hb : s0.length ≤ 1000000) {bx1 bx2 : Nat} (hbx1 : M bx1 = some (.cells #[.string (bs s0)] 9)) (hbx2 : M bx2 = some (.cells #[.int .i64 (n1 : Int)] 3)) :
    SeqV Try.prog (.func (.func 106) #[] #[.pointer (some ⟨bx1, 0, none⟩), .pointer (some ⟨bx2, 0, none⟩)]) M (RTx) (tc n1 (runs s0).1) := by
  refine SeqV_enter Try.func106 rfl Try.ntmps106 rfl Try.call106 ?_
  intro y J X a w M1 c H hJM hM1 hY hJ S E
  replace hbx1 := hM1.2 _ _ hbx1
  replace hbx2 := hM1.2 _ _ hbx2
  have hcl := tc_len n1 (runs s0).1
  have hrl := runs_le s0
  refine WP_seq ?_
  refine WP_seq ?_
  refine WP_region ?_
  refine S_v E rfl (R_loadM E rfl Try.isAgg9 S.imm (cellM_box hbx1)) rfl ?_
  clear E a; intro a E
  refine S_v E rfl (R_lenS E rfl Try.underlying9) rfl ?_
  clear E a; intro a E
  refine S_v E rfl (R_eql E rfl rfl) rfl ?_
  clear E a; intro a E
  refine S_v E rfl (R_move E rfl) rfl ?_
  clear E a; intro a E
  refine split_bool (decide ((((s0).length : Nat) : Int) = 0)) (fun hc_1 => ?_) (fun hc_1 => ?_)
  · replace E := E.val (t := 9) rfl hc_1
    replace E := E.val (t := 10) rfl hc_1
    replace hc_1 := of_decide_eq_true hc_1
    refine WL_guard_no E rfl rfl rfl rfl fun a E => ?_
    refine WL_guard_no E rfl rfl rfl rfl fun a E => ?_
    refine WL_guard_no E rfl rfl rfl rfl fun a E => ?_
    refine WL_guard_no E rfl rfl rfl rfl fun a E => ?_
    refine S_v E rfl (R_pickT E rfl rfl) rfl ?_
    clear E a; intro a E
    refine WL_nil ?_
    refine T_n ?_
    refine WP_condT E rfl rfl ?_
    refine WP_seq ?_
    refine WP_region ?_
    refine S_v E rfl (R_move E rfl) rfl ?_
    clear E a; intro a E
    refine S_v E rfl (R_loadM E rfl Try.isAgg9 S.imm (cellM_box hbx1)) rfl ?_
    clear E a; intro a E
    replace S := S.front1
    refine S_x (X_yield (x := s0) E S rfl rfl rfl hY (Hp.le.refl _) (by (first | exact emt_pre hn (by assumption) hcn (by assumption) | (rw [emt_end hn (by assumption) (by assumption)]; exact List.prefix_refl _) | (rw [tc_all (n := n1) (by omega)]; exact List.prefix_refl _))) rfl hJ ?_)
    clear E a S; rintro a w M_2 c_3 go_4 hM_2 hJ S E
    replace hbx1 := hM_2.2 _ _ hbx1
    replace hbx2 := hM_2.2 _ _ hbx2
    cases go_4
    · replace hJ : X ([] ++ [s0]) M_2 c_3 := hJ
      refine WL_nil ?_
      refine T_n ?_
      refine WP_ret ?_
      refine T_r ?_
      replace S := S.front1
      exact F_retM0 E S Try.results106 (fun w S => ⟨_, rfl, M_2, _, hM_2, .inr ⟨([] ++ [s0]), (by first | assumption | ((first | exact emt_pre hn (by assumption) hcn (by assumption) | (rw [emt_end hn (by assumption) (by assumption)]; exact List.prefix_refl _) | (rw [tc_all (n := n1) (by omega)]; exact List.prefix_refl _)))), hJ⟩, S⟩)
    · replace hJ : J ([] ++ [s0]) M_2 c_3 := hJ
      refine WL_nil ?_
      refine T_n ?_
      refine WP_ret ?_
      refine T_r ?_
      replace S := S.front1
      have hpre : ([] ++ [s0]) = tc n1 (runs s0).1 := by (first | exact emt_end hn (by assumption) (by assumption) | exact (emt_end hn (by assumption) (by assumption)).symm | exact tc_all (n := n1) (by omega) | exact (tc_all (n := n1) (by omega)).symm)
      rw [hpre] at hJ
      exact F_retM0 E S Try.results106 (fun w S => ⟨_, rfl, M_2, _, hM_2, .inl hJ, S⟩)
  · replace E := E.val (t := 9) rfl hc_1
    replace E := E.val (t := 10) rfl hc_1
    replace hc_1 := of_decide_eq_false hc_1
    refine WL_guard_yes E rfl rfl ?_
    refine S_v E rfl (R_loadM E rfl Try.isAgg3 S.imm (cellM_box hbx2)) rfl ?_
    clear E a; intro a E
    refine WL_guard_yes E rfl rfl ?_
    refine S_v E rfl (R_loadM E rfl Try.isAgg9 S.imm (cellM_box hbx1)) rfl ?_
    clear E a; intro a E
    refine WL_guard_yes E rfl rfl ?_
    refine S_v E rfl (R_lenS E rfl Try.underlying9) rfl ?_
    clear E a; intro a E
    refine WL_guard_yes E rfl rfl ?_
    refine S_v E rfl (R_geq E rfl rfl) rfl ?_
    clear E a; intro a E
    refine S_v E rfl (R_pickF E rfl rfl) rfl ?_
    clear E a; intro a E
    refine WL_nil ?_
    refine T_n ?_
    refine WP_cond E rfl (fun hc_5 => ?_) (fun hc_5 => ?_)
    · replace hc_5 := of_decide_eq_true hc_5
      refine WP_seq ?_
      refine WP_region ?_
      refine S_v E rfl (R_move E rfl) rfl ?_
      clear E a; intro a E
      refine S_v E rfl (R_loadM E rfl Try.isAgg9 S.imm (cellM_box hbx1)) rfl ?_
      clear E a; intro a E
      replace S := S.front1
      refine S_x (X_yield (x := s0) E S rfl rfl rfl hY (Hp.le.refl _) (by (first | exact emt_pre hn (by assumption) hcn (by assumption) | (rw [emt_end hn (by assumption) (by assumption)]; exact List.prefix_refl _) | (rw [tc_all (n := n1) (by omega)]; exact List.prefix_refl _))) rfl hJ ?_)
      clear E a S; rintro a w M_6 c_7 go_8 hM_6 hJ S E
      replace hbx1 := hM_6.2 _ _ hbx1
      replace hbx2 := hM_6.2 _ _ hbx2
      cases go_8
      · replace hJ : X ([] ++ [s0]) M_6 c_7 := hJ
        refine WL_nil ?_
        refine T_n ?_
        refine WP_ret ?_
        refine T_r ?_
        replace S := S.front1
        exact F_retM0 E S Try.results106 (fun w S => ⟨_, rfl, M_6, _, hM_6, .inr ⟨([] ++ [s0]), (by first | assumption | ((first | exact emt_pre hn (by assumption) hcn (by assumption) | (rw [emt_end hn (by assumption) (by assumption)]; exact List.prefix_refl _) | (rw [tc_all (n := n1) (by omega)]; exact List.prefix_refl _)))), hJ⟩, S⟩)
      · replace hJ : J ([] ++ [s0]) M_6 c_7 := hJ
        refine WL_nil ?_
        refine T_n ?_
        refine WP_ret ?_
        refine T_r ?_
        replace S := S.front1
        have hpre : ([] ++ [s0]) = tc n1 (runs s0).1 := by (first | exact emt_end hn (by assumption) (by assumption) | exact (emt_end hn (by assumption) (by assumption)).symm | exact tc_all (n := n1) (by omega) | exact (tc_all (n := n1) (by omega)).symm)
        rw [hpre] at hJ
        exact F_retM0 E S Try.results106 (fun w S => ⟨_, rfl, M_6, _, hM_6, .inl hJ, S⟩)
    · replace hc_5 := of_decide_eq_false hc_5
      refine WP_skip ?_
      refine T_n ?_
      refine WP_seq ?_
      refine WP_region ?_
      refine S_v E rfl (R_assign E rfl) rfl ?_
      clear E a; intro a E
      refine WL_nil ?_
      refine T_n ?_
      refine WP_seq ?_
      refine WP_region ?_
      refine S_v E rfl (R_assign E rfl) rfl ?_
      clear E a; intro a E
      refine WL_nil ?_
      refine T_n ?_
      refine WP_seq ?_
      refine WP_seq ?_
      refine WP_region ?_
      refine S_v E rfl (R_loadM E rfl Try.isAgg9 S.imm (cellM_box hbx1)) rfl ?_
      clear E a; intro a E
      refine S_x (X_rangeS E S rfl rfl Try.underlying9 ?_)
      clear E a S; rintro a w i_9 E S
      refine WL_nil ?_
      refine T_n ?_
      refine WP_block ?_
      replace S := S.as (q := blk i_9 (.stringIter (bs s0) (posn s0 0))) (congrArg (fun z => blk i_9 (.stringIter (bs s0) z)) (show 0 = posn s0 0 by (first | rfl | (show _ = posn s0 k + wid _; omega))))
      refine WP_loop (γ := Nat) (fun (k : Nat) a w => ∃ (M_10 : Hp) (cL0 : HProp), Hp.le M1 M_10 ∧ St w M_10 (blk i_9 (.stringIter (bs s0) (posn s0 k)) :: mks [] :: cL0 :: H) ∧ Env a 42 (([] : List Nat).map mk) [(0, y), (1, .pointer (some ⟨bx1, 0, none⟩)), (2, .pointer (some ⟨bx2, 0, none⟩)), (4, .int .i64 (((cst n1 k).2 : Nat) : Int)), (5, .int .i64 ((posn s0 (cst n1 k).1 : Nat) : Int)), (20, .pointer (some ⟨i_9, 0, none⟩))] ∧ (Rn s0 k) ∧ (k ≤ (runs s0).1.length) ∧ J (emt s0 n1 k) M_10 cL0) (fun k => s0.length - posn s0 k) 0 ⟨M1, _, Hp.le.refl _, S, E.keep ⟨rfl, rfl, rfl, look_nat (i := 0) rfl (by (rfl)), look_nat (i := 0) rfl (by (rfl)), rfl, trivial⟩, (by exact Rn_zero s0), (by omega), J_eq hJ (by rfl)⟩ ?_
      try clear E
      try clear S
      try clear a
      try clear w
      rintro k a w ⟨M_10, cL0, hM_10, S, E, hL0_0, hL0_1, hJ⟩
      replace hbx1 := hM_10.2 _ _ hbx1
      replace hbx2 := hM_10.2 _ _ hbx2
      have hci := cst_inv hn k
      have hkn := emt_len s0 n1 k
      have hrl := runs_le s0
      have hpm := posn_mono s0 (a := (cst n1 k).1) (b := k) (by omega)
      refine WP_seq ?_
      refine WP_region ?_
      refine S_x (X_nextS E S rfl rfl ?_ ?_)
      · clear E a S; rintro a E hps_11 S
        refine S_v E rfl (R_extract E rfl rfl) rfl ?_
        clear E a; intro a E
        refine WL_nil ?_
        refine T_n ?_
        refine WP_seq ?_
        refine WP_condF E rfl rfl ?_
        refine WP_exit ?_
        refine T_x ?_
        refine T_x ?_
        refine B_x ?_
        refine T_n ?_
        refine WP_region ?_
        refine S_v E rfl (R_move E rfl) rfl ?_
        clear E a; intro a E
        refine S_v E rfl (R_loadM E rfl Try.isAgg9 S.imm (cellM_box hbx1)) rfl ?_
        clear E a; intro a E
        refine S_v E rfl (R_move E rfl) rfl ?_
        clear E a; intro a E
        refine S_v E rfl (R_sliceSL (lo := posn s0 (cst n1 k).1) E rfl rfl Try.underlying9 (by omega) (by (first | omega | (have h9 := (show Rn s0 k by assumption).1; omega)))) rfl ?_
        clear E a; intro a E
        replace S := S.front2
        refine S_x (X_yield (x := (s0).drop (posn s0 (cst n1 k).1)) E S rfl rfl rfl hY hM_10 (by (first | exact emt_pre hn (by assumption) hcn (by assumption) | (rw [emt_end hn (by assumption) (by assumption)]; exact List.prefix_refl _) | (rw [tc_all (n := n1) (by omega)]; exact List.prefix_refl _))) rfl hJ ?_)
        clear E a S; rintro a w M_12 c_13 go_14 hM_12 hJ S E
        replace hbx1 := hM_12.2 _ _ hbx1
        replace hbx2 := hM_12.2 _ _ hbx2
        cases go_14
        · replace hJ : X (emt s0 n1 k ++ [(s0).drop (posn s0 (cst n1 k).1)]) M_12 c_13 := hJ
          refine WL_nil ?_
          refine F_nrm ?_
          replace S := S.front1
          replace S := S.drop
          replace S := S.front1
          exact F_retM0 E S Try.results106 (fun w S => ⟨_, rfl, M_12, _, (hM_10.trans hM_12), .inr ⟨(emt s0 n1 k ++ [(s0).drop (posn s0 (cst n1 k).1)]), (by first | assumption | ((first | exact emt_pre hn (by assumption) hcn (by assumption) | (rw [emt_end hn (by assumption) (by assumption)]; exact List.prefix_refl _) | (rw [tc_all (n := n1) (by omega)]; exact List.prefix_refl _)))), hJ⟩, S⟩)
        · replace hJ : J (emt s0 n1 k ++ [(s0).drop (posn s0 (cst n1 k).1)]) M_12 c_13 := hJ
          refine WL_nil ?_
          refine F_nrm ?_
          replace S := S.front1
          replace S := S.drop
          replace S := S.front1
          have hpre : (emt s0 n1 k ++ [(s0).drop (posn s0 (cst n1 k).1)]) = tc n1 (runs s0).1 := by (first | exact emt_end hn (by assumption) (by assumption) | exact (emt_end hn (by assumption) (by assumption)).symm | exact tc_all (n := n1) (by omega) | exact (tc_all (n := n1) (by omega)).symm)
          rw [hpre] at hJ
          exact F_retM0 E S Try.results106 (fun w S => ⟨_, rfl, M_12, _, (hM_10.trans hM_12), .inl hJ, S⟩)
      · clear E a S w; rintro a w E hps_15 S
        have hde := dec_eq s0 _ hps_15
        have hlt := hps_15
        have hkK := Rn_lt2 (s := s0) (k := k) (by assumption) (rn_ne hps_15)
        have hwp := wid_pos (s0.drop (posn s0 k))
        refine S_v E rfl (R_extract E rfl rfl) rfl ?_
        clear E a; intro a E
        refine WL_nil ?_
        refine T_n ?_
        refine WP_seq ?_
        refine WP_condT E rfl rfl ?_
        refine WP_skip ?_
        refine T_n ?_
        refine WP_block ?_
        refine WP_seq ?_
        refine WP_region ?_
        refine S_v E rfl (R_extract E rfl rfl) rfl ?_
        clear E a; intro a E
        refine S_v E rfl (R_assign E rfl) rfl ?_
        clear E a; intro a E
        refine WL_nil ?_
        refine T_n ?_
        refine WP_seq ?_
        refine WP_seq ?_
        refine WP_region ?_
        refine S_v E rfl (R_move E rfl) rfl ?_
        clear E a; intro a E
        refine S_v E rfl (R_loadM E rfl Try.isAgg3 S.imm (cellM_box hbx2)) rfl ?_
        clear E a; intro a E
        refine S_v E rfl (R_eql E rfl rfl) rfl ?_
        clear E a; intro a E
        refine WL_nil ?_
        refine T_n ?_
        refine WP_cond E rfl (fun hc_16 => ?_) (fun hc_16 => ?_)
        · replace hc_16 := of_decide_eq_true hc_16
          have hcn : (cst n1 k).2 = n1 := by omega
          have hc1 : cst n1 (k + 1) = (k, 1) := if_pos hcn
          have he1 : emt s0 n1 (k + 1) = emt s0 n1 k ++ [seg s0 (cst n1 k).1 k] := if_pos hcn
          refine WP_seq ?_
          refine WP_seq ?_
          refine WP_region ?_
          refine S_v E rfl (R_move E rfl) rfl ?_
          clear E a; intro a E
          refine S_v E rfl (R_loadM E rfl Try.isAgg9 S.imm (cellM_box hbx1)) rfl ?_
          clear E a; intro a E
          refine S_v E rfl (R_move E rfl) rfl ?_
          clear E a; intro a E
          refine S_v E rfl (R_move E rfl) rfl ?_
          clear E a; intro a E
          refine S_v E rfl (R_sliceSLH (lo := posn s0 (cst n1 k).1) (up := posn s0 k) E rfl rfl rfl Try.underlying9 (by omega) (by omega) (by (first | omega | (have h9 := (show Rn s0 k by assumption).1; omega))) (by (first | omega | (have h9 := (show Rn s0 k by assumption).1; omega)))) rfl ?_
          clear E a; intro a E
          replace S := S.front2
          refine S_x (X_yield (x := ((s0).take (posn s0 k)).drop (posn s0 (cst n1 k).1)) E S rfl rfl rfl hY hM_10 (by (first | exact emt_pre hn (by assumption) hcn (by assumption) | (rw [emt_end hn (by assumption) (by assumption)]; exact List.prefix_refl _) | (rw [tc_all (n := n1) (by omega)]; exact List.prefix_refl _))) rfl hJ ?_)
          clear E a S; rintro a w M_17 c_18 go_19 hM_17 hJ S E
          replace hbx1 := hM_17.2 _ _ hbx1
          replace hbx2 := hM_17.2 _ _ hbx2
          cases go_19
          · replace hJ : X (emt s0 n1 k ++ [((s0).take (posn s0 k)).drop (posn s0 (cst n1 k).1)]) M_17 c_18 := hJ
            refine S_v E rfl (R_not E rfl) rfl ?_
            clear E a; intro a E
            refine WL_nil ?_
            refine T_n ?_
            refine WP_condT E rfl rfl ?_
            refine WP_ret ?_
            refine T_r ?_
            refine T_r ?_
            refine B_r ?_
            refine T_r ?_
            refine B_r ?_
            refine T_r ?_
            replace S := S.front1
            replace S := S.drop
            replace S := S.front1
            exact F_retM0 E S Try.results106 (fun w S => ⟨_, rfl, M_17, _, (hM_10.trans hM_17), .inr ⟨(emt s0 n1 k ++ [((s0).take (posn s0 k)).drop (posn s0 (cst n1 k).1)]), (by first | assumption | ((first | exact emt_pre hn (by assumption) hcn (by assumption) | (rw [emt_end hn (by assumption) (by assumption)]; exact List.prefix_refl _) | (rw [tc_all (n := n1) (by omega)]; exact List.prefix_refl _)))), hJ⟩, S⟩)
          · replace hJ : J (emt s0 n1 k ++ [((s0).take (posn s0 k)).drop (posn s0 (cst n1 k).1)]) M_17 c_18 := hJ
            refine S_v E rfl (R_not E rfl) rfl ?_
            clear E a; intro a E
            refine WL_nil ?_
            refine T_n ?_
            refine WP_condF E rfl rfl ?_
            refine WP_skip ?_
            refine T_n ?_
            refine WP_seq ?_
            refine WP_region ?_
            refine S_v E rfl (R_assign E rfl) rfl ?_
            clear E a; intro a E
            refine WL_nil ?_
            refine T_n ?_
            refine WP_region ?_
            refine S_v E rfl (R_move E rfl) rfl ?_
            clear E a; intro a E
            refine S_v E rfl (R_assign E rfl) rfl ?_
            clear E a; intro a E
            refine WL_nil ?_
            refine T_n ?_
            refine WP_region ?_
            refine S_v E rfl (R_move E rfl) rfl ?_
            clear E a; intro a E
            refine S_v E rfl (R_addx (m := ((1 : Nat) : Int)) E rfl rfl (by omega) (by omega)) rfl ?_
            clear E a; intro a E
            refine S_v E rfl (R_assign E rfl) rfl ?_
            clear E a; intro a E
            refine WL_nil ?_
            refine B_n ?_
            refine T_n ?_
            replace S := S.front2
            replace S := S.front2
            replace S := S.as (q := blk i_9 (.stringIter (bs s0) (posn s0 (k + 1)))) (congrArg (fun z => blk i_9 (.stringIter (bs s0) z)) (show posn s0 k + (dec s0 (posn s0 k)).2 = posn s0 (k + 1) by (first | rfl | (show _ = posn s0 k + wid _; omega))))
            exact ⟨k + 1, ⟨M_17, _, (hM_10.trans hM_17), S, E.keep ⟨rfl, rfl, rfl, look_nat (i := 1) rfl (by (first | rfl | (rw [hc1]; done) | (rw [hc1]))), look_nat (i := posn s0 k) rfl (by (first | rfl | (rw [hc1]; done) | (rw [hc1]))), rfl, trivial⟩, (by have h9 := rn_le (s := s0) (p := posn s0 k) (by assumption); exact Rn_step (by assumption) (rn_ne (by assumption))), (by omega), J_eq hJ (by (first | rfl | (rw [he1]; done) | (rw [he1]; rfl)))⟩, (by show s0.length - (posn s0 k + wid (s0.drop (posn s0 k))) < _; omega)⟩
        · replace hc_16 := of_decide_eq_false hc_16
          have hcn : ¬ (cst n1 k).2 = n1 := by omega
          have hc1 : cst n1 (k + 1) = ((cst n1 k).1, (cst n1 k).2 + 1) := if_neg hcn
          have he1 : emt s0 n1 (k + 1) = emt s0 n1 k := if_neg hcn
          refine WP_skip ?_
          refine T_n ?_
          refine WP_region ?_
          refine S_v E rfl (R_move E rfl) rfl ?_
          clear E a; intro a E
          refine S_v E rfl (R_addx (m := (((cst n1 k).2 + 1 : Nat) : Int)) E rfl rfl (by omega) (by omega)) rfl ?_
          clear E a; intro a E
          refine S_v E rfl (R_assign E rfl) rfl ?_
          clear E a; intro a E
          refine WL_nil ?_
          refine B_n ?_
          refine T_n ?_
          replace S := S.as (q := blk i_9 (.stringIter (bs s0) (posn s0 (k + 1)))) (congrArg (fun z => blk i_9 (.stringIter (bs s0) z)) (show posn s0 k + (dec s0 (posn s0 k)).2 = posn s0 (k + 1) by (first | rfl | (show _ = posn s0 k + wid _; omega))))
          exact ⟨k + 1, ⟨M_10, _, hM_10, S, E.keep ⟨rfl, rfl, rfl, look_nat (i := (cst n1 k).2 + 1) rfl (by (first | rfl | (rw [hc1]; done) | (rw [hc1]))), look_nat (i := posn s0 (cst n1 k).1) rfl (by (first | rfl | (rw [hc1]; done) | (rw [hc1]))), rfl, trivial⟩, (by have h9 := rn_le (s := s0) (p := posn s0 k) (by assumption); exact Rn_step (by assumption) (rn_ne (by assumption))), (by omega), J_eq hJ (by (first | rfl | (rw [he1]; done) | (rw [he1]; rfl)))⟩, (by show s0.length - (posn s0 k + wid (s0.drop (posn s0 k))) < _; omega)⟩

set_option maxRecDepth 100000 in
set_option maxHeartbeats 4000000 in
theorem it_ChunkString {M : Hp} {s0 : List UInt8} {n1 : Nat} (hn : 0 < n1) (hb1 : n1 ≤ 1000000) (hb : s0.length ≤ 1000000) :
    Pu Try.prog (.func (.func 65) #[] #[]) M [.string (bs s0), .int .i64 ((n1 : Nat) : Int)] (fun r M' => SeqV Try.prog r M' RTx (tc n1 (runs s0).1)) := by
  refine Pu_enter Try.func65 rfl Try.ntmps65 rfl Try.call65 ?_
  intro a w M1 H hM1 S E
  refine WP_seq ?_
  refine WP_region ?_
  refine S_x (X_box (cs := #[.string (bs s0)]) E S rfl rfl rfl ?_)
  clear E a S; rintro a w b_1 E S
  obtain ⟨M_2, hM_2, hb_1, S⟩ := S.freezeB
  refine S_x (X_box (cs := #[.int .i64 ((n1 : Nat) : Int)]) E S rfl rfl rfl ?_)
  clear E a S; rintro a w b_3 E S
  obtain ⟨M_4, hM_4, hb_3, S⟩ := S.freezeB
  replace hb_1 := hM_4.2 _ _ hb_1
  refine S_v E rfl (R_assign E rfl) rfl ?_
  clear E a; intro a E
  refine WL_nil ?_
  refine T_n ?_
  refine WP_seq ?_
  refine WP_seq ?_
  refine WP_region ?_
  refine S_v E rfl (R_loadM E rfl Try.isAgg3 S.imm (cellM_box hb_3)) rfl ?_
  clear E a; intro a E
  refine S_v E rfl (R_leq E rfl rfl) rfl ?_
  clear E a; intro a E
  refine WL_nil ?_
  refine T_n ?_
  have hc_5 : (decide (((n1 : Nat) : Int) ≤ 0)) = false := by (apply decide_eq_false; omega)
  refine WP_condF E rfl hc_5 ?_
  refine WP_skip ?_
  refine T_n ?_
  refine WP_seq ?_
  refine WP_region ?_
  refine S_v E rfl (R_makeFunc E rfl rfl) rfl ?_
  clear E a; intro a E
  refine S_v E rfl (R_assign E rfl) rfl ?_
  clear E a; intro a E
  refine WL_nil ?_
  refine T_n ?_
  refine WP_ret ?_
  exact F_ret1 E Try.results65 rfl ⟨_, rfl, M_4, (hM_2.trans hM_4), (SeqV_eq (it_ChunkString1 (n1 := n1) (by omega) (by omega) (by omega) hb_1 hb_3) (by ((try clear S); (try clear E); first | rfl | (simp; done) | (simp_all; done) | grind [List.take_add_one]))), S⟩

set_option maxRecDepth 100000 in
set_option maxHeartbeats 4000000 in
theorem slices_AppendSeqT {M : Hp} {v1 : Value} {l1 : List (List UInt8)} (h1 : SeqV Try.prog v1 M RTx l1) (hb : l1.length ≤ 1000002) :
    Pu Try.prog (.func (.func 105) #[] #[]) M [.slice none 0 0, v1] (fun r M' => RdS 1 RTx M' r l1) := by
  refine Pu_enter Try.func105 rfl Try.ntmps105 rfl Try.call105 ?_
  intro a w M1 H hM1 S E
  replace h1 := h1.le hM1
  replace S : St w M1 (mks [] :: _) := S.empty
  replace E : Env a 13 (([] : List Nat).map mk) _ := E
  refine WP_seq ?_
  refine WP_region ?_
  refine S_x (X_box (cs := #[.slice none 0 0]) E S rfl rfl rfl ?_)
  clear E a S; rintro a w b_1 E S
  refine S_v E rfl (R_assign E rfl) rfl ?_
  clear E a; intro a E
  refine WL_nil ?_
  refine T_n ?_
  refine WP_seq ?_
  refine WP_seq ?_
  refine WP_region ?_
  refine S_v E rfl (R_move E rfl) rfl ?_
  clear E a; intro a E
  refine WL_nil ?_
  refine T_n ?_
  refine WP_block ?_
  replace S : St w M1 (OwnC 9 1 (.slice none 0 0) ([] : List (List UInt8)).length [] :: _) := S.ownNil
  have hr_3 : RowsR RTx 1 M1 ([] : List (List UInt8)) [] := RowsR.nil
  replace S := S.front1
  replace E := E.keep (l' := [(2, .pointer (some ⟨b_1, 0, none⟩)), (6, v1)]) ⟨rfl, rfl, trivial⟩
  replace S := S.front1
  replace S := S.front1
  have S0 := S; clear S; have S := St.pack [blk b_1 (.cells #[(.slice none 0 0)] 24), OwnC 9 1 (.slice none 0 0) ([] : List (List UInt8)).length []] S0; clear S0
  refine WP_range (RV := RTx) (l := l1) (fun pre M c => ∃ (u2 : Value) (xs2 : List Value), c = bigs [blk b_1 (.cells #[u2] 24), OwnC 9 1 u2 pre.length xs2] ∧ (RowsR RTx 1 M pre xs2)) (fun _ _ _ _ => False) E S rfl h1 (Hp.le.refl _) (fun _ _ _ h => by rw [h]; rfl) (by decide) (by rintro _ M M' c hM ⟨u2, xs2, rfl, fr2⟩; exact ⟨_, _, rfl, fr2.le RTx_mono hM⟩) ⟨_, _, rfl, hr_3⟩ ?_ ?_ ?_
  clear E S
  · rintro lb_5 rec_6 pre xa _ a w M_4 _ G hM_4 hp_7 rfl ⟨u2, xs2, rfl, fr2⟩ E S
    replace E : Env a 13 [] [(7, .string (bs xa)), (2, .pointer (some ⟨b_1, 0, none⟩)), (6, v1)] := E
    replace S := S.swap.unpack2
    have hq0 := prefix_lt hp_7
    replace h1 := h1.le hM_4
    replace hr_3 := hr_3.le RTx_mono hM_4
    have hpl := hp_7.length_le; simp at hpl
    refine WP_region ?_
    refine S_v E rfl (R_assign E rfl) rfl ?_
    clear E a; intro a E
    refine WL_nil ?_
    refine T_n ?_
    replace S := S.front2
    refine rb S ?_
    clear S; intro w S
    refine WP_block ?_
    refine WP_region ?_
    refine S_v E rfl (R_load E rfl (Try.isAgg24 _) (cell_blk (S.mem (.tail _ (.head _))))) rfl ?_
    clear E a; intro a E
    refine S_v E rfl (R_move E rfl) rfl ?_
    clear E a; intro a E
    refine S_x (X_buildM (R := RTx) (vs := [.string (bs xa)]) (xs := [xa]) RTx_mono E S rfl T24 rfl rfl rfl (by intro u hu; simp only [List.mem_cons, List.not_mem_nil, or_false] at hu; rcases hu with rfl <;> rfl) rfl (rowsC (R := RTx) rfl rowsN) ?_)
    clear E a S; rintro a v_9 w M_10 hM_10 hv_9 S E
    replace h1 := h1.le hM_10
    replace hr_3 := hr_3.le RTx_mono hM_10
    replace fr2 := fr2.le RTx_mono hM_10
    replace S := S.front2
    refine S_x (X_appendR (R := RTx) (zs := pre) (ys := [xa]) E S fr2 rfl rfl rfl T24 hv_9 one_RTx (by (simp only [List.length_cons, List.length_nil]; omega)) (by (simp only [List.length_cons, List.length_nil]; omega)) ?_)
    clear E a S; rintro a w v_11 xs_12 E hr_13 S
    have ho_14 := S.oneC
    replace S := S.front2
    refine S_x0 (X_store E S rfl rfl (Try.sizeOf24 _) ho_14 ?_)
    clear E a S; rintro a w E S
    refine WL_nil ?_
    refine B_n ?_
    replace S := S.front1
    replace S := S.front1
    replace S := S.front1
    replace S := S.front1
    have S0 := S; clear S; have S := (St.pack [blk b_1 (.cells #[v_11] 24), OwnC 9 1 v_11 (pre ++ [xa]).length xs_12] S0).swap; clear S0
    exact ⟨M_10, _, hM_10, ⟨_, _, rfl, hr_13⟩, S⟩
  · rintro a w M_15 _ D_16 hM_15 ⟨u2, xs2, rfl, fr2⟩ S E
    replace S := S.unpack2
    replace h1 := h1.le hM_15
    replace hr_3 := hr_3.le RTx_mono hM_15
    refine B_n ?_
    refine T_n ?_
    refine WP_seq ?_
    refine WP_region ?_
    refine S_v E rfl (R_load E rfl (Try.isAgg24 _) (cell_blk (S.mem (.head _)))) rfl ?_
    clear E a; intro a E
    refine S_v E rfl (R_assign E rfl) rfl ?_
    clear E a; intro a E
    refine WL_nil ?_
    refine T_n ?_
    refine WP_ret ?_
    replace S := S.front1
    have S0 := S; clear S
    obtain ⟨M_17, hM_17, hz_18, S⟩ := S0.freezeR fr2 RTx_mono (by (first | omega | (simp; omega) | (simp; done) | (simp_all; omega) | grind))
    clear S0
    replace h1 := h1.le hM_17
    replace hr_3 := hr_3.le RTx_mono hM_17
    replace S := S.drop
    exact F_retM1 E S Try.results105 rfl (fun w S => ⟨_, rfl, M_17, (hM_15.trans hM_17), hz_18, S⟩)
  · rintro _ _ _ _ _ _ _ _ _ hX; exact hX.elim

set_option maxRecDepth 100000 in
set_option maxHeartbeats 4000000 in
theorem slices_CollectT {M : Hp} {v0 : Value} {l0 : List (List UInt8)} (h0 : SeqV Try.prog v0 M RTx l0) (hb : l0.length ≤ 1000002) :
    Pu Try.prog (.func (.func 64) #[] #[]) M [v0] (fun r M' => RdS 1 RTx M' r l0) := by
  refine Pu_enter Try.func64 rfl Try.ntmps64 rfl Try.call64 ?_
  intro a w M1 H hM1 S E
  replace h0 := h0.le hM1
  refine WP_seq ?_
  refine WP_region ?_
  refine S_v E rfl (R_assign E rfl) rfl ?_
  clear E a; intro a E
  refine WL_nil ?_
  refine T_n ?_
  refine WP_seq ?_
  refine WP_region ?_
  refine S_v E rfl (R_move E rfl) rfl ?_
  clear E a; intro a E
  refine S_x (X_pu E S rfl rfl rfl (slices_AppendSeqT h0 (by first | exact Nat.le_trans (tc_len _ _) (by omega) | omega | (simp; done))) (Hp.le.refl _) ?_)
  clear E a S; rintro a v_2 w M_1 hM_1 hv_2 S E
  replace h0 := h0.le hM_1
  refine S_v E rfl (R_assign E rfl) rfl ?_
  clear E a; intro a E
  refine WL_nil ?_
  refine T_n ?_
  refine WP_ret ?_
  exact F_ret1 E Try.results64 rfl ⟨_, rfl, M_1, hM_1, hv_2, S⟩

set_option maxRecDepth 100000 in
set_option maxHeartbeats 4000000 in
theorem it_ChunkStringP {M : Hp} {s0 : List UInt8} {n1 : Nat} (hz : n1 = 0) :
    PuP Try.prog (.func (.func 65) #[] #[]) M [.string (bs s0), .int .i64 ((n1 : Nat) : Int)] := by
  refine PuP_enter Try.func65 rfl Try.ntmps65 rfl Try.call65 ?_
  intro a w M1 H hM1 S E
  refine WP_seq ?_
  refine WP_region ?_
  refine S_x (X_box (cs := #[.string (bs s0)]) E S rfl rfl rfl ?_)
  clear E a S; rintro a w b_1 E S
  obtain ⟨M_2, hM_2, hb_1, S⟩ := S.freezeB
  refine S_x (X_box (cs := #[.int .i64 ((n1 : Nat) : Int)]) E S rfl rfl rfl ?_)
  clear E a S; rintro a w b_3 E S
  obtain ⟨M_4, hM_4, hb_3, S⟩ := S.freezeB
  replace hb_1 := hM_4.2 _ _ hb_1
  refine S_v E rfl (R_assign E rfl) rfl ?_
  clear E a; intro a E
  refine WL_nil ?_
  refine T_n ?_
  refine WP_seq ?_
  refine WP_seq ?_
  refine WP_region ?_
  refine S_v E rfl (R_loadM E rfl Try.isAgg3 S.imm (cellM_box hb_3)) rfl ?_
  clear E a; intro a E
  refine S_v E rfl (R_leq E rfl rfl) rfl ?_
  clear E a; intro a E
  refine WL_nil ?_
  refine T_n ?_
  have hc_5 : (decide (((n1 : Nat) : Int) ≤ 0)) = true := by (apply decide_eq_true; omega)
  refine WP_condT E rfl hc_5 ?_
  refine WP_region ?_
  refine S_v E rfl (R_ifaceS E rfl Try.underlying9) rfl ?_
  clear E a; intro a E
  exact S_x0 (X_panic E rfl (F_panic E ⟨_, _, rfl, M_4, (hM_2.trans hM_4), S⟩))

set_option maxRecDepth 100000 in
set_option maxHeartbeats 4000000 in
theorem impl_ChunkStringSeq1R (b b' : Nat) (T : TypeId) (u : Value) (w : World) {v v' : Value} {e e' : TypeId} (h : w.heap[b]? = some (.cells #[v] e)) (h' : (w.setCell ⟨b, 0, none⟩ (.slice none 0 0)).heap[b']? = some (.cells #[v'] e')) :
    CallsDIn (Fw none) 0 Try.prog 63 #[.pointer (some ⟨b, 0, none⟩), .pointer (some ⟨b', 0, none⟩)] (.panicking [{ v := .iface T u, recovered := false }]) w
      (fun e u' w' => e = .returned (.tuple #[]) ∧ u' = .panicking [{ v := .iface T u, recovered := true }] ∧ w' = (w.setCell ⟨b, 0, none⟩ (.slice none 0 0)).setCell ⟨b', 0, none⟩ (.bool false)) := by
  have hc : w.cell? ⟨b, 0, none⟩ = some v := by simp [World.cell?, h]
  have hf : w.frozen? ⟨b, 0, none⟩ = false := by simp [World.frozen?, h]
  have hc' : (w.setCell ⟨b, 0, none⟩ (.slice none 0 0)).cell? ⟨b', 0, none⟩ = some v' := by simp [World.cell?, h']
  have hf' : (w.setCell ⟨b, 0, none⟩ (.slice none 0 0)).frozen? ⟨b', 0, none⟩ = false := by simp [World.frozen?, h']
  refine callsDIn_of_wpSIn Try.func63 rfl trivial fun c₀ cs hu => ?_
  apply wpSIn_seq
  apply wpSIn_region
  simp [wpOpsSIn, go_sem, recoverD, hu, Try.ntmps63, Exit.thenS]
  refine wpSIn_cond (t := true) (by simp [Act.eval, Array.replicate]) ?_
  simp only [if_true]
  apply wpSIn_region
  simp [wpOpsSIn, go_sem, hc, hf, hc', hf', bodyPostS, results, Try.results63, Try.sizeOf24]

set_option maxRecDepth 100000 in
set_option maxHeartbeats 4000000 in
theorem impl_ChunkStringSeq_pos {M : Hp} {s0 : List UInt8} {n1 : Nat} (hn : 0 < n1) (hb1 : n1 ≤ 1000000) (hb : s0.length ≤ 1000000) :
    Pu Try.prog (.func (.func 16) #[] #[]) M [.string (bs s0), .int .i64 ((n1 : Nat) : Int)] (fun r M' => ∃ t0, r = .tuple #[t0, .bool true] ∧ RdS 1 RTx M' t0 (tc n1 (runs s0).1)) := by
  refine Pu_enter Try.func16 rfl Try.ntmps16 rfl Try.call16 ?_
  intro a w M1 H hM1 S E
  have hcl := tc_len n1 (runs s0).1
  have hrl := runs_le s0
  refine WP_seq ?_
  refine WP_region ?_
  refine S_x (X_alloc (cs := #[.slice none 0 0]) E S rfl Try.zeroValue24 rfl ?_)
  clear E a S; rintro a w b_1 E S
  refine S_x (X_alloc (cs := #[.bool false]) E S rfl Try.zeroValue4 rfl ?_)
  clear E a S; rintro a w b_2 E S
  refine WL_nil ?_
  refine T_n ?_
  refine WP_seq ?_
  refine WP_region ?_
  refine S_v E rfl (R_makeFunc E rfl rfl) rfl ?_
  clear E a; intro a E
  refine S_defer E rfl ?_
  clear E a; intro a E
  replace E : Env a 11 [⟨.fn (.func 63) #[.pointer (some ⟨b_1, 0, none⟩), .pointer (some ⟨b_2, 0, none⟩)], #[]⟩] _ := E
  refine WL_nil ?_
  refine T_n ?_
  refine WP_seq ?_
  refine WP_region ?_
  refine S_v E rfl (R_move E rfl) rfl ?_
  clear E a; intro a E
  refine S_v E rfl (R_move E rfl) rfl ?_
  clear E a; intro a E
  refine S_x (X_pu E S rfl rfl rfl (it_ChunkString (by first | omega | (simp; done) | (simp; omega)) (by first | omega | (simp; done) | (simp; omega)) (by first | omega | (simp; done) | (simp; omega))) (Hp.le.refl _) ?_)
  clear E a S; rintro a v_4 w M_3 hM_3 hv_4 S E
  refine S_x (X_pu E S rfl rfl rfl (slices_CollectT hv_4 (by first | exact Nat.le_trans (tc_len _ _) (by omega) | omega | (simp; done))) (Hp.le.refl _) ?_)
  clear E a S; rintro a v_6 w M_5 hM_5 hv_6 S E
  replace hv_4 := hv_4.le hM_5
  replace S := S.front1
  refine S_x0 (X_store E S rfl rfl (Try.sizeOf24 _) (RdS.one' hv_6) ?_)
  clear E a S; rintro a w E S
  replace S := S.front1
  refine S_x0 (X_store E S rfl rfl (Try.sizeOf4 _) rfl ?_)
  clear E a S; rintro a w E S
  refine WL_nil ?_
  refine T_n ?_
  refine WP_ret ?_
  replace S := S.front1
  exact F_retDC2 E S Try.results16 rfl rfl (fun w => Try.isAgg24 w) (fun w => Try.isAgg4 w) Try.call63 (fun w => recover_none Try.func63 rfl Try.results63 Try.ntmps63 rfl rfl (by simp) (run_eq_nilIface Try.underlying20)) ⟨_, rfl, M_5, (hM_3.trans hM_5), ⟨_, (by first | rfl | (simp; done) | (simp_all; done)), hv_6⟩, S.drop.drop⟩
theorem impl_ChunkStringSeq_zero {M : Hp} {s0 : List UInt8} {n1 : Nat} (hz : n1 = 0) :
    Pu Try.prog (.func (.func 16) #[] #[]) M [.string (bs s0), .int .i64 ((n1 : Nat) : Int)] (fun r M' => ∃ t0, r = .tuple #[t0, .bool false] ∧ RdS 1 RTx M' t0 ([] : List (List UInt8))) := by
  refine Pu_enter Try.func16 rfl Try.ntmps16 rfl Try.call16 ?_
  intro a w M1 H hM1 S E
  refine WP_seq ?_
  refine WP_region ?_
  refine S_x (X_alloc (cs := #[.slice none 0 0]) E S rfl Try.zeroValue24 rfl ?_)
  clear E a S; rintro a w b_1 E S
  refine S_x (X_alloc (cs := #[.bool false]) E S rfl Try.zeroValue4 rfl ?_)
  clear E a S; rintro a w b_2 E S
  refine WL_nil ?_
  refine T_n ?_
  refine WP_seq ?_
  refine WP_region ?_
  refine S_v E rfl (R_makeFunc E rfl rfl) rfl ?_
  clear E a; intro a E
  refine S_defer E rfl ?_
  clear E a; intro a E
  replace E : Env a 11 [⟨.fn (.func 63) #[.pointer (some ⟨b_1, 0, none⟩), .pointer (some ⟨b_2, 0, none⟩)], #[]⟩] _ := E
  refine WL_nil ?_
  refine T_n ?_
  refine WP_seq ?_
  refine WP_region ?_
  refine S_v E rfl (R_move E rfl) rfl ?_
  clear E a; intro a E
  refine S_v E rfl (R_move E rfl) rfl ?_
  clear E a; intro a E
  replace S := S.front1
  exact S_x (X_puP E S rfl rfl (it_ChunkStringP (by first | assumption | rfl | omega)) (Hp.le.refl _) (fun _ _ w M_ h S => F_panicDC2 E S Try.results16 rfl rfl (fun w => Try.isAgg24 w) (fun w => Try.isAgg4 w) Try.call63 (fun w h1 h2 => impl_ChunkStringSeq1R _ _ _ _ w h1 h2) (fun w S => ⟨_, rfl, M_, (((Hp.le.refl _)).trans h), ⟨_, rfl, RdS.nil _⟩, S.drop.drop⟩)))
theorem impl_ChunkStringSeq {M : Hp} {s0 : List UInt8} {n1 : Nat} (hb1 : n1 ≤ 1000000) (hb : s0.length ≤ 1000000) :
    Pu Try.prog (.func (.func 16) #[] #[]) M [.string (bs s0), .int .i64 ((n1 : Nat) : Int)] (fun r M' => ∃ t0, r = .tuple #[t0, .bool (decide (0 < n1))] ∧ RdS 1 RTx M' t0 (chT n1 s0)) := by
  rcases Nat.eq_zero_or_pos n1 with h | h
  · have h9 := impl_ChunkStringSeq_zero (M := M) (s0 := s0) h
    subst h; exact h9
  · have h9 := impl_ChunkStringSeq_pos (M := M) (s0 := s0) h hb1 hb
    rw [chT_pos h, decide_eq_true h]; exact h9

set_option maxRecDepth 100000 in
set_option maxHeartbeats 4000000 in
theorem laws_text {M : Hp} {v0 : Value} {l0 : List (List UInt8)} (h0 : RdS 1 RTx M v0 l0) (hb0 : l0.flatten.length ≤ 1000000000000)  :
    Pu Try.prog (.func (.func 17) #[] #[]) M [v0] (fun r M' => r = .string (bs l0.flatten)) := by
  refine Pu_enter Try.func17 rfl Try.ntmps17 rfl Try.call17 ?_
  intro a w M1 H hM1 S E
  replace h0 := h0.le RTx_mono hM1
  have b0 := h0.bound
  refine WP_seq ?_
  refine WP_region ?_
  refine S_v E rfl (R_assign E rfl) rfl ?_
  clear E a; intro a E
  refine WL_nil ?_
  refine T_n ?_
  refine WP_seq ?_
  refine WP_region ?_
  refine S_v E rfl (R_assign E rfl) rfl ?_
  clear E a; intro a E
  refine WL_nil ?_
  refine T_n ?_
  refine WP_seq ?_
  refine WP_seq ?_
  refine WP_region ?_
  refine S_v E rfl (R_move E rfl) rfl ?_
  clear E a; intro a E
  refine S_v E rfl (R_lenV E rfl T24 h0.len) rfl ?_
  clear E a; intro a E
  refine S_v E rfl (R_move E rfl) rfl ?_
  clear E a; intro a E
  refine WL_nil ?_
  refine T_n ?_
  refine WP_block ?_
  refine WP_loop (γ := Nat) (fun (k : Nat) a w => ∃ (M_1 : Hp), Hp.le M1 M_1 ∧ St w M_1 (H) ∧ Env a 17 [] [(3, .string (bs ((l0.take k).flatten))), (6, v0), (7, .int .i64 (((l0).length : Nat) : Int)), (8, .int .i64 ((k : Nat) : Int))] ∧ (k ≤ (l0).length)) (fun k => ((l0).length) - k) 0 ⟨M1, Hp.le.refl _, S, E.keep ⟨look_str (i := ([] : List UInt8)) rfl (by (rfl)), rfl, rfl, rfl, trivial⟩, by ((try clear S); (try clear E); first | assumption | omega | rfl | (simp; done) | (simp_all; done) | (simp [List.take_add_one, *]; done) | grind [List.take_add_one])⟩ ?_
  try clear E
  try clear S
  try clear a
  try clear w
  rintro k a w ⟨M_1, hM_1, S, E, hL0_0⟩
  replace h0 := h0.le RTx_mono hM_1
  have hfl := flat_le l0 (k + 1)
  refine WP_seq ?_
  refine WP_region ?_
  refine S_v E rfl (R_lss E rfl rfl) rfl ?_
  clear E a; intro a E
  refine WL_nil ?_
  refine T_n ?_
  refine WP_seq ?_
  refine WP_cond E rfl (fun hc_2 => ?_) (fun hc_2 => ?_)
  · replace hc_2 := of_decide_eq_true hc_2
    refine WP_skip ?_
    refine T_n ?_
    refine WP_seq ?_
    refine WP_block ?_
    refine WP_seq ?_
    refine WP_region ?_
    obtain ⟨x_3, hx_3⟩ : ∃ x, (l0)[k]? = some x := ⟨_, List.getElem?_eq_getElem (by first | omega | (simp; done) | (simp; omega) | (simp_all; omega))⟩
    obtain ⟨p_4, hp_4, qp_4⟩ := RdTx.at h0 hx_3
    refine S_v E rfl (R_idx E rfl rfl T24 hp_4 rfl) rfl ?_
    clear E a; intro a E
    refine S_v E rfl (R_loadM E rfl Try.isAgg9 S.imm qp_4) rfl ?_
    clear E a; intro a E
    refine S_v E rfl (R_assign E rfl) rfl ?_
    clear E a; intro a E
    refine WL_nil ?_
    refine T_n ?_
    refine WP_region ?_
    refine S_v E rfl (R_move E rfl) rfl ?_
    clear E a; intro a E
    refine S_v E rfl (R_move E rfl) rfl ?_
    clear E a; intro a E
    refine S_v E rfl (R_addS E rfl rfl (by (have hfk := flat_le l0 k; first | omega | (simp only [List.length_append, List.length_nil]; omega) | (rw [flat_at (by assumption), List.length_append] at hfl; (try simp only [List.length_append, List.length_nil]); omega)))) rfl ?_
    clear E a; intro a E
    refine S_v E rfl (R_assign E rfl) rfl ?_
    clear E a; intro a E
    refine WL_nil ?_
    refine B_n ?_
    refine T_n ?_
    refine WP_region ?_
    refine S_v E rfl (R_addx (m := ((k + 1 : Nat) : Int)) E rfl rfl (by omega) (by omega)) rfl ?_
    clear E a; intro a E
    refine S_v E rfl (R_move E rfl) rfl ?_
    clear E a; intro a E
    refine WL_nil ?_
    refine T_n ?_
    exact ⟨k + 1, ⟨M_1, hM_1, S, E.keep ⟨look_str (i := ((l0.take k).flatten) ++ x_3) rfl (by (exact (flat_at (by assumption)).symm)), rfl, rfl, rfl, trivial⟩, by ((try clear S); (try clear E); first | assumption | omega | rfl | (simp; done) | (simp_all; done) | (simp [List.take_add_one, *]; done) | grind [List.take_add_one])⟩, by omega⟩
  · replace hc_2 := of_decide_eq_false hc_2
    refine WP_exit ?_
    refine T_x ?_
    refine T_x ?_
    refine B_x ?_
    refine T_n ?_
    refine WP_seq ?_
    refine WP_region ?_
    refine S_v E rfl (R_move E rfl) rfl ?_
    clear E a; intro a E
    refine S_v E rfl (R_assign E rfl) rfl ?_
    clear E a; intro a E
    refine WL_nil ?_
    refine T_n ?_
    refine WP_ret ?_
    exact F_ret1 E Try.results17 rfl ⟨_, rfl, M_1, hM_1, (congrArg (fun z => Value.string (bs z)) (by (rw [List.take_of_length_le (by omega)]))), S⟩

set_option maxRecDepth 100000 in
set_option maxHeartbeats 4000000 in
theorem laws_FnChunkedText {M : Hp} {s0 : List UInt8} {n1 : Nat} (g1 : n1 ≤ 255) :
    PuC Try.prog 4 M [.string (bs s0), .int .u8 ((n1 : Nat) : Int)] (fun r M' => r = .bool true) := by
  refine PuC_enter Try.func4 rfl Try.ntmps4 rfl ?_
  intro a w M1 H hM1 S E
  have hab : (chT 1 ([97, 98] : List UInt8)).length = 2 := by decide +kernel
  have hcl := chT_len n1 s0
  have hwl := chW_len n1 s0
  refine WP_seq ?_
  refine WP_region ?_
  refine S_v E rfl (R_assign E rfl) rfl ?_
  clear E a; intro a E
  refine WL_nil ?_
  refine T_n ?_
  refine WP_seq ?_
  refine WP_seq ?_
  refine WP_region ?_
  refine S_v E rfl (R_move E rfl) rfl ?_
  clear E a; intro a E
  refine S_v E rfl (R_lenS E rfl Try.underlying9) rfl ?_
  clear E a; intro a E
  refine S_v E rfl (R_gtr E rfl rfl) rfl ?_
  clear E a; intro a E
  refine WL_nil ?_
  refine T_n ?_
  refine WP_cond E rfl (fun hc_1 => ?_) (fun hc_1 => ?_)
  · replace hc_1 := of_decide_eq_true hc_1
    refine WP_seq ?_
    refine WP_region ?_
    refine S_v E rfl (R_assign E rfl) rfl ?_
    clear E a; intro a E
    refine WL_nil ?_
    refine T_n ?_
    refine WP_ret ?_
    refine T_r ?_
    exact F_ret1 E Try.results4 rfl ⟨_, rfl, M1, (Hp.le.refl _), rfl, S⟩
  · replace hc_1 := of_decide_eq_false hc_1
    refine WP_skip ?_
    refine T_n ?_
    refine WP_seq ?_
    refine WP_seq ?_
    refine WP_region ?_
    refine S_x (X_pu E S rfl rfl rfl (impl_ChunkString (by first | assumption | omega | (simp; done)) (by first | assumption | omega | (simp; done))) (Hp.le.refl _) ?_)
    clear E a S; rintro a _ w M_2 hM_2 ⟨v_3, rfl, hv_3⟩ S E
    refine S_v E rfl (R_move E rfl) rfl ?_
    clear E a; intro a E
    refine S_v E rfl (R_extract E rfl rfl) rfl ?_
    clear E a; intro a E
    refine S_v E rfl (R_extract E rfl rfl) rfl ?_
    clear E a; intro a E
    refine S_v E rfl (R_assign E rfl) rfl ?_
    clear E a; intro a E
    refine S_v E rfl (R_assign E rfl) rfl ?_
    clear E a; intro a E
    refine WL_nil ?_
    refine T_n ?_
    refine WP_seq ?_
    refine WP_region ?_
    refine S_v E rfl (R_move E rfl) rfl ?_
    clear E a; intro a E
    refine S_v E rfl (R_not E rfl) rfl ?_
    clear E a; intro a E
    refine S_v E rfl (R_move E rfl) rfl ?_
    clear E a; intro a E
    have hc_4 : (!(decide (0 < 1))) = false := by (clear S E; first | rfl | (simp; done) | omega | (rw [hft]; simp; done) | (rw [hcs, hcw]; simp [hn]; done) | (refine decide_eq_false ?_; omega) | (refine decide_eq_false ?_; rw [hcs]; omega) | (refine decide_eq_false ?_; rw [hcw]; simp; done) | (refine decide_eq_false ?_; intro hne; simp_all; done) | (simp [hn, hcs]; done))
    replace E := E.val (t := 22) rfl hc_4
    replace E := E.val (t := 23) rfl hc_4
    refine WL_guard_yes E rfl rfl ?_
    refine S_v E rfl (R_move E rfl) rfl ?_
    clear E a; intro a E
    refine WL_guard_yes E rfl rfl ?_
    refine S_v E rfl (R_lenV E rfl T24 hv_3.len) rfl ?_
    clear E a; intro a E
    refine WL_guard_yes E rfl rfl ?_
    refine S_v E rfl (R_neq E rfl rfl) rfl ?_
    clear E a; intro a E
    refine S_v E rfl (R_pickF E rfl rfl) rfl ?_
    clear E a; intro a E
    refine WL_nil ?_
    refine T_n ?_
    have hc_5 : (decide ((((chT 1 ([97, 98] : List UInt8)).length : Nat) : Int) ≠ 2)) = false := by (clear S E; first | rfl | (simp; done) | omega | (rw [hft]; simp; done) | (rw [hcs, hcw]; simp [hn]; done) | (refine decide_eq_false ?_; omega) | (refine decide_eq_false ?_; rw [hcs]; omega) | (refine decide_eq_false ?_; rw [hcw]; simp; done) | (refine decide_eq_false ?_; intro hne; simp_all; done) | (simp [hn, hcs]; done))
    refine WP_condF E rfl hc_5 ?_
    refine WP_skip ?_
    refine T_n ?_
    refine WP_seq ?_
    refine WP_seq ?_
    refine WP_region ?_
    refine S_v E rfl (R_move E rfl) rfl ?_
    clear E a; intro a E
    refine S_x (X_pu E S rfl rfl rfl (laws_long ) (Hp.le.refl _) ?_)
    clear E a S; rintro a _ w M_6 hM_6 rfl S E
    replace hv_3 := hv_3.le RTx_mono hM_6
    refine WL_nil ?_
    refine T_n ?_
    refine WP_cond E rfl (fun hc_7 => ?_) (fun hc_7 => ?_)
    · replace hc_7 := of_decide_eq_true hc_7
      refine WP_seq ?_
      refine WP_region ?_
      refine S_v E rfl (R_assign E rfl) rfl ?_
      clear E a; intro a E
      refine WL_nil ?_
      refine T_n ?_
      refine WP_ret ?_
      refine T_r ?_
      exact F_ret1 E Try.results4 rfl ⟨_, rfl, M_6, (hM_2.trans hM_6), rfl, S⟩
    · replace hc_7 := of_decide_eq_false hc_7
      refine WP_skip ?_
      refine T_n ?_
      refine WP_seq ?_
      refine WP_region ?_
      refine S_v E rfl (R_move E rfl) rfl ?_
      clear E a; intro a E
      refine S_v E rfl (R_move E rfl) rfl ?_
      clear E a; intro a E
      refine S_v E rfl (R_convx E rfl Try.underlying5 Try.underlying3 (by omega)) rfl ?_
      clear E a; intro a E
      refine S_x (X_pu E S rfl rfl rfl (impl_ChunkString (by first | assumption | omega | (simp; done)) (by first | assumption | omega | (simp; done))) (Hp.le.refl _) ?_)
      clear E a S; rintro a _ w M_8 hM_8 ⟨v_9, rfl, hv_9⟩ S E
      replace hv_3 := hv_3.le RTx_mono hM_8
      refine S_v E rfl (R_move E rfl) rfl ?_
      clear E a; intro a E
      refine S_v E rfl (R_extract E rfl rfl) rfl ?_
      clear E a; intro a E
      refine S_v E rfl (R_extract E rfl rfl) rfl ?_
      clear E a; intro a E
      refine S_v E rfl (R_assign E rfl) rfl ?_
      clear E a; intro a E
      refine S_v E rfl (R_assign E rfl) rfl ?_
      clear E a; intro a E
      refine WL_nil ?_
      refine T_n ?_
      refine WP_seq ?_
      refine WP_region ?_
      refine S_v E rfl (R_move E rfl) rfl ?_
      clear E a; intro a E
      refine S_v E rfl (R_move E rfl) rfl ?_
      clear E a; intro a E
      refine S_v E rfl (R_convx E rfl Try.underlying5 Try.underlying3 (by omega)) rfl ?_
      clear E a; intro a E
      refine S_x (X_pu E S rfl rfl rfl (spec_ChunkString (by first | omega | (simp; done) | (simp; omega)) (by first | omega | (simp; done) | (simp; omega))) (Hp.le.refl _) ?_)
      clear E a S; rintro a _ w M_10 hM_10 ⟨v_11, rfl, hv_11⟩ S E
      replace hv_3 := hv_3.le RTx_mono hM_10
      replace hv_9 := hv_9.le RTx_mono hM_10
      refine S_v E rfl (R_move E rfl) rfl ?_
      clear E a; intro a E
      refine S_v E rfl (R_extract E rfl rfl) rfl ?_
      clear E a; intro a E
      refine S_v E rfl (R_extract E rfl rfl) rfl ?_
      clear E a; intro a E
      refine S_v E rfl (R_assign E rfl) rfl ?_
      clear E a; intro a E
      refine S_v E rfl (R_assign E rfl) rfl ?_
      clear E a; intro a E
      refine WL_nil ?_
      refine T_n ?_
      refine WP_seq ?_
      refine WP_seq ?_
      refine WP_region ?_
      refine S_v E rfl (R_move E rfl) rfl ?_
      clear E a; intro a E
      refine S_v E rfl (R_eql E rfl rfl) rfl ?_
      clear E a; intro a E
      refine WL_nil ?_
      refine T_n ?_
      refine WP_cond E rfl (fun hc_12 => ?_) (fun hc_12 => ?_)
      · replace hc_12 := of_decide_eq_true hc_12
        refine WP_seq ?_
        refine WP_region ?_
        refine S_v E rfl (R_assign E rfl) rfl ?_
        clear E a; intro a E
        refine WL_nil ?_
        refine T_n ?_
        refine WP_ret ?_
        refine T_r ?_
        exact F_ret1 E Try.results4 rfl ⟨_, rfl, M_10, (hM_2.trans (hM_6.trans (hM_8.trans hM_10))), rfl, S⟩
      · replace hc_12 := of_decide_eq_false hc_12
        have h99 := chS_one (n := n1) (s := s0) (by first | omega | (simp_all; done))
        obtain ⟨hok, hn⟩ := h99
        have hct : chT n1 s0 = tc n1 (runs s0).1 := chT_pos hn
        have hcw : chW n1 s0 = chT n1 s0 := by rw [hct]; exact chW_pos hok hn
        have hcs : chS' n1 s0 = 1 := chS_pos hok hn
        have hft : (chT n1 s0).flatten = s0 := by rw [hct, tc_flat, runs_all]
        have hfb : (chT n1 s0).flatten.length ≤ 1000000000000 := by rw [hft]; omega
        refine WP_skip ?_
        refine T_n ?_
        refine WP_seq ?_
        refine WP_seq ?_
        refine WP_region ?_
        refine S_v E rfl (R_move E rfl) rfl ?_
        clear E a; intro a E
        refine S_v E rfl (R_move E rfl) rfl ?_
        clear E a; intro a E
        refine S_v E rfl (R_eql E rfl rfl) rfl ?_
        clear E a; intro a E
        refine S_v E rfl (R_neqB E rfl rfl Try.underlying4) rfl ?_
        clear E a; intro a E
        refine S_v E rfl (R_move E rfl) rfl ?_
        clear E a; intro a E
        have hc_13 : (!((decide (0 < n1)) == (decide (((chS' n1 s0 : Nat) : Int) = 1)))) = false := by (clear S E; first | rfl | (simp; done) | omega | (rw [hft]; simp; done) | (rw [hcs, hcw]; simp [hn]; done) | (refine decide_eq_false ?_; omega) | (refine decide_eq_false ?_; rw [hcs]; omega) | (refine decide_eq_false ?_; rw [hcw]; simp; done) | (refine decide_eq_false ?_; intro hne; simp_all; done) | (simp [hn, hcs]; done))
        replace E := E.val (t := 49) rfl hc_13
        replace E := E.val (t := 50) rfl hc_13
        refine WL_guard_yes E rfl rfl ?_
        refine S_v E rfl (R_move E rfl) rfl ?_
        clear E a; intro a E
        refine WL_guard_yes E rfl rfl ?_
        refine S_v E rfl (R_lenV E rfl T24 hv_9.len) rfl ?_
        clear E a; intro a E
        refine WL_guard_yes E rfl rfl ?_
        refine S_v E rfl (R_move E rfl) rfl ?_
        clear E a; intro a E
        refine WL_guard_yes E rfl rfl ?_
        refine S_v E rfl (R_lenV E rfl T24 hv_11.len) rfl ?_
        clear E a; intro a E
        refine WL_guard_yes E rfl rfl ?_
        refine S_v E rfl (R_neq E rfl rfl) rfl ?_
        clear E a; intro a E
        refine S_v E rfl (R_pickF E rfl rfl) rfl ?_
        clear E a; intro a E
        refine WL_nil ?_
        refine T_n ?_
        have hc_14 : (decide ((((chT n1 s0).length : Nat) : Int) ≠ (((chW n1 s0).length : Nat) : Int))) = false := by (clear S E; first | rfl | (simp; done) | omega | (rw [hft]; simp; done) | (rw [hcs, hcw]; simp [hn]; done) | (refine decide_eq_false ?_; omega) | (refine decide_eq_false ?_; rw [hcs]; omega) | (refine decide_eq_false ?_; rw [hcw]; simp; done) | (refine decide_eq_false ?_; intro hne; simp_all; done) | (simp [hn, hcs]; done))
        refine WP_condF E rfl hc_14 ?_
        refine WP_skip ?_
        refine T_n ?_
        refine WP_seq ?_
        refine WP_seq ?_
        refine WP_region ?_
        refine S_v E rfl (R_move E rfl) rfl ?_
        clear E a; intro a E
        refine S_v E rfl (R_lenV E rfl T24 hv_9.len) rfl ?_
        clear E a; intro a E
        refine S_v E rfl (R_move E rfl) rfl ?_
        clear E a; intro a E
        refine WL_nil ?_
        refine T_n ?_
        refine WP_block ?_
        refine WP_loop (γ := Nat) (fun (k : Nat) a w => ∃ (M_15 : Hp), Hp.le M_10 M_15 ∧ St w M_15 (H) ∧ Env a 105 [] [(0, .string (bs s0)), (1, .int .u8 ((n1 : Nat) : Int)), (7, v_9), (8, .bool (decide (0 < n1))), (9, v_11), (58, .int .i64 (((chT n1 s0).length : Nat) : Int)), (59, .int .i64 ((k : Nat) : Int))] ∧ (k ≤ (chT n1 s0).length)) (fun k => ((chT n1 s0).length) - k) 0 ⟨M_10, Hp.le.refl _, S, E.keep ⟨rfl, rfl, rfl, rfl, rfl, rfl, rfl, trivial⟩, by ((try clear S); (try clear E); first | assumption | omega | rfl | (simp; done) | (simp_all; done) | (simp [List.take_add_one, *]; done) | grind [List.take_add_one])⟩ ?_
        try clear E
        try clear S
        try clear a
        try clear w
        rintro k a w ⟨M_15, hM_15, S, E, hL0_0⟩
        replace hv_3 := hv_3.le RTx_mono hM_15
        replace hv_9 := hv_9.le RTx_mono hM_15
        replace hv_11 := hv_11.le RTx_mono hM_15
        skip
        refine WP_seq ?_
        refine WP_region ?_
        refine S_v E rfl (R_lss E rfl rfl) rfl ?_
        clear E a; intro a E
        refine WL_nil ?_
        refine T_n ?_
        refine WP_seq ?_
        refine WP_cond E rfl (fun hc_16 => ?_) (fun hc_16 => ?_)
        · replace hc_16 := of_decide_eq_true hc_16
          refine WP_skip ?_
          refine T_n ?_
          refine WP_seq ?_
          refine WP_block ?_
          refine WP_seq ?_
          refine WP_region ?_
          refine S_v E rfl (R_move E rfl) rfl ?_
          clear E a; intro a E
          refine S_v E rfl (R_assign E rfl) rfl ?_
          clear E a; intro a E
          refine WL_nil ?_
          refine T_n ?_
          refine WP_seq ?_
          replace S := S.mono_heap (w' := World.drew _) rfl
          refine WP_drawn (C := fun x w => agree M_15 w) (bf := (fun i => [])) [0, 1, 2, 3, 4, 5, 6, 7, 8] [0, 1, 2, 3, 4, 5, 6, 7, 8] Try.mixed (by kernel_rfl) (fun x hq => S.imm) ?_
          refine D_v E rfl rfl rfl (fun w hC => (R_move E rfl)) ?_
          clear E a; intro a E
          refine D_v E rfl rfl rfl (fun w hC => (R_move E rfl)) ?_
          clear E a; intro a E
          obtain ⟨x_17, hx_17⟩ : ∃ x, (chT n1 s0)[k]? = some x := ⟨_, List.getElem?_eq_getElem (by first | omega | (rw [hcw]; omega) | (simp; done))⟩
          obtain ⟨p_18, hp_18, qp_18⟩ := RdTx.at hv_9 hx_17
          refine D_v E rfl rfl rfl (fun w hC => (R_idx E rfl rfl T24 hp_18 rfl)) ?_
          clear E a; intro a E
          refine D_v E rfl rfl rfl (fun w hC => (R_loadM E rfl Try.isAgg9 hC qp_18)) ?_
          clear E a; intro a E
          refine D_v E rfl rfl rfl (fun w hC => (R_move E rfl)) ?_
          clear E a; intro a E
          refine D_v E rfl rfl rfl (fun w hC => (R_move E rfl)) ?_
          clear E a; intro a E
          obtain ⟨x_19, hx_19⟩ : ∃ x, (chW n1 s0)[k]? = some x := ⟨_, List.getElem?_eq_getElem (by first | omega | (rw [hcw]; omega) | (simp; done))⟩
          obtain ⟨p_20, hp_20, qp_20⟩ := RdTx.at hv_11 hx_19
          refine D_v E rfl rfl rfl (fun w hC => (R_idx E rfl rfl T24 hp_20 rfl)) ?_
          clear E a; intro a E
          refine D_v E rfl rfl rfl (fun w hC => (R_loadM E rfl Try.isAgg9 hC qp_20)) ?_
          clear E a; intro a E
          refine D_v E rfl rfl rfl (fun w hC => (R_neqS E rfl rfl)) ?_
          clear E a; intro a E
          refine D_end (NoP_n ?_)
          refine T_n ?_
          have hc_21 : (decide (x_17 ≠ x_19)) = false := by (clear S E; first | rfl | (simp; done) | omega | (rw [hft]; simp; done) | (rw [hcs, hcw]; simp [hn]; done) | (refine decide_eq_false ?_; omega) | (refine decide_eq_false ?_; rw [hcs]; omega) | (refine decide_eq_false ?_; rw [hcw]; simp; done) | (refine decide_eq_false ?_; intro hne; simp_all; done) | (simp [hn, hcs]; done))
          refine WP_condF E rfl hc_21 ?_
          refine WP_skip ?_
          refine B_n ?_
          refine T_n ?_
          refine WP_region ?_
          refine S_v E rfl (R_addx (m := ((k + 1 : Nat) : Int)) E rfl rfl (by omega) (by omega)) rfl ?_
          clear E a; intro a E
          refine S_v E rfl (R_move E rfl) rfl ?_
          clear E a; intro a E
          refine WL_nil ?_
          refine T_n ?_
          exact ⟨k + 1, ⟨M_15, hM_15, S, E.keep ⟨rfl, rfl, rfl, rfl, rfl, rfl, rfl, trivial⟩, by ((try clear S); (try clear E); first | assumption | omega | rfl | (simp; done) | (simp_all; done) | (simp [List.take_add_one, *]; done) | grind [List.take_add_one])⟩, by omega⟩
        · replace hc_16 := of_decide_eq_false hc_16
          refine WP_exit ?_
          refine T_x ?_
          refine T_x ?_
          refine B_x ?_
          refine T_n ?_
          refine WP_seq ?_
          refine WP_seq ?_
          refine WP_region ?_
          refine S_v E rfl (R_move E rfl) rfl ?_
          clear E a; intro a E
          refine S_v E rfl (R_not E rfl) rfl ?_
          clear E a; intro a E
          refine WL_nil ?_
          refine T_n ?_
          refine WP_cond E rfl (fun hc_22 => ?_) (fun hc_22 => ?_)
          · refine WP_seq ?_
            refine WP_region ?_
            refine S_v E rfl (R_assign E rfl) rfl ?_
            clear E a; intro a E
            refine WL_nil ?_
            refine T_n ?_
            refine WP_ret ?_
            refine T_r ?_
            exact F_ret1 E Try.results4 rfl ⟨_, rfl, M_15, (hM_2.trans (hM_6.trans (hM_8.trans (hM_10.trans hM_15)))), rfl, S⟩
          · refine WP_skip ?_
            refine T_n ?_
            refine WP_seq ?_
            refine WP_region ?_
            refine S_v E rfl (R_move E rfl) rfl ?_
            clear E a; intro a E
            refine S_v E rfl (R_move E rfl) rfl ?_
            clear E a; intro a E
            refine S_v E rfl (R_convx E rfl Try.underlying5 Try.underlying3 (by omega)) rfl ?_
            clear E a; intro a E
            refine S_x (X_pu E S rfl rfl rfl (impl_ChunkStringSeq (by first | assumption | omega | (simp; done)) (by first | assumption | omega | (simp; done))) (Hp.le.refl _) ?_)
            clear E a S; rintro a _ w M_23 hM_23 ⟨v_24, rfl, hv_24⟩ S E
            replace hv_3 := hv_3.le RTx_mono hM_23
            replace hv_9 := hv_9.le RTx_mono hM_23
            replace hv_11 := hv_11.le RTx_mono hM_23
            refine S_v E rfl (R_move E rfl) rfl ?_
            clear E a; intro a E
            refine S_v E rfl (R_extract E rfl rfl) rfl ?_
            clear E a; intro a E
            refine S_v E rfl (R_extract E rfl rfl) rfl ?_
            clear E a; intro a E
            refine S_v E rfl (R_assign E rfl) rfl ?_
            clear E a; intro a E
            refine S_v E rfl (R_assign E rfl) rfl ?_
            clear E a; intro a E
            refine WL_nil ?_
            refine T_n ?_
            refine WP_seq ?_
            refine WP_region ?_
            refine S_v E rfl (R_move E rfl) rfl ?_
            clear E a; intro a E
            refine S_v E rfl (R_move E rfl) rfl ?_
            clear E a; intro a E
            have hc_25 : (decide (0 < n1)) = true := by (clear S E; first | rfl | (simp; done) | omega | (rw [hft]; simp; done) | (rw [hcs, hcw]; simp [hn]; done) | (refine decide_eq_false ?_; omega) | (refine decide_eq_false ?_; rw [hcs]; omega) | (refine decide_eq_false ?_; rw [hcw]; simp; done) | (refine decide_eq_false ?_; intro hne; simp_all; done) | (simp [hn, hcs]; done))
            replace E := E.val (t := 8) rfl hc_25
            replace E := E.val (t := 72) rfl hc_25
            replace E := E.val (t := 80) rfl hc_25
            replace E := E.val (t := 13) rfl hc_25
            replace E := E.val (t := 81) rfl hc_25
            replace E := E.val (t := 82) rfl hc_25
            refine WL_guard_yes E rfl rfl ?_
            refine S_v E rfl (R_move E rfl) rfl ?_
            clear E a; intro a E
            refine WL_guard_yes E rfl rfl ?_
            refine S_x (X_pu E S rfl rfl rfl (laws_text hv_9 (by first | assumption | omega)) (Hp.le.refl _) ?_)
            clear E a S; rintro a _ w M_26 hM_26 rfl S E
            replace hv_3 := hv_3.le RTx_mono hM_26
            replace hv_9 := hv_9.le RTx_mono hM_26
            replace hv_11 := hv_11.le RTx_mono hM_26
            replace hv_24 := hv_24.le RTx_mono hM_26
            refine WL_guard_yes E rfl rfl ?_
            refine S_v E rfl (R_move E rfl) rfl ?_
            clear E a; intro a E
            refine WL_guard_yes E rfl rfl ?_
            refine S_v E rfl (R_eqlS E rfl rfl) rfl ?_
            clear E a; intro a E
            refine S_v E rfl (R_pickT E rfl rfl) rfl ?_
            clear E a; intro a E
            refine S_v E rfl (R_move E rfl) rfl ?_
            clear E a; intro a E
            have hc_27 : (decide ((chT n1 s0).flatten = s0)) = true := by (clear S E; first | rfl | (simp; done) | omega | (rw [hft]; simp; done) | (rw [hcs, hcw]; simp [hn]; done) | (refine decide_eq_false ?_; omega) | (refine decide_eq_false ?_; rw [hcs]; omega) | (refine decide_eq_false ?_; rw [hcw]; simp; done) | (refine decide_eq_false ?_; intro hne; simp_all; done) | (simp [hn, hcs]; done))
            replace E := E.val (t := 86) rfl hc_27
            replace E := E.val (t := 87) rfl hc_27
            replace E := E.val (t := 88) rfl hc_27
            refine WL_guard_yes E rfl rfl ?_
            refine S_v E rfl (R_move E rfl) rfl ?_
            clear E a; intro a E
            refine WL_guard_yes E rfl rfl ?_
            refine S_x (X_pu E S rfl rfl rfl (laws_text hv_24 (by first | assumption | omega)) (Hp.le.refl _) ?_)
            clear E a S; rintro a _ w M_28 hM_28 rfl S E
            replace hv_3 := hv_3.le RTx_mono hM_28
            replace hv_9 := hv_9.le RTx_mono hM_28
            replace hv_11 := hv_11.le RTx_mono hM_28
            replace hv_24 := hv_24.le RTx_mono hM_28
            refine WL_guard_yes E rfl rfl ?_
            refine S_v E rfl (R_move E rfl) rfl ?_
            clear E a; intro a E
            refine WL_guard_yes E rfl rfl ?_
            refine S_v E rfl (R_eqlS E rfl rfl) rfl ?_
            clear E a; intro a E
            refine S_v E rfl (R_pickT E rfl rfl) rfl ?_
            clear E a; intro a E
            refine S_v E rfl (R_move E rfl) rfl ?_
            clear E a; intro a E
            have hc_29 : (decide ((chT n1 s0).flatten = s0)) = true := by (clear S E; first | rfl | (simp; done) | omega | (rw [hft]; simp; done) | (rw [hcs, hcw]; simp [hn]; done) | (refine decide_eq_false ?_; omega) | (refine decide_eq_false ?_; rw [hcs]; omega) | (refine decide_eq_false ?_; rw [hcw]; simp; done) | (refine decide_eq_false ?_; intro hne; simp_all; done) | (simp [hn, hcs]; done))
            replace E := E.val (t := 92) rfl hc_29
            replace E := E.val (t := 93) rfl hc_29
            replace E := E.val (t := 94) rfl hc_29
            refine WL_guard_yes E rfl rfl ?_
            refine S_v E rfl (R_move E rfl) rfl ?_
            clear E a; intro a E
            refine WL_guard_yes E rfl rfl ?_
            refine S_v E rfl (R_lenV E rfl T24 hv_9.len) rfl ?_
            clear E a; intro a E
            refine WL_guard_yes E rfl rfl ?_
            refine S_v E rfl (R_move E rfl) rfl ?_
            clear E a; intro a E
            refine WL_guard_yes E rfl rfl ?_
            refine S_v E rfl (R_lenV E rfl T24 hv_24.len) rfl ?_
            clear E a; intro a E
            refine WL_guard_yes E rfl rfl ?_
            refine S_v E rfl (R_eql E rfl rfl) rfl ?_
            clear E a; intro a E
            refine WL_guard_yes E rfl rfl ?_
            refine S_v E rfl (R_move E rfl) rfl ?_
            clear E a; intro a E
            have hc_30 : (decide ((((chT n1 s0).length : Nat) : Int) = (((chT n1 s0).length : Nat) : Int))) = true := by (clear S E; first | rfl | (simp; done) | omega | (rw [hft]; simp; done) | (rw [hcs, hcw]; simp [hn]; done) | (refine decide_eq_false ?_; omega) | (refine decide_eq_false ?_; rw [hcs]; omega) | (refine decide_eq_false ?_; rw [hcw]; simp; done) | (refine decide_eq_false ?_; intro hne; simp_all; done) | (simp [hn, hcs]; done))
            replace E := E.val (t := 99) rfl hc_30
            replace E := E.val (t := 100) rfl hc_30
            refine WL_guard_no E rfl rfl rfl rfl fun a E => ?_
            refine WL_guard_no E rfl rfl rfl rfl fun a E => ?_
            refine WL_guard_yes E rfl rfl ?_
            refine S_v E rfl (R_pickT E rfl rfl) rfl ?_
            clear E a; intro a E
            refine S_v E rfl (R_pickT E rfl rfl) rfl ?_
            clear E a; intro a E
            refine S_v E rfl (R_assign E rfl) rfl ?_
            clear E a; intro a E
            refine WL_nil ?_
            refine T_n ?_
            refine WP_ret ?_
            exact F_ret1 E Try.results4 rfl ⟨_, rfl, M_28, (hM_2.trans (hM_6.trans (hM_8.trans (hM_10.trans (hM_15.trans (hM_23.trans (hM_26.trans hM_28))))))), rfl, S⟩
theorem laws_FnChunkedText2 {M : Hp} {s0 : List UInt8} {x1 : Int} (g1 : 0 ≤ x1 ∧ x1 ≤ 255) : PuC Try.prog 4 M [.string (bs s0), .int .u8 x1] (fun r M' => r = .bool true) := by
  obtain ⟨n1, rfl⟩ := Int.eq_ofNat_of_zero_le g1.1
  exact laws_FnChunkedText (by omega)

end Go.Proofs.Ytjadmhlojchapaa.wFnChunkedText
