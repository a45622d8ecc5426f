/- Walks through the functions that laws.FnSetLaws reaches: what each computes; no conditions beyond what each theorem states. -/
import Derived.Test.YtlmpgefhnmfhpaaGreatProg
import Derived.Test.YtlmpgefhnmfhpaaGreatSlS
import Derived.Ground.SlgmProg
import Derived.Conc.RwLoneW
import Derived.KernelRfl
set_option linter.unusedVariables false
set_option linter.unusedSimpArgs false
namespace Go.Proofs.YtlmpgefhnmfhpaaGreat.wFnSetLaws
open Go Go.Sl
theorem Tryz.mixed : Tryz.prog.follows .mixedOrders = true := by kernel_rfl
theorem T22 : SlT Tryz.prog 22 3 1 8 (.int .i64 0) := ⟨Tryz.underlying22, ⟨Tryz.t3, by kernel_rfl, rfl, rfl, rfl⟩, rfl, by decide⟩
theorem T36 : SlT Tryz.prog 36 22 1 24 (.slice none 0 0) := ⟨Tryz.underlying36, ⟨Tryz.t22, by kernel_rfl, rfl, rfl, rfl⟩, rfl, by decide⟩
theorem MT145 : MapT Tryz.prog 145 3 104 (.agg #[]) := ⟨Tryz.underlying145, Tryz.underlying3, ⟨Tryz.t104, by kernel_rfl, rfl⟩⟩
theorem FB104__ (w : World) : (Instr.build 104 #[]).run Tryz.prog w = .ok (.agg #[]) w := run_build _ _ _ _ (by kernel_rfl)
theorem BLK144 (x : Option Addr) (w : World) : (Instr.build 144 #[(1, .pointer x)]).run Tryz.prog w = .ok (.agg #[.int .i32 0, .int .u32 0, .int .u32 0, .int .u32 0, .int .i32 0, .int .i32 0, .pointer x]) w := run_build _ _ _ _ (by kernel_rfl)
theorem FA144_0 (p : Addr) (w : World) : (Instr.fieldAt 144 (.pointer (some p)) 0).run Tryz.prog w = .ok (.pointer (some (p.add 0))) w := by kernel_rfl
theorem FA144_1 (p : Addr) (w : World) : (Instr.fieldAt 144 (.pointer (some p)) 1).run Tryz.prog w = .ok (.pointer (some (p.add 6))) w := by kernel_rfl
abbrev Tryz.muLink : Go.Conc.Locks.MuLink := { lock := 120, unlock := 129, ilock := 132, iunlock := 134, lockSlow := 136, unlockSlow := 137, disable := 119, enable := 123, acquire := 124, relMerge := 126, cas32 := 135, add32 := 133, tMutex := 137, tIMutex := 135, tPMutex := 157, tPIMutex := 168, tPI32 := 167, tUP := 156, tNoCopy := 133, tU32 := 130 }
theorem Tryz.muLib : Go.Conc.Locks.MuLib Tryz.prog Tryz.muLink :=
  ⟨Tryz.func120, Tryz.func129, Tryz.func132, Tryz.func134, Tryz.func119, Tryz.func123, Tryz.func124, Tryz.func126, Tryz.func135, Tryz.func133, Tryz.underlying135, Tryz.runUnderlying135, Tryz.sizeOf135, Tryz.isAgg135, Tryz.zeroValue135, Tryz.underlying137, Tryz.runUnderlying137, Tryz.sizeOf137, Tryz.isAgg137, Tryz.zeroValue137, Tryz.underlying157, Tryz.runUnderlying157, Tryz.sizeOf157, Tryz.isAgg157, Tryz.zeroValue157, Tryz.underlying168, Tryz.runUnderlying168, Tryz.sizeOf168, Tryz.isAgg168, Tryz.zeroValue168, Tryz.underlying167, Tryz.runUnderlying167, Tryz.sizeOf167, Tryz.isAgg167, Tryz.zeroValue167, Tryz.underlying156, Tryz.runUnderlying156, Tryz.sizeOf156, Tryz.isAgg156, Tryz.zeroValue156, Tryz.underlying133, Tryz.runUnderlying133, Tryz.sizeOf133, Tryz.isAgg133, Tryz.zeroValue133, Tryz.underlying21, Tryz.runUnderlying21, Tryz.sizeOf21, Tryz.isAgg21, Tryz.zeroValue21, (by kernel_rfl)⟩
abbrev Tryz.rwLink : Go.Conc.Locks.RwLink := { lock := 120, unlock := 129, ilock := 132, iunlock := 134, lockSlow := 136, unlockSlow := 137, disable := 119, enable := 123, acquire := 124, relMerge := 126, cas32 := 135, add32 := 133, tMutex := 137, tIMutex := 135, tPMutex := 157, tPIMutex := 168, tPI32 := 167, tUP := 156, tNoCopy := 133, tU32 := 130, rlock := 185, runlock := 186, wlock := 106, wunlock := 107, i32add := 121, raceRead := 118, release := 125, rUnlockSlow := 204, semacqR := 203, semacqW := 122, semrel := 128, sfatal := 127, tRW := 142, tPRW := 154, tAI32 := 140, tPAI32 := 165, tPU32 := 160, tANoCopy := 138 }
theorem Tryz.rwCore : Go.Conc.Locks.RwCore Tryz.prog Tryz.rwLink :=
  ⟨Tryz.func121, Tryz.func118, Tryz.func119, Tryz.func123, Tryz.func124, Tryz.func126, Tryz.func133, Tryz.underlying142, Tryz.runUnderlying142, Tryz.sizeOf142, Tryz.isAgg142, Tryz.zeroValue142, Tryz.underlying140, Tryz.runUnderlying140, Tryz.sizeOf140, Tryz.isAgg140, Tryz.zeroValue140, Tryz.underlying154, Tryz.runUnderlying154, Tryz.sizeOf154, Tryz.isAgg154, Tryz.zeroValue154, Tryz.underlying165, Tryz.runUnderlying165, Tryz.sizeOf165, Tryz.isAgg165, Tryz.zeroValue165, Tryz.underlying160, Tryz.runUnderlying160, Tryz.sizeOf160, Tryz.isAgg160, Tryz.zeroValue160, Tryz.underlying138, Tryz.runUnderlying138, Tryz.sizeOf138, Tryz.isAgg138, Tryz.zeroValue138, Tryz.underlying130, Tryz.runUnderlying130, Tryz.sizeOf130, Tryz.isAgg130, Tryz.zeroValue130, Tryz.underlying137, Tryz.runUnderlying137, Tryz.sizeOf137, Tryz.isAgg137, Tryz.zeroValue137, Tryz.underlying157, Tryz.runUnderlying157, Tryz.sizeOf157, Tryz.isAgg157, Tryz.zeroValue157, Tryz.underlying167, Tryz.runUnderlying167, Tryz.sizeOf167, Tryz.isAgg167, Tryz.zeroValue167, Tryz.underlying156, Tryz.runUnderlying156, Tryz.sizeOf156, Tryz.isAgg156, Tryz.zeroValue156, Tryz.underlying21, Tryz.runUnderlying21, Tryz.sizeOf21, Tryz.isAgg21, Tryz.zeroValue21, (by kernel_rfl), (by kernel_rfl)⟩
theorem Tryz.rwRLib : Go.Conc.Locks.RwRLib Tryz.prog Tryz.rwLink := ⟨Tryz.rwCore, Tryz.func185, Tryz.func186⟩
theorem Tryz.rwWLib : Go.Conc.Locks.RwWLib Tryz.prog Tryz.rwLink := ⟨Tryz.rwCore, Tryz.muLib, Tryz.func106, Tryz.func107, Tryz.func125, Tryz.underlying3, Tryz.runUnderlying3, Tryz.sizeOf3, Tryz.isAgg3, Tryz.zeroValue3⟩

theorem meth_114_Difference (p : Value) (w : World) : ∀ args : Array Value, (callMethod (.iface 114 p) "Difference" args).run Tryz.prog w = .ok (.enter 168 (#[p] ++ args)) w := fun args => by kernel_rfl
theorem meth_114_Intersect (p : Value) (w : World) : ∀ args : Array Value, (callMethod (.iface 114 p) "Intersect" args).run Tryz.prog w = .ok (.enter 171 (#[p] ++ args)) w := fun args => by kernel_rfl
theorem meth_114_SymmetricDifference (p : Value) (w : World) : ∀ args : Array Value, (callMethod (.iface 114 p) "SymmetricDifference" args).run Tryz.prog w = .ok (.enter 181 (#[p] ++ args)) w := fun args => by kernel_rfl
theorem meth_114_ToSlice (p : Value) (w : World) : ∀ args : Array Value, (callMethod (.iface 114 p) "ToSlice" args).run Tryz.prog w = .ok (.enter 182 (#[p] ++ args)) w := fun args => by kernel_rfl
theorem meth_114_Union (p : Value) (w : World) : ∀ args : Array Value, (callMethod (.iface 114 p) "Union" args).run Tryz.prog w = .ok (.enter 183 (#[p] ++ args)) w := fun args => by kernel_rfl
theorem meth_116_Cardinality (p : Value) (w : World) : ∀ args : Array Value, (callMethod (.iface 116 p) "Cardinality" args).run Tryz.prog w = .ok (.enter 205 (#[p] ++ args)) w := fun args => by kernel_rfl
theorem meth_116_Difference (p : Value) (w : World) : ∀ args : Array Value, (callMethod (.iface 116 p) "Difference" args).run Tryz.prog w = .ok (.enter 193 (#[p] ++ args)) w := fun args => by kernel_rfl
theorem meth_116_Intersect (p : Value) (w : World) : ∀ args : Array Value, (callMethod (.iface 116 p) "Intersect" args).run Tryz.prog w = .ok (.enter 195 (#[p] ++ args)) w := fun args => by kernel_rfl
theorem meth_116_SymmetricDifference (p : Value) (w : World) : ∀ args : Array Value, (callMethod (.iface 116 p) "SymmetricDifference" args).run Tryz.prog w = .ok (.enter 201 (#[p] ++ args)) w := fun args => by kernel_rfl
theorem meth0_116_ToSlice (p : Value) (w : World) : (method (Tryz.prog.types.size + Made.depth) 116 p "ToSlice").run Tryz.prog w = ((receiverAt 116 (.val p) false (some (("ToSlice".splitOn ".").getLastD "ToSlice"))) >>= fun v => pure (213, v)).run Tryz.prog w := by kernel_rfl
theorem meth_116_ToSlice {p v : Value} {b : Nat} {w : World} (e : p = .pointer (some ⟨b, 0, none⟩)) (hc : w.cell? ⟨b, 0, none⟩ = some v) : ∀ args : Array Value, (callMethod (.iface 116 p) "ToSlice" args).run Tryz.prog w = .ok (.enter 213 (#[v] ++ args)) w := by
  intro args
  subst e
  have hw : ∀ s w, (Builtin.ssaWrapNilChk_ #[116] 116 #[.pointer (some ⟨b, 0, none⟩), strVal "", strVal s]).run Tryz.prog w = .ok (.pointer (some ⟨b, 0, none⟩)) w := fun _ _ => rfl
  simp only [callMethod, Sem.run_bind, run_program, Result.andThen_ok]
  rw [meth0_116_ToSlice]
  simp [receiverAt, Place.get, hw, go_sem, hc, asAddr]
theorem meth0_116_Union (p : Value) (w : World) : (method (Tryz.prog.types.size + Made.depth) 116 p "Union").run Tryz.prog w = ((receiverAt 116 (.val p) false (some (("Union".splitOn ".").getLastD "Union"))) >>= fun v => pure (202, v)).run Tryz.prog w := by kernel_rfl
theorem meth_116_Union {p v : Value} {b : Nat} {w : World} (e : p = .pointer (some ⟨b, 0, none⟩)) (hc : w.cell? ⟨b, 0, none⟩ = some v) : ∀ args : Array Value, (callMethod (.iface 116 p) "Union" args).run Tryz.prog w = .ok (.enter 202 (#[v] ++ args)) w := by
  intro args
  subst e
  have hw : ∀ s w, (Builtin.ssaWrapNilChk_ #[116] 116 #[.pointer (some ⟨b, 0, none⟩), strVal "", strVal s]).run Tryz.prog w = .ok (.pointer (some ⟨b, 0, none⟩)) w := fun _ _ => rfl
  simp only [callMethod, Sem.run_bind, run_program, Result.andThen_ok]
  rw [meth0_116_Union]
  simp [receiverAt, Place.get, hw, go_sem, hc, asAddr]
def PF2T (P : Program) (fv : Value) (M : Hp) (f : Int → Int → Int × Bool) : Prop := fv.oneCell' = true ∧ ∀ x i : Int, Pu P fv M [.int .i64 x, .int .i64 i] (fun r _ => r = .tuple #[.int .i64 (f x i).1, .bool (f x i).2])
theorem PF2T.le {P : Program} {fv : Value} {M M' : Hp} {f : Int → Int → Int × Bool} (h : PF2T P fv M f) (hM : Hp.le M M') : PF2T P fv M' f := ⟨h.1, fun x i => (h.2 x i).le hM⟩
def SortedI (l : List Int) : Prop := l.Pairwise (· ≤ ·)
theorem sorted_eq : ∀ {a b : List Int}, SortedI a → SortedI b → a.Perm b → a = b
  | [], b, _, _, h => (List.nil_perm.1 h).symm ▸ rfl
  | x :: a, [], _, _, h => by simp at h
  | x :: a, y :: b, ha, hb, h => by
    unfold SortedI at ha hb
    rw [List.pairwise_cons] at ha hb
    have h1 : x ≤ y := by
      rcases List.mem_cons.1 (h.symm.subset (List.mem_cons_self ..)) with e | e
      · omega
      · exact ha.1 y e
    have h2 : y ≤ x := by
      rcases List.mem_cons.1 (h.subset (List.mem_cons_self ..)) with e | e
      · omega
      · exact hb.1 x e
    have e : x = y := by omega
    subst e
    rw [sorted_eq ha.2 hb.2 ((List.perm_cons x).1 h)]
def SortedU (l : List Int) : Prop := l.Pairwise (· < ·)
theorem SortedU.le {l : List Int} (h : SortedU l) : SortedI l := List.Pairwise.imp (fun h => by omega) h
instance (l : List Int) : Decidable (SortedI l) := inferInstanceAs (Decidable (l.Pairwise (· ≤ ·)))
theorem srtM_sorted (l : List Int) : SortedI (srtM l) := by
  have := List.pairwise_mergeSort (le := fun x y : Int => decide (x ≤ y)) (fun a b c h1 h2 => by simp at *; omega) (fun a b => by simp; omega) l
  exact List.Pairwise.imp (fun h => by simpa using h) this
theorem srtM_perm (l : List Int) : (srtM l).Perm l := List.mergeSort_perm ..
theorem srtM_perm_eq {a b : List Int} (h : a.Perm b) : srtM a = srtM b := sorted_eq (srtM_sorted a) (srtM_sorted b) ((srtM_perm a).trans (h.trans (srtM_perm b).symm))
theorem snocN {p : List Int} {k : Int} (h : p.Nodup) (hk : k ∉ p) : (p ++ [k]).Nodup :=
  List.nodup_append.2 ⟨h, by simp, fun a ha b hb => by simp at hb; subst hb; intro e; subst e; exact hk ha⟩
theorem snocS {p m : List Int} {k : Int} (h : ∀ z ∈ p, z ∈ m) (hk : k ∈ m) : ∀ z ∈ p ++ [k], z ∈ m := by
  intro z hz; rcases List.mem_append.1 hz with e | e
  · exact h z e
  · simp at e; rw [e]; exact hk

theorem nodup_len : ∀ {D S : List Int}, D.Nodup → (∀ z ∈ D, z ∈ S) → D.length ≤ S.length
  | [], S, _, _ => Nat.zero_le _
  | x :: D, S, hn, h => by
    rw [List.nodup_cons] at hn
    have hx := List.perm_cons_erase (h x (List.mem_cons_self ..))
    have := nodup_len (S := S.erase x) hn.2 fun z hz => (List.mem_erase_of_ne (fun e => hn.1 (by rw [← e]; exact hz))).2 (h z (List.mem_cons_of_mem _ hz))
    have h2 := hx.length_eq
    simp only [List.length_cons] at h2 ⊢; omega
section
variable {n s : Nat} {p : List Int} {x : Int}
end
def PF2U (P : Program) (fv : Value) (M : Hp) (f : Int → Int → Int × Int) : Prop := fv.oneCell' = true ∧ ∀ x i : Int, Pu P fv M [.int .i64 x, .int .i64 i] (fun r _ => r = .tuple #[.int .i64 (f x i).1, .int .i64 (f x i).2])
theorem PF2U.le {P : Program} {fv : Value} {M M' : Hp} {f : Int → Int → Int × Int} (h : PF2U P fv M f) (hM : Hp.le M M') : PF2U P fv M' f := ⟨h.1, fun x i => (h.2 x i).le hM⟩
def PF1U (P : Program) (fv : Value) (M : Hp) (f : Int → Int × Int) : Prop := fv.oneCell' = true ∧ ∀ x : Int, Pu P fv M [.int .i64 x] (fun r _ => r = .tuple #[.int .i64 (f x).1, .int .i64 (f x).2])
theorem PF1U.le {P : Program} {fv : Value} {M M' : Hp} {f : Int → Int × Int} (h : PF1U P fv M f) (hM : Hp.le M M') : PF1U P fv M' f := ⟨h.1, fun x => (h.2 x).le hM⟩
def PF2V (P : Program) (fv : Value) (M : Hp) (f : Int → Int → Int × Int × Bool) : Prop := fv.oneCell' = true ∧ ∀ x i : Int, Pu P fv M [.int .i64 x, .int .i64 i] (fun r _ => r = .tuple #[.int .i64 (f x i).1, .int .i64 (f x i).2.1, .bool (f x i).2.2])
theorem PF2V.le {P : Program} {fv : Value} {M M' : Hp} {f : Int → Int → Int × Int × Bool} (h : PF2V P fv M f) (hM : Hp.le M M') : PF2V P fv M' f := ⟨h.1, fun x i => (h.2 x i).le hM⟩
def RMp : Hp → List Value → List (Int × Int) → Prop := fun M cs q => ∃ v, cs = [v] ∧ RdM M v (encE (Value.int .i64) q)
theorem RdMp.at {M : Hp} {v : Value} {l : List (List (Int × Int))} {k : Nat} {e : List (Int × Int)} (h : RdS 1 RMp M v l) (he : l[k]? = some e) : ∃ p u, IdxPtr v k 1 p ∧ cellM M p = some u ∧ RdM M u (encE (Value.int .i64) e) := by
  obtain ⟨p, u, h1, h2, ⟨v, h3, h4⟩⟩ := h.at1 he
  cases h3; exact ⟨p, u, h1, h2, h4⟩
theorem RdPP.at {M : Hp} {v : Value} {l : List (List (Int × Int))} {k : Nat} {e : List (Int × Int)} (h : RdS 1 (RSl 2 RP2) M v l) (he : l[k]? = some e) : ∃ p u, IdxPtr v k 1 p ∧ cellM M p = some u ∧ RdS 2 RP2 M u e := by
  obtain ⟨p, u, h1, h2, ⟨v, h3, h4⟩⟩ := h.at1 he
  cases h3; exact ⟨p, u, h1, h2, h4⟩
section
variable {r : Option Nat} {P : Program} {ops : Array Oper} {Q : Exit → Act → World → Prop} {C : Nat → World → Prop} {bf : Nat → List Nat} {E : List (Nat × Nat)}
end
section
variable {r : Option Nat} {P : Program} {ops : Array Oper} {Q : Exit → Act → World → Prop} {E : List (Nat × Nat)}
end
def PFAB (P : Program) (fv : Value) (M : Hp) (f : Int × Int → Bool) : Prop := fv.oneCell' = true ∧ ∀ x y : Int, ((-9223372036854775808 ≤ x ∧ x ≤ 9223372036854775807) ∧ (-9223372036854775808 ≤ y ∧ y ≤ 9223372036854775807)) → Pu P fv M [.agg #[.int .i64 x, .int .i64 y]] (fun r _ => r = .bool (f (x, y)))
theorem PFAB.le {P : Program} {fv : Value} {M M' : Hp} {f : Int × Int → Bool} (h : PFAB P fv M f) (hM : Hp.le M M') : PFAB P fv M' f := ⟨h.1, fun x y g => (h.2 x y g).le hM⟩
def RA2 : Hp → List Value → List (Int × Int) × List (Int × Int) → Prop := fun M cs x => ∃ u v, cs = [u, v] ∧ RdS 2 RP2 M u x.1 ∧ RdS 2 RP2 M v x.2
theorem RdA2.at {M : Hp} {v : Value} {l : List (List (Int × Int) × List (Int × Int))} {k : Nat} {e : List (Int × Int) × List (Int × Int)} (h : RdS 2 RA2 M v l) (he : l[k]? = some e) : ∃ p u1 u2, IdxPtr v k 2 p ∧ cellsM M p [u1, u2] ∧ RdS 2 RP2 M u1 e.1 ∧ RdS 2 RP2 M u2 e.2 := by
  obtain ⟨p, cs, h1, h2, ⟨u1, u2, h3, h5, h6⟩, h4⟩ := RdS.at h he
  subst h3; exact ⟨p, u1, u2, h1, h4, h5, h6⟩
section
variable {r : Option Nat} {P : Program} {Q : Exit → Act → World → Prop} {a : Act} {w : World} {n : Nat} {ds : List Deferred} {l : List (Nat × Value)} {d : Nat} {ty t el : TypeId} {pos : String} {af : Array Edge} {gd : Option (Nat × Bool)} {x y : Operand} {next : Act → World → Prop} {M : Hp} {H : List HProp} {by_ : Nat}
end
abbrev MLE := List (Int × Value × List Int)
/-- a key with a frozen list -/
def RG2 : Hp → List Value → Int × List Int → Prop := fun M cs x => ∃ v, cs = [.int .i64 x.1, v] ∧ RdI M v x.2
theorem RdG2.at {M : Hp} {v : Value} {l : List (Int × List Int)} {k : Nat} {e : Int × List Int} (h : RdS 2 RG2 M v l) (he : l[k]? = some e) : ∃ p u, IdxPtr v k 2 p ∧ cellsM M p [.int .i64 e.1, u] ∧ RdI M u e.2 := by
  obtain ⟨p, cs, h1, h2, ⟨u, h3, h5⟩, h4⟩ := RdS.at h he
  subst h3; exact ⟨p, u, h1, h4, h5⟩
/-- a frozen map of frozen lists -/
def RdML (M : Hp) (v : Value) (q : List (Int × List Int)) : Prop := ∃ t : MLE, t.map (fun x => (x.1, x.2.2)) = q ∧ RdM M v (encE Prod.fst t) ∧ ∀ x ∈ t, RdI M x.2.1 x.2.2
theorem RdML.le {M M' : Hp} {v : Value} {q : List (Int × List Int)} (h : RdML M v q) (hM : Hp.le M M') : RdML M' v q := by
  obtain ⟨t, h1, h2, h3⟩ := h; exact ⟨t, h1, h2.le hM, fun x hx => (h3 x hx).le hM⟩
theorem RdML.one' {M : Hp} {v : Value} {q : List (Int × List Int)} (h : RdML M v q) : v.oneCell' = true := by obtain ⟨_, _, h, _⟩ := h; exact h.one'
section
variable {r : Option Nat} {P : Program} {Q : Exit → Act → World → Prop} {a : Act} {w : World}
  {n : Nat} {ds : List Deferred} {l : List (Nat × Value)} {ty t : TypeId} {pos : String} {af : Array Edge} {gd : Option (Nat × Bool)} {x y : Operand}
  {next : Act → World → Prop} {M : Hp} {H : List HProp}
/-- a field of a struct's block -/
theorem cell_blkf {b f : Nat} {cs : Array Value} {v : Value} {e : TypeId} {fr : Nat × Nat} (S : w.heap[b]? = some (.cells cs e fr)) (hv : cs[f]? = some v) : w.cell? ⟨b, f, none⟩ = some v := by simp [World.cell?, S, hv]
end
section
variable {r : Option Nat} {P : Program} {Q : Exit → Act → World → Prop} {a : Act} {w : World}
  {n : Nat} {ds : List Deferred} {l : List (Nat × Value)} {d : Nat} {ty t el : TypeId} {pos : String} {af : Array Edge} {gd : Option (Nat × Bool)} {x y : Operand}
  {next : Act → World → Prop} {M : Hp} {H : List HProp} {v : Value} {by_ : Nat} {zv : Value}
end
/-! ### functions that panic, and a function that recovers -/
section
variable {P : Program}
/-- a call that panics with a value held as an interface -/
def CallP (P : Program) (fv : Value) (args : List Value) (w : World) (R : Value → World → Prop) : Prop :=
  ∀ (r : Option Nat) (o : Oper) (c : Call) (f : Operand) (a : Act) (next : Act → World → Prop) (Q : Exit → Act → World → Prop), o.op = .call c → c.callee = .value f → a.eval f = fv →
    c.args.toList.map a.eval = args → (∀ t u w', R (.iface t u) w' → Q (.panic [{ v := .iface t u, recovered := false }]) a w') → o.wpIn (Fw r) 0 P a w next Q
def PEnd (R : Value → World → Prop) : Ending → World → Prop := fun e w' => ∃ t u, e = .panicked [{ v := .iface t u, recovered := false }] ∧ R (.iface t u) w'
theorem CallP.func {g : FuncId} {first cap : Array Value} {args : List Value} {w : World} {R : Value → World → Prop}
    (hc : ∀ args w, (callFunc g args).run P w = .ok (.enter g args) w)
    (h : Calls P g (first.toList ++ args ++ cap.toList).toArray w (PEnd R)) : CallP P (.func (.func g) first cap) args w R := by
  intro r o c f a next Q h1 h2 h3 h4 h5
  refine ⟨fun _ _ => trivial, ?_⟩
  rw [semAt_nodefer (by rw [h1]; rfl)]
  have e4 : c.args.map a.eval = args.toArray := by rw [← h4, ← Array.toList_map, Array.toArray_toList]
  have : (execOp a.eval o).run P w = .ok (.enter g (first ++ args.toArray ++ cap)) w := by
    simp only [execOp, h1, resolve, h2, h3, e4, Deferred.ofValue]
    simp [invoke, hc]
  rw [this]
  refine ⟨fun h => by simp [Fw_depth] at h, ?_⟩
  rw [callsIn_Fw, show first ++ args.toArray ++ cap = (first.toList ++ args ++ cap.toList).toArray by simp]
  exact h.mono fun e w' ⟨t, u, he, hR⟩ => by subst he; exact h5 t u w' hR
/-- from the frozen memory M on: a call panics; what is owned stays -/
def PuP (P : Program) (fv : Value) (M : Hp) (args : List Value) : Prop :=
  ∀ w M1 H, Hp.le M M1 → St w M1 H → CallP P fv args w (fun _ w' => ∃ M2, Hp.le M1 M2 ∧ St w' M2 H)
theorem PuP.le {fv : Value} {M M' : Hp} {args : List Value} (h : PuP P fv M args) (hM : Hp.le M M') : PuP P fv M' args := fun w M1 H h1 => h w M1 H (hM.trans h1)
/-- a function without arguments that panics -/
def PF0P (P : Program) (fv : Value) (M : Hp) : Prop := fv.oneCell' = true ∧ PuP P fv M []
theorem PF0P.le {fv : Value} {M M' : Hp} (h : PF0P P fv M) (hM : Hp.le M M') : PF0P P fv M' := ⟨h.1, h.2.le hM⟩
variable {Q : Exit → Act → World → Prop} {a : Act} {w : World} {n : Nat} {ds : List Deferred} {l : List (Nat × Value)} {fn : Func} {R : Ending → World → Prop} {M : Hp} {H : List HProp} {next : Act → World → Prop} {r : Option Nat}
end
section
variable {P : Program} {a : Act} {w : World} {n : Nat} {ds : List Deferred} {l : List (Nat × Value)} {d : Nat} {ty t t' el : TypeId} {pos : String} {af : Array Edge} {gd : Option (Nat × Bool)} {x y : Operand} {v : Value} {l' : List Int}
end
/-! floats: the ceiling of a quotient of small whole numbers is a small whole number -/
section
open Ieee
end
section
variable {P : Program} {a : Act} {w : World} {n : Nat} {ds : List Deferred} {l : List (Nat × Value)} {d : Nat} {ty t t' : TypeId} {pos : String} {af : Array Edge} {gd : Option (Nat × Bool)} {x y : Operand} {κ : IntKind} {i : Int}
end
/-! texts: values .string (bs l) with l a list of bytes -/
def bs (l : List UInt8) : ByteArray := ⟨l.toArray⟩
def RTx : Hp → List Value → List UInt8 → Prop := fun _ cs x => cs = [.string (bs x)]
theorem RdTx.at {M : Hp} {v : Value} {l : List (List UInt8)} {k : Nat} {e : List UInt8} (h : RdS 1 RTx M v l) (he : l[k]? = some e) : ∃ p, IdxPtr v k 1 p ∧ cellM M p = some (.string (bs e)) := by
  obtain ⟨p, cs, h1, h2, h3, h4⟩ := RdS.at h he
  have h5 : cs = [.string (bs e)] := h3
  subst h5
  exact ⟨p, h1, h4 0 _ rfl⟩
section
variable {P : Program} {a : Act} {w : World} {n : Nat} {ds : List Deferred} {l : List (Nat × Value)} {d : Nat} {ty t t' : TypeId} {pos : String} {af : Array Edge} {gd : Option (Nat × Bool)} {x y z : Operand} {κ κ' : IntKind} {s s' : List UInt8} {i j : Int} {lo up : Nat}
end
section
variable {r : Option Nat} {P : Program} {Q : Exit → Act → World → Prop} {a : Act} {w : World}
  {n : Nat} {ds : List Deferred} {l : List (Nat × Value)} {d : Nat} {ty t : TypeId} {pos : String} {af : Array Edge} {gd : Option (Nat × Bool)} {x : Operand}
  {next : Act → World → Prop} {M : Hp} {H : List HProp} {s : List UInt8}
end
/-! calls of methods of interface values -/
section
variable {P : Program} {a : Act} {w : World} {n : Nat} {ds : List Deferred} {l : List (Nat × Value)} {d : Nat} {ty : TypeId} {pos : String} {af : Array Edge} {gd : Option (Nat × Bool)} {x y : Operand} {M : Hp} {H : List HProp} {r : Option Nat} {next : Act → World → Prop} {Q : Exit → Act → World → Prop}
/-- the method called NAME of an interface value goes to g, which takes rv first -/
def MethV (P : Program) (iv : Value) (name : String) (g : FuncId) (rv : Value) (w : World) : Prop :=
  ∀ args : Array Value, (callMethod iv name args).run P w = .ok (.enter g (#[rv] ++ args)) w
theorem X_callI {ats : Array TypeId} {f : Operand} {aa : Array Operand} {iv rv : Value} {g : FuncId} {nm : String} {args : List Value} {R : Value → World → Prop}
  (E : Env a n ds l) (hd : Nat.blt d n = true) (hf : opv l f = some iv) (ha : opvs l aa.toList = some args) (hm : MethV P iv nm g rv w) (hg : ∀ args w, (callFunc g args).run P w = .ok (.enter g args) w)
  (C : CallV P (.func (.func g) #[] #[]) (rv :: args) w R)
  (k : ∀ a v w', R v w' → Env a n ds ((d, v) :: l) → next a w') : (⟨some d, .call ⟨.invoke f nm, aa, ats⟩, ty, pos, af, gd⟩ : Oper).wpIn (Fw r) 0 P a w next Q := by
  have h := C r ⟨some d, .call ⟨.value (.const (.func (.func g) #[] #[])), ((rv :: args).map Operand.const).toArray, ats⟩, ty, pos, af, gd⟩ _ (.const (.func (.func g) #[] #[])) a next Q rfl rfl rfl
    (by simp [List.map_map, Function.comp_def, Act.eval]) (fun v w' hR => k _ v w' hR (E.put (by simpa using hd) v))
  refine ⟨fun _ _ => trivial, ?_⟩
  have h2 := h.2
  rw [semAt_nodefer (by rfl)] at h2 ⊢
  have e1 : (execOp a.eval ⟨some d, .call ⟨.value (.const (.func (.func g) #[] #[])), ((rv :: args).map Operand.const).toArray, ats⟩, ty, pos, af, gd⟩).run P w = .ok (.enter g (#[rv] ++ args.toArray)) w := by
    simp [execOp, resolve, Act.eval, Deferred.ofValue, invoke, hg, Function.comp_def]
  have e2 : (execOp a.eval ⟨some d, .call ⟨.invoke f nm, aa, ats⟩, ty, pos, af, gd⟩).run P w = .ok (.enter g (#[rv] ++ args.toArray)) w := by
    have e4 : aa.map a.eval = args.toArray := by rw [← E.evals ha, ← Array.toList_map, Array.toArray_toList]
    have h3 := hm args.toArray
    simp only [execOp, resolve, E.eval hf, e4]
    simp [invoke, h3]
  rw [e1] at h2
  rw [e2]
  exact h2
theorem X_puI {ats : Array TypeId} {f : Operand} {aa : Array Operand} {iv rv : Value} {g : FuncId} {nm : String} {args : List Value} {q : Value → Hp → Prop} {M0 : Hp}
  (E : Env a n ds l) (S : St w M H) (hd : Nat.blt d n = true) (hf : opv l f = some iv) (ha : opvs l aa.toList = some args) (hm : MethV P iv nm g rv w) (hg : ∀ args w, (callFunc g args).run P w = .ok (.enter g args) w)
  (C : Pu P (.func (.func g) #[] #[]) M0 (rv :: args) q) (hM : Hp.le M0 M)
  (k : ∀ a v w' M', Hp.le M M' → q v M' → St w' M' H → Env a n ds ((d, v) :: l) → next a w') : (⟨some d, .call ⟨.invoke f nm, aa, ats⟩, ty, pos, af, gd⟩ : Oper).wpIn (Fw r) 0 P a w next Q :=
  X_callI E hd hf ha hm hg (C w M H hM S) fun a v w' ⟨M', h1, h2, h3⟩ E => k a v w' M' h1 h2 h3 E
theorem X_spI {ats : Array TypeId} {f : Operand} {aa : Array Operand} {iv rv : Value} {g : FuncId} {nm : String} {args : List Value} {p : List HProp} {q : Value → Hp → List HProp → Prop} {M0 : Hp}
  (E : Env a n ds l) (S : St w M (p ++ H)) (hd : Nat.blt d n = true) (hf : opv l f = some iv) (ha : opvs l aa.toList = some args) (hm : MethV P iv nm g rv w) (hg : ∀ args w, (callFunc g args).run P w = .ok (.enter g args) w)
  (C : Sp P (.func (.func g) #[] #[]) M0 (rv :: args) p q) (hM : Hp.le M0 M)
  (k : ∀ a v w' M' C, Hp.le M M' → q v M' C → St w' M' (C ++ H) → Env a n ds ((d, v) :: l) → next a w') : (⟨some d, .call ⟨.invoke f nm, aa, ats⟩, ty, pos, af, gd⟩ : Oper).wpIn (Fw r) 0 P a w next Q :=
  X_callI E hd hf ha hm hg (C w M H hM S) fun a v w' ⟨M', C', h1, h2, h3⟩ E => k a v w' M' C' h1 h2 h3 E
/-- an interface value of a concrete type, asked for that type -/
theorem R_assert {T T' : TypeId} {v : Value} {u : TypeDesc} (E : Env a n ds l) (hx : opv l x = some (.iface T v)) (hu : P.underlying T = some u) (hi : ∀ z, u ≠ .interface z) :
    (execOp a.eval ⟨some d, .typeAssert x T' T false, ty, pos, af, gd⟩).run P w = .ok (.value v) w := by
  cases u <;> first | (exact absurd rfl (hi _)) | (simp [execOp, E.eval hx, Instr.typeAssert, run_underlying hu])
theorem R_ifaceP {T : TypeId} {v : Value} {e : TypeId} (E : Env a n ds l) (hx : opv l x = some v) (hu : P.underlying T = some (.pointer e)) :
    (execOp a.eval ⟨some d, .makeInterface T x, ty, pos, af, gd⟩).run P w = .ok (.value (.iface T v)) w := by
  simp [execOp, E.eval hx, Instr.makeInterface, run_underlying hu]
end
/-! sets behind pointers: a pointer to a cell that holds a map with the keys q; c: a list with the same members -/
def RdSU (T : TypeId) (M : Hp) (v : Value) (c : List Int) : Prop := ∃ b m q, v = .pointer (some ⟨b, 0, none⟩) ∧ M b = some (.cells #[m] T) ∧ RdM M m (Sl.encS q) ∧ q.Nodup ∧ ∀ x, x ∈ q ↔ x ∈ c
theorem RdSU.le {T : TypeId} {M M' : Hp} {v : Value} {c : List Int} (h : RdSU T M v c) (hM : Hp.le M M') : RdSU T M' v c := by
  obtain ⟨b, m, q, e, hb, hm, hn, hq⟩ := h
  exact ⟨b, m, q, e, hM.2 _ _ hb, hm.le hM, hn, hq⟩
def addsL (s p : List Int) : List Int := p.foldl addS s
theorem addsL_snoc (s p : List Int) (x : Int) : addsL s (p ++ [x]) = addS (addsL s p) x := by simp [addsL]
theorem mem_addsL : ∀ (p s : List Int) (x : Int), x ∈ addsL s p ↔ x ∈ s ∨ x ∈ p
  | [], s, x => by simp [addsL]
  | y :: p, s, x => by
    show x ∈ addsL (addS s y) p ↔ _
    rw [mem_addsL p (addS s y) x, mem_addS, List.mem_cons]
    constructor
    · rintro ((h | h) | h)
      · exact .inl h
      · exact .inr (.inl h)
      · exact .inr (.inr h)
    · rintro (h | h | h)
      · exact .inl (.inl h)
      · exact .inl (.inr h)
      · exact .inr h
theorem addsL_nodup : ∀ (p s : List Int), s.Nodup → (addsL s p).Nodup
  | [], _, h => h
  | y :: p, s, h => addsL_nodup p (addS s y) (addS_nodup h y)
section
variable {P : Program} {a : Act} {w : World} {n : Nat} {ds : List Deferred} {l : List (Nat × Value)} {d : Nat} {ty : TypeId} {pos : String} {af : Array Edge} {gd : Option (Nat × Bool)} {x : Operand}
theorem R_nilCheck {ad : Addr} {v : Value} (E : Env a n ds l) (hx : opv l x = some v) (e : v = .pointer (some ad)) :
    (execOp a.eval ⟨some d, .nilCheck x, ty, pos, af, gd⟩).run P w = .ok (.value v) w := by
  subst e
  simp [execOp, E.eval hx]
end
def card (c : List Int) : Nat := (addsL [] c).length
theorem card_eq {q c : List Int} (hn : q.Nodup) (h : ∀ x, x ∈ q ↔ x ∈ c) : q.length = card c := by
  have h2 := addsL_nodup c [] (by simp)
  have h3 : ∀ x, x ∈ addsL [] c ↔ x ∈ c := fun x => by simp [mem_addsL]
  exact Nat.le_antisymm (nodup_len hn fun z hz => (h3 z).2 ((h z).1 hz)) (nodup_len h2 fun z hz => (h z).2 ((h3 z).1 hz))
theorem card_le (c : List Int) : card c ≤ c.length := nodup_len (addsL_nodup c [] (by simp)) fun z hz => by simpa [mem_addsL] using hz
def suL (c : List Int) : List Int := srtM (addsL [] c)
theorem suL_of {l c : List Int} (hn : l.Nodup) (h : ∀ x, x ∈ l ↔ x ∈ c) : suL c = srtM l :=
  srtM_perm_eq ((List.perm_ext_iff_of_nodup (addsL_nodup c [] List.nodup_nil) hn).2 fun x => by rw [h x]; simp [mem_addsL])
theorem suL_len (c : List Int) : (suL c).length ≤ c.length := by
  unfold suL; rw [srtM_len]; exact card_le c
theorem suL_eq {c c' : List Int} (h : ∀ x, x ∈ c ↔ x ∈ c') : suL c = suL c' :=
  suL_of (addsL_nodup c' [] List.nodup_nil) fun x => by simp [mem_addsL, h x]
/-! sync.RWMutex as the first six cells of a block of seven -/
section
open Go.RwLone Go.Conc.Locks Go.MuLone
variable {P : Program} {L : RwLink}
theorem St.setF {w : World} {M : Hp} {H : List HProp} {b f : Nat} {cs : List Value} {T : TypeId} (u : Value) (S : St w M (blk b (.cells cs.toArray T) :: H)) (hf : f < cs.length) :
    St (w.setCell ⟨b, f, none⟩ u) M (blk b (.cells (cs.set f u).toArray T) :: H) := by
  have hg := S.get
  refine S.set (o' := .cells (cs.set f u).toArray T) ?_ ?_
  · simp only [World.setCell]; rw [Array.getElem?_modify, if_pos rfl, hg]; simp
  · intro c hc x hx
    simp only [World.setCell]; rw [Array.getElem?_modify, if_neg (Ne.symm hc)]; exact hx
def lkc (n : Int) (q : Value) : List Value := [.int .i32 0, .int .u32 0, .int .u32 0, .int .u32 0, .int .i32 n, .int .i32 0, q]
def lko (m n : Int) (q : Value) : List Value := [.int .i32 m, .int .u32 0, .int .u32 0, .int .u32 0, .int .i32 n, .int .i32 0, q]
/-- a lock of n readers beside q -/
def LK (p : Nat) (T : TypeId) (n : Int) (q : Value) : HProp := blk p (.cells (lkc n q).toArray T)
def LKw (p : Nat) (T : TypeId) (q : Value) : HProp := blk p (.cells (lko 1 (-1073741824) q).toArray T)
theorem cellL {w : World} {M : Hp} {H : List HProp} {p f : Nat} {T : TypeId} {cs : List Value} {v : Value} (S : St w M (blk p (.cells cs.toArray T) :: H)) (h : cs[f]? = some v) : w.cell? ⟨p, f, none⟩ = some v := by
  have hg := S.get
  simp [World.cell?, hg, h]
theorem frzL {w : World} {M : Hp} {H : List HProp} {p f : Nat} {T : TypeId} {cs : List Value} (S : St w M (blk p (.cells cs.toArray T) :: H)) : w.frozen? ⟨p, f, none⟩ = false := by
  have hg := S.get
  simp [World.frozen?, hg]
theorem rlock_sp (R : RwRLib P L) {M : Hp} {p : Nat} {T : TypeId} {n : Int} {q : Value} (h0 : 0 ≤ n) (h1 : n ≤ 1000) :
    Sp P (.func (.func L.rlock) #[] #[]) M [.pointer (some ⟨p, 0, none⟩)] [LK p T n q] (fun v M' C' => v = .tuple #[] ∧ C' = [LK p T (n + 1) q]) := by
  intro w M1 H hM S
  have S1 : St w M1 (blk p (.cells (lkc n q).toArray T) :: H) := S
  have hw : Go.RowKit.wrap32 (n + 1) = n + 1 := by simp [Go.RowKit.wrap32]; omega
  refine CallV.func (fun args w => run_callFunc_enter R.f_rlock (by kernel_rfl) rfl args w) ?_
  refine (rlock_open R p 0 n (.int .i32 0) (.int .u32 0) w (cellL S1 rfl) (cellL S1 rfl) (cellL S1 rfl) (frzL S1) (by rw [hw]; omega)).mono ?_
  rintro e w' ⟨rfl, rfl⟩
  refine ⟨_, rfl, M1, _, Hp.le.refl _, ⟨rfl, rfl⟩, ?_⟩
  rw [hw]
  exact St.setF (f := 4) (.int .i32 (n + 1)) S1 (by simp [lkc, lko])
theorem runlock_sp (R : RwRLib P L) {M : Hp} {p : Nat} {T : TypeId} {n : Int} {q : Value} (h0 : 0 ≤ n) (h1 : n ≤ 1000) :
    Sp P (.func (.func L.runlock) #[] #[]) M [.pointer (some ⟨p, 0, none⟩)] [LK p T (n + 1) q] (fun v M' C' => v = .tuple #[] ∧ C' = [LK p T n q]) := by
  intro w M1 H hM S
  have S1 : St w M1 (blk p (.cells (lkc (n + 1) q).toArray T) :: H) := S
  have hw : Go.RowKit.wrap32 (n + 1 + -1) = n := by simp [Go.RowKit.wrap32]; omega
  refine CallV.func (fun args w => run_callFunc_enter R.f_runlock (by kernel_rfl) rfl args w) ?_
  refine (runlock_held R p 0 (n + 1) (.int .i32 0) (.int .u32 0) w (cellL S1 rfl) (cellL S1 rfl) (cellL S1 rfl) (frzL S1) (by rw [hw]; omega)).mono ?_
  rintro e w' ⟨rfl, rfl⟩
  refine ⟨_, rfl, M1, _, Hp.le.refl _, ⟨rfl, rfl⟩, ?_⟩
  rw [hw]
  exact St.setF (f := 4) (.int .i32 n) S1 (by simp [lkc, lko])
theorem wlock_sp (R : RwWLib P L) {M : Hp} {p : Nat} {T : TypeId} {q : Value} :
    Sp P (.func (.func L.wlock) #[] #[]) M [.pointer (some ⟨p, 0, none⟩)] [LK p T 0 q] (fun v M' C' => v = .tuple #[] ∧ C' = [LKw p T q]) := by
  intro w M1 H hM S
  have S1 : St w M1 (blk p (.cells (lkc 0 q).toArray T) :: H) := S
  refine CallV.func (fun args w => run_callFunc_enter R.f_wlock (by kernel_rfl) rfl args w) ?_
  refine (wlock_free R p 0 (.int .u32 0) (.int .u32 0) w (cellL S1 rfl) (cellL S1 rfl) (cellL S1 rfl) (cellL S1 rfl) (frzL S1) (frzL S1)).mono ?_
  rintro e w' ⟨rfl, rfl⟩
  refine ⟨_, rfl, M1, _, Hp.le.refl _, ⟨rfl, rfl⟩, ?_⟩
  exact St.setF (f := 4) (.int .i32 (-1073741824)) (St.setF (f := 0) (.int .i32 1) S1 (by simp [lkc, lko])) (by simp [lkc, lko])
theorem wunlock_sp (R : RwWLib P L) {M : Hp} {p : Nat} {T : TypeId} {q : Value} :
    Sp P (.func (.func L.wunlock) #[] #[]) M [.pointer (some ⟨p, 0, none⟩)] [LKw p T q] (fun v M' C' => v = .tuple #[] ∧ C' = [LK p T 0 q]) := by
  intro w M1 H hM S
  have S1 : St w M1 (blk p (.cells (lko 1 (-1073741824) q).toArray T) :: H) := S
  refine CallV.func (fun args w => run_callFunc_enter R.f_wunlock (by kernel_rfl) rfl args w) ?_
  refine (wunlock_held R p 0 (.int .u32 0) (.int .u32 0) w (cellL S1 rfl) (cellL S1 rfl) (cellL S1 rfl) (cellL S1 rfl) (frzL S1) (frzL S1)).mono ?_
  rintro e w' ⟨rfl, rfl⟩
  refine ⟨_, rfl, M1, _, Hp.le.refl _, ⟨rfl, rfl⟩, ?_⟩
  exact St.setF (f := 0) (.int .i32 0) (St.setF (f := 4) (.int .i32 0) S1 (by simp [lkc, lko])) (by simp [lkc, lko])
end
theorem mem_suL {c : List Int} {x : Int} : x ∈ suL c ↔ x ∈ c := by
  unfold suL; rw [(srtM_perm _).mem_iff, mem_addsL]; simp
theorem suL_card (c : List Int) : (suL c).length = card c := by unfold suL card; rw [srtM_len]
theorem filt_two (p : Int → Prop) [DecidablePred p] : ∀ l : List Int, (l.filter (fun z => decide (p z))).length + (l.filter (fun z => decide (¬ p z))).length = l.length
  | [] => rfl
  | x :: l => by
    have ih := filt_two p l
    by_cases h : p x
    · simp [List.filter_cons, h] at ih ⊢; omega
    · simp [List.filter_cons, h] at ih ⊢; omega
theorem card_incl (a b : List Int) : card (a ++ b) + card (a.filter (fun z => decide (z ∈ b))) = card (a ++ a) + card (b ++ b) := by
  have hA := addsL_nodup a [] List.nodup_nil
  have hB := addsL_nodup b [] List.nodup_nil
  have mA : ∀ x, x ∈ addsL [] a ↔ x ∈ a := fun x => by simp [mem_addsL]
  have mB : ∀ x, x ∈ addsL [] b ↔ x ∈ b := fun x => by simp [mem_addsL]
  have e1 : (addsL [] a ++ (addsL [] b).filter (fun z => decide (¬ z ∈ a))).length = card (a ++ b) := card_eq
    (List.nodup_append.2 ⟨hA, hB.filter _, fun x hx y hy => by
      intro e; subst e
      have h := (List.mem_filter.1 hy).2
      rw [decide_eq_true_eq] at h
      exact h ((mA _).1 hx)⟩)
    (fun x => by
      rw [List.mem_append, List.mem_append, List.mem_filter, mA, mB, decide_eq_true_eq]
      by_cases hx : x ∈ a <;> simp [hx])
  have e2 : ((addsL [] b).filter (fun z => decide (z ∈ a))).length = card (a.filter (fun z => decide (z ∈ b))) := card_eq (hB.filter _) (fun x => by
      rw [List.mem_filter, List.mem_filter, mB, decide_eq_true_eq, decide_eq_true_eq]; exact And.comm)
  have e3 : (addsL [] a).length = card (a ++ a) := card_eq hA (fun x => by rw [mA, List.mem_append, or_self])
  have e4 : (addsL [] b).length = card (b ++ b) := card_eq hB (fun x => by rw [mB, List.mem_append, or_self])
  have e5 := filt_two (fun z => z ∈ a) (addsL [] b)
  rw [← e1, ← e2, ← e3, ← e4, List.length_append]; omega

set_option maxRecDepth 100000 in
set_option maxHeartbeats 4000000 in
theorem U_new {M : Hp} {n0 : Nat} (hb0 : n0 ≤ 1000000000000) :
    Sp Tryz.prog (.func (.func 85) #[] #[]) M [.int .i64 ((n0 : Nat) : Int)] [] (fun r M' C' => ∃ b m, r = .pointer (some ⟨b, 0, none⟩) ∧ C' = [blk b (.cells #[.map (some m)] 145), OwnS m []]) := by
  refine Sp_enter Tryz.func85 rfl Tryz.ntmps85 rfl Tryz.call85 ?_
  intro a w M1 H hM1 S E
  refine WP_seq ?_
  refine WP_region ?_
  refine S_v E rfl (R_assign E rfl) rfl ?_
  clear E a; intro a E
  refine WL_nil ?_
  refine T_n ?_
  refine WP_seq ?_
  refine WP_region ?_
  refine S_v E rfl (R_move E rfl) rfl ?_
  clear E a; intro a E
  refine S_x (X_makeMapR E S rfl MT145 rfl ?_)
  clear E a S; rintro a w b_1 E S
  replace S : St w M1 (OwnS b_1 ([] : List Int) :: _) := S
  refine S_x (X_alloc (cs := #[.map none]) E S rfl Tryz.zeroValue145 rfl ?_)
  clear E a S; rintro a w b_2 E S
  refine S_x0 (X_store E S rfl rfl (Tryz.sizeOf145 _) rfl ?_)
  clear E a S; rintro a w E S
  refine WL_nil ?_
  refine T_n ?_
  refine WP_seq ?_
  refine WP_region ?_
  refine S_v E rfl (R_assign E rfl) rfl ?_
  clear E a; intro a E
  refine WL_nil ?_
  refine T_n ?_
  refine WP_ret ?_
  replace S := S.front1
  replace S := S.front1
  exact F_ret1 E Tryz.results85 rfl ⟨_, rfl, M1, _, (Hp.le.refl _), ⟨_, _, rfl, rfl⟩, S⟩

set_option maxRecDepth 100000 in
set_option maxHeartbeats 4000000 in
theorem U_Add {M : Hp} {m9 : Nat} {l9 : List Int} {x0 : Int} :
    Sp Tryz.prog (.func (.func 86) #[] #[]) M [.map (some m9), .int .i64 x0] [OwnS m9 l9] (fun r M' C' => (∃ z, r = .bool z) ∧ C' = [OwnS m9 (addS l9 x0)]) := by
  refine Sp_enter Tryz.func86 rfl Tryz.ntmps86 rfl Tryz.call86 ?_
  intro a w M1 H hM1 S E
  replace S : St w M1 (OwnS m9 l9 :: _) := S
  refine WP_seq ?_
  refine WP_region ?_
  refine S_v E rfl (R_assign E rfl) rfl ?_
  clear E a; intro a E
  refine WL_nil ?_
  refine T_n ?_
  refine WP_seq ?_
  refine WP_region ?_
  refine S_v E rfl (R_move E rfl) rfl ?_
  clear E a; intro a E
  refine S_v E rfl ((R_lenO E S MT145 rfl).trans (by rw [encS_len])) rfl ?_
  clear E a; intro a E
  refine S_v E rfl (R_assign E rfl) rfl ?_
  clear E a; intro a E
  refine WL_nil ?_
  refine T_n ?_
  refine WP_seq ?_
  refine WP_region ?_
  refine S_v E rfl (R_move E rfl) rfl ?_
  clear E a; intro a E
  refine S_v E rfl (R_move E rfl) rfl ?_
  clear E a; intro a E
  refine S_v E rfl (R_build (u := .agg #[]) (vs := []) E rfl (fun w => FB104__  w)) rfl ?_
  clear E a; intro a E
  refine S_x0 (X_updateS E S MT145 rfl rfl rfl ?_)
  clear E a S; rintro a w E S
  refine WL_nil ?_
  refine T_n ?_
  refine WP_seq ?_
  refine WP_region ?_
  refine S_v E rfl (R_move E rfl) rfl ?_
  clear E a; intro a E
  refine S_v E rfl (R_move E rfl) rfl ?_
  clear E a; intro a E
  refine S_v E rfl ((R_lenO E S MT145 rfl).trans (by rw [encS_len])) rfl ?_
  clear E a; intro a E
  refine S_v E rfl (R_neq E rfl rfl) rfl ?_
  clear E a; intro a E
  refine S_v E rfl (R_assign E rfl) rfl ?_
  clear E a; intro a E
  refine WL_nil ?_
  refine T_n ?_
  refine WP_ret ?_
  exact F_ret1 E Tryz.results86 rfl ⟨_, rfl, M1, _, (Hp.le.refl _), ⟨⟨_, rfl⟩, rfl⟩, S⟩

set_option maxRecDepth 100000 in
set_option maxHeartbeats 4000000 in
theorem U_NewSet {M : Hp} {v0 : Value} {l0 : List Int} (h0 : RdI M v0 l0)(hb : l0.length ≤ 1000000000) :
    Pu Tryz.prog (.func (.func 59) #[] #[]) M [v0] (fun r M' => (∃ p, r = .iface 116 p ∧ RdSU 145 M' p l0)) := by
  refine Pu_enter Tryz.func59 rfl Tryz.ntmps59 rfl Tryz.call59 ?_
  intro a w M1 H hM1 S E
  replace h0 := h0.le hM1
  have b0 := h0.bound
  refine WP_seq ?_
  refine WP_region ?_
  refine S_v E rfl (R_assign E rfl) rfl ?_
  clear E a; intro a E
  refine WL_nil ?_
  refine T_n ?_
  refine WP_seq ?_
  refine WP_region ?_
  refine S_v E rfl (R_move E rfl) rfl ?_
  clear E a; intro a E
  refine S_v E rfl (R_lenV E rfl T22 h0.len) rfl ?_
  clear E a; intro a E
  refine S_x (X_sp (p := []) E S rfl rfl rfl (U_new (by first | assumption | omega)) (Hp.le.refl _) ?_)
  clear E a S; rintro a _ w M_1 _ hM_1 ⟨b_3, mm_4, rfl, rfl⟩ S E
  replace S : St w M_1 (blk b_3 (.cells #[.map (some mm_4)] 145) :: OwnS mm_4 ([] : List Int) :: H) := S
  replace h0 := h0.le hM_1
  refine S_v E rfl (R_assign E rfl) rfl ?_
  clear E a; intro a E
  refine WL_nil ?_
  refine T_n ?_
  refine WP_seq ?_
  refine WP_seq ?_
  refine WP_region ?_
  refine S_v E rfl (R_move E rfl) rfl ?_
  clear E a; intro a E
  refine S_v E rfl (R_lenV E rfl T22 h0.len) rfl ?_
  clear E a; intro a E
  refine S_v E rfl (R_move E rfl) rfl ?_
  clear E a; intro a E
  refine WL_nil ?_
  refine T_n ?_
  refine WP_block ?_
  replace S := S.front1
  replace S := S.reM (L' := (Sl.encS (addsL [] (l0.take 0)))) (congrArg Sl.encS (show ([] : List Int) = (addsL [] (l0.take 0)) by (first | rfl | (simp [addsL]; done) | (rw [List.take_add_one]; simp [*, addsL_snoc]; done))))
  refine WP_loop (γ := Nat) (fun (k : Nat) a w => ∃ (M_5 : Hp), Hp.le M_1 M_5 ∧ St w M_5 (OwnS mm_4 (addsL [] (l0.take k)) :: blk b_3 (.cells #[.map (some mm_4)] 145) :: H) ∧ Env a 23 [] [(3, .pointer (some ⟨b_3, 0, none⟩)), (9, v0), (10, .int .i64 (((l0).length : Nat) : Int)), (11, .int .i64 ((k : Nat) : Int))] ∧ (k ≤ (l0).length)) (fun k => ((l0).length) - k) 0 ⟨M_1, Hp.le.refl _, S, E.keep ⟨rfl, rfl, rfl, rfl, trivial⟩, by ((try clear S); (try clear E); first | assumption | omega | rfl | (simp; done) | (simp_all; done) | (simp [List.take_add_one, *]; done) | grind [List.take_add_one])⟩ ?_
  try clear E
  try clear S
  try clear a
  try clear w
  rintro k a w ⟨M_5, hM_5, S, E, hL0_0⟩
  replace h0 := h0.le hM_5
  refine WP_seq ?_
  refine WP_region ?_
  refine S_v E rfl (R_lss E rfl rfl) rfl ?_
  clear E a; intro a E
  refine WL_nil ?_
  refine T_n ?_
  refine WP_seq ?_
  refine WP_cond E rfl (fun hc_6 => ?_) (fun hc_6 => ?_)
  · replace hc_6 := of_decide_eq_true hc_6
    refine WP_skip ?_
    refine T_n ?_
    refine WP_seq ?_
    refine WP_block ?_
    refine WP_seq ?_
    refine WP_region ?_
    obtain ⟨x_7, hx_7⟩ : ∃ x, (l0)[k]? = some x := ⟨_, List.getElem?_eq_getElem (by first | omega | (simp; done) | (simp; omega) | (simp_all; omega))⟩
    obtain ⟨p_8, hp_8, qp_8⟩ := h0.at hx_7
    refine S_v E rfl (R_idx E rfl rfl T22 hp_8 rfl) rfl ?_
    clear E a; intro a E
    refine S_v E rfl (R_loadM E rfl Tryz.isAgg3 S.imm qp_8) rfl ?_
    clear E a; intro a E
    refine S_v E rfl (R_assign E rfl) rfl ?_
    clear E a; intro a E
    refine WL_nil ?_
    refine T_n ?_
    refine WP_region ?_
    refine S_v E rfl (R_move E rfl) rfl ?_
    clear E a; intro a E
    refine S_v E rfl (R_nilCheck E rfl rfl) rfl ?_
    clear E a; intro a E
    refine S_v E rfl (R_load E rfl (Tryz.isAgg145 _) (cell_blk (S.mem (.tail _ (.head _))))) rfl ?_
    clear E a; intro a E
    refine S_v E rfl (R_move E rfl) rfl ?_
    clear E a; intro a E
    refine S_x (X_sp (p := [OwnS mm_4 (addsL [] (l0.take k))]) E S rfl rfl rfl (U_Add) (Hp.le.refl _) ?_)
    clear E a S; rintro a _ w M_9 _ hM_9 ⟨⟨_, rfl⟩, rfl⟩ S E
    replace S : St w M_9 (OwnS mm_4 (addS (addsL [] (l0.take k)) x_7) :: blk b_3 (.cells #[.map (some mm_4)] 145) :: H) := S
    replace h0 := h0.le hM_9
    refine WL_nil ?_
    refine B_n ?_
    refine T_n ?_
    refine WP_region ?_
    refine S_v E rfl (R_addx (m := ((k + 1 : Nat) : Int)) E rfl rfl (by omega) (by omega)) rfl ?_
    clear E a; intro a E
    refine S_v E rfl (R_move E rfl) rfl ?_
    clear E a; intro a E
    refine WL_nil ?_
    refine T_n ?_
    replace S := S.reM (L' := (Sl.encS (addsL [] (l0.take (k + 1))))) (congrArg Sl.encS (show addS (addsL [] (l0.take k)) x_7 = (addsL [] (l0.take (k + 1))) by (first | rfl | (simp [addsL]; done) | (rw [List.take_add_one]; simp [*, addsL_snoc]; done))))
    exact ⟨k + 1, ⟨M_9, (hM_5.trans hM_9), S, E.keep ⟨rfl, rfl, rfl, rfl, trivial⟩, by ((try clear S); (try clear E); first | assumption | omega | rfl | (simp; done) | (simp_all; done) | (simp [List.take_add_one, *]; done) | grind [List.take_add_one])⟩, by omega⟩
  · replace hc_6 := of_decide_eq_false hc_6
    refine WP_exit ?_
    refine T_x ?_
    refine T_x ?_
    refine B_x ?_
    refine T_n ?_
    refine WP_seq ?_
    refine WP_region ?_
    refine S_v E rfl (R_move E rfl) rfl ?_
    clear E a; intro a E
    have S0 := S; clear S
    obtain ⟨M_10, hM_10, hm_11, S⟩ := S0.freezeM
    clear S0
    replace h0 := h0.le hM_10
    have S0 := S; clear S
    obtain ⟨M_12, hM_12, hb_13, S⟩ := S0.freezeB
    clear S0
    replace h0 := h0.le hM_12
    replace hm_11 := hm_11.le hM_12
    refine S_v E rfl (R_ifaceP E rfl Tryz.underlying116) rfl ?_
    clear E a; intro a E
    refine S_v E rfl (R_assign E rfl) rfl ?_
    clear E a; intro a E
    refine WL_nil ?_
    refine T_n ?_
    refine WP_ret ?_
    exact F_ret1 E Tryz.results59 rfl ⟨_, rfl, M_12, (hM_1.trans (hM_5.trans (hM_10.trans hM_12))), ⟨_, rfl, ⟨_, _, (addsL [] (l0.take k)), rfl, hb_13, hm_11, (by first | assumption | exact addsL_nodup _ _ List.nodup_nil | exact addsL_nodup _ _ (addsL_nodup _ _ List.nodup_nil)), (by (intro x; rw [List.take_of_length_le (by omega)]; simp [mem_addsL]))⟩⟩, S⟩

set_option maxRecDepth 100000 in
set_option maxHeartbeats 4000000 in
theorem U_setOf {M : Hp} {v1 : Value} {l1 : List Int} (h1 : RdI M v1 l1)(hb : l1.length ≤ 1000000000) :
    Pu Tryz.prog (.func (.func 41) #[] #[]) M [.bool false, v1] (fun r M' => (∃ p, r = .iface 116 p ∧ RdSU 145 M' p l1)) := by
  refine Pu_enter Tryz.func41 rfl Tryz.ntmps41 rfl Tryz.call41 ?_
  intro a w M1 H hM1 S E
  replace h1 := h1.le hM1
  have b1 := h1.bound
  refine WP_seq ?_
  refine WP_region ?_
  refine S_v E rfl (R_assign E rfl) rfl ?_
  clear E a; intro a E
  refine WL_nil ?_
  refine T_n ?_
  refine WP_seq ?_
  refine WP_seq ?_
  refine WP_region ?_
  refine S_v E rfl (R_move E rfl) rfl ?_
  clear E a; intro a E
  refine WL_nil ?_
  refine T_n ?_
  refine WP_condF E rfl rfl ?_
  refine WP_skip ?_
  refine T_n ?_
  refine WP_seq ?_
  refine WP_region ?_
  refine S_v E rfl (R_move E rfl) rfl ?_
  clear E a; intro a E
  refine S_x (X_pu E S rfl rfl rfl (U_NewSet h1 (by first | assumption | omega)) (Hp.le.refl _) ?_)
  clear E a S; rintro a _ w M_1 hM_1 ⟨v_2, rfl, hv_2⟩ S E
  replace h1 := h1.le hM_1
  refine S_v E rfl (R_assign E rfl) rfl ?_
  clear E a; intro a E
  refine WL_nil ?_
  refine T_n ?_
  refine WP_ret ?_
  exact F_ret1 E Tryz.results41 rfl ⟨_, rfl, M_1, hM_1, ⟨_, rfl, hv_2⟩, S⟩

set_option maxRecDepth 100000 in
set_option maxHeartbeats 4000000 in
theorem U_twoSets {M : Hp} {v1 v2 : Value} {l1 l2 : List Int} (h1 : RdI M v1 l1) (h2 : RdI M v2 l2)(hb1 : l1.length ≤ 100000000) (hb2 : l2.length ≤ 100000000)  :
    Pu Tryz.prog (.func (.func 38) #[] #[]) M [.bool false, v1, v2] (fun r M' => ∃ t0 t1, r = .tuple #[t0, t1] ∧ (∃ p, t0 = .iface 116 p ∧ RdSU 145 M' p l1) ∧ (∃ p, t1 = .iface 116 p ∧ RdSU 145 M' p l2)) := by
  refine Pu_enter Tryz.func38 rfl Tryz.ntmps38 rfl Tryz.call38 ?_
  intro a w M1 H hM1 S E
  replace h1 := h1.le hM1
  replace h2 := h2.le hM1
  have b1 := h1.bound
  have b2 := h2.bound
  refine WP_seq ?_
  refine WP_region ?_
  refine S_v E rfl (R_assign E rfl) rfl ?_
  clear E a; intro a E
  refine S_v E rfl (R_assign E rfl) rfl ?_
  clear E a; intro a E
  refine WL_nil ?_
  refine T_n ?_
  refine WP_seq ?_
  refine WP_region ?_
  refine S_v E rfl (R_move E rfl) rfl ?_
  clear E a; intro a E
  refine S_v E rfl (R_move E rfl) rfl ?_
  clear E a; intro a E
  refine S_x (X_pu E S rfl rfl rfl (U_setOf h1 (by first | assumption | omega)) (Hp.le.refl _) ?_)
  clear E a S; rintro a _ w M_1 hM_1 ⟨v_2, rfl, hv_2⟩ S E
  replace h1 := h1.le hM_1
  replace h2 := h2.le hM_1
  refine S_v E rfl (R_move E rfl) rfl ?_
  clear E a; intro a E
  refine S_v E rfl (R_move E rfl) rfl ?_
  clear E a; intro a E
  refine S_x (X_pu E S rfl rfl rfl (U_setOf h2 (by first | assumption | omega)) (Hp.le.refl _) ?_)
  clear E a S; rintro a _ w M_3 hM_3 ⟨v_4, rfl, hv_4⟩ S E
  replace h1 := h1.le hM_3
  replace h2 := h2.le hM_3
  replace hv_2 := hv_2.le hM_3
  refine S_v E rfl (R_assign E rfl) rfl ?_
  clear E a; intro a E
  refine S_v E rfl (R_assign E rfl) rfl ?_
  clear E a; intro a E
  refine WL_nil ?_
  refine T_n ?_
  refine WP_ret ?_
  exact F_ret2 E Tryz.results38 rfl rfl ⟨_, rfl, M_3, (hM_1.trans hM_3), ⟨_, _, rfl, ⟨_, rfl, hv_2⟩, ⟨_, rfl, hv_4⟩⟩, S⟩

set_option maxRecDepth 100000 in
set_option maxHeartbeats 4000000 in
theorem U_Cardinality {M : Hp} {v0 : Value} {c0 : List Int} (h0 : RdSU 145 M v0 c0) (b0 : c0.length ≤ 1000000000)  :
    Pu Tryz.prog (.func (.func 205) #[] #[]) M [v0] (fun r M' => r = .int .i64 ((card c0 : Nat) : Int)) := by
  refine Pu_enter Tryz.func205 rfl Tryz.ntmps205 rfl Tryz.call205 ?_
  intro a w M1 H hM1 S E
  replace h0 := h0.le hM1
  refine WP_seq ?_
  refine WP_region ?_
  refine S_v E rfl (R_assign E rfl) rfl ?_
  clear E a; intro a E
  refine WL_nil ?_
  refine T_n ?_
  refine WP_seq ?_
  refine WP_region ?_
  refine S_v E rfl (R_move E rfl) rfl ?_
  clear E a; intro a E
  have hset := h0
  obtain ⟨sb0, sm0, sq0, se0, shb0, shm0, shn0, shq0⟩ := hset
  have shq0l : sq0.length ≤ c0.length := nodup_len shn0 fun z hz => (shq0 z).1 hz
  refine S_v E rfl (R_nilCheck E rfl se0) rfl ?_
  clear E a; intro a E
  refine S_v E rfl (R_loadM E (congrArg some se0) Tryz.isAgg145 S.imm (cellM_box shb0)) rfl ?_
  clear E a; intro a E
  refine S_v E rfl ((R_lenF S.imm shm0 E MT145 rfl).trans (by rw [encS_len])) rfl ?_
  clear E a; intro a E
  refine S_v E rfl (R_assign E rfl) rfl ?_
  clear E a; intro a E
  refine WL_nil ?_
  refine T_n ?_
  refine WP_ret ?_
  exact F_ret1 E Tryz.results205 rfl ⟨_, rfl, M1, (Hp.le.refl _), (congrArg (Value.int .i64) (by (congr 1; exact card_eq (by assumption) (by assumption)))), S⟩

set_option maxRecDepth 100000 in
set_option maxHeartbeats 4000000 in
theorem U_add {M : Hp} {b9 m9 : Nat} {l9 : List Int} {x0 : Int} :
    Sp Tryz.prog (.func (.func 206) #[] #[]) M [.pointer (some ⟨b9, 0, none⟩), .int .i64 x0] [blk b9 (.cells #[.map (some m9)] 145), OwnS m9 l9] (fun r M' C' => r = .tuple #[] ∧ C' = [blk b9 (.cells #[.map (some m9)] 145), OwnS m9 (addS l9 x0)]) := by
  refine Sp_enter Tryz.func206 rfl Tryz.ntmps206 rfl Tryz.call206 ?_
  intro a w M1 H hM1 S E
  replace S : St w M1 (blk b9 (.cells #[.map (some m9)] 145) :: OwnS m9 l9 :: _) := S
  refine WP_region ?_
  refine S_v E rfl (R_move E rfl) rfl ?_
  clear E a; intro a E
  refine S_v E rfl (R_nilCheck E rfl rfl) rfl ?_
  clear E a; intro a E
  refine S_v E rfl (R_load E rfl (Tryz.isAgg145 _) (cell_blk (S.mem (.head _)))) rfl ?_
  clear E a; intro a E
  refine S_v E rfl (R_move E rfl) rfl ?_
  clear E a; intro a E
  refine S_v E rfl (R_build (u := .agg #[]) (vs := []) E rfl (fun w => FB104__  w)) rfl ?_
  clear E a; intro a E
  replace S := S.front1
  refine S_x0 (X_updateS E S MT145 rfl rfl rfl ?_)
  clear E a S; rintro a w E S
  refine WL_nil ?_
  refine F_nrm ?_
  replace S := S.front1
  exact F_ret0 E Tryz.results206 ⟨_, rfl, M1, _, (Hp.le.refl _), ⟨rfl, rfl⟩, S⟩

set_option maxRecDepth 100000 in
set_option maxHeartbeats 4000000 in
theorem U_Union {M : Hp} {m0 : Value} {q0 c0 : List Int} (hm0 : RdM M m0 (Sl.encS q0)) (hn0 : q0.Nodup) (hq0 : ∀ x, x ∈ q0 ↔ x ∈ c0) {v1 : Value} {c1 : List Int} (h1 : RdSU 145 M v1 c1) (b0 : c0.length ≤ 1000000000) (b1 : c1.length ≤ 1000000000)  :
    Pu Tryz.prog (.func (.func 202) #[] #[]) M [m0, .iface 116 v1] (fun r M' => (∃ p, r = .iface 116 p ∧ RdSU 145 M' p (c0 ++ c1))) := by
  refine Pu_enter Tryz.func202 rfl Tryz.ntmps202 rfl Tryz.call202 ?_
  intro a w M1 H hM1 S E
  replace hm0 := hm0.le hM1
  replace h1 := h1.le hM1
  have hql0 : q0.length ≤ c0.length := nodup_len hn0 fun z hz => (hq0 z).1 hz
  have hcl0 := card_le c0
  have hcl1 := card_le c1
  refine WP_seq ?_
  refine WP_region ?_
  refine S_x (X_box (cs := #[m0]) E S rfl rfl (cells_one (RdM.one' hm0)) ?_)
  clear E a S; rintro a w b_1 E S
  obtain ⟨M_2, hM_2, hb_1, S⟩ := S.freezeB
  replace hm0 := hm0.le hM_2
  replace h1 := h1.le hM_2
  refine S_v E rfl (R_assign E rfl) rfl ?_
  clear E a; intro a E
  refine WL_nil ?_
  refine T_n ?_
  refine WP_seq ?_
  refine WP_region ?_
  refine S_v E rfl (R_move E rfl) rfl ?_
  clear E a; intro a E
  refine S_v E rfl (R_assert E rfl Tryz.underlying116 (by intro z hz; cases hz)) rfl ?_
  clear E a; intro a E
  refine S_v E rfl (R_assign E rfl) rfl ?_
  clear E a; intro a E
  refine WL_nil ?_
  refine T_n ?_
  refine WP_seq ?_
  refine WP_region ?_
  refine S_x (X_pu E S rfl rfl rfl (U_Cardinality (⟨_, _, _, rfl, hb_1, hm0, hn0, hq0⟩ : RdSU 145 M_2 (.pointer (some ⟨b_1, 0, none⟩)) c0) (by first | assumption | omega)) (Hp.le.refl _) ?_)
  clear E a S; rintro a _ w M_3 hM_3 rfl S E
  replace hm0 := hm0.le hM_3
  replace h1 := h1.le hM_3
  replace hb_1 := hM_3.2 _ _ hb_1
  refine S_v E rfl (R_move E rfl) rfl ?_
  clear E a; intro a E
  refine S_x (X_pu E S rfl rfl rfl (U_Cardinality h1 (by first | assumption | omega)) (Hp.le.refl _) ?_)
  clear E a S; rintro a _ w M_4 hM_4 rfl S E
  replace hm0 := hm0.le hM_4
  replace h1 := h1.le hM_4
  replace hb_1 := hM_4.2 _ _ hb_1
  refine S_v E rfl (R_addx (m := ((card c0 + card c1 : Nat) : Int)) E rfl rfl (by omega) (by omega)) rfl ?_
  clear E a; intro a E
  refine S_v E rfl (R_assign E rfl) rfl ?_
  clear E a; intro a E
  refine WL_nil ?_
  refine T_n ?_
  refine WP_seq ?_
  refine WP_region ?_
  refine S_v E rfl (R_move E rfl) rfl ?_
  clear E a; intro a E
  refine S_x (X_makeMapR E S rfl MT145 rfl ?_)
  clear E a S; rintro a w b_5 E S
  replace S : St w M_4 (OwnS b_5 ([] : List Int) :: _) := S
  refine S_x (X_alloc (cs := #[.map none]) E S rfl Tryz.zeroValue145 rfl ?_)
  clear E a S; rintro a w b_6 E S
  refine S_x0 (X_store E S rfl rfl (Tryz.sizeOf145 _) rfl ?_)
  clear E a S; rintro a w E S
  refine WL_nil ?_
  refine T_n ?_
  refine WP_seq ?_
  refine WP_seq ?_
  refine WP_region ?_
  refine S_v E rfl (R_loadM E rfl Tryz.isAgg145 S.imm (cellM_box hb_1)) rfl ?_
  clear E a; intro a E
  refine S_x (X_range E S rfl MT145 hm0 rfl ?_)
  clear E a S; rintro a w i_7 es_8 ck_9 E hf_10 S
  replace S : St w M_4 (ItO m0 es_8 ck_9 i_7 (Sl.encS ([] : List Int)) :: _) := S
  refine WL_nil ?_
  refine T_n ?_
  refine WP_block ?_
  replace S := S.front2
  replace S := S.front1
  replace S := S.front1
  replace S := S.reM (L' := (Sl.encS (addsL [] []))) (congrArg Sl.encS (show ([] : List Int) = (addsL [] []) by (first | rfl | (simp [addsL_snoc]; done) | (simp [addsL_snoc, List.filter_append, *]; done))))
  replace S := S.front1
  replace S := S.reIt (p' := (Sl.encS [])) (congrArg Sl.encS (show ([] : List Int) = [] by (first | rfl | (simp [addsL_snoc]; done) | (simp [addsL_snoc, List.filter_append, *]; done))))
  refine WP_loop (γ := List Int) (fun (p : List Int) a w => ∃ (M_11 : Hp), Hp.le M_4 M_11 ∧ St w M_11 (ItO m0 es_8 ck_9 i_7 (Sl.encS p) :: OwnS b_5 (addsL [] p) :: blk b_6 (.cells #[.map (some b_5)] 145) :: H) ∧ Env a 37 [] [(5, v1), (7, .pointer (some ⟨b_6, 0, none⟩)), (19, .pointer (some ⟨i_7, 0, none⟩))] ∧ (p.Nodup) ∧ (∀ z ∈ p, z ∈ q0) ∧ (p.length ≤ q0.length)) (fun p => q0.length - p.length) [] ⟨M_4, Hp.le.refl _, S, E.keep ⟨rfl, rfl, rfl, trivial⟩, (by simp), (by simp), (by simp)⟩ ?_
  try clear E
  try clear S
  try clear a
  try clear w
  rintro p a w ⟨M_11, hM_11, S, E, hL0_0, hL0_1, hL0_2⟩
  replace hm0 := hm0.le hM_11
  replace h1 := h1.le hM_11
  replace hb_1 := hM_11.2 _ _ hb_1
  replace hf_10 := hf_10.le hM_11
  refine WP_seq ?_
  refine WP_region ?_
  refine S_x (X_nextS E S rfl hf_10 rfl (by assumption) (by assumption) ?_ ?_)
  · clear E a S; rintro a E hpm_12 S
    refine S_v E rfl (R_extract E rfl rfl) rfl ?_
    clear E a; intro a E
    refine WL_nil ?_
    refine T_n ?_
    refine WP_seq ?_
    refine WP_condF E rfl rfl ?_
    refine WP_exit ?_
    refine T_x ?_
    refine T_x ?_
    refine B_x ?_
    refine T_n ?_
    refine WP_seq ?_
    refine WP_seq ?_
    refine WP_region ?_
    refine S_v E rfl (R_move E rfl) rfl ?_
    clear E a; intro a E
    have hset := h1
    obtain ⟨sb1, sm1, sq1, se1, shb1, shm1, shn1, shq1⟩ := hset
    have shq1l : sq1.length ≤ c1.length := nodup_len shn1 fun z hz => (shq1 z).1 hz
    refine S_v E rfl (R_nilCheck E rfl se1) rfl ?_
    clear E a; intro a E
    refine S_v E rfl (R_loadM E (congrArg some se1) Tryz.isAgg145 S.imm (cellM_box shb1)) rfl ?_
    clear E a; intro a E
    refine S_x (X_range E S rfl MT145 shm1 rfl ?_)
    clear E a S; rintro a w i_13 es_14 ck_15 E hf_16 S
    replace S : St w M_11 (ItO sm1 es_14 ck_15 i_13 (Sl.encS ([] : List Int)) :: _) := S
    refine WL_nil ?_
    refine T_n ?_
    refine WP_block ?_
    replace S := S.front2
    replace S := S.front1
    replace S := S.front1
    replace S := S.reM (L' := (Sl.encS (addsL (addsL [] p) []))) (congrArg Sl.encS (show (addsL [] p) = (addsL (addsL [] p) []) by (first | rfl | (simp [addsL_snoc]; done) | (simp [addsL_snoc, List.filter_append, *]; done))))
    replace S := S.front1
    replace S := S.reIt (p' := (Sl.encS [])) (congrArg Sl.encS (show ([] : List Int) = [] by (first | rfl | (simp [addsL_snoc]; done) | (simp [addsL_snoc, List.filter_append, *]; done))))
    refine WP_loop (γ := List Int) (fun (r : List Int) a w => ∃ (M_17 : Hp), Hp.le M_11 M_17 ∧ St w M_17 (ItO sm1 es_14 ck_15 i_13 (Sl.encS r) :: OwnS b_5 (addsL (addsL [] p) r) :: ItO m0 es_8 ck_9 i_7 (Sl.encS p) :: blk b_6 (.cells #[.map (some b_5)] 145) :: H) ∧ Env a 37 [] [(7, .pointer (some ⟨b_6, 0, none⟩)), (29, .pointer (some ⟨i_13, 0, none⟩))] ∧ (r.Nodup) ∧ (∀ z ∈ r, z ∈ sq1) ∧ (r.length ≤ sq1.length)) (fun r => sq1.length - r.length) [] ⟨M_11, Hp.le.refl _, S, E.keep ⟨rfl, rfl, trivial⟩, (by simp), (by simp), (by simp)⟩ ?_
    try clear E
    try clear S
    try clear a
    try clear w
    rintro r a w ⟨M_17, hM_17, S, E, hL1_0, hL1_1, hL1_2⟩
    replace hm0 := hm0.le hM_17
    replace h1 := h1.le hM_17
    replace hb_1 := hM_17.2 _ _ hb_1
    replace hf_10 := hf_10.le hM_17
    replace shb1 := hM_17.2 _ _ shb1
    replace shm1 := shm1.le hM_17
    replace hf_16 := hf_16.le hM_17
    refine WP_seq ?_
    refine WP_region ?_
    refine S_x (X_nextS E S rfl hf_16 rfl (by assumption) (by assumption) ?_ ?_)
    · clear E a S; rintro a E hpm_18 S
      refine S_v E rfl (R_extract E rfl rfl) rfl ?_
      clear E a; intro a E
      refine WL_nil ?_
      refine T_n ?_
      refine WP_seq ?_
      refine WP_condF E rfl rfl ?_
      refine WP_exit ?_
      refine T_x ?_
      refine T_x ?_
      refine B_x ?_
      refine T_n ?_
      refine WP_seq ?_
      refine WP_region ?_
      replace S := S.front1
      have S0 := S; clear S
      obtain ⟨M_19, hM_19, hm_20, S⟩ := S0.freezeM
      clear S0
      replace hm0 := hm0.le hM_19
      replace h1 := h1.le hM_19
      replace hb_1 := hM_19.2 _ _ hb_1
      replace hf_10 := hf_10.le hM_19
      replace shb1 := hM_19.2 _ _ shb1
      replace shm1 := shm1.le hM_19
      replace hf_16 := hf_16.le hM_19
      replace S := S.front2
      have S0 := S; clear S
      obtain ⟨M_21, hM_21, hb_22, S⟩ := S0.freezeB
      clear S0
      replace hm0 := hm0.le hM_21
      replace h1 := h1.le hM_21
      replace hb_1 := hM_21.2 _ _ hb_1
      replace hf_10 := hf_10.le hM_21
      replace shb1 := hM_21.2 _ _ shb1
      replace shm1 := shm1.le hM_21
      replace hf_16 := hf_16.le hM_21
      replace hm_20 := hm_20.le hM_21
      refine S_v E rfl (R_ifaceP E rfl Tryz.underlying116) rfl ?_
      clear E a; intro a E
      refine S_v E rfl (R_assign E rfl) rfl ?_
      clear E a; intro a E
      refine WL_nil ?_
      refine T_n ?_
      refine WP_ret ?_
      exact F_ret1 E Tryz.results202 rfl ⟨_, rfl, M_21, (hM_2.trans (hM_3.trans (hM_4.trans (hM_11.trans (hM_17.trans (hM_19.trans hM_21)))))), ⟨_, rfl, ⟨_, _, (addsL (addsL [] p) r), rfl, hb_22, hm_20, (by first | assumption | exact addsL_nodup _ _ List.nodup_nil | exact addsL_nodup _ _ (addsL_nodup _ _ List.nodup_nil)), (by (intro x; have ep := (List.Perm.mem_iff (a := x) (show p.Perm q0 by first | assumption | (exact List.Perm.symm (by assumption)))).trans (hq0 x); have er := (List.Perm.mem_iff (a := x) (show r.Perm sq1 by first | assumption | (exact List.Perm.symm (by assumption)))).trans (shq1 x); simp only [mem_addsL, List.not_mem_nil, false_or, List.mem_append, List.mem_filter, decide_eq_true_eq, List.nil_append]; simp only [ep, er]))⟩⟩, S.drop.drop⟩
    · clear E a S w; rintro a w k_23 E hk_24 hk_24n hk_24l S
      refine S_v E rfl (R_extract E rfl rfl) rfl ?_
      clear E a; intro a E
      refine WL_nil ?_
      refine T_n ?_
      refine WP_seq ?_
      refine WP_condT E rfl rfl ?_
      refine WP_skip ?_
      refine T_n ?_
      refine WP_block ?_
      refine WP_seq ?_
      refine WP_region ?_
      refine S_v E rfl (R_entry (k := k_23) (v := .agg #[]) E (by have S1 := S; simp only [Sl.encS, List.map_append, List.map_cons, List.map_nil] at S1; exact S1) hf_16 rfl) rfl ?_
      clear E a; intro a E
      refine S_v E rfl (R_extract E rfl rfl) rfl ?_
      clear E a; intro a E
      refine S_v E rfl (R_assign E rfl) rfl ?_
      clear E a; intro a E
      refine WL_nil ?_
      refine T_n ?_
      refine WP_region ?_
      refine S_v E rfl (R_move E rfl) rfl ?_
      clear E a; intro a E
      replace S := S.front1
      replace S := S.front3
      refine S_x (X_sp (p := [blk b_6 (.cells #[.map (some b_5)] 145), OwnS b_5 (addsL (addsL [] p) r)]) E S rfl rfl rfl (U_add) (Hp.le.refl _) ?_)
      clear E a S; rintro a _ w M_25 _ hM_25 ⟨rfl, rfl⟩ S E
      replace S : St w M_25 (blk b_6 (.cells #[.map (some b_5)] 145) :: OwnS b_5 (addS (addsL (addsL [] p) r) k_23) :: ItO sm1 es_14 ck_15 i_13 (Sl.encS (r ++ [k_23])) :: ItO m0 es_8 ck_9 i_7 (Sl.encS p) :: H) := S
      replace hm0 := hm0.le hM_25
      replace h1 := h1.le hM_25
      replace hb_1 := hM_25.2 _ _ hb_1
      replace hf_10 := hf_10.le hM_25
      replace shb1 := hM_25.2 _ _ shb1
      replace shm1 := shm1.le hM_25
      replace hf_16 := hf_16.le hM_25
      refine WL_nil ?_
      refine B_n ?_
      refine T_n ?_
      replace S := S.front3
      replace S := S.front2
      replace S := S.front3
      replace S := S.front1
      replace S := S.reM (L' := (Sl.encS (addsL (addsL [] p) (r ++ [k_23])))) (congrArg Sl.encS (show addS (addsL (addsL [] p) r) k_23 = (addsL (addsL [] p) (r ++ [k_23])) by (first | rfl | (simp [addsL_snoc]; done) | (simp [addsL_snoc, List.filter_append, *]; done))))
      replace S := S.front1
      replace S := S.reIt (p' := (Sl.encS (r ++ [k_23]))) (congrArg Sl.encS (show r ++ [k_23] = (r ++ [k_23]) by (first | rfl | (simp [addsL_snoc]; done) | (simp [addsL_snoc, List.filter_append, *]; done))))
      exact ⟨(r ++ [k_23]), ⟨M_25, (hM_17.trans hM_25), S, E.keep ⟨rfl, rfl, trivial⟩, (by exact snocN (by assumption) (by assumption)), (by exact snocS (by assumption) (by assumption)), (by simp; omega)⟩, (by simp; omega)⟩
  · clear E a S w; rintro a w k_26 E hk_27 hk_27n hk_27l S
    refine S_v E rfl (R_extract E rfl rfl) rfl ?_
    clear E a; intro a E
    refine WL_nil ?_
    refine T_n ?_
    refine WP_seq ?_
    refine WP_condT E rfl rfl ?_
    refine WP_skip ?_
    refine T_n ?_
    refine WP_block ?_
    refine WP_seq ?_
    refine WP_region ?_
    refine S_v E rfl (R_entry (k := k_26) (v := .agg #[]) E (by have S1 := S; simp only [Sl.encS, List.map_append, List.map_cons, List.map_nil] at S1; exact S1) hf_10 rfl) rfl ?_
    clear E a; intro a E
    refine S_v E rfl (R_extract E rfl rfl) rfl ?_
    clear E a; intro a E
    refine S_v E rfl (R_assign E rfl) rfl ?_
    clear E a; intro a E
    refine WL_nil ?_
    refine T_n ?_
    refine WP_region ?_
    refine S_v E rfl (R_move E rfl) rfl ?_
    clear E a; intro a E
    replace S := S.front1
    replace S := S.front2
    refine S_x (X_sp (p := [blk b_6 (.cells #[.map (some b_5)] 145), OwnS b_5 (addsL [] p)]) E S rfl rfl rfl (U_add) (Hp.le.refl _) ?_)
    clear E a S; rintro a _ w M_28 _ hM_28 ⟨rfl, rfl⟩ S E
    replace S : St w M_28 (blk b_6 (.cells #[.map (some b_5)] 145) :: OwnS b_5 (addS (addsL [] p) k_26) :: ItO m0 es_8 ck_9 i_7 (Sl.encS (p ++ [k_26])) :: H) := S
    replace hm0 := hm0.le hM_28
    replace h1 := h1.le hM_28
    replace hb_1 := hM_28.2 _ _ hb_1
    replace hf_10 := hf_10.le hM_28
    refine WL_nil ?_
    refine B_n ?_
    refine T_n ?_
    replace S := S.front1
    replace S := S.front2
    replace S := S.front1
    replace S := S.reM (L' := (Sl.encS (addsL [] (p ++ [k_26])))) (congrArg Sl.encS (show addS (addsL [] p) k_26 = (addsL [] (p ++ [k_26])) by (first | rfl | (simp [addsL_snoc]; done) | (simp [addsL_snoc, List.filter_append, *]; done))))
    replace S := S.front1
    replace S := S.reIt (p' := (Sl.encS (p ++ [k_26]))) (congrArg Sl.encS (show p ++ [k_26] = (p ++ [k_26]) by (first | rfl | (simp [addsL_snoc]; done) | (simp [addsL_snoc, List.filter_append, *]; done))))
    exact ⟨(p ++ [k_26]), ⟨M_28, (hM_11.trans hM_28), S, E.keep ⟨rfl, rfl, rfl, trivial⟩, (by exact snocN (by assumption) (by assumption)), (by exact snocS (by assumption) (by assumption)), (by simp; omega)⟩, (by simp; omega)⟩

set_option maxRecDepth 100000 in
set_option maxHeartbeats 4000000 in
theorem U_ToSlice {M : Hp} {m0 : Value} {q0 c0 : List Int} (hm0 : RdM M m0 (Sl.encS q0)) (hn0 : q0.Nodup) (hq0 : ∀ x, x ∈ q0 ↔ x ∈ c0) (b0 : c0.length ≤ 1000000000)  :
    Sp Tryz.prog (.func (.func 213) #[] #[]) M [m0] [] (fun r M' C' => ∃ l, C' = [OwnI 3 r l] ∧ l.Nodup ∧ ∀ x, x ∈ l ↔ x ∈ c0) := by
  refine Sp_enter Tryz.func213 rfl Tryz.ntmps213 rfl Tryz.call213 ?_
  intro a w M1 H hM1 S E
  replace hm0 := hm0.le hM1
  have hql0 : q0.length ≤ c0.length := nodup_len hn0 fun z hz => (hq0 z).1 hz
  have hcl0 := card_le c0
  refine WP_seq ?_
  refine WP_region ?_
  refine S_x (X_box (cs := #[m0]) E S rfl rfl (cells_one (RdM.one' hm0)) ?_)
  clear E a S; rintro a w b_1 E S
  obtain ⟨M_2, hM_2, hb_1, S⟩ := S.freezeB
  replace hm0 := hm0.le hM_2
  refine S_v E rfl (R_assign E rfl) rfl ?_
  clear E a; intro a E
  refine WL_nil ?_
  refine T_n ?_
  refine WP_seq ?_
  refine WP_region ?_
  refine S_x (X_pu E S rfl rfl rfl (U_Cardinality (⟨_, _, _, rfl, hb_1, hm0, hn0, hq0⟩ : RdSU 145 M_2 (.pointer (some ⟨b_1, 0, none⟩)) c0) (by first | assumption | omega)) (Hp.le.refl _) ?_)
  clear E a S; rintro a _ w M_3 hM_3 rfl S E
  replace hm0 := hm0.le hM_3
  replace hb_1 := hM_3.2 _ _ hb_1
  refine S_x (X_make0 (k := card c0) E S rfl rfl rfl T22 rfl (by omega) (by omega) (by omega) ?_)
  clear E a S; rintro a w v_4 E S
  replace S := S.made0
  refine S_v E rfl (R_assign E rfl) rfl ?_
  clear E a; intro a E
  refine WL_nil ?_
  refine T_n ?_
  refine WP_seq ?_
  refine WP_seq ?_
  refine WP_region ?_
  refine S_v E rfl (R_loadM E rfl Tryz.isAgg145 S.imm (cellM_box hb_1)) rfl ?_
  clear E a; intro a E
  refine S_x (X_range E S rfl MT145 hm0 rfl ?_)
  clear E a S; rintro a w i_5 es_6 ck_7 E hf_8 S
  replace S : St w M_3 (ItO m0 es_6 ck_7 i_5 (Sl.encS ([] : List Int)) :: _) := S
  refine WL_nil ?_
  refine T_n ?_
  refine WP_block ?_
  replace S := S.front1
  replace S := S.front1
  replace S := S.front1
  replace S := S.re1 (l' := []) (by (first | rfl | (simp [addsL_snoc]; done) | (simp [addsL_snoc, List.filter_append, *]; done)))
  replace S := S.front1
  replace S := S.reIt (p' := (Sl.encS [])) (congrArg Sl.encS (show ([] : List Int) = [] by (first | rfl | (simp [addsL_snoc]; done) | (simp [addsL_snoc, List.filter_append, *]; done))))
  refine WP_loop (γ := List Int) (fun (p : List Int) a w => ∃ (M_9 : Hp) (u3 : Value), Hp.le M_3 M_9 ∧ St w M_9 (ItO m0 es_6 ck_7 i_5 (Sl.encS p) :: OwnI 3 u3 p :: H) ∧ Env a 18 [] [(3, u3), (8, .pointer (some ⟨i_5, 0, none⟩))] ∧ (p.Nodup) ∧ (∀ z ∈ p, z ∈ q0) ∧ (p.length ≤ q0.length)) (fun p => q0.length - p.length) [] ⟨M_3, _, Hp.le.refl _, S, E.keep ⟨rfl, rfl, trivial⟩, (by simp), (by simp), (by simp)⟩ ?_
  try clear E
  try clear S
  try clear a
  try clear w
  rintro p a w ⟨M_9, u3, hM_9, S, E, hL0_0, hL0_1, hL0_2⟩
  replace hm0 := hm0.le hM_9
  replace hb_1 := hM_9.2 _ _ hb_1
  replace hf_8 := hf_8.le hM_9
  refine WP_seq ?_
  refine WP_region ?_
  refine S_x (X_nextS E S rfl hf_8 rfl (by assumption) (by assumption) ?_ ?_)
  · clear E a S; rintro a E hpm_10 S
    refine S_v E rfl (R_extract E rfl rfl) rfl ?_
    clear E a; intro a E
    refine WL_nil ?_
    refine T_n ?_
    refine WP_seq ?_
    refine WP_condF E rfl rfl ?_
    refine WP_exit ?_
    refine T_x ?_
    refine T_x ?_
    refine B_x ?_
    refine T_n ?_
    refine WP_seq ?_
    refine WP_region ?_
    refine S_v E rfl (R_move E rfl) rfl ?_
    clear E a; intro a E
    refine S_v E rfl (R_assign E rfl) rfl ?_
    clear E a; intro a E
    refine WL_nil ?_
    refine T_n ?_
    refine WP_ret ?_
    replace S := S.drop
    exact F_ret1 E Tryz.results213 rfl ⟨_, rfl, M_9, _, (hM_2.trans (hM_3.trans hM_9)), ⟨_, rfl, (by assumption), (by (intro x; exact (List.Perm.mem_iff (by first | assumption | (exact List.Perm.symm (by assumption)))).trans (hq0 x)))⟩, S⟩
  · clear E a S w; rintro a w k_11 E hk_12 hk_12n hk_12l S
    refine S_v E rfl (R_extract E rfl rfl) rfl ?_
    clear E a; intro a E
    refine WL_nil ?_
    refine T_n ?_
    refine WP_seq ?_
    refine WP_condT E rfl rfl ?_
    refine WP_skip ?_
    refine T_n ?_
    refine WP_block ?_
    refine WP_seq ?_
    refine WP_region ?_
    refine S_v E rfl (R_entry (k := k_11) (v := .agg #[]) E (by have S1 := S; simp only [Sl.encS, List.map_append, List.map_cons, List.map_nil] at S1; exact S1) hf_8 rfl) rfl ?_
    clear E a; intro a E
    refine S_v E rfl (R_extract E rfl rfl) rfl ?_
    clear E a; intro a E
    refine S_v E rfl (R_assign E rfl) rfl ?_
    clear E a; intro a E
    refine WL_nil ?_
    refine T_n ?_
    refine WP_region ?_
    refine S_v E rfl (R_move E rfl) rfl ?_
    clear E a; intro a E
    refine S_v E rfl (R_move E rfl) rfl ?_
    clear E a; intro a E
    refine S_x (X_buildI (ys := [k_11]) E S rfl T22 rfl rfl rfl ?_)
    clear E a S; rintro a w v_13 E S
    replace S := S.front2
    replace S := S.front1
    refine S_x (X_appendB (xs := p) (ys := [k_11]) E S rfl rfl rfl T22 (by (simp; omega)) ?_)
    clear E a S; rintro a w v_14 E S
    refine S_v E rfl (R_assign E rfl) rfl ?_
    clear E a; intro a E
    refine WL_nil ?_
    refine B_n ?_
    refine T_n ?_
    replace S := S.front1
    replace S := S.front1
    replace S := S.re1 (l' := (p ++ [k_11])) (by (first | rfl | (simp [addsL_snoc]; done) | (simp [addsL_snoc, List.filter_append, *]; done)))
    replace S := S.front1
    replace S := S.reIt (p' := (Sl.encS (p ++ [k_11]))) (congrArg Sl.encS (show p ++ [k_11] = (p ++ [k_11]) by (first | rfl | (simp [addsL_snoc]; done) | (simp [addsL_snoc, List.filter_append, *]; done))))
    exact ⟨(p ++ [k_11]), ⟨M_9, _, hM_9, S, E.keep ⟨rfl, rfl, trivial⟩, (by exact snocN (by assumption) (by assumption)), (by exact snocS (by assumption) (by assumption)), (by simp; omega)⟩, (by simp; omega)⟩

set_option maxRecDepth 100000 in
set_option maxHeartbeats 4000000 in
def Tryz.lsort_ren : Go.Shelf.Ren := ⟨fun | 5 => 57 | 8 => 82 | 7 => 81 | 19 => 104 | 20 => 105 | 10 => 95 | 11 => 96 | 12 => 97 | 13 => 98 | 14 => 99 | 15 => 100 | 16 => 101 | 17 => 102 | 18 => 103 | 30 => 112 | 31 => 113 | 32 => 114 | 33 => 115 | 34 => 116 | 35 => 117 | 40 => 131 | n => n, fun | 23 => 22 | 25 => 3 | 3 => 3 | 32 => 113 | 22 => 22 | 0 => 0 | 44 => 130 | 46 => 132 | 4 => 4 | 36 => 123 | 35 => 122 | 41 => 93 | 5 => 5 | 9 => 9 | 53 => 148 | 57 => 152 | 63 => 162 | 64 => 163 | n => n, fun | n => n⟩
set_option maxRecDepth 100000 in
set_option maxHeartbeats 4000000 in
theorem Tryz.lsort : Go.Proofs.SlLaysM.n5 Tryz.prog Tryz.lsort_ren := {
  mixed := by kernel_rfl,
  f5 := ⟨Tryz.f57.name, by decide, Tryz.func57.trans (congrArg some (by kernel_rfl))⟩,
  f7 := ⟨Tryz.f81.name, by decide, Tryz.func81.trans (congrArg some (by kernel_rfl))⟩,
  f8 := Tryz.func82.trans (congrArg some (by kernel_rfl)),
  f10 := ⟨Tryz.f95.name, by decide, Tryz.func95.trans (congrArg some (by kernel_rfl))⟩,
  f11 := ⟨Tryz.f96.name, by decide, Tryz.func96.trans (congrArg some (by kernel_rfl))⟩,
  f12 := ⟨Tryz.f97.name, by decide, Tryz.func97.trans (congrArg some (by kernel_rfl))⟩,
  f13 := ⟨Tryz.f98.name, by decide, Tryz.func98.trans (congrArg some (by kernel_rfl))⟩,
  f14 := ⟨Tryz.f99.name, by decide, Tryz.func99.trans (congrArg some (by kernel_rfl))⟩,
  f15 := ⟨Tryz.f100.name, by decide, Tryz.func100.trans (congrArg some (by kernel_rfl))⟩,
  f16 := ⟨Tryz.f101.name, by decide, Tryz.func101.trans (congrArg some (by kernel_rfl))⟩,
  f17 := ⟨Tryz.f102.name, by decide, Tryz.func102.trans (congrArg some (by kernel_rfl))⟩,
  f18 := ⟨Tryz.f103.name, by decide, Tryz.func103.trans (congrArg some (by kernel_rfl))⟩,
  f19 := Tryz.func104.trans (congrArg some (by kernel_rfl)),
  f20 := Tryz.func105.trans (congrArg some (by kernel_rfl)),
  f30 := ⟨Tryz.f112.name, by decide, Tryz.func112.trans (congrArg some (by kernel_rfl))⟩,
  f31 := Tryz.func113.trans (congrArg some (by kernel_rfl)),
  f32 := Tryz.func114.trans (congrArg some (by kernel_rfl)),
  f33 := ⟨Tryz.f115.name, by decide, Tryz.func115.trans (congrArg some (by kernel_rfl))⟩,
  f34 := ⟨Tryz.f116.name, by decide, Tryz.func116.trans (congrArg some (by kernel_rfl))⟩,
  f35 := ⟨Tryz.f117.name, by decide, Tryz.func117.trans (congrArg some (by kernel_rfl))⟩,
  f40 := ⟨Tryz.f131.name, by decide, Tryz.func131.trans (congrArg some (by kernel_rfl))⟩,
  t0 := Tryz.underlying0,
  a0 := Tryz.isAgg0,
  z0 := Tryz.sizeOf0,
  v0 := Tryz.zeroValue0,
  t3 := Tryz.underlying3,
  a3 := Tryz.isAgg3,
  z3 := Tryz.sizeOf3,
  v3 := Tryz.zeroValue3,
  t4 := Tryz.underlying4,
  a4 := Tryz.isAgg4,
  z4 := Tryz.sizeOf4,
  v4 := Tryz.zeroValue4,
  t5 := Tryz.underlying5,
  a5 := Tryz.isAgg5,
  z5 := Tryz.sizeOf5,
  v5 := Tryz.zeroValue5,
  t9 := Tryz.underlying9,
  a9 := Tryz.isAgg9,
  z9 := Tryz.sizeOf9,
  v9 := Tryz.zeroValue9,
  t22 := Tryz.underlying22,
  a22 := Tryz.isAgg22,
  z22 := Tryz.sizeOf22,
  v22 := Tryz.zeroValue22,
  t23 := Tryz.underlying22,
  a23 := Tryz.isAgg22,
  z23 := Tryz.sizeOf22,
  v23 := Tryz.zeroValue22,
  t25 := Tryz.underlying3,
  a25 := Tryz.isAgg3,
  z25 := Tryz.sizeOf3,
  v25 := Tryz.zeroValue3,
  t32 := Tryz.underlying113,
  a32 := Tryz.isAgg113,
  z32 := Tryz.sizeOf113,
  v32 := Tryz.zeroValue113,
  t35 := Tryz.underlying122,
  a35 := Tryz.isAgg122,
  z35 := Tryz.sizeOf122,
  v35 := Tryz.zeroValue122,
  t36 := Tryz.underlying123,
  a36 := Tryz.isAgg123,
  z36 := Tryz.sizeOf123,
  v36 := Tryz.zeroValue123,
  t41 := Tryz.underlying93,
  a41 := Tryz.isAgg93,
  z41 := Tryz.sizeOf93,
  v41 := Tryz.zeroValue93,
  t44 := Tryz.underlying130,
  a44 := Tryz.isAgg130,
  z44 := Tryz.sizeOf130,
  v44 := Tryz.zeroValue130,
  t46 := Tryz.underlying132,
  a46 := Tryz.isAgg132,
  z46 := Tryz.sizeOf132,
  v46 := Tryz.zeroValue132,
  t53 := Tryz.underlying148,
  a53 := Tryz.isAgg148,
  z53 := Tryz.sizeOf148,
  v53 := Tryz.zeroValue148,
  t57 := Tryz.underlying152,
  a57 := Tryz.isAgg152,
  z57 := Tryz.sizeOf152,
  v57 := Tryz.zeroValue152,
  t63 := Tryz.underlying162,
  a63 := Tryz.isAgg162,
  z63 := Tryz.sizeOf162,
  v63 := Tryz.zeroValue162,
  t64 := Tryz.underlying163,
  a64 := Tryz.isAgg163,
  z64 := Tryz.sizeOf163,
  v64 := Tryz.zeroValue163 }
theorem slices_Sort {M : Hp} {v0 : Value} {l0 : List Int} (b0 : l0.length ≤ 1000000000000) :
    Sp Tryz.prog (.func (.func 57) #[] #[]) M [v0] [OwnI 3 v0 l0] (fun r M' C' => C' = [OwnI 3 v0 (srtM l0)]) :=
  sort_sp Tryz.call57 (fun blk off cap zs w a b c => AnyM.slices_Sort_int Tryz.lsort blk off cap zs w a b c) (fun p cap w => AnyM.slices_Sort_int_none Tryz.lsort p cap w) b0

set_option maxRecDepth 100000 in
set_option maxHeartbeats 4000000 in
theorem U_Sorted {M : Hp} {v0 : Value} {c0 : List Int} (h0 : RdSU 145 M v0 c0) (b0 : c0.length ≤ 1000000000)  :
    Pu Tryz.prog (.func (.func 39) #[] #[]) M [.iface 116 v0] (fun r M' => RdI M' r (suL c0)) := by
  refine Pu_enter Tryz.func39 rfl Tryz.ntmps39 rfl Tryz.call39 ?_
  intro a w M1 H hM1 S E
  replace h0 := h0.le hM1
  refine WP_seq ?_
  refine WP_region ?_
  refine S_v E rfl (R_assign E rfl) rfl ?_
  clear E a; intro a E
  refine WL_nil ?_
  refine T_n ?_
  refine WP_seq ?_
  refine WP_region ?_
  refine S_v E rfl (R_move E rfl) rfl ?_
  clear E a; intro a E
  have hset := h0
  obtain ⟨sb0, sm0, sq0, se0, shb0, shm0, shn0, shq0⟩ := hset
  have shq0l : sq0.length ≤ c0.length := nodup_len shn0 fun z hz => (shq0 z).1 hz
  refine S_x (X_spI (p := []) E S rfl rfl rfl (meth_116_ToSlice se0 (cellM_world S.imm (cellM_box shb0))) Tryz.call213 (U_ToSlice shm0 shn0 shq0 (by first | assumption | omega)) (Hp.le.refl _) ?_)
  clear E a S; rintro a v_2 w M_1 _ hM_1 ⟨l_3, rfl, hl_3n, hl_3m⟩ S E
  have hl_3l : l_3.length ≤ c0.length := nodup_len hl_3n fun z hz => (hl_3m z).1 hz
  replace S : St w M_1 (OwnI 3 v_2 l_3 :: H) := S
  replace h0 := h0.le hM_1
  replace shb0 := hM_1.2 _ _ shb0
  replace shm0 := shm0.le hM_1
  refine S_v E rfl (R_assign E rfl) rfl ?_
  clear E a; intro a E
  refine WL_nil ?_
  refine T_n ?_
  refine WP_seq ?_
  refine WP_region ?_
  refine S_v E rfl (R_move E rfl) rfl ?_
  clear E a; intro a E
  refine S_x (X_sp (p := [OwnI 3 v_2 l_3]) E S rfl rfl rfl (slices_Sort (by (first | omega | (simp; omega) | (simp; done) | (simp_all; omega) | grind))) (Hp.le.refl _) ?_)
  clear E a S; rintro a v_5 w M_4 _ hM_4 rfl S E
  replace S : St w M_4 (OwnI 3 v_2 (srtM l_3) :: _) := S
  replace h0 := h0.le hM_4
  replace shb0 := hM_4.2 _ _ shb0
  replace shm0 := shm0.le hM_4
  refine WL_nil ?_
  refine T_n ?_
  refine WP_seq ?_
  refine WP_region ?_
  refine S_v E rfl (R_move E rfl) rfl ?_
  clear E a; intro a E
  refine S_v E rfl (R_assign E rfl) rfl ?_
  clear E a; intro a E
  refine WL_nil ?_
  refine T_n ?_
  refine WP_ret ?_
  have S0 := S; clear S
  obtain ⟨M_6, hM_6, hz_7, S⟩ := S0.freezeI (by (first | omega | (rw [srtM_len]; omega)))
  clear S0
  replace h0 := h0.le hM_6
  replace shb0 := hM_6.2 _ _ shb0
  replace shm0 := shm0.le hM_6
  exact F_ret1 E Tryz.results39 rfl ⟨_, rfl, M_6, (hM_1.trans (hM_4.trans hM_6)), (by rw [show (suL c0) = (srtM l_3) from by (first | exact suL_of (by assumption) (by assumption) | exact (suL_of (by assumption) (by assumption)).symm)]; exact hz_7), S⟩

set_option maxRecDepth 100000 in
set_option maxHeartbeats 4000000 in
theorem U_SetUnion {M : Hp} {v1 v2 : Value} {l1 l2 : List Int} (h1 : RdI M v1 l1) (h2 : RdI M v2 l2)(hb1 : l1.length ≤ 100000000) (hb2 : l2.length ≤ 100000000)  :
    Pu Tryz.prog (.func (.func 10) #[] #[]) M [.bool false, v1, v2] (fun r M' => RdI M' r (suL (l1 ++ l2))) := by
  refine Pu_enter Tryz.func10 rfl Tryz.ntmps10 rfl Tryz.call10 ?_
  intro a w M1 H hM1 S E
  replace h1 := h1.le hM1
  replace h2 := h2.le hM1
  have b1 := h1.bound
  have b2 := h2.bound
  refine WP_seq ?_
  refine WP_region ?_
  refine S_v E rfl (R_assign E rfl) rfl ?_
  clear E a; intro a E
  refine WL_nil ?_
  refine T_n ?_
  refine WP_seq ?_
  refine WP_region ?_
  refine S_v E rfl (R_move E rfl) rfl ?_
  clear E a; intro a E
  refine S_v E rfl (R_move E rfl) rfl ?_
  clear E a; intro a E
  refine S_v E rfl (R_move E rfl) rfl ?_
  clear E a; intro a E
  refine S_x (X_pu E S rfl rfl rfl (U_twoSets h1 h2 (by first | assumption | omega) (by first | assumption | omega)) (Hp.le.refl _) ?_)
  clear E a S; rintro a _ w M_1 hM_1 ⟨_, _, rfl, ⟨v_2, rfl, hv_2⟩, ⟨v_3, rfl, hv_3⟩⟩ S E
  replace h1 := h1.le hM_1
  replace h2 := h2.le hM_1
  refine S_v E rfl (R_move E rfl) rfl ?_
  clear E a; intro a E
  refine S_v E rfl (R_extract E rfl rfl) rfl ?_
  clear E a; intro a E
  refine S_v E rfl (R_extract E rfl rfl) rfl ?_
  clear E a; intro a E
  refine S_v E rfl (R_assign E rfl) rfl ?_
  clear E a; intro a E
  refine S_v E rfl (R_assign E rfl) rfl ?_
  clear E a; intro a E
  refine WL_nil ?_
  refine T_n ?_
  refine WP_seq ?_
  refine WP_region ?_
  refine S_v E rfl (R_move E rfl) rfl ?_
  clear E a; intro a E
  refine S_v E rfl (R_move E rfl) rfl ?_
  clear E a; intro a E
  have hset := hv_2
  obtain ⟨b_4, m_5, q_6, e_7, hb_8, hm_9, hn_10, hq_11⟩ := hset
  have hq_11l : q_6.length ≤ l1.length := nodup_len hn_10 fun z hz => (hq_11 z).1 hz
  refine S_x (X_puI E S rfl rfl rfl (meth_116_Union e_7 (cellM_world S.imm (cellM_box hb_8))) Tryz.call202 (U_Union hm_9 hn_10 hq_11 hv_3 (by first | assumption | omega) (by first | assumption | omega)) (Hp.le.refl _) ?_)
  clear E a S; rintro a _ w M_12 hM_12 ⟨v_13, rfl, hv_13⟩ S E
  replace h1 := h1.le hM_12
  replace h2 := h2.le hM_12
  replace hv_2 := hv_2.le hM_12
  replace hv_3 := hv_3.le hM_12
  replace hb_8 := hM_12.2 _ _ hb_8
  replace hm_9 := hm_9.le hM_12
  refine S_x (X_pu E S rfl rfl rfl (U_Sorted hv_13 (by first | assumption | omega | (simp only [List.length_append]; omega) | exact Nat.le_trans (List.length_filter_le _ _) (by omega) | (rw [List.length_append]; have h8 := List.length_filter_le (fun z => decide (z ∉ l2)) l1; have h9 := List.length_filter_le (fun z => decide (z ∉ l1)) l2; omega))) (Hp.le.refl _) ?_)
  clear E a S; rintro a v_15 w M_14 hM_14 hv_15 S E
  replace h1 := h1.le hM_14
  replace h2 := h2.le hM_14
  replace hv_2 := hv_2.le hM_14
  replace hv_3 := hv_3.le hM_14
  replace hb_8 := hM_14.2 _ _ hb_8
  replace hm_9 := hm_9.le hM_14
  replace hv_13 := hv_13.le hM_14
  refine S_v E rfl (R_assign E rfl) rfl ?_
  clear E a; intro a E
  refine WL_nil ?_
  refine T_n ?_
  refine WP_ret ?_
  exact F_ret1 E Tryz.results10 rfl ⟨_, rfl, M_14, (hM_1.trans (hM_12.trans hM_14)), hv_15, S⟩

set_option maxRecDepth 100000 in
set_option maxHeartbeats 4000000 in
theorem S_new {M : Hp} {n0 : Nat} (hb0 : n0 ≤ 1000000000000) :
    Sp Tryz.prog (.func (.func 83) #[] #[]) M [.int .i64 ((n0 : Nat) : Int)] [] (fun r M' C' => ∃ p b m, r = .pointer (some ⟨p, 0, none⟩) ∧ C' = [blk p (.cells #[.int .i32 0, .int .u32 0, .int .u32 0, .int .u32 0, .int .i32 0, .int .i32 0, .pointer (some ⟨b, 0, none⟩)] 144), blk b (.cells #[.map (some m)] 145), OwnS m []]) := by
  refine Sp_enter Tryz.func83 rfl Tryz.ntmps83 rfl Tryz.call83 ?_
  intro a w M1 H hM1 S E
  refine WP_seq ?_
  refine WP_region ?_
  refine S_v E rfl (R_assign E rfl) rfl ?_
  clear E a; intro a E
  refine WL_nil ?_
  refine T_n ?_
  refine WP_seq ?_
  refine WP_region ?_
  refine S_v E rfl (R_move E rfl) rfl ?_
  clear E a; intro a E
  refine S_x (X_sp (p := []) E S rfl rfl rfl (U_new (by first | assumption | omega)) (Hp.le.refl _) ?_)
  clear E a S; rintro a _ w M_1 _ hM_1 ⟨b_3, mm_4, rfl, rfl⟩ S E
  replace S : St w M_1 (blk b_3 (.cells #[.map (some mm_4)] 145) :: OwnS mm_4 ([] : List Int) :: H) := S
  refine S_v E rfl (R_build (u := .agg #[.int .i32 0, .int .u32 0, .int .u32 0, .int .u32 0, .int .i32 0, .int .i32 0, .pointer (some ⟨b_3, 0, none⟩)]) (vs := [.pointer (some ⟨b_3, 0, none⟩)]) E rfl (fun w => BLK144 _ w)) rfl ?_
  clear E a; intro a E
  refine S_x (X_box (cs := #[.int .i32 0, .int .u32 0, .int .u32 0, .int .u32 0, .int .i32 0, .int .i32 0, .pointer (some ⟨b_3, 0, none⟩)]) E S rfl rfl rfl ?_)
  clear E a S; rintro a w b_5 E S
  refine S_v E rfl (R_assign E rfl) rfl ?_
  clear E a; intro a E
  refine WL_nil ?_
  refine T_n ?_
  refine WP_ret ?_
  replace S := S.front2
  replace S := S.front2
  replace S := S.front2
  exact F_ret1 E Tryz.results83 rfl ⟨_, rfl, M_1, _, hM_1, ⟨_, _, _, rfl, rfl⟩, S⟩

set_option maxRecDepth 100000 in
set_option maxHeartbeats 4000000 in
theorem S_Add {M : Hp} {p9 b9 m9 : Nat} {l9 : List Int} {x0 : Int} :
    Sp Tryz.prog (.func (.func 84) #[] #[]) M [.pointer (some ⟨p9, 0, none⟩), .int .i64 x0] [blk p9 (.cells #[.int .i32 0, .int .u32 0, .int .u32 0, .int .u32 0, .int .i32 0, .int .i32 0, .pointer (some ⟨b9, 0, none⟩)] 144), blk b9 (.cells #[.map (some m9)] 145), OwnS m9 l9] (fun r M' C' => (∃ z, r = .bool z) ∧ C' = [blk p9 (.cells #[.int .i32 0, .int .u32 0, .int .u32 0, .int .u32 0, .int .i32 0, .int .i32 0, .pointer (some ⟨b9, 0, none⟩)] 144), blk b9 (.cells #[.map (some m9)] 145), OwnS m9 (addS l9 x0)]) := by
  refine Sp_enter Tryz.func84 rfl Tryz.ntmps84 rfl Tryz.call84 ?_
  intro a w M1 H hM1 S E
  replace S : St w M1 (blk p9 (.cells #[.int .i32 0, .int .u32 0, .int .u32 0, .int .u32 0, .int .i32 0, .int .i32 0, .pointer (some ⟨b9, 0, none⟩)] 144) :: blk b9 (.cells #[.map (some m9)] 145) :: OwnS m9 l9 :: _) := S
  refine WP_seq ?_
  refine WP_region ?_
  refine S_v E rfl (R_assign E rfl) rfl ?_
  clear E a; intro a E
  refine WL_nil ?_
  refine T_n ?_
  refine WP_seq ?_
  refine WP_region ?_
  refine S_v E rfl (R_move E rfl) rfl ?_
  clear E a; intro a E
  refine S_v E rfl (R_nilCheck E rfl rfl) rfl ?_
  clear E a; intro a E
  refine S_v E rfl (R_fieldAddr E rfl (FA144_0 _)) rfl ?_
  clear E a; intro a E
  replace S : St w M1 (LK p9 144 0 (.pointer (some ⟨b9, 0, none⟩)) :: _) := S
  refine S_x (X_sp (p := [LK p9 144 0 (.pointer (some ⟨b9, 0, none⟩))]) E S rfl rfl rfl (wlock_sp Tryz.rwWLib (T := 144)) (Hp.le.refl _) ?_)
  clear E a S; rintro a _ w M_1 _ hM_1 ⟨rfl, rfl⟩ S E
  replace S : St w M_1 (blk p9 (.cells #[.int .i32 1, .int .u32 0, .int .u32 0, .int .u32 0, .int .i32 (-1073741824), .int .i32 0, .pointer (some ⟨b9, 0, none⟩)] 144) :: blk b9 (.cells #[.map (some m9)] 145) :: OwnS m9 l9 :: H) := S
  refine WL_nil ?_
  refine T_n ?_
  refine WP_seq ?_
  refine WP_region ?_
  refine S_v E rfl (R_move E rfl) rfl ?_
  clear E a; intro a E
  refine S_v E rfl (R_nilCheck E rfl rfl) rfl ?_
  clear E a; intro a E
  refine S_v E rfl (R_fieldAddr E rfl (FA144_1 _)) rfl ?_
  clear E a; intro a E
  refine S_v E rfl (R_load E rfl (Tryz.isAgg116 _) (cell_blkf (S.mem (.head _)) rfl)) rfl ?_
  clear E a; intro a E
  refine S_v E rfl (R_nilCheck E rfl rfl) rfl ?_
  clear E a; intro a E
  refine S_v E rfl (R_load E rfl (Tryz.isAgg145 _) (cell_blk (S.mem (.tail _ (.head _))))) rfl ?_
  clear E a; intro a E
  refine S_v E rfl (R_move E rfl) rfl ?_
  clear E a; intro a E
  replace S := S.front2
  refine S_x (X_sp (p := [OwnS m9 l9]) E S rfl rfl rfl (U_Add) (Hp.le.refl _) ?_)
  clear E a S; rintro a _ w M_2 _ hM_2 ⟨⟨_, rfl⟩, rfl⟩ S E
  replace S : St w M_2 (OwnS m9 (addS l9 x0) :: blk p9 (.cells #[.int .i32 1, .int .u32 0, .int .u32 0, .int .u32 0, .int .i32 (-1073741824), .int .i32 0, .pointer (some ⟨b9, 0, none⟩)] 144) :: blk b9 (.cells #[.map (some m9)] 145) :: H) := S
  refine S_v E rfl (R_assign E rfl) rfl ?_
  clear E a; intro a E
  refine WL_nil ?_
  refine T_n ?_
  refine WP_seq ?_
  refine WP_region ?_
  refine S_v E rfl (R_move E rfl) rfl ?_
  clear E a; intro a E
  refine S_v E rfl (R_nilCheck E rfl rfl) rfl ?_
  clear E a; intro a E
  refine S_v E rfl (R_fieldAddr E rfl (FA144_0 _)) rfl ?_
  clear E a; intro a E
  replace S := S.front1
  replace S : St w M_2 (LKw p9 144 (.pointer (some ⟨b9, 0, none⟩)) :: _) := S
  refine S_x (X_sp (p := [LKw p9 144 (.pointer (some ⟨b9, 0, none⟩))]) E S rfl rfl rfl (wunlock_sp Tryz.rwWLib (T := 144)) (Hp.le.refl _) ?_)
  clear E a S; rintro a _ w M_3 _ hM_3 ⟨rfl, rfl⟩ S E
  replace S : St w M_3 (blk p9 (.cells #[.int .i32 0, .int .u32 0, .int .u32 0, .int .u32 0, .int .i32 0, .int .i32 0, .pointer (some ⟨b9, 0, none⟩)] 144) :: OwnS m9 (addS l9 x0) :: blk b9 (.cells #[.map (some m9)] 145) :: H) := S
  refine WL_nil ?_
  refine T_n ?_
  refine WP_seq ?_
  refine WP_region ?_
  refine S_v E rfl (R_move E rfl) rfl ?_
  clear E a; intro a E
  refine S_v E rfl (R_assign E rfl) rfl ?_
  clear E a; intro a E
  refine WL_nil ?_
  refine T_n ?_
  refine WP_ret ?_
  replace S := S.front1
  replace S := S.front2
  replace S := S.front2
  exact F_ret1 E Tryz.results84 rfl ⟨_, rfl, M_3, _, (hM_1.trans (hM_2.trans hM_3)), ⟨⟨_, rfl⟩, rfl⟩, S⟩

set_option maxRecDepth 100000 in
set_option maxHeartbeats 4000000 in
theorem S_NewSet {M : Hp} {v0 : Value} {l0 : List Int} (h0 : RdI M v0 l0)(hb : l0.length ≤ 1000000000) :
    Sp Tryz.prog (.func (.func 58) #[] #[]) M [v0] [] (fun r M' C' => ∃ p_0 v_0, r = .iface 114 (.pointer (some ⟨p_0, 0, none⟩)) ∧ C' = [blk p_0 (.cells #[.int .i32 0, .int .u32 0, .int .u32 0, .int .u32 0, .int .i32 0, .int .i32 0, v_0] 144)] ∧ (RdSU 145 M' v_0 l0)) := by
  refine Sp_enter Tryz.func58 rfl Tryz.ntmps58 rfl Tryz.call58 ?_
  intro a w M1 H hM1 S E
  replace h0 := h0.le hM1
  have b0 := h0.bound
  refine WP_seq ?_
  refine WP_region ?_
  refine S_v E rfl (R_assign E rfl) rfl ?_
  clear E a; intro a E
  refine WL_nil ?_
  refine T_n ?_
  refine WP_seq ?_
  refine WP_region ?_
  refine S_v E rfl (R_move E rfl) rfl ?_
  clear E a; intro a E
  refine S_v E rfl (R_lenV E rfl T22 h0.len) rfl ?_
  clear E a; intro a E
  refine S_x (X_sp (p := []) E S rfl rfl rfl (S_new (by first | assumption | omega)) (Hp.le.refl _) ?_)
  clear E a S; rintro a _ w M_1 _ hM_1 ⟨p_2, b_3, mm_4, rfl, rfl⟩ S E
  replace S : St w M_1 (blk p_2 (.cells #[.int .i32 0, .int .u32 0, .int .u32 0, .int .u32 0, .int .i32 0, .int .i32 0, .pointer (some ⟨b_3, 0, none⟩)] 144) :: blk b_3 (.cells #[.map (some mm_4)] 145) :: OwnS mm_4 ([] : List Int) :: H) := S
  replace h0 := h0.le hM_1
  refine S_v E rfl (R_assign E rfl) rfl ?_
  clear E a; intro a E
  refine WL_nil ?_
  refine T_n ?_
  refine WP_seq ?_
  refine WP_seq ?_
  refine WP_region ?_
  refine S_v E rfl (R_move E rfl) rfl ?_
  clear E a; intro a E
  refine S_v E rfl (R_lenV E rfl T22 h0.len) rfl ?_
  clear E a; intro a E
  refine S_v E rfl (R_move E rfl) rfl ?_
  clear E a; intro a E
  refine WL_nil ?_
  refine T_n ?_
  refine WP_block ?_
  replace S := S.front2
  replace S := S.reM (L' := (Sl.encS (addsL [] (l0.take 0)))) (congrArg Sl.encS (show ([] : List Int) = (addsL [] (l0.take 0)) by (first | rfl | (simp [addsL]; done) | (rw [List.take_add_one]; simp [*, addsL_snoc]; done))))
  refine WP_loop (γ := Nat) (fun (k : Nat) a w => ∃ (M_5 : Hp), Hp.le M_1 M_5 ∧ St w M_5 (OwnS mm_4 (addsL [] (l0.take k)) :: blk p_2 (.cells #[.int .i32 0, .int .u32 0, .int .u32 0, .int .u32 0, .int .i32 0, .int .i32 0, .pointer (some ⟨b_3, 0, none⟩)] 144) :: blk b_3 (.cells #[.map (some mm_4)] 145) :: H) ∧ Env a 21 [] [(3, .pointer (some ⟨p_2, 0, none⟩)), (9, v0), (10, .int .i64 (((l0).length : Nat) : Int)), (11, .int .i64 ((k : Nat) : Int))] ∧ (k ≤ (l0).length)) (fun k => ((l0).length) - k) 0 ⟨M_1, Hp.le.refl _, S, E.keep ⟨rfl, rfl, rfl, rfl, trivial⟩, by ((try clear S); (try clear E); first | assumption | omega | rfl | (simp; done) | (simp_all; done) | (simp [List.take_add_one, *]; done) | grind [List.take_add_one])⟩ ?_
  try clear E
  try clear S
  try clear a
  try clear w
  rintro k a w ⟨M_5, hM_5, S, E, hL0_0⟩
  replace h0 := h0.le hM_5
  refine WP_seq ?_
  refine WP_region ?_
  refine S_v E rfl (R_lss E rfl rfl) rfl ?_
  clear E a; intro a E
  refine WL_nil ?_
  refine T_n ?_
  refine WP_seq ?_
  refine WP_cond E rfl (fun hc_6 => ?_) (fun hc_6 => ?_)
  · replace hc_6 := of_decide_eq_true hc_6
    refine WP_skip ?_
    refine T_n ?_
    refine WP_seq ?_
    refine WP_block ?_
    refine WP_seq ?_
    refine WP_region ?_
    obtain ⟨x_7, hx_7⟩ : ∃ x, (l0)[k]? = some x := ⟨_, List.getElem?_eq_getElem (by first | omega | (simp; done) | (simp; omega) | (simp_all; omega))⟩
    obtain ⟨p_8, hp_8, qp_8⟩ := h0.at hx_7
    refine S_v E rfl (R_idx E rfl rfl T22 hp_8 rfl) rfl ?_
    clear E a; intro a E
    refine S_v E rfl (R_loadM E rfl Tryz.isAgg3 S.imm qp_8) rfl ?_
    clear E a; intro a E
    refine S_v E rfl (R_assign E rfl) rfl ?_
    clear E a; intro a E
    refine WL_nil ?_
    refine T_n ?_
    refine WP_region ?_
    refine S_v E rfl (R_move E rfl) rfl ?_
    clear E a; intro a E
    refine S_v E rfl (R_move E rfl) rfl ?_
    clear E a; intro a E
    replace S := S.front2
    replace S := S.front2
    refine S_x (X_sp (p := [blk p_2 (.cells #[.int .i32 0, .int .u32 0, .int .u32 0, .int .u32 0, .int .i32 0, .int .i32 0, .pointer (some ⟨b_3, 0, none⟩)] 144), blk b_3 (.cells #[.map (some mm_4)] 145), OwnS mm_4 (addsL [] (l0.take k))]) E S rfl rfl rfl (S_Add) (Hp.le.refl _) ?_)
    clear E a S; rintro a _ w M_9 _ hM_9 ⟨⟨_, rfl⟩, rfl⟩ S E
    replace S : St w M_9 (blk p_2 (.cells #[.int .i32 0, .int .u32 0, .int .u32 0, .int .u32 0, .int .i32 0, .int .i32 0, .pointer (some ⟨b_3, 0, none⟩)] 144) :: blk b_3 (.cells #[.map (some mm_4)] 145) :: OwnS mm_4 (addS (addsL [] (l0.take k)) x_7) :: H) := S
    replace h0 := h0.le hM_9
    refine WL_nil ?_
    refine B_n ?_
    refine T_n ?_
    refine WP_region ?_
    refine S_v E rfl (R_addx (m := ((k + 1 : Nat) : Int)) E rfl rfl (by omega) (by omega)) rfl ?_
    clear E a; intro a E
    refine S_v E rfl (R_move E rfl) rfl ?_
    clear E a; intro a E
    refine WL_nil ?_
    refine T_n ?_
    replace S := S.front1
    replace S := S.front1
    replace S := S.front2
    replace S := S.reM (L' := (Sl.encS (addsL [] (l0.take (k + 1))))) (congrArg Sl.encS (show addS (addsL [] (l0.take k)) x_7 = (addsL [] (l0.take (k + 1))) by (first | rfl | (simp [addsL]; done) | (rw [List.take_add_one]; simp [*, addsL_snoc]; done))))
    exact ⟨k + 1, ⟨M_9, (hM_5.trans hM_9), S, E.keep ⟨rfl, rfl, rfl, rfl, trivial⟩, by ((try clear S); (try clear E); first | assumption | omega | rfl | (simp; done) | (simp_all; done) | (simp [List.take_add_one, *]; done) | grind [List.take_add_one])⟩, by omega⟩
  · replace hc_6 := of_decide_eq_false hc_6
    refine WP_exit ?_
    refine T_x ?_
    refine T_x ?_
    refine B_x ?_
    refine T_n ?_
    refine WP_seq ?_
    refine WP_region ?_
    refine S_v E rfl (R_move E rfl) rfl ?_
    clear E a; intro a E
    refine S_v E rfl (R_ifaceP E rfl Tryz.underlying114) rfl ?_
    clear E a; intro a E
    refine S_v E rfl (R_assign E rfl) rfl ?_
    clear E a; intro a E
    refine WL_nil ?_
    refine T_n ?_
    refine WP_ret ?_
    have S0 := S; clear S
    obtain ⟨M_10, hM_10, hm_11, S⟩ := S0.freezeM
    clear S0
    replace h0 := h0.le hM_10
    replace S := S.front1
    have S0 := S; clear S
    obtain ⟨M_12, hM_12, hb_13, S⟩ := S0.freezeB
    clear S0
    replace h0 := h0.le hM_12
    replace hm_11 := hm_11.le hM_12
    exact F_ret1 E Tryz.results58 rfl ⟨_, rfl, M_12, _, (hM_1.trans (hM_5.trans (hM_10.trans hM_12))), ⟨_, _, rfl, rfl, ⟨_, _, (addsL [] (l0.take k)), rfl, hb_13, hm_11, (by first | assumption | exact addsL_nodup _ _ List.nodup_nil | exact addsL_nodup _ _ (addsL_nodup _ _ List.nodup_nil)), (by (intro x; rw [List.take_of_length_le (by omega)]; simp [mem_addsL]))⟩⟩, S⟩

set_option maxRecDepth 100000 in
set_option maxHeartbeats 4000000 in
theorem S_setOf {M : Hp} {v1 : Value} {l1 : List Int} (h1 : RdI M v1 l1)(hb : l1.length ≤ 1000000000) :
    Sp Tryz.prog (.func (.func 41) #[] #[]) M [.bool true, v1] [] (fun r M' C' => ∃ p_0 v_0, r = .iface 114 (.pointer (some ⟨p_0, 0, none⟩)) ∧ C' = [blk p_0 (.cells #[.int .i32 0, .int .u32 0, .int .u32 0, .int .u32 0, .int .i32 0, .int .i32 0, v_0] 144)] ∧ (RdSU 145 M' v_0 l1)) := by
  refine Sp_enter Tryz.func41 rfl Tryz.ntmps41 rfl Tryz.call41 ?_
  intro a w M1 H hM1 S E
  replace h1 := h1.le hM1
  have b1 := h1.bound
  refine WP_seq ?_
  refine WP_region ?_
  refine S_v E rfl (R_assign E rfl) rfl ?_
  clear E a; intro a E
  refine WL_nil ?_
  refine T_n ?_
  refine WP_seq ?_
  refine WP_seq ?_
  refine WP_region ?_
  refine S_v E rfl (R_move E rfl) rfl ?_
  clear E a; intro a E
  refine WL_nil ?_
  refine T_n ?_
  refine WP_condT E rfl rfl ?_
  refine WP_seq ?_
  refine WP_region ?_
  refine S_v E rfl (R_move E rfl) rfl ?_
  clear E a; intro a E
  refine S_x (X_sp (p := []) E S rfl rfl rfl (S_NewSet h1 (by first | assumption | omega)) (Hp.le.refl _) ?_)
  clear E a S; rintro a _ w M_1 _ hM_1 ⟨p_3, v_4, rfl, rfl, hv_4⟩ S E
  replace S : St w M_1 (blk p_3 (.cells #[.int .i32 0, .int .u32 0, .int .u32 0, .int .u32 0, .int .i32 0, .int .i32 0, v_4] 144) :: H) := S
  replace h1 := h1.le hM_1
  refine S_v E rfl (R_assign E rfl) rfl ?_
  clear E a; intro a E
  refine WL_nil ?_
  refine T_n ?_
  refine WP_ret ?_
  refine T_r ?_
  exact F_ret1 E Tryz.results41 rfl ⟨_, rfl, M_1, _, hM_1, ⟨_, _, rfl, rfl, hv_4⟩, S⟩

set_option maxRecDepth 100000 in
set_option maxHeartbeats 4000000 in
theorem S_twoSets {M : Hp} {v1 v2 : Value} {l1 l2 : List Int} (h1 : RdI M v1 l1) (h2 : RdI M v2 l2)(hb1 : l1.length ≤ 100000000) (hb2 : l2.length ≤ 100000000)  :
    Sp Tryz.prog (.func (.func 38) #[] #[]) M [.bool true, v1, v2] [] (fun r M' C' => ∃ p_0 v_0 p_1 v_1, r = .tuple #[.iface 114 (.pointer (some ⟨p_0, 0, none⟩)), .iface 114 (.pointer (some ⟨p_1, 0, none⟩))] ∧ C' = [blk p_0 (.cells #[.int .i32 0, .int .u32 0, .int .u32 0, .int .u32 0, .int .i32 0, .int .i32 0, v_0] 144), blk p_1 (.cells #[.int .i32 0, .int .u32 0, .int .u32 0, .int .u32 0, .int .i32 0, .int .i32 0, v_1] 144)] ∧ (RdSU 145 M' v_0 l1) ∧ (RdSU 145 M' v_1 l2)) := by
  refine Sp_enter Tryz.func38 rfl Tryz.ntmps38 rfl Tryz.call38 ?_
  intro a w M1 H hM1 S E
  replace h1 := h1.le hM1
  replace h2 := h2.le hM1
  have b1 := h1.bound
  have b2 := h2.bound
  refine WP_seq ?_
  refine WP_region ?_
  refine S_v E rfl (R_assign E rfl) rfl ?_
  clear E a; intro a E
  refine S_v E rfl (R_assign E rfl) rfl ?_
  clear E a; intro a E
  refine WL_nil ?_
  refine T_n ?_
  refine WP_seq ?_
  refine WP_region ?_
  refine S_v E rfl (R_move E rfl) rfl ?_
  clear E a; intro a E
  refine S_v E rfl (R_move E rfl) rfl ?_
  clear E a; intro a E
  refine S_x (X_sp (p := []) E S rfl rfl rfl (S_setOf h1 (by first | assumption | omega)) (Hp.le.refl _) ?_)
  clear E a S; rintro a _ w M_1 _ hM_1 ⟨p_3, v_4, rfl, rfl, hv_4⟩ S E
  replace S : St w M_1 (blk p_3 (.cells #[.int .i32 0, .int .u32 0, .int .u32 0, .int .u32 0, .int .i32 0, .int .i32 0, v_4] 144) :: H) := S
  replace h1 := h1.le hM_1
  replace h2 := h2.le hM_1
  refine S_v E rfl (R_move E rfl) rfl ?_
  clear E a; intro a E
  refine S_v E rfl (R_move E rfl) rfl ?_
  clear E a; intro a E
  refine S_x (X_sp (p := []) E S rfl rfl rfl (S_setOf h2 (by first | assumption | omega)) (Hp.le.refl _) ?_)
  clear E a S; rintro a _ w M_5 _ hM_5 ⟨p_7, v_8, rfl, rfl, hv_8⟩ S E
  replace S : St w M_5 (blk p_7 (.cells #[.int .i32 0, .int .u32 0, .int .u32 0, .int .u32 0, .int .i32 0, .int .i32 0, v_8] 144) :: blk p_3 (.cells #[.int .i32 0, .int .u32 0, .int .u32 0, .int .u32 0, .int .i32 0, .int .i32 0, v_4] 144) :: H) := S
  replace h1 := h1.le hM_5
  replace h2 := h2.le hM_5
  replace hv_4 := hv_4.le hM_5
  refine S_v E rfl (R_assign E rfl) rfl ?_
  clear E a; intro a E
  refine S_v E rfl (R_assign E rfl) rfl ?_
  clear E a; intro a E
  refine WL_nil ?_
  refine T_n ?_
  refine WP_ret ?_
  replace S := S.front1
  exact F_ret2 E Tryz.results38 rfl rfl ⟨_, rfl, M_5, _, (hM_1.trans hM_5), ⟨_, _, _, _, rfl, rfl, hv_4, hv_8⟩, S⟩

set_option maxRecDepth 100000 in
set_option maxHeartbeats 4000000 in
theorem S_Union {M : Hp} {p0 : Nat} {v0 : Value} {c0 : List Int} (h0 : RdSU 145 M v0 c0) {p1 : Nat} {v1 : Value} {c1 : List Int} (h1 : RdSU 145 M v1 c1) (b0 : c0.length ≤ 1000000000) (b1 : c1.length ≤ 1000000000)  :
    Sp Tryz.prog (.func (.func 183) #[] #[]) M [.pointer (some ⟨p0, 0, none⟩), .iface 114 (.pointer (some ⟨p1, 0, none⟩))] [blk p0 (.cells #[.int .i32 0, .int .u32 0, .int .u32 0, .int .u32 0, .int .i32 0, .int .i32 0, v0] 144), blk p1 (.cells #[.int .i32 0, .int .u32 0, .int .u32 0, .int .u32 0, .int .i32 0, .int .i32 0, v1] 144)] (fun r M' C' => ∃ p_0 v_0, r = .iface 114 (.pointer (some ⟨p_0, 0, none⟩)) ∧ C' = [blk p0 (.cells #[.int .i32 0, .int .u32 0, .int .u32 0, .int .u32 0, .int .i32 0, .int .i32 0, v0] 144), blk p1 (.cells #[.int .i32 0, .int .u32 0, .int .u32 0, .int .u32 0, .int .i32 0, .int .i32 0, v1] 144), blk p_0 (.cells #[.int .i32 0, .int .u32 0, .int .u32 0, .int .u32 0, .int .i32 0, .int .i32 0, v_0] 144)] ∧ (RdSU 145 M' v_0 (c0 ++ c1))) := by
  refine Sp_enter Tryz.func183 rfl Tryz.ntmps183 rfl Tryz.call183 ?_
  intro a w M1 H hM1 S E
  replace S : St w M1 (blk p0 (.cells #[.int .i32 0, .int .u32 0, .int .u32 0, .int .u32 0, .int .i32 0, .int .i32 0, v0] 144) :: blk p1 (.cells #[.int .i32 0, .int .u32 0, .int .u32 0, .int .u32 0, .int .i32 0, .int .i32 0, v1] 144) :: _) := S
  replace h0 := h0.le hM1
  replace h1 := h1.le hM1
  have hset := h0
  obtain ⟨sb0, sm0, sq0, se0, shb0, shm0, shn0, shq0⟩ := hset
  have shq0l : sq0.length ≤ c0.length := nodup_len shn0 fun z hz => (shq0 z).1 hz
  have hset := h1
  obtain ⟨sb1, sm1, sq1, se1, shb1, shm1, shn1, shq1⟩ := hset
  have shq1l : sq1.length ≤ c1.length := nodup_len shn1 fun z hz => (shq1 z).1 hz
  refine WP_seq ?_
  refine WP_region ?_
  refine S_v E rfl (R_assign E rfl) rfl ?_
  clear E a; intro a E
  refine WL_nil ?_
  refine T_n ?_
  refine WP_seq ?_
  refine WP_region ?_
  refine S_v E rfl (R_move E rfl) rfl ?_
  clear E a; intro a E
  refine S_v E rfl (R_assert E rfl Tryz.underlying114 (by intro z hz; cases hz)) rfl ?_
  clear E a; intro a E
  refine S_v E rfl (R_assign E rfl) rfl ?_
  clear E a; intro a E
  refine WL_nil ?_
  refine T_n ?_
  refine WP_seq ?_
  refine WP_region ?_
  refine S_v E rfl (R_move E rfl) rfl ?_
  clear E a; intro a E
  refine S_v E rfl (R_nilCheck E rfl rfl) rfl ?_
  clear E a; intro a E
  refine S_v E rfl (R_fieldAddr E rfl (FA144_0 _)) rfl ?_
  clear E a; intro a E
  replace S : St w M1 (LK p0 144 0 v0 :: _) := S
  refine S_x (X_sp (p := [LK p0 144 0 v0]) E S rfl rfl rfl (rlock_sp Tryz.rwRLib (T := 144) (n := 0) (by decide) (by decide)) (Hp.le.refl _) ?_)
  clear E a S; rintro a _ w M_1 _ hM_1 ⟨rfl, rfl⟩ S E
  replace S : St w M_1 (blk p0 (.cells #[.int .i32 0, .int .u32 0, .int .u32 0, .int .u32 0, .int .i32 1, .int .i32 0, v0] 144) :: blk p1 (.cells #[.int .i32 0, .int .u32 0, .int .u32 0, .int .u32 0, .int .i32 0, .int .i32 0, v1] 144) :: H) := S
  replace h0 := h0.le hM_1
  replace h1 := h1.le hM_1
  replace shb0 := hM_1.2 _ _ shb0
  replace shm0 := shm0.le hM_1
  replace shb1 := hM_1.2 _ _ shb1
  replace shm1 := shm1.le hM_1
  refine WL_nil ?_
  refine T_n ?_
  refine WP_seq ?_
  refine WP_region ?_
  refine S_v E rfl (R_move E rfl) rfl ?_
  clear E a; intro a E
  refine S_v E rfl (R_nilCheck E rfl rfl) rfl ?_
  clear E a; intro a E
  refine S_v E rfl (R_fieldAddr E rfl (FA144_0 _)) rfl ?_
  clear E a; intro a E
  replace S := S.front1
  replace S : St w M_1 (LK p1 144 0 v1 :: _) := S
  refine S_x (X_sp (p := [LK p1 144 0 v1]) E S rfl rfl rfl (rlock_sp Tryz.rwRLib (T := 144) (n := 0) (by decide) (by decide)) (Hp.le.refl _) ?_)
  clear E a S; rintro a _ w M_2 _ hM_2 ⟨rfl, rfl⟩ S E
  replace S : St w M_2 (blk p1 (.cells #[.int .i32 0, .int .u32 0, .int .u32 0, .int .u32 0, .int .i32 1, .int .i32 0, v1] 144) :: blk p0 (.cells #[.int .i32 0, .int .u32 0, .int .u32 0, .int .u32 0, .int .i32 1, .int .i32 0, v0] 144) :: H) := S
  replace h0 := h0.le hM_2
  replace h1 := h1.le hM_2
  replace shb0 := hM_2.2 _ _ shb0
  replace shm0 := shm0.le hM_2
  replace shb1 := hM_2.2 _ _ shb1
  replace shm1 := shm1.le hM_2
  refine WL_nil ?_
  refine T_n ?_
  refine WP_seq ?_
  replace S := S.mono_heap (w' := World.drew _) rfl
  refine WP_drawn (C := fun x w => agree M_2 w ∧ (x = 3 → w.heap[p0]? = some (.cells #[.int .i32 0, .int .u32 0, .int .u32 0, .int .u32 0, .int .i32 1, .int .i32 0, v0] 144)) ∧ (x = 9 → w.heap[p1]? = some (.cells #[.int .i32 0, .int .u32 0, .int .u32 0, .int .u32 0, .int .i32 1, .int .i32 0, v1] 144))) (bf := (fun i => bif Nat.beq i 11 then [3, 9] else [])) [0, 1, 2, 3, 4, 5, 6, 7, 8, 9, 10, 12, 13] [0, 1, 2, 3, 4, 5, 6, 7, 8, 9, 10, 11, 12, 13] Tryz.mixed (by kernel_rfl) (fun x hq => ⟨S.imm, fun _ => (S.mem (.tail _ (.head _))), fun _ => (S.mem (.head _))⟩) ?_
  refine D_v E rfl rfl rfl (fun w hC => (R_move E rfl)) ?_
  clear E a; intro a E
  refine D_v E rfl rfl rfl (fun w hC => (R_nilCheck E rfl rfl)) ?_
  clear E a; intro a E
  refine D_v E rfl rfl rfl (fun w hC => (R_fieldAddr E rfl (FA144_1 _))) ?_
  clear E a; intro a E
  refine D_v E rfl rfl rfl (fun w hC => (R_load E rfl (Tryz.isAgg116 _) (cell_blkf (hC.2.1 rfl) rfl))) ?_
  clear E a; intro a E
  refine D_v E rfl rfl rfl (fun w hC => (R_nilCheck E rfl se0)) ?_
  clear E a; intro a E
  refine D_v E rfl rfl rfl (fun w hC => (R_loadM E (congrArg some se0) Tryz.isAgg145 hC.1 (cellM_box shb0))) ?_
  clear E a; intro a E
  refine D_v E rfl rfl rfl (fun w hC => (R_move E rfl)) ?_
  clear E a; intro a E
  refine D_v E rfl rfl rfl (fun w hC => (R_nilCheck E rfl rfl)) ?_
  clear E a; intro a E
  refine D_v E rfl rfl rfl (fun w hC => (R_fieldAddr E rfl (FA144_1 _))) ?_
  clear E a; intro a E
  refine D_v E rfl rfl rfl (fun w hC => (R_load E rfl (Tryz.isAgg116 _) (cell_blkf (hC.2.2 rfl) rfl))) ?_
  clear E a; intro a E
  refine D_v E rfl rfl rfl (fun w hC => (R_ifaceP E rfl Tryz.underlying116)) ?_
  clear E a; intro a E
  refine D_x rfl rfl rfl (X_pu E S rfl rfl rfl (U_Union shm0 shn0 shq0 h1 (by first | assumption | omega) (by first | assumption | omega)) (Hp.le.refl _) ?_)
  clear E a S; rintro a _ w M_3 hM_3 ⟨v_4, rfl, hv_4⟩ S E
  replace h0 := h0.le hM_3
  replace h1 := h1.le hM_3
  replace shb0 := hM_3.2 _ _ shb0
  replace shm0 := shm0.le hM_3
  replace shb1 := hM_3.2 _ _ shb1
  replace shm1 := shm1.le hM_3
  refine ⟨fun x hq hb => ⟨(agree_le hM_3 S.imm), (fun e => by subst e; exact absurd hb (by decide)), (fun e => by subst e; exact absurd hb (by decide))⟩, ?_⟩
  refine D_v E rfl rfl rfl (fun w hC => (R_assert E rfl Tryz.underlying116 (by intro z hz; cases hz))) ?_
  clear E a; intro a E
  refine D_v E rfl rfl rfl (fun w hC => (R_assign E rfl)) ?_
  clear E a; intro a E
  refine D_end (NoP_n ?_)
  refine T_n ?_
  refine WP_seq ?_
  refine WP_region ?_
  refine S_v E rfl (R_move E rfl) rfl ?_
  clear E a; intro a E
  have hset := hv_4
  obtain ⟨b_5, m_6, q_7, e_8, hb_9, hm_10, hn_11, hq_12⟩ := hset
  have hq_12l : q_7.length ≤ (c0 ++ c1).length := nodup_len hn_11 fun z hz => (hq_12 z).1 hz
  refine S_v E rfl (R_build (u := .agg #[.int .i32 0, .int .u32 0, .int .u32 0, .int .u32 0, .int .i32 0, .int .i32 0, v_4]) (vs := [v_4]) E rfl (fun w => by rw [e_8]; exact BLK144 _ w)) rfl ?_
  clear E a; intro a E
  refine S_x (X_box (cs := #[.int .i32 0, .int .u32 0, .int .u32 0, .int .u32 0, .int .i32 0, .int .i32 0, v_4]) E S rfl rfl rfl ?_)
  clear E a S; rintro a w b_13 E S
  refine S_v E rfl (R_assign E rfl) rfl ?_
  clear E a; intro a E
  refine WL_nil ?_
  refine T_n ?_
  refine WP_seq ?_
  refine WP_region ?_
  refine S_v E rfl (R_move E rfl) rfl ?_
  clear E a; intro a E
  refine S_v E rfl (R_nilCheck E rfl rfl) rfl ?_
  clear E a; intro a E
  refine S_v E rfl (R_fieldAddr E rfl (FA144_0 _)) rfl ?_
  clear E a; intro a E
  replace S := S.front2
  replace S : St w M_3 (LK p0 144 (0 + 1) v0 :: _) := S
  refine S_x (X_sp (p := [LK p0 144 (0 + 1) v0]) E S rfl rfl rfl (runlock_sp Tryz.rwRLib (T := 144) (n := 0) (by decide) (by decide)) (Hp.le.refl _) ?_)
  clear E a S; rintro a _ w M_14 _ hM_14 ⟨rfl, rfl⟩ S E
  replace S : St w M_14 (blk p0 (.cells #[.int .i32 0, .int .u32 0, .int .u32 0, .int .u32 0, .int .i32 0, .int .i32 0, v0] 144) :: blk b_13 (.cells #[.int .i32 0, .int .u32 0, .int .u32 0, .int .u32 0, .int .i32 0, .int .i32 0, v_4] 144) :: blk p1 (.cells #[.int .i32 0, .int .u32 0, .int .u32 0, .int .u32 0, .int .i32 1, .int .i32 0, v1] 144) :: H) := S
  replace h0 := h0.le hM_14
  replace h1 := h1.le hM_14
  replace shb0 := hM_14.2 _ _ shb0
  replace shm0 := shm0.le hM_14
  replace shb1 := hM_14.2 _ _ shb1
  replace shm1 := shm1.le hM_14
  replace hv_4 := hv_4.le hM_14
  replace hb_9 := hM_14.2 _ _ hb_9
  replace hm_10 := hm_10.le hM_14
  refine WL_nil ?_
  refine T_n ?_
  refine WP_seq ?_
  refine WP_region ?_
  refine S_v E rfl (R_move E rfl) rfl ?_
  clear E a; intro a E
  refine S_v E rfl (R_nilCheck E rfl rfl) rfl ?_
  clear E a; intro a E
  refine S_v E rfl (R_fieldAddr E rfl (FA144_0 _)) rfl ?_
  clear E a; intro a E
  replace S := S.front2
  replace S : St w M_14 (LK p1 144 (0 + 1) v1 :: _) := S
  refine S_x (X_sp (p := [LK p1 144 (0 + 1) v1]) E S rfl rfl rfl (runlock_sp Tryz.rwRLib (T := 144) (n := 0) (by decide) (by decide)) (Hp.le.refl _) ?_)
  clear E a S; rintro a _ w M_15 _ hM_15 ⟨rfl, rfl⟩ S E
  replace S : St w M_15 (blk p1 (.cells #[.int .i32 0, .int .u32 0, .int .u32 0, .int .u32 0, .int .i32 0, .int .i32 0, v1] 144) :: blk p0 (.cells #[.int .i32 0, .int .u32 0, .int .u32 0, .int .u32 0, .int .i32 0, .int .i32 0, v0] 144) :: blk b_13 (.cells #[.int .i32 0, .int .u32 0, .int .u32 0, .int .u32 0, .int .i32 0, .int .i32 0, v_4] 144) :: H) := S
  replace h0 := h0.le hM_15
  replace h1 := h1.le hM_15
  replace shb0 := hM_15.2 _ _ shb0
  replace shm0 := shm0.le hM_15
  replace shb1 := hM_15.2 _ _ shb1
  replace shm1 := shm1.le hM_15
  replace hv_4 := hv_4.le hM_15
  replace hb_9 := hM_15.2 _ _ hb_9
  replace hm_10 := hm_10.le hM_15
  refine WL_nil ?_
  refine T_n ?_
  refine WP_seq ?_
  refine WP_region ?_
  refine S_v E rfl (R_move E rfl) rfl ?_
  clear E a; intro a E
  refine S_v E rfl (R_ifaceP E rfl Tryz.underlying114) rfl ?_
  clear E a; intro a E
  refine S_v E rfl (R_assign E rfl) rfl ?_
  clear E a; intro a E
  refine WL_nil ?_
  refine T_n ?_
  refine WP_ret ?_
  replace S := S.front2
  replace S := S.front1
  replace S := S.front2
  exact F_ret1 E Tryz.results183 rfl ⟨_, rfl, M_15, _, (hM_1.trans (hM_2.trans (hM_3.trans (hM_14.trans hM_15)))), ⟨_, _, rfl, rfl, hv_4⟩, S⟩

set_option maxRecDepth 100000 in
set_option maxHeartbeats 4000000 in
theorem S_ToSlice {M : Hp} {p0 : Nat} {v0 : Value} {c0 : List Int} (h0 : RdSU 145 M v0 c0) (b0 : c0.length ≤ 1000000000)  :
    Sp Tryz.prog (.func (.func 182) #[] #[]) M [.pointer (some ⟨p0, 0, none⟩)] [blk p0 (.cells #[.int .i32 0, .int .u32 0, .int .u32 0, .int .u32 0, .int .i32 0, .int .i32 0, v0] 144)] (fun r M' C' => ∃ l_, C' = [blk p0 (.cells #[.int .i32 0, .int .u32 0, .int .u32 0, .int .u32 0, .int .i32 0, .int .i32 0, v0] 144), OwnI 3 r l_] ∧ (l_.Nodup) ∧ (∀ x, x ∈ l_ ↔ x ∈ c0)) := by
  refine Sp_enter Tryz.func182 rfl Tryz.ntmps182 rfl Tryz.call182 ?_
  intro a w M1 H hM1 S E
  replace S : St w M1 (blk p0 (.cells #[.int .i32 0, .int .u32 0, .int .u32 0, .int .u32 0, .int .i32 0, .int .i32 0, v0] 144) :: _) := S
  replace h0 := h0.le hM1
  have hset := h0
  obtain ⟨sb0, sm0, sq0, se0, shb0, shm0, shn0, shq0⟩ := hset
  have shq0l : sq0.length ≤ c0.length := nodup_len shn0 fun z hz => (shq0 z).1 hz
  refine WP_seq ?_
  refine WP_region ?_
  refine S_v E rfl (R_assign E rfl) rfl ?_
  clear E a; intro a E
  refine WL_nil ?_
  refine T_n ?_
  refine WP_seq ?_
  refine WP_region ?_
  refine S_v E rfl (R_move E rfl) rfl ?_
  clear E a; intro a E
  refine S_v E rfl (R_nilCheck E rfl rfl) rfl ?_
  clear E a; intro a E
  refine S_v E rfl (R_fieldAddr E rfl (FA144_0 _)) rfl ?_
  clear E a; intro a E
  replace S : St w M1 (LK p0 144 0 v0 :: _) := S
  refine S_x (X_sp (p := [LK p0 144 0 v0]) E S rfl rfl rfl (rlock_sp Tryz.rwRLib (T := 144) (n := 0) (by decide) (by decide)) (Hp.le.refl _) ?_)
  clear E a S; rintro a _ w M_1 _ hM_1 ⟨rfl, rfl⟩ S E
  replace S : St w M_1 (blk p0 (.cells #[.int .i32 0, .int .u32 0, .int .u32 0, .int .u32 0, .int .i32 1, .int .i32 0, v0] 144) :: H) := S
  replace h0 := h0.le hM_1
  replace shb0 := hM_1.2 _ _ shb0
  replace shm0 := shm0.le hM_1
  refine WL_nil ?_
  refine T_n ?_
  refine WP_seq ?_
  refine WP_region ?_
  refine S_v E rfl (R_move E rfl) rfl ?_
  clear E a; intro a E
  refine S_v E rfl (R_nilCheck E rfl rfl) rfl ?_
  clear E a; intro a E
  refine S_v E rfl (R_fieldAddr E rfl (FA144_1 _)) rfl ?_
  clear E a; intro a E
  refine S_v E rfl (R_load E rfl (Tryz.isAgg116 _) (cell_blkf (S.mem (.head _)) rfl)) rfl ?_
  clear E a; intro a E
  refine S_v E rfl (R_nilCheck E rfl se0) rfl ?_
  clear E a; intro a E
  refine S_v E rfl (R_loadM E (congrArg some se0) Tryz.isAgg145 S.imm (cellM_box shb0)) rfl ?_
  clear E a; intro a E
  refine S_v E rfl ((R_lenF S.imm shm0 E MT145 rfl).trans (by rw [encS_len])) rfl ?_
  clear E a; intro a E
  refine S_v E rfl (R_assign E rfl) rfl ?_
  clear E a; intro a E
  refine WL_nil ?_
  refine T_n ?_
  refine WP_seq ?_
  refine WP_region ?_
  refine S_v E rfl (R_move E rfl) rfl ?_
  clear E a; intro a E
  refine S_x (X_make0 (k := (sq0).length) E S rfl rfl rfl T22 rfl (by omega) (by omega) (by omega) ?_)
  clear E a S; rintro a w v_2 E S
  replace S := S.made0
  refine S_v E rfl (R_assign E rfl) rfl ?_
  clear E a; intro a E
  refine WL_nil ?_
  refine T_n ?_
  refine WP_seq ?_
  refine WP_seq ?_
  refine WP_region ?_
  refine S_v E rfl (R_move E rfl) rfl ?_
  clear E a; intro a E
  refine S_v E rfl (R_nilCheck E rfl rfl) rfl ?_
  clear E a; intro a E
  refine S_v E rfl (R_fieldAddr E rfl (FA144_1 _)) rfl ?_
  clear E a; intro a E
  refine S_v E rfl (R_load E rfl (Tryz.isAgg116 _) (cell_blkf (S.mem (.tail _ (.head _))) rfl)) rfl ?_
  clear E a; intro a E
  refine S_v E rfl (R_nilCheck E rfl se0) rfl ?_
  clear E a; intro a E
  refine S_v E rfl (R_loadM E (congrArg some se0) Tryz.isAgg145 S.imm (cellM_box shb0)) rfl ?_
  clear E a; intro a E
  refine S_x (X_range E S rfl MT145 shm0 rfl ?_)
  clear E a S; rintro a w i_3 es_4 ck_5 E hf_6 S
  replace S : St w M_1 (ItO sm0 es_4 ck_5 i_3 (Sl.encS ([] : List Int)) :: _) := S
  refine WL_nil ?_
  refine T_n ?_
  refine WP_block ?_
  replace S := S.front1
  replace S := S.front1
  replace S := S.front1
  replace S := S.re1 (l' := []) (by (first | rfl | (simp [addsL_snoc]; done) | (simp [addsL_snoc, List.filter_append, *]; done)))
  replace S := S.front1
  replace S := S.reIt (p' := (Sl.encS [])) (congrArg Sl.encS (show ([] : List Int) = [] by (first | rfl | (simp [addsL_snoc]; done) | (simp [addsL_snoc, List.filter_append, *]; done))))
  refine WP_loop (γ := List Int) (fun (p : List Int) a w => ∃ (M_7 : Hp) (u4 : Value), Hp.le M_1 M_7 ∧ St w M_7 (ItO sm0 es_4 ck_5 i_3 (Sl.encS p) :: OwnI 3 u4 p :: blk p0 (.cells #[.int .i32 0, .int .u32 0, .int .u32 0, .int .u32 0, .int .i32 1, .int .i32 0, v0] 144) :: H) ∧ Env a 39 [] [(0, .pointer (some ⟨p0, 0, none⟩)), (4, u4), (25, .pointer (some ⟨i_3, 0, none⟩))] ∧ (p.Nodup) ∧ (∀ z ∈ p, z ∈ sq0) ∧ (p.length ≤ sq0.length)) (fun p => sq0.length - p.length) [] ⟨M_1, _, Hp.le.refl _, S, E.keep ⟨rfl, rfl, rfl, trivial⟩, (by simp), (by simp), (by simp)⟩ ?_
  try clear E
  try clear S
  try clear a
  try clear w
  rintro p a w ⟨M_7, u4, hM_7, S, E, hL0_0, hL0_1, hL0_2⟩
  replace h0 := h0.le hM_7
  replace shb0 := hM_7.2 _ _ shb0
  replace shm0 := shm0.le hM_7
  replace hf_6 := hf_6.le hM_7
  refine WP_seq ?_
  refine WP_region ?_
  refine S_x (X_nextS E S rfl hf_6 rfl (by assumption) (by assumption) ?_ ?_)
  · clear E a S; rintro a E hpm_8 S
    refine S_v E rfl (R_extract E rfl rfl) rfl ?_
    clear E a; intro a E
    refine WL_nil ?_
    refine T_n ?_
    refine WP_seq ?_
    refine WP_condF E rfl rfl ?_
    refine WP_exit ?_
    refine T_x ?_
    refine T_x ?_
    refine B_x ?_
    refine T_n ?_
    refine WP_seq ?_
    refine WP_region ?_
    refine S_v E rfl (R_move E rfl) rfl ?_
    clear E a; intro a E
    refine S_v E rfl (R_nilCheck E rfl rfl) rfl ?_
    clear E a; intro a E
    refine S_v E rfl (R_fieldAddr E rfl (FA144_0 _)) rfl ?_
    clear E a; intro a E
    replace S := S.front2
    replace S : St w M_7 (LK p0 144 (0 + 1) v0 :: _) := S
    refine S_x (X_sp (p := [LK p0 144 (0 + 1) v0]) E S rfl rfl rfl (runlock_sp Tryz.rwRLib (T := 144) (n := 0) (by decide) (by decide)) (Hp.le.refl _) ?_)
    clear E a S; rintro a _ w M_9 _ hM_9 ⟨rfl, rfl⟩ S E
    replace S : St w M_9 (blk p0 (.cells #[.int .i32 0, .int .u32 0, .int .u32 0, .int .u32 0, .int .i32 0, .int .i32 0, v0] 144) :: ItO sm0 es_4 ck_5 i_3 (Sl.encS p) :: OwnI 3 u4 p :: H) := S
    replace h0 := h0.le hM_9
    replace shb0 := hM_9.2 _ _ shb0
    replace shm0 := shm0.le hM_9
    replace hf_6 := hf_6.le hM_9
    refine WL_nil ?_
    refine T_n ?_
    refine WP_seq ?_
    refine WP_region ?_
    refine S_v E rfl (R_move E rfl) rfl ?_
    clear E a; intro a E
    refine S_v E rfl (R_assign E rfl) rfl ?_
    clear E a; intro a E
    refine WL_nil ?_
    refine T_n ?_
    refine WP_ret ?_
    replace S := S.front1
    replace S := S.drop
    replace S := S.front1
    replace S := S.front1
    exact F_ret1 E Tryz.results182 rfl ⟨_, rfl, M_9, _, (hM_1.trans (hM_7.trans hM_9)), ⟨_, rfl, (by assumption), (by (intro x; exact (List.Perm.mem_iff (by first | assumption | (exact List.Perm.symm (by assumption)))).trans (shq0 x)))⟩, S⟩
  · clear E a S w; rintro a w k_10 E hk_11 hk_11n hk_11l S
    refine S_v E rfl (R_extract E rfl rfl) rfl ?_
    clear E a; intro a E
    refine WL_nil ?_
    refine T_n ?_
    refine WP_seq ?_
    refine WP_condT E rfl rfl ?_
    refine WP_skip ?_
    refine T_n ?_
    refine WP_block ?_
    refine WP_seq ?_
    refine WP_region ?_
    refine S_v E rfl (R_entry (k := k_10) (v := .agg #[]) E (by have S1 := S; simp only [Sl.encS, List.map_append, List.map_cons, List.map_nil] at S1; exact S1) hf_6 rfl) rfl ?_
    clear E a; intro a E
    refine S_v E rfl (R_extract E rfl rfl) rfl ?_
    clear E a; intro a E
    refine S_v E rfl (R_assign E rfl) rfl ?_
    clear E a; intro a E
    refine WL_nil ?_
    refine T_n ?_
    refine WP_region ?_
    refine S_v E rfl (R_move E rfl) rfl ?_
    clear E a; intro a E
    refine S_v E rfl (R_move E rfl) rfl ?_
    clear E a; intro a E
    refine S_x (X_buildI (ys := [k_10]) E S rfl T22 rfl rfl rfl ?_)
    clear E a S; rintro a w v_12 E S
    replace S := S.front2
    replace S := S.front1
    refine S_x (X_appendB (xs := p) (ys := [k_10]) E S rfl rfl rfl T22 (by (simp; omega)) ?_)
    clear E a S; rintro a w v_13 E S
    refine S_v E rfl (R_assign E rfl) rfl ?_
    clear E a; intro a E
    refine WL_nil ?_
    refine B_n ?_
    refine T_n ?_
    replace S := S.front2
    replace S := S.front1
    replace S := S.front2
    replace S := S.front1
    replace S := S.re1 (l' := (p ++ [k_10])) (by (first | rfl | (simp [addsL_snoc]; done) | (simp [addsL_snoc, List.filter_append, *]; done)))
    replace S := S.front1
    replace S := S.reIt (p' := (Sl.encS (p ++ [k_10]))) (congrArg Sl.encS (show p ++ [k_10] = (p ++ [k_10]) by (first | rfl | (simp [addsL_snoc]; done) | (simp [addsL_snoc, List.filter_append, *]; done))))
    exact ⟨(p ++ [k_10]), ⟨M_7, _, hM_7, S, E.keep ⟨rfl, rfl, rfl, trivial⟩, (by exact snocN (by assumption) (by assumption)), (by exact snocS (by assumption) (by assumption)), (by simp; omega)⟩, (by simp; omega)⟩

set_option maxRecDepth 100000 in
set_option maxHeartbeats 4000000 in
theorem S_Sorted {M : Hp} {p0 : Nat} {v0 : Value} {c0 : List Int} (h0 : RdSU 145 M v0 c0) (b0 : c0.length ≤ 1000000000)  :
    Sp Tryz.prog (.func (.func 39) #[] #[]) M [.iface 114 (.pointer (some ⟨p0, 0, none⟩))] [blk p0 (.cells #[.int .i32 0, .int .u32 0, .int .u32 0, .int .u32 0, .int .i32 0, .int .i32 0, v0] 144)] (fun r M' C' => C' = [blk p0 (.cells #[.int .i32 0, .int .u32 0, .int .u32 0, .int .u32 0, .int .i32 0, .int .i32 0, v0] 144)] ∧ (RdI M' r (suL c0))) := by
  refine Sp_enter Tryz.func39 rfl Tryz.ntmps39 rfl Tryz.call39 ?_
  intro a w M1 H hM1 S E
  replace S : St w M1 (blk p0 (.cells #[.int .i32 0, .int .u32 0, .int .u32 0, .int .u32 0, .int .i32 0, .int .i32 0, v0] 144) :: _) := S
  replace h0 := h0.le hM1
  refine WP_seq ?_
  refine WP_region ?_
  refine S_v E rfl (R_assign E rfl) rfl ?_
  clear E a; intro a E
  refine WL_nil ?_
  refine T_n ?_
  refine WP_seq ?_
  refine WP_region ?_
  refine S_v E rfl (R_move E rfl) rfl ?_
  clear E a; intro a E
  refine S_x (X_spI (p := [blk p0 (.cells #[.int .i32 0, .int .u32 0, .int .u32 0, .int .u32 0, .int .i32 0, .int .i32 0, v0] 144)]) E S rfl rfl rfl (meth_114_ToSlice _ _) Tryz.call182 (S_ToSlice h0 (by first | assumption | omega)) (Hp.le.refl _) ?_)
  clear E a S; rintro a v_2 w M_1 _ hM_1 ⟨l_3, rfl, hl_3n, hl_3m⟩ S E
  have hl_3l : l_3.length ≤ c0.length := nodup_len hl_3n fun z hz => (hl_3m z).1 hz
  replace S : St w M_1 (blk p0 (.cells #[.int .i32 0, .int .u32 0, .int .u32 0, .int .u32 0, .int .i32 0, .int .i32 0, v0] 144) :: OwnI 3 v_2 l_3 :: H) := S
  replace h0 := h0.le hM_1
  refine S_v E rfl (R_assign E rfl) rfl ?_
  clear E a; intro a E
  refine WL_nil ?_
  refine T_n ?_
  refine WP_seq ?_
  refine WP_region ?_
  refine S_v E rfl (R_move E rfl) rfl ?_
  clear E a; intro a E
  replace S := S.front1
  refine S_x (X_sp (p := [OwnI 3 v_2 l_3]) E S rfl rfl rfl (slices_Sort (by (first | omega | (simp; omega) | (simp; done) | (simp_all; omega) | grind))) (Hp.le.refl _) ?_)
  clear E a S; rintro a v_5 w M_4 _ hM_4 rfl S E
  replace S : St w M_4 (OwnI 3 v_2 (srtM l_3) :: _) := S
  replace h0 := h0.le hM_4
  refine WL_nil ?_
  refine T_n ?_
  refine WP_seq ?_
  refine WP_region ?_
  refine S_v E rfl (R_move E rfl) rfl ?_
  clear E a; intro a E
  refine S_v E rfl (R_assign E rfl) rfl ?_
  clear E a; intro a E
  refine WL_nil ?_
  refine T_n ?_
  refine WP_ret ?_
  have S0 := S; clear S
  obtain ⟨M_6, hM_6, hz_7, S⟩ := S0.freezeI (by (first | omega | (rw [srtM_len]; omega)))
  clear S0
  replace h0 := h0.le hM_6
  exact F_ret1 E Tryz.results39 rfl ⟨_, rfl, M_6, _, (hM_1.trans (hM_4.trans hM_6)), ⟨rfl, (by rw [show (suL c0) = (srtM l_3) from by (first | exact suL_of (by assumption) (by assumption) | exact (suL_of (by assumption) (by assumption)).symm)]; exact hz_7)⟩, S⟩

set_option maxRecDepth 100000 in
set_option maxHeartbeats 4000000 in
theorem S_SetUnion {M : Hp} {v1 v2 : Value} {l1 l2 : List Int} (h1 : RdI M v1 l1) (h2 : RdI M v2 l2)(hb1 : l1.length ≤ 100000000) (hb2 : l2.length ≤ 100000000)  :
    Pu Tryz.prog (.func (.func 10) #[] #[]) M [.bool true, v1, v2] (fun r M' => RdI M' r (suL (l1 ++ l2))) := by
  refine Pu_enter Tryz.func10 rfl Tryz.ntmps10 rfl Tryz.call10 ?_
  intro a w M1 H hM1 S E
  replace h1 := h1.le hM1
  replace h2 := h2.le hM1
  have b1 := h1.bound
  have b2 := h2.bound
  refine WP_seq ?_
  refine WP_region ?_
  refine S_v E rfl (R_assign E rfl) rfl ?_
  clear E a; intro a E
  refine WL_nil ?_
  refine T_n ?_
  refine WP_seq ?_
  refine WP_region ?_
  refine S_v E rfl (R_move E rfl) rfl ?_
  clear E a; intro a E
  refine S_v E rfl (R_move E rfl) rfl ?_
  clear E a; intro a E
  refine S_v E rfl (R_move E rfl) rfl ?_
  clear E a; intro a E
  refine S_x (X_sp (p := []) E S rfl rfl rfl (S_twoSets h1 h2 (by first | assumption | omega) (by first | assumption | omega)) (Hp.le.refl _) ?_)
  clear E a S; rintro a _ w M_1 _ hM_1 ⟨p_3, v_4, p_5, v_6, rfl, rfl, hv_4, hv_6⟩ S E
  replace S : St w M_1 (blk p_3 (.cells #[.int .i32 0, .int .u32 0, .int .u32 0, .int .u32 0, .int .i32 0, .int .i32 0, v_4] 144) :: blk p_5 (.cells #[.int .i32 0, .int .u32 0, .int .u32 0, .int .u32 0, .int .i32 0, .int .i32 0, v_6] 144) :: H) := S
  replace h1 := h1.le hM_1
  replace h2 := h2.le hM_1
  refine S_v E rfl (R_move E rfl) rfl ?_
  clear E a; intro a E
  refine S_v E rfl (R_extract E rfl rfl) rfl ?_
  clear E a; intro a E
  refine S_v E rfl (R_extract E rfl rfl) rfl ?_
  clear E a; intro a E
  refine S_v E rfl (R_assign E rfl) rfl ?_
  clear E a; intro a E
  refine S_v E rfl (R_assign E rfl) rfl ?_
  clear E a; intro a E
  refine WL_nil ?_
  refine T_n ?_
  refine WP_seq ?_
  refine WP_region ?_
  refine S_v E rfl (R_move E rfl) rfl ?_
  clear E a; intro a E
  refine S_v E rfl (R_move E rfl) rfl ?_
  clear E a; intro a E
  replace S := S.front1
  replace S := S.front1
  refine S_x (X_spI (p := [blk p_3 (.cells #[.int .i32 0, .int .u32 0, .int .u32 0, .int .u32 0, .int .i32 0, .int .i32 0, v_4] 144), blk p_5 (.cells #[.int .i32 0, .int .u32 0, .int .u32 0, .int .u32 0, .int .i32 0, .int .i32 0, v_6] 144)]) E S rfl rfl rfl (meth_114_Union _ _) Tryz.call183 (S_Union hv_4 hv_6 (by first | assumption | omega) (by first | assumption | omega)) (Hp.le.refl _) ?_)
  clear E a S; rintro a _ w M_7 _ hM_7 ⟨p_9, v_10, rfl, rfl, hv_10⟩ S E
  replace S : St w M_7 (blk p_3 (.cells #[.int .i32 0, .int .u32 0, .int .u32 0, .int .u32 0, .int .i32 0, .int .i32 0, v_4] 144) :: blk p_5 (.cells #[.int .i32 0, .int .u32 0, .int .u32 0, .int .u32 0, .int .i32 0, .int .i32 0, v_6] 144) :: blk p_9 (.cells #[.int .i32 0, .int .u32 0, .int .u32 0, .int .u32 0, .int .i32 0, .int .i32 0, v_10] 144) :: H) := S
  replace h1 := h1.le hM_7
  replace h2 := h2.le hM_7
  replace hv_4 := hv_4.le hM_7
  replace hv_6 := hv_6.le hM_7
  replace S := S.front2
  refine S_x (X_sp (p := [blk p_9 (.cells #[.int .i32 0, .int .u32 0, .int .u32 0, .int .u32 0, .int .i32 0, .int .i32 0, v_10] 144)]) E S rfl rfl rfl (S_Sorted hv_10 (by first | assumption | omega | (simp only [List.length_append]; omega) | exact Nat.le_trans (List.length_filter_le _ _) (by omega) | (rw [List.length_append]; have h8 := List.length_filter_le (fun z => decide (z ∉ l2)) l1; have h9 := List.length_filter_le (fun z => decide (z ∉ l1)) l2; omega))) (Hp.le.refl _) ?_)
  clear E a S; rintro a v_13 w M_11 _ hM_11 ⟨rfl, hv_13⟩ S E
  replace S : St w M_11 (blk p_9 (.cells #[.int .i32 0, .int .u32 0, .int .u32 0, .int .u32 0, .int .i32 0, .int .i32 0, v_10] 144) :: blk p_3 (.cells #[.int .i32 0, .int .u32 0, .int .u32 0, .int .u32 0, .int .i32 0, .int .i32 0, v_4] 144) :: blk p_5 (.cells #[.int .i32 0, .int .u32 0, .int .u32 0, .int .u32 0, .int .i32 0, .int .i32 0, v_6] 144) :: H) := S
  replace h1 := h1.le hM_11
  replace h2 := h2.le hM_11
  replace hv_4 := hv_4.le hM_11
  replace hv_6 := hv_6.le hM_11
  replace hv_10 := hv_10.le hM_11
  refine S_v E rfl (R_assign E rfl) rfl ?_
  clear E a; intro a E
  refine WL_nil ?_
  refine T_n ?_
  refine WP_ret ?_
  exact F_ret1 E Tryz.results10 rfl ⟨_, rfl, M_11, (hM_1.trans (hM_7.trans hM_11)), hv_13, S.drop.drop.drop⟩

set_option maxRecDepth 100000 in
set_option maxHeartbeats 4000000 in
theorem impl_SetUnion {M : Hp} {x0 : Bool} {v1 v2 : Value} {l1 l2 : List Int} (h1 : RdI M v1 l1) (h2 : RdI M v2 l2)(hb1 : l1.length ≤ 100000000) (hb2 : l2.length ≤ 100000000) :
    Pu Tryz.prog (.func (.func 10) #[] #[]) M [.bool x0, v1, v2] (fun r M' => RdI M' r (suL (l1 ++ l2))) := by
  cases x0
  · exact U_SetUnion h1 h2 hb1 hb2
  · exact S_SetUnion h1 h2 hb1 hb2

set_option maxRecDepth 100000 in
set_option maxHeartbeats 4000000 in
theorem laws_few {M : Hp} {v0 : Value} {l0 : List (List Int)} (h0 : RdII M v0 l0) :
    Pu Tryz.prog (.func (.func 11) #[] #[]) M [v0] (fun r M' => r = .bool (decide (∀ x ∈ l0, x.length ≤ 300))) := by
  refine Pu_enter Tryz.func11 rfl Tryz.ntmps11 rfl Tryz.call11 ?_
  intro a w M1 H hM1 S E
  replace h0 := h0.le hM1
  have b0 := h0.bound
  refine WP_seq ?_
  refine WP_region ?_
  refine S_v E rfl (R_assign E rfl) rfl ?_
  clear E a; intro a E
  refine WL_nil ?_
  refine T_n ?_
  refine WP_seq ?_
  refine WP_seq ?_
  refine WP_region ?_
  refine S_v E rfl (R_move E rfl) rfl ?_
  clear E a; intro a E
  refine S_v E rfl (R_lenV E rfl T36 h0.len) rfl ?_
  clear E a; intro a E
  refine S_v E rfl (R_move E rfl) rfl ?_
  clear E a; intro a E
  refine WL_nil ?_
  refine T_n ?_
  refine WP_block ?_
  refine WP_loop (γ := Nat) (fun (k : Nat) a w => ∃ (M_1 : Hp), Hp.le M1 M_1 ∧ St w M_1 (H) ∧ Env a 15 [] [(5, v0), (6, .int .i64 (((l0).length : Nat) : Int)), (7, .int .i64 ((k : Nat) : Int))] ∧ (k ≤ (l0).length) ∧ (∀ x ∈ l0.take k, x.length ≤ 300)) (fun k => ((l0).length) - k) 0 ⟨M1, Hp.le.refl _, S, E.keep ⟨rfl, rfl, rfl, trivial⟩, by ((try clear S); (try clear E); first | assumption | omega | rfl | (simp; done) | (simp_all; done) | (simp [List.take_add_one, *]; done) | grind [List.take_add_one]), by ((try clear S); (try clear E); first | assumption | omega | rfl | (simp; done) | (simp_all; done) | (simp [List.take_add_one, *]; done) | grind [List.take_add_one])⟩ ?_
  try clear E
  try clear S
  try clear a
  try clear w
  rintro k a w ⟨M_1, hM_1, S, E, hL0_0, hL0_1⟩
  replace h0 := h0.le hM_1
  refine WP_seq ?_
  refine WP_region ?_
  refine S_v E rfl (R_lss E rfl rfl) rfl ?_
  clear E a; intro a E
  refine WL_nil ?_
  refine T_n ?_
  refine WP_seq ?_
  refine WP_cond E rfl (fun hc_2 => ?_) (fun hc_2 => ?_)
  · replace hc_2 := of_decide_eq_true hc_2
    refine WP_skip ?_
    refine T_n ?_
    refine WP_seq ?_
    refine WP_block ?_
    refine WP_seq ?_
    refine WP_region ?_
    obtain ⟨x_3, hx_3⟩ : ∃ x, (l0)[k]? = some x := ⟨_, List.getElem?_eq_getElem (by first | omega | (simp; done) | (simp; omega) | (simp_all; omega))⟩
    obtain ⟨p_4, u_5, hp_4, qp_4, hu_5⟩ := h0.at hx_3
    have bu_5 := hu_5.bound
    refine S_v E rfl (R_idx E rfl rfl T36 hp_4 rfl) rfl ?_
    clear E a; intro a E
    refine S_v E rfl (R_loadM E rfl Tryz.isAgg22 S.imm qp_4) rfl ?_
    clear E a; intro a E
    refine S_v E rfl (R_assign E rfl) rfl ?_
    clear E a; intro a E
    refine WL_nil ?_
    refine T_n ?_
    refine WP_seq ?_
    refine WP_region ?_
    refine S_v E rfl (R_move E rfl) rfl ?_
    clear E a; intro a E
    refine S_v E rfl (R_lenV E rfl T22 hu_5.len) rfl ?_
    clear E a; intro a E
    refine S_v E rfl (R_gtr E rfl rfl) rfl ?_
    clear E a; intro a E
    refine WL_nil ?_
    refine T_n ?_
    refine WP_cond E rfl (fun hc_6 => ?_) (fun hc_6 => ?_)
    · replace hc_6 := of_decide_eq_true hc_6
      refine WP_seq ?_
      refine WP_region ?_
      refine S_v E rfl (R_assign E rfl) rfl ?_
      clear E a; intro a E
      refine WL_nil ?_
      refine T_n ?_
      refine WP_ret ?_
      refine B_r ?_
      refine T_r ?_
      refine T_r ?_
      refine B_r ?_
      refine T_r ?_
      exact F_ret1 E Tryz.results11 rfl ⟨_, rfl, M_1, hM_1, (bF (by ((try clear S); (try clear E); first | assumption | omega | rfl | (simp; done) | (simp_all; done) | (simp [List.take_add_one, *]; done) | grind [List.take_add_one]))), S⟩
    · replace hc_6 := of_decide_eq_false hc_6
      refine WP_skip ?_
      refine B_n ?_
      refine T_n ?_
      refine WP_region ?_
      refine S_v E rfl (R_addx (m := ((k + 1 : Nat) : Int)) E rfl rfl (by omega) (by omega)) rfl ?_
      clear E a; intro a E
      refine S_v E rfl (R_move E rfl) rfl ?_
      clear E a; intro a E
      refine WL_nil ?_
      refine T_n ?_
      exact ⟨k + 1, ⟨M_1, hM_1, S, E.keep ⟨rfl, rfl, rfl, trivial⟩, by ((try clear S); (try clear E); first | assumption | omega | rfl | (simp; done) | (simp_all; done) | (simp [List.take_add_one, *]; done) | grind [List.take_add_one]), by ((try clear S); (try clear E); first | assumption | omega | rfl | (simp; done) | (simp_all; done) | (simp [List.take_add_one, *]; done) | grind [List.take_add_one])⟩, by omega⟩
  · replace hc_2 := of_decide_eq_false hc_2
    refine WP_exit ?_
    refine T_x ?_
    refine T_x ?_
    refine B_x ?_
    refine T_n ?_
    refine WP_seq ?_
    refine WP_region ?_
    refine S_v E rfl (R_assign E rfl) rfl ?_
    clear E a; intro a E
    refine WL_nil ?_
    refine T_n ?_
    refine WP_ret ?_
    exact F_ret1 E Tryz.results11 rfl ⟨_, rfl, M_1, hM_1, (bT (by ((try clear S); (try clear E); first | assumption | omega | rfl | (simp; done) | (simp_all; done) | (simp [List.take_add_one, *]; done) | grind [List.take_add_one]))), S⟩

set_option maxRecDepth 100000 in
set_option maxHeartbeats 4000000 in
theorem laws_FnSetLaws_1 {M : Hp} {v0 v1 : Value} {l0 l1 : List Int} (h0 : RdI M v0 l0) (h1 : RdI M v1 l1)(hb1 : l0.length ≤ 100000000) (hb2 : l1.length ≤ 100000000) {bx2 : Nat} {x9 : Bool} (hbx2 : M bx2 = some (.cells #[.bool x9] 4)) :
    Pu Tryz.prog (.func (.func 12) #[] #[.pointer (some ⟨bx2, 0, none⟩)]) M [v0, v1] (fun r M' => RdI M' r (suL (l0 ++ l1))) := by
  refine Pu_enter Tryz.func12 rfl Tryz.ntmps12 rfl Tryz.call12 ?_
  intro a w M1 H hM1 S E
  replace h0 := h0.le hM1
  replace h1 := h1.le hM1
  replace hbx2 := hM1.2 _ _ hbx2
  have b0 := h0.bound
  have b1 := h1.bound
  refine WP_seq ?_
  refine WP_region ?_
  refine S_v E rfl (R_assign E rfl) rfl ?_
  clear E a; intro a E
  refine WL_nil ?_
  refine T_n ?_
  refine WP_seq ?_
  refine WP_region ?_
  refine S_v E rfl (R_loadM E rfl Tryz.isAgg4 S.imm (cellM_box hbx2)) rfl ?_
  clear E a; intro a E
  refine S_v E rfl (R_move E rfl) rfl ?_
  clear E a; intro a E
  refine S_v E rfl (R_move E rfl) rfl ?_
  clear E a; intro a E
  refine S_x (X_pu E S rfl rfl rfl (impl_SetUnion h0 h1 (by first | assumption | omega | (simp; done)) (by first | assumption | omega | (simp; done))) (Hp.le.refl _) ?_)
  clear E a S; rintro a v_2 w M_1 hM_1 hv_2 S E
  replace h0 := h0.le hM_1
  replace h1 := h1.le hM_1
  replace hbx2 := hM_1.2 _ _ hbx2
  have hzl := suL_len (l0 ++ l1)
  rw [List.length_append] at hzl
  refine S_v E rfl (R_assign E rfl) rfl ?_
  clear E a; intro a E
  refine WL_nil ?_
  refine T_n ?_
  refine WP_ret ?_
  exact F_ret1 E Tryz.results12 rfl ⟨_, rfl, M_1, hM_1, hv_2, S⟩

set_option maxRecDepth 100000 in
set_option maxHeartbeats 4000000 in
theorem laws_eq {M : Hp} {v0 v1 : Value} {l0 l1 : List Int} (h0 : RdI M v0 l0) (h1 : RdI M v1 l1) :
    Pu Tryz.prog (.func (.func 19) #[] #[]) M [v0, v1] (fun r M' => r = .bool (decide (l0 = l1))) := by
  refine Pu_enter Tryz.func19 rfl Tryz.ntmps19 rfl Tryz.call19 ?_
  intro a w M1 H hM1 S E
  replace h0 := h0.le hM1
  replace h1 := h1.le hM1
  have b0 := h0.bound
  have b1 := h1.bound
  refine WP_seq ?_
  refine WP_region ?_
  refine S_v E rfl (R_assign E rfl) rfl ?_
  clear E a; intro a E
  refine WL_nil ?_
  refine T_n ?_
  refine WP_seq ?_
  refine WP_seq ?_
  refine WP_region ?_
  refine S_v E rfl (R_move E rfl) rfl ?_
  clear E a; intro a E
  refine S_v E rfl (R_lenV E rfl T22 h0.len) rfl ?_
  clear E a; intro a E
  refine S_v E rfl (R_move E rfl) rfl ?_
  clear E a; intro a E
  refine S_v E rfl (R_lenV E rfl T22 h1.len) rfl ?_
  clear E a; intro a E
  refine S_v E rfl (R_neq E rfl rfl) rfl ?_
  clear E a; intro a E
  refine WL_nil ?_
  refine T_n ?_
  refine WP_cond E rfl (fun hc_1 => ?_) (fun hc_1 => ?_)
  · replace hc_1 := of_decide_eq_true hc_1
    refine WP_seq ?_
    refine WP_region ?_
    refine S_v E rfl (R_assign E rfl) rfl ?_
    clear E a; intro a E
    refine WL_nil ?_
    refine T_n ?_
    refine WP_ret ?_
    refine T_r ?_
    exact F_ret1 E Tryz.results19 rfl ⟨_, rfl, M1, (Hp.le.refl _), (bF (by ((try clear S); (try clear E); first | assumption | omega | rfl | (simp; done) | (simp_all; done) | (simp [List.take_add_one, *]; done) | grind [List.take_add_one]))), S⟩
  · replace hc_1 := of_decide_eq_false hc_1
    refine WP_skip ?_
    refine T_n ?_
    refine WP_seq ?_
    refine WP_seq ?_
    refine WP_region ?_
    refine S_v E rfl (R_move E rfl) rfl ?_
    clear E a; intro a E
    refine S_v E rfl (R_lenV E rfl T22 h0.len) rfl ?_
    clear E a; intro a E
    refine S_v E rfl (R_move E rfl) rfl ?_
    clear E a; intro a E
    refine WL_nil ?_
    refine T_n ?_
    refine WP_block ?_
    refine WP_loop (γ := Nat) (fun (k : Nat) a w => ∃ (M_2 : Hp), Hp.le M1 M_2 ∧ St w M_2 (H) ∧ Env a 26 [] [(0, v0), (1, v1), (12, .int .i64 (((l0).length : Nat) : Int)), (13, .int .i64 ((k : Nat) : Int))] ∧ (k ≤ (l0).length) ∧ (l0.length = l1.length) ∧ (l0.take k = l1.take k)) (fun k => ((l0).length) - k) 0 ⟨M1, Hp.le.refl _, S, E.keep ⟨rfl, rfl, rfl, rfl, trivial⟩, by ((try clear S); (try clear E); first | assumption | omega | rfl | (simp; done) | (simp_all; done) | (simp [List.take_add_one, *]; done) | grind [List.take_add_one]), by ((try clear S); (try clear E); first | assumption | omega | rfl | (simp; done) | (simp_all; done) | (simp [List.take_add_one, *]; done) | grind [List.take_add_one]), by ((try clear S); (try clear E); first | assumption | omega | rfl | (simp; done) | (simp_all; done) | (simp [List.take_add_one, *]; done) | grind [List.take_add_one])⟩ ?_
    try clear E
    try clear S
    try clear a
    try clear w
    rintro k a w ⟨M_2, hM_2, S, E, hL0_0, hL0_1, hL0_2⟩
    replace h0 := h0.le hM_2
    replace h1 := h1.le hM_2
    refine WP_seq ?_
    refine WP_region ?_
    refine S_v E rfl (R_lss E rfl rfl) rfl ?_
    clear E a; intro a E
    refine WL_nil ?_
    refine T_n ?_
    refine WP_seq ?_
    refine WP_cond E rfl (fun hc_3 => ?_) (fun hc_3 => ?_)
    · replace hc_3 := of_decide_eq_true hc_3
      refine WP_skip ?_
      refine T_n ?_
      refine WP_seq ?_
      refine WP_block ?_
      refine WP_seq ?_
      refine WP_region ?_
      refine S_v E rfl (R_move E rfl) rfl ?_
      clear E a; intro a E
      refine S_v E rfl (R_assign E rfl) rfl ?_
      clear E a; intro a E
      refine WL_nil ?_
      refine T_n ?_
      refine WP_seq ?_
      replace S := S.mono_heap (w' := World.drew _) rfl
      refine WP_drawn (C := fun x w => agree M_2 w) (bf := (fun i => [])) [0, 1, 2, 3, 4, 5, 6, 7, 8] [0, 1, 2, 3, 4, 5, 6, 7, 8] Tryz.mixed (by kernel_rfl) (fun x hq => S.imm) ?_
      refine D_v E rfl rfl rfl (fun w hC => (R_move E rfl)) ?_
      clear E a; intro a E
      refine D_v E rfl rfl rfl (fun w hC => (R_move E rfl)) ?_
      clear E a; intro a E
      obtain ⟨x_4, hx_4⟩ : ∃ x, (l0)[k]? = some x := ⟨_, List.getElem?_eq_getElem (by first | omega | (simp; done) | (simp; omega) | (simp_all; omega))⟩
      obtain ⟨p_5, hp_5, qp_5⟩ := h0.at hx_4
      refine D_v E rfl rfl rfl (fun w hC => (R_idx E rfl rfl T22 hp_5 rfl)) ?_
      clear E a; intro a E
      refine D_v E rfl rfl rfl (fun w hC => (R_loadM E rfl Tryz.isAgg3 hC qp_5)) ?_
      clear E a; intro a E
      refine D_v E rfl rfl rfl (fun w hC => (R_move E rfl)) ?_
      clear E a; intro a E
      refine D_v E rfl rfl rfl (fun w hC => (R_move E rfl)) ?_
      clear E a; intro a E
      obtain ⟨x_6, hx_6⟩ : ∃ x, (l1)[k]? = some x := ⟨_, List.getElem?_eq_getElem (by first | omega | (simp; done) | (simp; omega) | (simp_all; omega))⟩
      obtain ⟨p_7, hp_7, qp_7⟩ := h1.at hx_6
      refine D_v E rfl rfl rfl (fun w hC => (R_idx E rfl rfl T22 hp_7 rfl)) ?_
      clear E a; intro a E
      refine D_v E rfl rfl rfl (fun w hC => (R_loadM E rfl Tryz.isAgg3 hC qp_7)) ?_
      clear E a; intro a E
      refine D_v E rfl rfl rfl (fun w hC => (R_neq E rfl rfl)) ?_
      clear E a; intro a E
      refine D_end (NoP_n ?_)
      refine T_n ?_
      refine WP_cond E rfl (fun hc_8 => ?_) (fun hc_8 => ?_)
      · replace hc_8 := of_decide_eq_true hc_8
        refine WP_seq ?_
        refine WP_region ?_
        refine S_v E rfl (R_assign E rfl) rfl ?_
        clear E a; intro a E
        refine WL_nil ?_
        refine T_n ?_
        refine WP_ret ?_
        refine B_r ?_
        refine T_r ?_
        refine T_r ?_
        refine B_r ?_
        refine T_r ?_
        exact F_ret1 E Tryz.results19 rfl ⟨_, rfl, M_2, hM_2, (bF (by ((try clear S); (try clear E); first | assumption | omega | rfl | (simp; done) | (simp_all; done) | (simp [List.take_add_one, *]; done) | grind [List.take_add_one]))), S⟩
      · replace hc_8 := of_decide_eq_false hc_8
        refine WP_skip ?_
        refine B_n ?_
        refine T_n ?_
        refine WP_region ?_
        refine S_v E rfl (R_addx (m := ((k + 1 : Nat) : Int)) E rfl rfl (by omega) (by omega)) rfl ?_
        clear E a; intro a E
        refine S_v E rfl (R_move E rfl) rfl ?_
        clear E a; intro a E
        refine WL_nil ?_
        refine T_n ?_
        exact ⟨k + 1, ⟨M_2, hM_2, S, E.keep ⟨rfl, rfl, rfl, rfl, trivial⟩, by ((try clear S); (try clear E); first | assumption | omega | rfl | (simp; done) | (simp_all; done) | (simp [List.take_add_one, *]; done) | grind [List.take_add_one]), by ((try clear S); (try clear E); first | assumption | omega | rfl | (simp; done) | (simp_all; done) | (simp [List.take_add_one, *]; done) | grind [List.take_add_one]), by ((try clear S); (try clear E); first | assumption | omega | rfl | (simp; done) | (simp_all; done) | (simp [List.take_add_one, *]; done) | grind [List.take_add_one])⟩, by omega⟩
    · replace hc_3 := of_decide_eq_false hc_3
      refine WP_exit ?_
      refine T_x ?_
      refine T_x ?_
      refine B_x ?_
      refine T_n ?_
      refine WP_seq ?_
      refine WP_region ?_
      refine S_v E rfl (R_assign E rfl) rfl ?_
      clear E a; intro a E
      refine WL_nil ?_
      refine T_n ?_
      refine WP_ret ?_
      exact F_ret1 E Tryz.results19 rfl ⟨_, rfl, M_2, hM_2, (bT (by ((try clear S); (try clear E); first | assumption | omega | rfl | (simp; done) | (simp_all; done) | (simp [List.take_add_one, *]; done) | grind [List.take_add_one]))), S⟩

set_option maxRecDepth 100000 in
set_option maxHeartbeats 4000000 in
theorem U_contains {M : Hp} {x1 : Int} {v0 : Value} {c0 : List Int} (h0 : RdSU 145 M v0 c0) (b0 : c0.length ≤ 1000000000)  :
    Pu Tryz.prog (.func (.func 207) #[] #[]) M [v0, .int .i64 x1] (fun r M' => r = .bool (decide (x1 ∈ c0))) := by
  refine Pu_enter Tryz.func207 rfl Tryz.ntmps207 rfl Tryz.call207 ?_
  intro a w M1 H hM1 S E
  replace h0 := h0.le hM1
  refine WP_seq ?_
  refine WP_region ?_
  refine S_v E rfl (R_assign E rfl) rfl ?_
  clear E a; intro a E
  refine WL_nil ?_
  refine T_n ?_
  refine WP_seq ?_
  refine WP_region ?_
  refine S_v E rfl (R_move E rfl) rfl ?_
  clear E a; intro a E
  have hset := h0
  obtain ⟨sb0, sm0, sq0, se0, shb0, shm0, shn0, shq0⟩ := hset
  have shq0l : sq0.length ≤ c0.length := nodup_len shn0 fun z hz => (shq0 z).1 hz
  refine S_v E rfl (R_nilCheck E rfl se0) rfl ?_
  clear E a; intro a E
  refine S_v E rfl (R_loadM E (congrArg some se0) Tryz.isAgg145 S.imm (cellM_box shb0)) rfl ?_
  clear E a; intro a E
  refine S_v E rfl (R_move E rfl) rfl ?_
  clear E a; intro a E
  refine S_v E rfl (R_lookupFS S.imm shm0 E MT145 rfl rfl) rfl ?_
  clear E a; intro a E
  refine S_v E rfl (R_move E rfl) rfl ?_
  clear E a; intro a E
  refine S_v E rfl (R_extract E rfl rfl) rfl ?_
  clear E a; intro a E
  refine S_v E rfl (R_extract E rfl rfl) rfl ?_
  clear E a; intro a E
  refine S_v E rfl (R_assign E rfl) rfl ?_
  clear E a; intro a E
  refine WL_nil ?_
  refine T_n ?_
  refine WP_seq ?_
  refine WP_region ?_
  refine S_v E rfl (R_move E rfl) rfl ?_
  clear E a; intro a E
  refine S_v E rfl (R_assign E rfl) rfl ?_
  clear E a; intro a E
  refine WL_nil ?_
  refine T_n ?_
  refine WP_ret ?_
  exact F_ret1 E Tryz.results207 rfl ⟨_, rfl, M1, (Hp.le.refl _), (congrArg Value.bool (by (simp [*]; done))), S⟩

set_option maxRecDepth 100000 in
set_option maxHeartbeats 4000000 in
theorem U_Intersect {M : Hp} {v0 : Value} {c0 : List Int} (h0 : RdSU 145 M v0 c0) {v1 : Value} {c1 : List Int} (h1 : RdSU 145 M v1 c1) (b0 : c0.length ≤ 1000000000) (b1 : c1.length ≤ 1000000000)  :
    Pu Tryz.prog (.func (.func 195) #[] #[]) M [v0, .iface 116 v1] (fun r M' => (∃ p, r = .iface 116 p ∧ RdSU 145 M' p ((c0).filter (fun z => decide (z ∈ c1))))) := by
  refine Pu_enter Tryz.func195 rfl Tryz.ntmps195 rfl Tryz.call195 ?_
  intro a w M1 H hM1 S E
  replace h0 := h0.le hM1
  replace h1 := h1.le hM1
  have hcl0 := card_le c0
  have hcl1 := card_le c1
  refine WP_seq ?_
  refine WP_region ?_
  refine S_v E rfl (R_assign E rfl) rfl ?_
  clear E a; intro a E
  refine WL_nil ?_
  refine T_n ?_
  refine WP_seq ?_
  refine WP_region ?_
  refine S_v E rfl (R_move E rfl) rfl ?_
  clear E a; intro a E
  refine S_v E rfl (R_assert E rfl Tryz.underlying116 (by intro z hz; cases hz)) rfl ?_
  clear E a; intro a E
  refine S_v E rfl (R_assign E rfl) rfl ?_
  clear E a; intro a E
  refine WL_nil ?_
  refine T_n ?_
  refine WP_seq ?_
  refine WP_region ?_
  refine S_x (X_alloc (cs := #[.map none]) E S rfl Tryz.zeroValue145 rfl ?_)
  clear E a S; rintro a w b_1 E S
  refine WL_nil ?_
  refine T_n ?_
  refine WP_seq ?_
  refine WP_seq ?_
  refine WP_region ?_
  refine S_v E rfl (R_move E rfl) rfl ?_
  clear E a; intro a E
  refine S_x (X_pu E S rfl rfl rfl (U_Cardinality h0 (by first | assumption | omega)) (Hp.le.refl _) ?_)
  clear E a S; rintro a _ w M_2 hM_2 rfl S E
  replace h0 := h0.le hM_2
  replace h1 := h1.le hM_2
  refine S_v E rfl (R_move E rfl) rfl ?_
  clear E a; intro a E
  refine S_x (X_puI E S rfl rfl rfl (meth_116_Cardinality _ _) Tryz.call205 (U_Cardinality h1 (by first | assumption | omega)) (Hp.le.refl _) ?_)
  clear E a S; rintro a _ w M_3 hM_3 rfl S E
  replace h0 := h0.le hM_3
  replace h1 := h1.le hM_3
  refine S_v E rfl (R_lss E rfl rfl) rfl ?_
  clear E a; intro a E
  refine WL_nil ?_
  refine T_n ?_
  refine WP_cond E rfl (fun hc_4 => ?_) (fun hc_4 => ?_)
  · replace hc_4 := of_decide_eq_true hc_4
    refine WP_seq ?_
    refine WP_region ?_
    refine S_v E rfl (R_move E rfl) rfl ?_
    clear E a; intro a E
    refine S_x (X_pu E S rfl rfl rfl (U_Cardinality h0 (by first | assumption | omega)) (Hp.le.refl _) ?_)
    clear E a S; rintro a _ w M_5 hM_5 rfl S E
    replace h0 := h0.le hM_5
    replace h1 := h1.le hM_5
    refine S_x (X_makeMapR E S rfl MT145 rfl ?_)
    clear E a S; rintro a w b_6 E S
    replace S : St w M_5 (OwnS b_6 ([] : List Int) :: _) := S
    replace S := S.front1
    refine S_x0 (X_store E S rfl rfl (Tryz.sizeOf145 _) rfl ?_)
    clear E a S; rintro a w E S
    refine WL_nil ?_
    refine T_n ?_
    refine WP_seq ?_
    refine WP_region ?_
    refine S_v E rfl (R_move E rfl) rfl ?_
    clear E a; intro a E
    have hset := h0
    obtain ⟨sb0, sm0, sq0, se0, shb0, shm0, shn0, shq0⟩ := hset
    have shq0l : sq0.length ≤ c0.length := nodup_len shn0 fun z hz => (shq0 z).1 hz
    refine S_v E rfl (R_nilCheck E rfl se0) rfl ?_
    clear E a; intro a E
    refine S_v E rfl (R_loadM E (congrArg some se0) Tryz.isAgg145 S.imm (cellM_box shb0)) rfl ?_
    clear E a; intro a E
    refine S_x (X_range E S rfl MT145 shm0 rfl ?_)
    clear E a S; rintro a w i_7 es_8 ck_9 E hf_10 S
    replace S : St w M_5 (ItO sm0 es_8 ck_9 i_7 (Sl.encS ([] : List Int)) :: _) := S
    refine WL_nil ?_
    refine T_n ?_
    refine WP_block ?_
    replace S := S.front2
    replace S := S.front1
    replace S := S.front1
    replace S := S.reM (L' := (Sl.encS (addsL [] (([]).filter (fun z => decide (z ∈ c1)))))) (congrArg Sl.encS (show ([] : List Int) = (addsL [] (([]).filter (fun z => decide (z ∈ c1)))) by (first | rfl | (simp [addsL_snoc]; done) | (simp [addsL_snoc, List.filter_append, *]; done))))
    replace S := S.front1
    replace S := S.reIt (p' := (Sl.encS [])) (congrArg Sl.encS (show ([] : List Int) = [] by (first | rfl | (simp [addsL_snoc]; done) | (simp [addsL_snoc, List.filter_append, *]; done))))
    refine WP_loop (γ := List Int) (fun (p : List Int) a w => ∃ (M_11 : Hp), Hp.le M_5 M_11 ∧ St w M_11 (ItO sm0 es_8 ck_9 i_7 (Sl.encS p) :: OwnS b_6 (addsL [] ((p).filter (fun z => decide (z ∈ c1)))) :: blk b_1 (.cells #[.map (some b_6)] 145) :: H) ∧ Env a 49 [] [(5, v1), (6, .pointer (some ⟨b_1, 0, none⟩)), (22, .pointer (some ⟨i_7, 0, none⟩))] ∧ (p.Nodup) ∧ (∀ z ∈ p, z ∈ sq0) ∧ (p.length ≤ sq0.length)) (fun p => sq0.length - p.length) [] ⟨M_5, Hp.le.refl _, S, E.keep ⟨rfl, rfl, rfl, trivial⟩, (by simp), (by simp), (by simp)⟩ ?_
    try clear E
    try clear S
    try clear a
    try clear w
    rintro p a w ⟨M_11, hM_11, S, E, hL0_0, hL0_1, hL0_2⟩
    replace h0 := h0.le hM_11
    replace h1 := h1.le hM_11
    replace shb0 := hM_11.2 _ _ shb0
    replace shm0 := shm0.le hM_11
    replace hf_10 := hf_10.le hM_11
    refine WP_seq ?_
    refine WP_region ?_
    refine S_x (X_nextS E S rfl hf_10 rfl (by assumption) (by assumption) ?_ ?_)
    · clear E a S; rintro a E hpm_12 S
      refine S_v E rfl (R_extract E rfl rfl) rfl ?_
      clear E a; intro a E
      refine WL_nil ?_
      refine T_n ?_
      refine WP_seq ?_
      refine WP_condF E rfl rfl ?_
      refine WP_exit ?_
      refine T_x ?_
      refine T_x ?_
      refine B_x ?_
      refine T_n ?_
      refine WP_seq ?_
      refine WP_region ?_
      replace S := S.front1
      have S0 := S; clear S
      obtain ⟨M_13, hM_13, hm_14, S⟩ := S0.freezeM
      clear S0
      replace h0 := h0.le hM_13
      replace h1 := h1.le hM_13
      replace shb0 := hM_13.2 _ _ shb0
      replace shm0 := shm0.le hM_13
      replace hf_10 := hf_10.le hM_13
      replace S := S.front1
      have S0 := S; clear S
      obtain ⟨M_15, hM_15, hb_16, S⟩ := S0.freezeB
      clear S0
      replace h0 := h0.le hM_15
      replace h1 := h1.le hM_15
      replace shb0 := hM_15.2 _ _ shb0
      replace shm0 := shm0.le hM_15
      replace hf_10 := hf_10.le hM_15
      replace hm_14 := hm_14.le hM_15
      refine S_v E rfl (R_ifaceP E rfl Tryz.underlying116) rfl ?_
      clear E a; intro a E
      refine S_v E rfl (R_assign E rfl) rfl ?_
      clear E a; intro a E
      refine WL_nil ?_
      refine T_n ?_
      refine WP_ret ?_
      exact F_ret1 E Tryz.results195 rfl ⟨_, rfl, M_15, (hM_2.trans (hM_3.trans (hM_5.trans (hM_11.trans (hM_13.trans hM_15))))), ⟨_, rfl, ⟨_, _, (addsL [] ((p).filter (fun z => decide (z ∈ c1)))), rfl, hb_16, hm_14, (by first | assumption | exact addsL_nodup _ _ List.nodup_nil | exact addsL_nodup _ _ (addsL_nodup _ _ List.nodup_nil)), (by (first | (intro x; have ep := (List.Perm.mem_iff (a := x) (show p.Perm sq0 by first | assumption | (exact List.Perm.symm (by assumption)))).trans (shq0 x); simp only [mem_addsL, List.not_mem_nil, false_or, List.mem_append, List.mem_filter, decide_eq_true_eq, List.nil_append]; simp only [ep]) | (intro x; have ep := (List.Perm.mem_iff (a := x) (show p.Perm sq1 by first | assumption | (exact List.Perm.symm (by assumption)))).trans (shq1 x); simp only [mem_addsL, List.not_mem_nil, false_or, List.mem_filter, decide_eq_true_eq]; rw [ep]; exact And.comm)))⟩⟩, S.drop⟩
    · clear E a S w; rintro a w k_17 E hk_18 hk_18n hk_18l S
      refine S_v E rfl (R_extract E rfl rfl) rfl ?_
      clear E a; intro a E
      refine WL_nil ?_
      refine T_n ?_
      refine WP_seq ?_
      refine WP_condT E rfl rfl ?_
      refine WP_skip ?_
      refine T_n ?_
      refine WP_block ?_
      refine WP_seq ?_
      refine WP_region ?_
      refine S_v E rfl (R_entry (k := k_17) (v := .agg #[]) E (by have S1 := S; simp only [Sl.encS, List.map_append, List.map_cons, List.map_nil] at S1; exact S1) hf_10 rfl) rfl ?_
      clear E a; intro a E
      refine S_v E rfl (R_extract E rfl rfl) rfl ?_
      clear E a; intro a E
      refine S_v E rfl (R_assign E rfl) rfl ?_
      clear E a; intro a E
      refine WL_nil ?_
      refine T_n ?_
      refine WP_seq ?_
      refine WP_region ?_
      refine S_v E rfl (R_move E rfl) rfl ?_
      clear E a; intro a E
      refine S_v E rfl (R_move E rfl) rfl ?_
      clear E a; intro a E
      refine S_x (X_pu E S rfl rfl rfl (U_contains h1 (by first | assumption | omega)) (Hp.le.refl _) ?_)
      clear E a S; rintro a _ w M_19 hM_19 rfl S E
      replace h0 := h0.le hM_19
      replace h1 := h1.le hM_19
      replace shb0 := hM_19.2 _ _ shb0
      replace shm0 := shm0.le hM_19
      replace hf_10 := hf_10.le hM_19
      refine WL_nil ?_
      refine T_n ?_
      refine WP_cond E rfl (fun hc_20 => ?_) (fun hc_20 => ?_)
      · replace hc_20 := of_decide_eq_true hc_20
        refine WP_region ?_
        refine S_v E rfl (R_move E rfl) rfl ?_
        clear E a; intro a E
        replace S := S.front1
        replace S := S.front2
        refine S_x (X_sp (p := [blk b_1 (.cells #[.map (some b_6)] 145), OwnS b_6 (addsL [] ((p).filter (fun z => decide (z ∈ c1))))]) E S rfl rfl rfl (U_add) (Hp.le.refl _) ?_)
        clear E a S; rintro a _ w M_21 _ hM_21 ⟨rfl, rfl⟩ S E
        replace S : St w M_21 (blk b_1 (.cells #[.map (some b_6)] 145) :: OwnS b_6 (addS (addsL [] ((p).filter (fun z => decide (z ∈ c1)))) k_17) :: ItO sm0 es_8 ck_9 i_7 (Sl.encS (p ++ [k_17])) :: H) := S
        replace h0 := h0.le hM_21
        replace h1 := h1.le hM_21
        replace shb0 := hM_21.2 _ _ shb0
        replace shm0 := shm0.le hM_21
        replace hf_10 := hf_10.le hM_21
        refine WL_nil ?_
        refine B_n ?_
        refine T_n ?_
        replace S := S.front1
        replace S := S.front2
        replace S := S.front1
        replace S := S.reM (L' := (Sl.encS (addsL [] (((p ++ [k_17])).filter (fun z => decide (z ∈ c1)))))) (congrArg Sl.encS (show addS (addsL [] ((p).filter (fun z => decide (z ∈ c1)))) k_17 = (addsL [] (((p ++ [k_17])).filter (fun z => decide (z ∈ c1)))) by (first | rfl | (simp [addsL_snoc]; done) | (simp [addsL_snoc, List.filter_append, *]; done))))
        replace S := S.front1
        replace S := S.reIt (p' := (Sl.encS (p ++ [k_17]))) (congrArg Sl.encS (show p ++ [k_17] = (p ++ [k_17]) by (first | rfl | (simp [addsL_snoc]; done) | (simp [addsL_snoc, List.filter_append, *]; done))))
        exact ⟨(p ++ [k_17]), ⟨M_21, (hM_11.trans (hM_19.trans hM_21)), S, E.keep ⟨rfl, rfl, rfl, trivial⟩, (by exact snocN (by assumption) (by assumption)), (by exact snocS (by assumption) (by assumption)), (by simp; omega)⟩, (by simp; omega)⟩
      · replace hc_20 := of_decide_eq_false hc_20
        refine WP_skip ?_
        refine B_n ?_
        refine T_n ?_
        replace S := S.front1
        replace S := S.reM (L' := (Sl.encS (addsL [] (((p ++ [k_17])).filter (fun z => decide (z ∈ c1)))))) (congrArg Sl.encS (show (addsL [] ((p).filter (fun z => decide (z ∈ c1)))) = (addsL [] (((p ++ [k_17])).filter (fun z => decide (z ∈ c1)))) by (first | rfl | (simp [addsL_snoc]; done) | (simp [addsL_snoc, List.filter_append, *]; done))))
        replace S := S.front1
        replace S := S.reIt (p' := (Sl.encS (p ++ [k_17]))) (congrArg Sl.encS (show p ++ [k_17] = (p ++ [k_17]) by (first | rfl | (simp [addsL_snoc]; done) | (simp [addsL_snoc, List.filter_append, *]; done))))
        exact ⟨(p ++ [k_17]), ⟨M_19, (hM_11.trans hM_19), S, E.keep ⟨rfl, rfl, rfl, trivial⟩, (by exact snocN (by assumption) (by assumption)), (by exact snocS (by assumption) (by assumption)), (by simp; omega)⟩, (by simp; omega)⟩
  · replace hc_4 := of_decide_eq_false hc_4
    refine WP_seq ?_
    refine WP_region ?_
    refine S_v E rfl (R_move E rfl) rfl ?_
    clear E a; intro a E
    refine S_x (X_pu E S rfl rfl rfl (U_Cardinality h1 (by first | assumption | omega)) (Hp.le.refl _) ?_)
    clear E a S; rintro a _ w M_22 hM_22 rfl S E
    replace h0 := h0.le hM_22
    replace h1 := h1.le hM_22
    refine S_x (X_makeMapR E S rfl MT145 rfl ?_)
    clear E a S; rintro a w b_23 E S
    replace S : St w M_22 (OwnS b_23 ([] : List Int) :: _) := S
    replace S := S.front1
    refine S_x0 (X_store E S rfl rfl (Tryz.sizeOf145 _) rfl ?_)
    clear E a S; rintro a w E S
    refine WL_nil ?_
    refine T_n ?_
    refine WP_seq ?_
    refine WP_region ?_
    refine S_v E rfl (R_move E rfl) rfl ?_
    clear E a; intro a E
    have hset := h1
    obtain ⟨sb1, sm1, sq1, se1, shb1, shm1, shn1, shq1⟩ := hset
    have shq1l : sq1.length ≤ c1.length := nodup_len shn1 fun z hz => (shq1 z).1 hz
    refine S_v E rfl (R_nilCheck E rfl se1) rfl ?_
    clear E a; intro a E
    refine S_v E rfl (R_loadM E (congrArg some se1) Tryz.isAgg145 S.imm (cellM_box shb1)) rfl ?_
    clear E a; intro a E
    refine S_x (X_range E S rfl MT145 shm1 rfl ?_)
    clear E a S; rintro a w i_24 es_25 ck_26 E hf_27 S
    replace S : St w M_22 (ItO sm1 es_25 ck_26 i_24 (Sl.encS ([] : List Int)) :: _) := S
    refine WL_nil ?_
    refine T_n ?_
    refine WP_block ?_
    replace S := S.front2
    replace S := S.front1
    replace S := S.front1
    replace S := S.reM (L' := (Sl.encS (addsL [] (([]).filter (fun z => decide (z ∈ c0)))))) (congrArg Sl.encS (show ([] : List Int) = (addsL [] (([]).filter (fun z => decide (z ∈ c0)))) by (first | rfl | (simp [addsL_snoc]; done) | (simp [addsL_snoc, List.filter_append, *]; done))))
    replace S := S.front1
    replace S := S.reIt (p' := (Sl.encS [])) (congrArg Sl.encS (show ([] : List Int) = [] by (first | rfl | (simp [addsL_snoc]; done) | (simp [addsL_snoc, List.filter_append, *]; done))))
    refine WP_loop (γ := List Int) (fun (p : List Int) a w => ∃ (M_28 : Hp), Hp.le M_22 M_28 ∧ St w M_28 (ItO sm1 es_25 ck_26 i_24 (Sl.encS p) :: OwnS b_23 (addsL [] ((p).filter (fun z => decide (z ∈ c0)))) :: blk b_1 (.cells #[.map (some b_23)] 145) :: H) ∧ Env a 49 [] [(0, v0), (6, .pointer (some ⟨b_1, 0, none⟩)), (38, .pointer (some ⟨i_24, 0, none⟩))] ∧ (p.Nodup) ∧ (∀ z ∈ p, z ∈ sq1) ∧ (p.length ≤ sq1.length)) (fun p => sq1.length - p.length) [] ⟨M_22, Hp.le.refl _, S, E.keep ⟨rfl, rfl, rfl, trivial⟩, (by simp), (by simp), (by simp)⟩ ?_
    try clear E
    try clear S
    try clear a
    try clear w
    rintro p a w ⟨M_28, hM_28, S, E, hL1_0, hL1_1, hL1_2⟩
    replace h0 := h0.le hM_28
    replace h1 := h1.le hM_28
    replace shb1 := hM_28.2 _ _ shb1
    replace shm1 := shm1.le hM_28
    replace hf_27 := hf_27.le hM_28
    refine WP_seq ?_
    refine WP_region ?_
    refine S_x (X_nextS E S rfl hf_27 rfl (by assumption) (by assumption) ?_ ?_)
    · clear E a S; rintro a E hpm_29 S
      refine S_v E rfl (R_extract E rfl rfl) rfl ?_
      clear E a; intro a E
      refine WL_nil ?_
      refine T_n ?_
      refine WP_seq ?_
      refine WP_condF E rfl rfl ?_
      refine WP_exit ?_
      refine T_x ?_
      refine T_x ?_
      refine B_x ?_
      refine T_n ?_
      refine WP_seq ?_
      refine WP_region ?_
      replace S := S.front1
      have S0 := S; clear S
      obtain ⟨M_30, hM_30, hm_31, S⟩ := S0.freezeM
      clear S0
      replace h0 := h0.le hM_30
      replace h1 := h1.le hM_30
      replace shb1 := hM_30.2 _ _ shb1
      replace shm1 := shm1.le hM_30
      replace hf_27 := hf_27.le hM_30
      replace S := S.front1
      have S0 := S; clear S
      obtain ⟨M_32, hM_32, hb_33, S⟩ := S0.freezeB
      clear S0
      replace h0 := h0.le hM_32
      replace h1 := h1.le hM_32
      replace shb1 := hM_32.2 _ _ shb1
      replace shm1 := shm1.le hM_32
      replace hf_27 := hf_27.le hM_32
      replace hm_31 := hm_31.le hM_32
      refine S_v E rfl (R_ifaceP E rfl Tryz.underlying116) rfl ?_
      clear E a; intro a E
      refine S_v E rfl (R_assign E rfl) rfl ?_
      clear E a; intro a E
      refine WL_nil ?_
      refine T_n ?_
      refine WP_ret ?_
      exact F_ret1 E Tryz.results195 rfl ⟨_, rfl, M_32, (hM_2.trans (hM_3.trans (hM_22.trans (hM_28.trans (hM_30.trans hM_32))))), ⟨_, rfl, ⟨_, _, (addsL [] ((p).filter (fun z => decide (z ∈ c0)))), rfl, hb_33, hm_31, (by first | assumption | exact addsL_nodup _ _ List.nodup_nil | exact addsL_nodup _ _ (addsL_nodup _ _ List.nodup_nil)), (by (first | (intro x; have ep := (List.Perm.mem_iff (a := x) (show p.Perm sq0 by first | assumption | (exact List.Perm.symm (by assumption)))).trans (shq0 x); simp only [mem_addsL, List.not_mem_nil, false_or, List.mem_append, List.mem_filter, decide_eq_true_eq, List.nil_append]; simp only [ep]) | (intro x; have ep := (List.Perm.mem_iff (a := x) (show p.Perm sq1 by first | assumption | (exact List.Perm.symm (by assumption)))).trans (shq1 x); simp only [mem_addsL, List.not_mem_nil, false_or, List.mem_filter, decide_eq_true_eq]; rw [ep]; exact And.comm)))⟩⟩, S.drop⟩
    · clear E a S w; rintro a w k_34 E hk_35 hk_35n hk_35l S
      refine S_v E rfl (R_extract E rfl rfl) rfl ?_
      clear E a; intro a E
      refine WL_nil ?_
      refine T_n ?_
      refine WP_seq ?_
      refine WP_condT E rfl rfl ?_
      refine WP_skip ?_
      refine T_n ?_
      refine WP_block ?_
      refine WP_seq ?_
      refine WP_region ?_
      refine S_v E rfl (R_entry (k := k_34) (v := .agg #[]) E (by have S1 := S; simp only [Sl.encS, List.map_append, List.map_cons, List.map_nil] at S1; exact S1) hf_27 rfl) rfl ?_
      clear E a; intro a E
      refine S_v E rfl (R_extract E rfl rfl) rfl ?_
      clear E a; intro a E
      refine S_v E rfl (R_assign E rfl) rfl ?_
      clear E a; intro a E
      refine WL_nil ?_
      refine T_n ?_
      refine WP_seq ?_
      refine WP_region ?_
      refine S_v E rfl (R_move E rfl) rfl ?_
      clear E a; intro a E
      refine S_v E rfl (R_move E rfl) rfl ?_
      clear E a; intro a E
      refine S_x (X_pu E S rfl rfl rfl (U_contains h0 (by first | assumption | omega)) (Hp.le.refl _) ?_)
      clear E a S; rintro a _ w M_36 hM_36 rfl S E
      replace h0 := h0.le hM_36
      replace h1 := h1.le hM_36
      replace shb1 := hM_36.2 _ _ shb1
      replace shm1 := shm1.le hM_36
      replace hf_27 := hf_27.le hM_36
      refine WL_nil ?_
      refine T_n ?_
      refine WP_cond E rfl (fun hc_37 => ?_) (fun hc_37 => ?_)
      · replace hc_37 := of_decide_eq_true hc_37
        refine WP_region ?_
        refine S_v E rfl (R_move E rfl) rfl ?_
        clear E a; intro a E
        replace S := S.front1
        replace S := S.front2
        refine S_x (X_sp (p := [blk b_1 (.cells #[.map (some b_23)] 145), OwnS b_23 (addsL [] ((p).filter (fun z => decide (z ∈ c0))))]) E S rfl rfl rfl (U_add) (Hp.le.refl _) ?_)
        clear E a S; rintro a _ w M_38 _ hM_38 ⟨rfl, rfl⟩ S E
        replace S : St w M_38 (blk b_1 (.cells #[.map (some b_23)] 145) :: OwnS b_23 (addS (addsL [] ((p).filter (fun z => decide (z ∈ c0)))) k_34) :: ItO sm1 es_25 ck_26 i_24 (Sl.encS (p ++ [k_34])) :: H) := S
        replace h0 := h0.le hM_38
        replace h1 := h1.le hM_38
        replace shb1 := hM_38.2 _ _ shb1
        replace shm1 := shm1.le hM_38
        replace hf_27 := hf_27.le hM_38
        refine WL_nil ?_
        refine B_n ?_
        refine T_n ?_
        replace S := S.front1
        replace S := S.front2
        replace S := S.front1
        replace S := S.reM (L' := (Sl.encS (addsL [] (((p ++ [k_34])).filter (fun z => decide (z ∈ c0)))))) (congrArg Sl.encS (show addS (addsL [] ((p).filter (fun z => decide (z ∈ c0)))) k_34 = (addsL [] (((p ++ [k_34])).filter (fun z => decide (z ∈ c0)))) by (first | rfl | (simp [addsL_snoc]; done) | (simp [addsL_snoc, List.filter_append, *]; done))))
        replace S := S.front1
        replace S := S.reIt (p' := (Sl.encS (p ++ [k_34]))) (congrArg Sl.encS (show p ++ [k_34] = (p ++ [k_34]) by (first | rfl | (simp [addsL_snoc]; done) | (simp [addsL_snoc, List.filter_append, *]; done))))
        exact ⟨(p ++ [k_34]), ⟨M_38, (hM_28.trans (hM_36.trans hM_38)), S, E.keep ⟨rfl, rfl, rfl, trivial⟩, (by exact snocN (by assumption) (by assumption)), (by exact snocS (by assumption) (by assumption)), (by simp; omega)⟩, (by simp; omega)⟩
      · replace hc_37 := of_decide_eq_false hc_37
        refine WP_skip ?_
        refine B_n ?_
        refine T_n ?_
        replace S := S.front1
        replace S := S.reM (L' := (Sl.encS (addsL [] (((p ++ [k_34])).filter (fun z => decide (z ∈ c0)))))) (congrArg Sl.encS (show (addsL [] ((p).filter (fun z => decide (z ∈ c0)))) = (addsL [] (((p ++ [k_34])).filter (fun z => decide (z ∈ c0)))) by (first | rfl | (simp [addsL_snoc]; done) | (simp [addsL_snoc, List.filter_append, *]; done))))
        replace S := S.front1
        replace S := S.reIt (p' := (Sl.encS (p ++ [k_34]))) (congrArg Sl.encS (show p ++ [k_34] = (p ++ [k_34]) by (first | rfl | (simp [addsL_snoc]; done) | (simp [addsL_snoc, List.filter_append, *]; done))))
        exact ⟨(p ++ [k_34]), ⟨M_36, (hM_28.trans hM_36), S, E.keep ⟨rfl, rfl, rfl, trivial⟩, (by exact snocN (by assumption) (by assumption)), (by exact snocS (by assumption) (by assumption)), (by simp; omega)⟩, (by simp; omega)⟩

set_option maxRecDepth 100000 in
set_option maxHeartbeats 4000000 in
theorem U_SetIntersect {M : Hp} {v1 v2 : Value} {l1 l2 : List Int} (h1 : RdI M v1 l1) (h2 : RdI M v2 l2)(hb1 : l1.length ≤ 100000000) (hb2 : l2.length ≤ 100000000)  :
    Pu Tryz.prog (.func (.func 14) #[] #[]) M [.bool false, v1, v2] (fun r M' => RdI M' r (suL ((l1).filter (fun z => decide (z ∈ l2))))) := by
  refine Pu_enter Tryz.func14 rfl Tryz.ntmps14 rfl Tryz.call14 ?_
  intro a w M1 H hM1 S E
  replace h1 := h1.le hM1
  replace h2 := h2.le hM1
  have b1 := h1.bound
  have b2 := h2.bound
  refine WP_seq ?_
  refine WP_region ?_
  refine S_v E rfl (R_assign E rfl) rfl ?_
  clear E a; intro a E
  refine WL_nil ?_
  refine T_n ?_
  refine WP_seq ?_
  refine WP_region ?_
  refine S_v E rfl (R_move E rfl) rfl ?_
  clear E a; intro a E
  refine S_v E rfl (R_move E rfl) rfl ?_
  clear E a; intro a E
  refine S_v E rfl (R_move E rfl) rfl ?_
  clear E a; intro a E
  refine S_x (X_pu E S rfl rfl rfl (U_twoSets h1 h2 (by first | assumption | omega) (by first | assumption | omega)) (Hp.le.refl _) ?_)
  clear E a S; rintro a _ w M_1 hM_1 ⟨_, _, rfl, ⟨v_2, rfl, hv_2⟩, ⟨v_3, rfl, hv_3⟩⟩ S E
  replace h1 := h1.le hM_1
  replace h2 := h2.le hM_1
  refine S_v E rfl (R_move E rfl) rfl ?_
  clear E a; intro a E
  refine S_v E rfl (R_extract E rfl rfl) rfl ?_
  clear E a; intro a E
  refine S_v E rfl (R_extract E rfl rfl) rfl ?_
  clear E a; intro a E
  refine S_v E rfl (R_assign E rfl) rfl ?_
  clear E a; intro a E
  refine S_v E rfl (R_assign E rfl) rfl ?_
  clear E a; intro a E
  refine WL_nil ?_
  refine T_n ?_
  refine WP_seq ?_
  refine WP_region ?_
  refine S_v E rfl (R_move E rfl) rfl ?_
  clear E a; intro a E
  refine S_v E rfl (R_move E rfl) rfl ?_
  clear E a; intro a E
  refine S_x (X_puI E S rfl rfl rfl (meth_116_Intersect _ _) Tryz.call195 (U_Intersect hv_2 hv_3 (by first | assumption | omega) (by first | assumption | omega)) (Hp.le.refl _) ?_)
  clear E a S; rintro a _ w M_4 hM_4 ⟨v_5, rfl, hv_5⟩ S E
  replace h1 := h1.le hM_4
  replace h2 := h2.le hM_4
  replace hv_2 := hv_2.le hM_4
  replace hv_3 := hv_3.le hM_4
  refine S_x (X_pu E S rfl rfl rfl (U_Sorted hv_5 (by first | assumption | omega | (simp only [List.length_append]; omega) | exact Nat.le_trans (List.length_filter_le _ _) (by omega) | (rw [List.length_append]; have h8 := List.length_filter_le (fun z => decide (z ∉ l2)) l1; have h9 := List.length_filter_le (fun z => decide (z ∉ l1)) l2; omega))) (Hp.le.refl _) ?_)
  clear E a S; rintro a v_7 w M_6 hM_6 hv_7 S E
  replace h1 := h1.le hM_6
  replace h2 := h2.le hM_6
  replace hv_2 := hv_2.le hM_6
  replace hv_3 := hv_3.le hM_6
  replace hv_5 := hv_5.le hM_6
  refine S_v E rfl (R_assign E rfl) rfl ?_
  clear E a; intro a E
  refine WL_nil ?_
  refine T_n ?_
  refine WP_ret ?_
  exact F_ret1 E Tryz.results14 rfl ⟨_, rfl, M_6, (hM_1.trans (hM_4.trans hM_6)), hv_7, S⟩

set_option maxRecDepth 100000 in
set_option maxHeartbeats 4000000 in
theorem S_Intersect {M : Hp} {p0 : Nat} {v0 : Value} {c0 : List Int} (h0 : RdSU 145 M v0 c0) {p1 : Nat} {v1 : Value} {c1 : List Int} (h1 : RdSU 145 M v1 c1) (b0 : c0.length ≤ 1000000000) (b1 : c1.length ≤ 1000000000)  :
    Sp Tryz.prog (.func (.func 171) #[] #[]) M [.pointer (some ⟨p0, 0, none⟩), .iface 114 (.pointer (some ⟨p1, 0, none⟩))] [blk p0 (.cells #[.int .i32 0, .int .u32 0, .int .u32 0, .int .u32 0, .int .i32 0, .int .i32 0, v0] 144), blk p1 (.cells #[.int .i32 0, .int .u32 0, .int .u32 0, .int .u32 0, .int .i32 0, .int .i32 0, v1] 144)] (fun r M' C' => ∃ p_0 v_0, r = .iface 114 (.pointer (some ⟨p_0, 0, none⟩)) ∧ C' = [blk p0 (.cells #[.int .i32 0, .int .u32 0, .int .u32 0, .int .u32 0, .int .i32 0, .int .i32 0, v0] 144), blk p1 (.cells #[.int .i32 0, .int .u32 0, .int .u32 0, .int .u32 0, .int .i32 0, .int .i32 0, v1] 144), blk p_0 (.cells #[.int .i32 0, .int .u32 0, .int .u32 0, .int .u32 0, .int .i32 0, .int .i32 0, v_0] 144)] ∧ (RdSU 145 M' v_0 ((c0).filter (fun z => decide (z ∈ c1))))) := by
  refine Sp_enter Tryz.func171 rfl Tryz.ntmps171 rfl Tryz.call171 ?_
  intro a w M1 H hM1 S E
  replace S : St w M1 (blk p0 (.cells #[.int .i32 0, .int .u32 0, .int .u32 0, .int .u32 0, .int .i32 0, .int .i32 0, v0] 144) :: blk p1 (.cells #[.int .i32 0, .int .u32 0, .int .u32 0, .int .u32 0, .int .i32 0, .int .i32 0, v1] 144) :: _) := S
  replace h0 := h0.le hM1
  replace h1 := h1.le hM1
  have hset := h0
  obtain ⟨sb0, sm0, sq0, se0, shb0, shm0, shn0, shq0⟩ := hset
  have shq0l : sq0.length ≤ c0.length := nodup_len shn0 fun z hz => (shq0 z).1 hz
  have hset := h1
  obtain ⟨sb1, sm1, sq1, se1, shb1, shm1, shn1, shq1⟩ := hset
  have shq1l : sq1.length ≤ c1.length := nodup_len shn1 fun z hz => (shq1 z).1 hz
  refine WP_seq ?_
  refine WP_region ?_
  refine S_v E rfl (R_assign E rfl) rfl ?_
  clear E a; intro a E
  refine WL_nil ?_
  refine T_n ?_
  refine WP_seq ?_
  refine WP_region ?_
  refine S_v E rfl (R_move E rfl) rfl ?_
  clear E a; intro a E
  refine S_v E rfl (R_assert E rfl Tryz.underlying114 (by intro z hz; cases hz)) rfl ?_
  clear E a; intro a E
  refine S_v E rfl (R_assign E rfl) rfl ?_
  clear E a; intro a E
  refine WL_nil ?_
  refine T_n ?_
  refine WP_seq ?_
  refine WP_region ?_
  refine S_v E rfl (R_move E rfl) rfl ?_
  clear E a; intro a E
  refine S_v E rfl (R_nilCheck E rfl rfl) rfl ?_
  clear E a; intro a E
  refine S_v E rfl (R_fieldAddr E rfl (FA144_0 _)) rfl ?_
  clear E a; intro a E
  replace S : St w M1 (LK p0 144 0 v0 :: _) := S
  refine S_x (X_sp (p := [LK p0 144 0 v0]) E S rfl rfl rfl (rlock_sp Tryz.rwRLib (T := 144) (n := 0) (by decide) (by decide)) (Hp.le.refl _) ?_)
  clear E a S; rintro a _ w M_1 _ hM_1 ⟨rfl, rfl⟩ S E
  replace S : St w M_1 (blk p0 (.cells #[.int .i32 0, .int .u32 0, .int .u32 0, .int .u32 0, .int .i32 1, .int .i32 0, v0] 144) :: blk p1 (.cells #[.int .i32 0, .int .u32 0, .int .u32 0, .int .u32 0, .int .i32 0, .int .i32 0, v1] 144) :: H) := S
  replace h0 := h0.le hM_1
  replace h1 := h1.le hM_1
  replace shb0 := hM_1.2 _ _ shb0
  replace shm0 := shm0.le hM_1
  replace shb1 := hM_1.2 _ _ shb1
  replace shm1 := shm1.le hM_1
  refine WL_nil ?_
  refine T_n ?_
  refine WP_seq ?_
  refine WP_region ?_
  refine S_v E rfl (R_move E rfl) rfl ?_
  clear E a; intro a E
  refine S_v E rfl (R_nilCheck E rfl rfl) rfl ?_
  clear E a; intro a E
  refine S_v E rfl (R_fieldAddr E rfl (FA144_0 _)) rfl ?_
  clear E a; intro a E
  replace S := S.front1
  replace S : St w M_1 (LK p1 144 0 v1 :: _) := S
  refine S_x (X_sp (p := [LK p1 144 0 v1]) E S rfl rfl rfl (rlock_sp Tryz.rwRLib (T := 144) (n := 0) (by decide) (by decide)) (Hp.le.refl _) ?_)
  clear E a S; rintro a _ w M_2 _ hM_2 ⟨rfl, rfl⟩ S E
  replace S : St w M_2 (blk p1 (.cells #[.int .i32 0, .int .u32 0, .int .u32 0, .int .u32 0, .int .i32 1, .int .i32 0, v1] 144) :: blk p0 (.cells #[.int .i32 0, .int .u32 0, .int .u32 0, .int .u32 0, .int .i32 1, .int .i32 0, v0] 144) :: H) := S
  replace h0 := h0.le hM_2
  replace h1 := h1.le hM_2
  replace shb0 := hM_2.2 _ _ shb0
  replace shm0 := shm0.le hM_2
  replace shb1 := hM_2.2 _ _ shb1
  replace shm1 := shm1.le hM_2
  refine WL_nil ?_
  refine T_n ?_
  refine WP_seq ?_
  replace S := S.mono_heap (w' := World.drew _) rfl
  refine WP_drawn (C := fun x w => agree M_2 w ∧ (x = 3 → w.heap[p0]? = some (.cells #[.int .i32 0, .int .u32 0, .int .u32 0, .int .u32 0, .int .i32 1, .int .i32 0, v0] 144)) ∧ (x = 7 → w.heap[p1]? = some (.cells #[.int .i32 0, .int .u32 0, .int .u32 0, .int .u32 0, .int .i32 1, .int .i32 0, v1] 144))) (bf := (fun i => bif Nat.beq i 9 then [3, 7] else [])) [0, 1, 2, 3, 4, 5, 6, 7, 8, 10, 11] [0, 1, 2, 3, 4, 5, 6, 7, 8, 9, 10, 11] Tryz.mixed (by kernel_rfl) (fun x hq => ⟨S.imm, fun _ => (S.mem (.tail _ (.head _))), fun _ => (S.mem (.head _))⟩) ?_
  refine D_v E rfl rfl rfl (fun w hC => (R_move E rfl)) ?_
  clear E a; intro a E
  refine D_v E rfl rfl rfl (fun w hC => (R_nilCheck E rfl rfl)) ?_
  clear E a; intro a E
  refine D_v E rfl rfl rfl (fun w hC => (R_fieldAddr E rfl (FA144_1 _))) ?_
  clear E a; intro a E
  refine D_v E rfl rfl rfl (fun w hC => (R_load E rfl (Tryz.isAgg116 _) (cell_blkf (hC.2.1 rfl) rfl))) ?_
  clear E a; intro a E
  refine D_v E rfl rfl rfl (fun w hC => (R_move E rfl)) ?_
  clear E a; intro a E
  refine D_v E rfl rfl rfl (fun w hC => (R_nilCheck E rfl rfl)) ?_
  clear E a; intro a E
  refine D_v E rfl rfl rfl (fun w hC => (R_fieldAddr E rfl (FA144_1 _))) ?_
  clear E a; intro a E
  refine D_v E rfl rfl rfl (fun w hC => (R_load E rfl (Tryz.isAgg116 _) (cell_blkf (hC.2.2 rfl) rfl))) ?_
  clear E a; intro a E
  refine D_v E rfl rfl rfl (fun w hC => (R_ifaceP E rfl Tryz.underlying116)) ?_
  clear E a; intro a E
  refine D_x rfl rfl rfl (X_pu E S rfl rfl rfl (U_Intersect h0 h1 (by first | assumption | omega) (by first | assumption | omega)) (Hp.le.refl _) ?_)
  clear E a S; rintro a _ w M_3 hM_3 ⟨v_4, rfl, hv_4⟩ S E
  replace h0 := h0.le hM_3
  replace h1 := h1.le hM_3
  replace shb0 := hM_3.2 _ _ shb0
  replace shm0 := shm0.le hM_3
  replace shb1 := hM_3.2 _ _ shb1
  replace shm1 := shm1.le hM_3
  refine ⟨fun x hq hb => ⟨(agree_le hM_3 S.imm), (fun e => by subst e; exact absurd hb (by decide)), (fun e => by subst e; exact absurd hb (by decide))⟩, ?_⟩
  refine D_v E rfl rfl rfl (fun w hC => (R_assert E rfl Tryz.underlying116 (by intro z hz; cases hz))) ?_
  clear E a; intro a E
  refine D_v E rfl rfl rfl (fun w hC => (R_assign E rfl)) ?_
  clear E a; intro a E
  refine D_end (NoP_n ?_)
  refine T_n ?_
  refine WP_seq ?_
  refine WP_region ?_
  refine S_v E rfl (R_move E rfl) rfl ?_
  clear E a; intro a E
  have hset := hv_4
  obtain ⟨b_5, m_6, q_7, e_8, hb_9, hm_10, hn_11, hq_12⟩ := hset
  have hq_12l : q_7.length ≤ ((c0).filter (fun z => decide (z ∈ c1))).length := nodup_len hn_11 fun z hz => (hq_12 z).1 hz
  refine S_v E rfl (R_build (u := .agg #[.int .i32 0, .int .u32 0, .int .u32 0, .int .u32 0, .int .i32 0, .int .i32 0, v_4]) (vs := [v_4]) E rfl (fun w => by rw [e_8]; exact BLK144 _ w)) rfl ?_
  clear E a; intro a E
  refine S_x (X_box (cs := #[.int .i32 0, .int .u32 0, .int .u32 0, .int .u32 0, .int .i32 0, .int .i32 0, v_4]) E S rfl rfl rfl ?_)
  clear E a S; rintro a w b_13 E S
  refine S_v E rfl (R_assign E rfl) rfl ?_
  clear E a; intro a E
  refine WL_nil ?_
  refine T_n ?_
  refine WP_seq ?_
  refine WP_region ?_
  refine S_v E rfl (R_move E rfl) rfl ?_
  clear E a; intro a E
  refine S_v E rfl (R_nilCheck E rfl rfl) rfl ?_
  clear E a; intro a E
  refine S_v E rfl (R_fieldAddr E rfl (FA144_0 _)) rfl ?_
  clear E a; intro a E
  replace S := S.front2
  replace S : St w M_3 (LK p0 144 (0 + 1) v0 :: _) := S
  refine S_x (X_sp (p := [LK p0 144 (0 + 1) v0]) E S rfl rfl rfl (runlock_sp Tryz.rwRLib (T := 144) (n := 0) (by decide) (by decide)) (Hp.le.refl _) ?_)
  clear E a S; rintro a _ w M_14 _ hM_14 ⟨rfl, rfl⟩ S E
  replace S : St w M_14 (blk p0 (.cells #[.int .i32 0, .int .u32 0, .int .u32 0, .int .u32 0, .int .i32 0, .int .i32 0, v0] 144) :: blk b_13 (.cells #[.int .i32 0, .int .u32 0, .int .u32 0, .int .u32 0, .int .i32 0, .int .i32 0, v_4] 144) :: blk p1 (.cells #[.int .i32 0, .int .u32 0, .int .u32 0, .int .u32 0, .int .i32 1, .int .i32 0, v1] 144) :: H) := S
  replace h0 := h0.le hM_14
  replace h1 := h1.le hM_14
  replace shb0 := hM_14.2 _ _ shb0
  replace shm0 := shm0.le hM_14
  replace shb1 := hM_14.2 _ _ shb1
  replace shm1 := shm1.le hM_14
  replace hv_4 := hv_4.le hM_14
  replace hb_9 := hM_14.2 _ _ hb_9
  replace hm_10 := hm_10.le hM_14
  refine WL_nil ?_
  refine T_n ?_
  refine WP_seq ?_
  refine WP_region ?_
  refine S_v E rfl (R_move E rfl) rfl ?_
  clear E a; intro a E
  refine S_v E rfl (R_nilCheck E rfl rfl) rfl ?_
  clear E a; intro a E
  refine S_v E rfl (R_fieldAddr E rfl (FA144_0 _)) rfl ?_
  clear E a; intro a E
  replace S := S.front2
  replace S : St w M_14 (LK p1 144 (0 + 1) v1 :: _) := S
  refine S_x (X_sp (p := [LK p1 144 (0 + 1) v1]) E S rfl rfl rfl (runlock_sp Tryz.rwRLib (T := 144) (n := 0) (by decide) (by decide)) (Hp.le.refl _) ?_)
  clear E a S; rintro a _ w M_15 _ hM_15 ⟨rfl, rfl⟩ S E
  replace S : St w M_15 (blk p1 (.cells #[.int .i32 0, .int .u32 0, .int .u32 0, .int .u32 0, .int .i32 0, .int .i32 0, v1] 144) :: blk p0 (.cells #[.int .i32 0, .int .u32 0, .int .u32 0, .int .u32 0, .int .i32 0, .int .i32 0, v0] 144) :: blk b_13 (.cells #[.int .i32 0, .int .u32 0, .int .u32 0, .int .u32 0, .int .i32 0, .int .i32 0, v_4] 144) :: H) := S
  replace h0 := h0.le hM_15
  replace h1 := h1.le hM_15
  replace shb0 := hM_15.2 _ _ shb0
  replace shm0 := shm0.le hM_15
  replace shb1 := hM_15.2 _ _ shb1
  replace shm1 := shm1.le hM_15
  replace hv_4 := hv_4.le hM_15
  replace hb_9 := hM_15.2 _ _ hb_9
  replace hm_10 := hm_10.le hM_15
  refine WL_nil ?_
  refine T_n ?_
  refine WP_seq ?_
  refine WP_region ?_
  refine S_v E rfl (R_move E rfl) rfl ?_
  clear E a; intro a E
  refine S_v E rfl (R_ifaceP E rfl Tryz.underlying114) rfl ?_
  clear E a; intro a E
  refine S_v E rfl (R_assign E rfl) rfl ?_
  clear E a; intro a E
  refine WL_nil ?_
  refine T_n ?_
  refine WP_ret ?_
  replace S := S.front2
  replace S := S.front1
  replace S := S.front2
  exact F_ret1 E Tryz.results171 rfl ⟨_, rfl, M_15, _, (hM_1.trans (hM_2.trans (hM_3.trans (hM_14.trans hM_15)))), ⟨_, _, rfl, rfl, hv_4⟩, S⟩

set_option maxRecDepth 100000 in
set_option maxHeartbeats 4000000 in
theorem S_SetIntersect {M : Hp} {v1 v2 : Value} {l1 l2 : List Int} (h1 : RdI M v1 l1) (h2 : RdI M v2 l2)(hb1 : l1.length ≤ 100000000) (hb2 : l2.length ≤ 100000000)  :
    Pu Tryz.prog (.func (.func 14) #[] #[]) M [.bool true, v1, v2] (fun r M' => RdI M' r (suL ((l1).filter (fun z => decide (z ∈ l2))))) := by
  refine Pu_enter Tryz.func14 rfl Tryz.ntmps14 rfl Tryz.call14 ?_
  intro a w M1 H hM1 S E
  replace h1 := h1.le hM1
  replace h2 := h2.le hM1
  have b1 := h1.bound
  have b2 := h2.bound
  refine WP_seq ?_
  refine WP_region ?_
  refine S_v E rfl (R_assign E rfl) rfl ?_
  clear E a; intro a E
  refine WL_nil ?_
  refine T_n ?_
  refine WP_seq ?_
  refine WP_region ?_
  refine S_v E rfl (R_move E rfl) rfl ?_
  clear E a; intro a E
  refine S_v E rfl (R_move E rfl) rfl ?_
  clear E a; intro a E
  refine S_v E rfl (R_move E rfl) rfl ?_
  clear E a; intro a E
  refine S_x (X_sp (p := []) E S rfl rfl rfl (S_twoSets h1 h2 (by first | assumption | omega) (by first | assumption | omega)) (Hp.le.refl _) ?_)
  clear E a S; rintro a _ w M_1 _ hM_1 ⟨p_3, v_4, p_5, v_6, rfl, rfl, hv_4, hv_6⟩ S E
  replace S : St w M_1 (blk p_3 (.cells #[.int .i32 0, .int .u32 0, .int .u32 0, .int .u32 0, .int .i32 0, .int .i32 0, v_4] 144) :: blk p_5 (.cells #[.int .i32 0, .int .u32 0, .int .u32 0, .int .u32 0, .int .i32 0, .int .i32 0, v_6] 144) :: H) := S
  replace h1 := h1.le hM_1
  replace h2 := h2.le hM_1
  refine S_v E rfl (R_move E rfl) rfl ?_
  clear E a; intro a E
  refine S_v E rfl (R_extract E rfl rfl) rfl ?_
  clear E a; intro a E
  refine S_v E rfl (R_extract E rfl rfl) rfl ?_
  clear E a; intro a E
  refine S_v E rfl (R_assign E rfl) rfl ?_
  clear E a; intro a E
  refine S_v E rfl (R_assign E rfl) rfl ?_
  clear E a; intro a E
  refine WL_nil ?_
  refine T_n ?_
  refine WP_seq ?_
  refine WP_region ?_
  refine S_v E rfl (R_move E rfl) rfl ?_
  clear E a; intro a E
  refine S_v E rfl (R_move E rfl) rfl ?_
  clear E a; intro a E
  replace S := S.front1
  replace S := S.front1
  refine S_x (X_spI (p := [blk p_3 (.cells #[.int .i32 0, .int .u32 0, .int .u32 0, .int .u32 0, .int .i32 0, .int .i32 0, v_4] 144), blk p_5 (.cells #[.int .i32 0, .int .u32 0, .int .u32 0, .int .u32 0, .int .i32 0, .int .i32 0, v_6] 144)]) E S rfl rfl rfl (meth_114_Intersect _ _) Tryz.call171 (S_Intersect hv_4 hv_6 (by first | assumption | omega) (by first | assumption | omega)) (Hp.le.refl _) ?_)
  clear E a S; rintro a _ w M_7 _ hM_7 ⟨p_9, v_10, rfl, rfl, hv_10⟩ S E
  replace S : St w M_7 (blk p_3 (.cells #[.int .i32 0, .int .u32 0, .int .u32 0, .int .u32 0, .int .i32 0, .int .i32 0, v_4] 144) :: blk p_5 (.cells #[.int .i32 0, .int .u32 0, .int .u32 0, .int .u32 0, .int .i32 0, .int .i32 0, v_6] 144) :: blk p_9 (.cells #[.int .i32 0, .int .u32 0, .int .u32 0, .int .u32 0, .int .i32 0, .int .i32 0, v_10] 144) :: H) := S
  replace h1 := h1.le hM_7
  replace h2 := h2.le hM_7
  replace hv_4 := hv_4.le hM_7
  replace hv_6 := hv_6.le hM_7
  replace S := S.front2
  refine S_x (X_sp (p := [blk p_9 (.cells #[.int .i32 0, .int .u32 0, .int .u32 0, .int .u32 0, .int .i32 0, .int .i32 0, v_10] 144)]) E S rfl rfl rfl (S_Sorted hv_10 (by first | assumption | omega | (simp only [List.length_append]; omega) | exact Nat.le_trans (List.length_filter_le _ _) (by omega) | (rw [List.length_append]; have h8 := List.length_filter_le (fun z => decide (z ∉ l2)) l1; have h9 := List.length_filter_le (fun z => decide (z ∉ l1)) l2; omega))) (Hp.le.refl _) ?_)
  clear E a S; rintro a v_13 w M_11 _ hM_11 ⟨rfl, hv_13⟩ S E
  replace S : St w M_11 (blk p_9 (.cells #[.int .i32 0, .int .u32 0, .int .u32 0, .int .u32 0, .int .i32 0, .int .i32 0, v_10] 144) :: blk p_3 (.cells #[.int .i32 0, .int .u32 0, .int .u32 0, .int .u32 0, .int .i32 0, .int .i32 0, v_4] 144) :: blk p_5 (.cells #[.int .i32 0, .int .u32 0, .int .u32 0, .int .u32 0, .int .i32 0, .int .i32 0, v_6] 144) :: H) := S
  replace h1 := h1.le hM_11
  replace h2 := h2.le hM_11
  replace hv_4 := hv_4.le hM_11
  replace hv_6 := hv_6.le hM_11
  replace hv_10 := hv_10.le hM_11
  refine S_v E rfl (R_assign E rfl) rfl ?_
  clear E a; intro a E
  refine WL_nil ?_
  refine T_n ?_
  refine WP_ret ?_
  exact F_ret1 E Tryz.results14 rfl ⟨_, rfl, M_11, (hM_1.trans (hM_7.trans hM_11)), hv_13, S.drop.drop.drop⟩

set_option maxRecDepth 100000 in
set_option maxHeartbeats 4000000 in
theorem impl_SetIntersect {M : Hp} {x0 : Bool} {v1 v2 : Value} {l1 l2 : List Int} (h1 : RdI M v1 l1) (h2 : RdI M v2 l2)(hb1 : l1.length ≤ 100000000) (hb2 : l2.length ≤ 100000000) :
    Pu Tryz.prog (.func (.func 14) #[] #[]) M [.bool x0, v1, v2] (fun r M' => RdI M' r (suL ((l1).filter (fun z => decide (z ∈ l2))))) := by
  cases x0
  · exact U_SetIntersect h1 h2 hb1 hb2
  · exact S_SetIntersect h1 h2 hb1 hb2

set_option maxRecDepth 100000 in
set_option maxHeartbeats 4000000 in
theorem laws_FnSetLaws_2 {M : Hp} {v0 v1 : Value} {l0 l1 : List Int} (h0 : RdI M v0 l0) (h1 : RdI M v1 l1)(hb1 : l0.length ≤ 100000000) (hb2 : l1.length ≤ 100000000) {bx2 : Nat} {x9 : Bool} (hbx2 : M bx2 = some (.cells #[.bool x9] 4)) :
    Pu Tryz.prog (.func (.func 13) #[] #[.pointer (some ⟨bx2, 0, none⟩)]) M [v0, v1] (fun r M' => RdI M' r (suL ((l0).filter (fun z => decide (z ∈ l1))))) := by
  refine Pu_enter Tryz.func13 rfl Tryz.ntmps13 rfl Tryz.call13 ?_
  intro a w M1 H hM1 S E
  replace h0 := h0.le hM1
  replace h1 := h1.le hM1
  replace hbx2 := hM1.2 _ _ hbx2
  have b0 := h0.bound
  have b1 := h1.bound
  refine WP_seq ?_
  refine WP_region ?_
  refine S_v E rfl (R_assign E rfl) rfl ?_
  clear E a; intro a E
  refine WL_nil ?_
  refine T_n ?_
  refine WP_seq ?_
  refine WP_region ?_
  refine S_v E rfl (R_loadM E rfl Tryz.isAgg4 S.imm (cellM_box hbx2)) rfl ?_
  clear E a; intro a E
  refine S_v E rfl (R_move E rfl) rfl ?_
  clear E a; intro a E
  refine S_v E rfl (R_move E rfl) rfl ?_
  clear E a; intro a E
  refine S_x (X_pu E S rfl rfl rfl (impl_SetIntersect h0 h1 (by first | assumption | omega | (simp; done)) (by first | assumption | omega | (simp; done))) (Hp.le.refl _) ?_)
  clear E a S; rintro a v_2 w M_1 hM_1 hv_2 S E
  replace h0 := h0.le hM_1
  replace h1 := h1.le hM_1
  replace hbx2 := hM_1.2 _ _ hbx2
  have hzl := Nat.le_trans (suL_len ((l0).filter (fun z => decide (z ∈ l1)))) (List.length_filter_le _ _)
  refine S_v E rfl (R_assign E rfl) rfl ?_
  clear E a; intro a E
  refine WL_nil ?_
  refine T_n ?_
  refine WP_ret ?_
  exact F_ret1 E Tryz.results13 rfl ⟨_, rfl, M_1, hM_1, hv_2, S⟩

set_option maxRecDepth 100000 in
set_option maxHeartbeats 4000000 in
theorem U_Difference {M : Hp} {v0 : Value} {c0 : List Int} (h0 : RdSU 145 M v0 c0) {v1 : Value} {c1 : List Int} (h1 : RdSU 145 M v1 c1) (b0 : c0.length ≤ 1000000000) (b1 : c1.length ≤ 1000000000)  :
    Pu Tryz.prog (.func (.func 193) #[] #[]) M [v0, .iface 116 v1] (fun r M' => (∃ p, r = .iface 116 p ∧ RdSU 145 M' p ((c0).filter (fun z => decide (z ∉ c1))))) := by
  refine Pu_enter Tryz.func193 rfl Tryz.ntmps193 rfl Tryz.call193 ?_
  intro a w M1 H hM1 S E
  replace h0 := h0.le hM1
  replace h1 := h1.le hM1
  have hcl0 := card_le c0
  have hcl1 := card_le c1
  refine WP_seq ?_
  refine WP_region ?_
  refine S_v E rfl (R_assign E rfl) rfl ?_
  clear E a; intro a E
  refine WL_nil ?_
  refine T_n ?_
  refine WP_seq ?_
  refine WP_region ?_
  refine S_v E rfl (R_move E rfl) rfl ?_
  clear E a; intro a E
  refine S_v E rfl (R_assert E rfl Tryz.underlying116 (by intro z hz; cases hz)) rfl ?_
  clear E a; intro a E
  refine S_v E rfl (R_assign E rfl) rfl ?_
  clear E a; intro a E
  refine WL_nil ?_
  refine T_n ?_
  refine WP_seq ?_
  refine WP_region ?_
  refine S_v E rfl (R_move E rfl) rfl ?_
  clear E a; intro a E
  refine S_x (X_pu E S rfl rfl rfl (U_Cardinality h0 (by first | assumption | omega)) (Hp.le.refl _) ?_)
  clear E a S; rintro a _ w M_1 hM_1 rfl S E
  replace h0 := h0.le hM_1
  replace h1 := h1.le hM_1
  refine S_x (X_makeMapR E S rfl MT145 rfl ?_)
  clear E a S; rintro a w b_2 E S
  replace S : St w M_1 (OwnS b_2 ([] : List Int) :: _) := S
  refine S_x (X_alloc (cs := #[.map none]) E S rfl Tryz.zeroValue145 rfl ?_)
  clear E a S; rintro a w b_3 E S
  refine S_x0 (X_store E S rfl rfl (Tryz.sizeOf145 _) rfl ?_)
  clear E a S; rintro a w E S
  refine WL_nil ?_
  refine T_n ?_
  refine WP_seq ?_
  refine WP_seq ?_
  refine WP_region ?_
  refine S_v E rfl (R_move E rfl) rfl ?_
  clear E a; intro a E
  have hset := h0
  obtain ⟨sb0, sm0, sq0, se0, shb0, shm0, shn0, shq0⟩ := hset
  have shq0l : sq0.length ≤ c0.length := nodup_len shn0 fun z hz => (shq0 z).1 hz
  refine S_v E rfl (R_nilCheck E rfl se0) rfl ?_
  clear E a; intro a E
  refine S_v E rfl (R_loadM E (congrArg some se0) Tryz.isAgg145 S.imm (cellM_box shb0)) rfl ?_
  clear E a; intro a E
  refine S_x (X_range E S rfl MT145 shm0 rfl ?_)
  clear E a S; rintro a w i_4 es_5 ck_6 E hf_7 S
  replace S : St w M_1 (ItO sm0 es_5 ck_6 i_4 (Sl.encS ([] : List Int)) :: _) := S
  refine WL_nil ?_
  refine T_n ?_
  refine WP_block ?_
  replace S := S.front2
  replace S := S.front1
  replace S := S.front1
  replace S := S.reM (L' := (Sl.encS (addsL [] (([]).filter (fun z => decide (z ∉ c1)))))) (congrArg Sl.encS (show ([] : List Int) = (addsL [] (([]).filter (fun z => decide (z ∉ c1)))) by (first | rfl | (simp [addsL_snoc]; done) | (simp [addsL_snoc, List.filter_append, *]; done))))
  replace S := S.front1
  replace S := S.reIt (p' := (Sl.encS [])) (congrArg Sl.encS (show ([] : List Int) = [] by (first | rfl | (simp [addsL_snoc]; done) | (simp [addsL_snoc, List.filter_append, *]; done))))
  refine WP_loop (γ := List Int) (fun (p : List Int) a w => ∃ (M_8 : Hp), Hp.le M_1 M_8 ∧ St w M_8 (ItO sm0 es_5 ck_6 i_4 (Sl.encS p) :: OwnS b_2 (addsL [] ((p).filter (fun z => decide (z ∉ c1)))) :: blk b_3 (.cells #[.map (some b_2)] 145) :: H) ∧ Env a 28 [] [(5, v1), (6, .pointer (some ⟨b_3, 0, none⟩)), (16, .pointer (some ⟨i_4, 0, none⟩))] ∧ (p.Nodup) ∧ (∀ z ∈ p, z ∈ sq0) ∧ (p.length ≤ sq0.length)) (fun p => sq0.length - p.length) [] ⟨M_1, Hp.le.refl _, S, E.keep ⟨rfl, rfl, rfl, trivial⟩, (by simp), (by simp), (by simp)⟩ ?_
  try clear E
  try clear S
  try clear a
  try clear w
  rintro p a w ⟨M_8, hM_8, S, E, hL0_0, hL0_1, hL0_2⟩
  replace h0 := h0.le hM_8
  replace h1 := h1.le hM_8
  replace shb0 := hM_8.2 _ _ shb0
  replace shm0 := shm0.le hM_8
  replace hf_7 := hf_7.le hM_8
  refine WP_seq ?_
  refine WP_region ?_
  refine S_x (X_nextS E S rfl hf_7 rfl (by assumption) (by assumption) ?_ ?_)
  · clear E a S; rintro a E hpm_9 S
    refine S_v E rfl (R_extract E rfl rfl) rfl ?_
    clear E a; intro a E
    refine WL_nil ?_
    refine T_n ?_
    refine WP_seq ?_
    refine WP_condF E rfl rfl ?_
    refine WP_exit ?_
    refine T_x ?_
    refine T_x ?_
    refine B_x ?_
    refine T_n ?_
    refine WP_seq ?_
    refine WP_region ?_
    replace S := S.front1
    have S0 := S; clear S
    obtain ⟨M_10, hM_10, hm_11, S⟩ := S0.freezeM
    clear S0
    replace h0 := h0.le hM_10
    replace h1 := h1.le hM_10
    replace shb0 := hM_10.2 _ _ shb0
    replace shm0 := shm0.le hM_10
    replace hf_7 := hf_7.le hM_10
    replace S := S.front1
    have S0 := S; clear S
    obtain ⟨M_12, hM_12, hb_13, S⟩ := S0.freezeB
    clear S0
    replace h0 := h0.le hM_12
    replace h1 := h1.le hM_12
    replace shb0 := hM_12.2 _ _ shb0
    replace shm0 := shm0.le hM_12
    replace hf_7 := hf_7.le hM_12
    replace hm_11 := hm_11.le hM_12
    refine S_v E rfl (R_ifaceP E rfl Tryz.underlying116) rfl ?_
    clear E a; intro a E
    refine S_v E rfl (R_assign E rfl) rfl ?_
    clear E a; intro a E
    refine WL_nil ?_
    refine T_n ?_
    refine WP_ret ?_
    exact F_ret1 E Tryz.results193 rfl ⟨_, rfl, M_12, (hM_1.trans (hM_8.trans (hM_10.trans hM_12))), ⟨_, rfl, ⟨_, _, (addsL [] ((p).filter (fun z => decide (z ∉ c1)))), rfl, hb_13, hm_11, (by first | assumption | exact addsL_nodup _ _ List.nodup_nil | exact addsL_nodup _ _ (addsL_nodup _ _ List.nodup_nil)), (by (intro x; have ep := (List.Perm.mem_iff (a := x) (show p.Perm sq0 by first | assumption | (exact List.Perm.symm (by assumption)))).trans (shq0 x); simp only [mem_addsL, List.not_mem_nil, false_or, List.mem_append, List.mem_filter, decide_eq_true_eq, List.nil_append]; simp only [ep]))⟩⟩, S.drop⟩
  · clear E a S w; rintro a w k_14 E hk_15 hk_15n hk_15l S
    refine S_v E rfl (R_extract E rfl rfl) rfl ?_
    clear E a; intro a E
    refine WL_nil ?_
    refine T_n ?_
    refine WP_seq ?_
    refine WP_condT E rfl rfl ?_
    refine WP_skip ?_
    refine T_n ?_
    refine WP_block ?_
    refine WP_seq ?_
    refine WP_region ?_
    refine S_v E rfl (R_entry (k := k_14) (v := .agg #[]) E (by have S1 := S; simp only [Sl.encS, List.map_append, List.map_cons, List.map_nil] at S1; exact S1) hf_7 rfl) rfl ?_
    clear E a; intro a E
    refine S_v E rfl (R_extract E rfl rfl) rfl ?_
    clear E a; intro a E
    refine S_v E rfl (R_assign E rfl) rfl ?_
    clear E a; intro a E
    refine WL_nil ?_
    refine T_n ?_
    refine WP_seq ?_
    refine WP_region ?_
    refine S_v E rfl (R_move E rfl) rfl ?_
    clear E a; intro a E
    refine S_v E rfl (R_move E rfl) rfl ?_
    clear E a; intro a E
    refine S_x (X_pu E S rfl rfl rfl (U_contains h1 (by first | assumption | omega)) (Hp.le.refl _) ?_)
    clear E a S; rintro a _ w M_16 hM_16 rfl S E
    replace h0 := h0.le hM_16
    replace h1 := h1.le hM_16
    replace shb0 := hM_16.2 _ _ shb0
    replace shm0 := shm0.le hM_16
    replace hf_7 := hf_7.le hM_16
    refine S_v E rfl (R_not E rfl) rfl ?_
    clear E a; intro a E
    refine WL_nil ?_
    refine T_n ?_
    refine WP_cond E rfl (fun hc_17 => ?_) (fun hc_17 => ?_)
    · refine WP_region ?_
      refine S_v E rfl (R_move E rfl) rfl ?_
      clear E a; intro a E
      replace S := S.front1
      replace S := S.front2
      refine S_x (X_sp (p := [blk b_3 (.cells #[.map (some b_2)] 145), OwnS b_2 (addsL [] ((p).filter (fun z => decide (z ∉ c1))))]) E S rfl rfl rfl (U_add) (Hp.le.refl _) ?_)
      clear E a S; rintro a _ w M_18 _ hM_18 ⟨rfl, rfl⟩ S E
      replace S : St w M_18 (blk b_3 (.cells #[.map (some b_2)] 145) :: OwnS b_2 (addS (addsL [] ((p).filter (fun z => decide (z ∉ c1)))) k_14) :: ItO sm0 es_5 ck_6 i_4 (Sl.encS (p ++ [k_14])) :: H) := S
      replace h0 := h0.le hM_18
      replace h1 := h1.le hM_18
      replace shb0 := hM_18.2 _ _ shb0
      replace shm0 := shm0.le hM_18
      replace hf_7 := hf_7.le hM_18
      refine WL_nil ?_
      refine B_n ?_
      refine T_n ?_
      replace S := S.front1
      replace S := S.front2
      replace S := S.front1
      replace S := S.reM (L' := (Sl.encS (addsL [] (((p ++ [k_14])).filter (fun z => decide (z ∉ c1)))))) (congrArg Sl.encS (show addS (addsL [] ((p).filter (fun z => decide (z ∉ c1)))) k_14 = (addsL [] (((p ++ [k_14])).filter (fun z => decide (z ∉ c1)))) by (first | rfl | (simp [addsL_snoc]; done) | (simp [addsL_snoc, List.filter_append, *]; done))))
      replace S := S.front1
      replace S := S.reIt (p' := (Sl.encS (p ++ [k_14]))) (congrArg Sl.encS (show p ++ [k_14] = (p ++ [k_14]) by (first | rfl | (simp [addsL_snoc]; done) | (simp [addsL_snoc, List.filter_append, *]; done))))
      exact ⟨(p ++ [k_14]), ⟨M_18, (hM_8.trans (hM_16.trans hM_18)), S, E.keep ⟨rfl, rfl, rfl, trivial⟩, (by exact snocN (by assumption) (by assumption)), (by exact snocS (by assumption) (by assumption)), (by simp; omega)⟩, (by simp; omega)⟩
    · refine WP_skip ?_
      refine B_n ?_
      refine T_n ?_
      replace S := S.front1
      replace S := S.reM (L' := (Sl.encS (addsL [] (((p ++ [k_14])).filter (fun z => decide (z ∉ c1)))))) (congrArg Sl.encS (show (addsL [] ((p).filter (fun z => decide (z ∉ c1)))) = (addsL [] (((p ++ [k_14])).filter (fun z => decide (z ∉ c1)))) by (first | rfl | (simp [addsL_snoc]; done) | (simp [addsL_snoc, List.filter_append, *]; done))))
      replace S := S.front1
      replace S := S.reIt (p' := (Sl.encS (p ++ [k_14]))) (congrArg Sl.encS (show p ++ [k_14] = (p ++ [k_14]) by (first | rfl | (simp [addsL_snoc]; done) | (simp [addsL_snoc, List.filter_append, *]; done))))
      exact ⟨(p ++ [k_14]), ⟨M_16, (hM_8.trans hM_16), S, E.keep ⟨rfl, rfl, rfl, trivial⟩, (by exact snocN (by assumption) (by assumption)), (by exact snocS (by assumption) (by assumption)), (by simp; omega)⟩, (by simp; omega)⟩

set_option maxRecDepth 100000 in
set_option maxHeartbeats 4000000 in
theorem U_SetDifference {M : Hp} {v1 v2 : Value} {l1 l2 : List Int} (h1 : RdI M v1 l1) (h2 : RdI M v2 l2)(hb1 : l1.length ≤ 100000000) (hb2 : l2.length ≤ 100000000)  :
    Pu Tryz.prog (.func (.func 16) #[] #[]) M [.bool false, v1, v2] (fun r M' => RdI M' r (suL ((l1).filter (fun z => decide (z ∉ l2))))) := by
  refine Pu_enter Tryz.func16 rfl Tryz.ntmps16 rfl Tryz.call16 ?_
  intro a w M1 H hM1 S E
  replace h1 := h1.le hM1
  replace h2 := h2.le hM1
  have b1 := h1.bound
  have b2 := h2.bound
  refine WP_seq ?_
  refine WP_region ?_
  refine S_v E rfl (R_assign E rfl) rfl ?_
  clear E a; intro a E
  refine WL_nil ?_
  refine T_n ?_
  refine WP_seq ?_
  refine WP_region ?_
  refine S_v E rfl (R_move E rfl) rfl ?_
  clear E a; intro a E
  refine S_v E rfl (R_move E rfl) rfl ?_
  clear E a; intro a E
  refine S_v E rfl (R_move E rfl) rfl ?_
  clear E a; intro a E
  refine S_x (X_pu E S rfl rfl rfl (U_twoSets h1 h2 (by first | assumption | omega) (by first | assumption | omega)) (Hp.le.refl _) ?_)
  clear E a S; rintro a _ w M_1 hM_1 ⟨_, _, rfl, ⟨v_2, rfl, hv_2⟩, ⟨v_3, rfl, hv_3⟩⟩ S E
  replace h1 := h1.le hM_1
  replace h2 := h2.le hM_1
  refine S_v E rfl (R_move E rfl) rfl ?_
  clear E a; intro a E
  refine S_v E rfl (R_extract E rfl rfl) rfl ?_
  clear E a; intro a E
  refine S_v E rfl (R_extract E rfl rfl) rfl ?_
  clear E a; intro a E
  refine S_v E rfl (R_assign E rfl) rfl ?_
  clear E a; intro a E
  refine S_v E rfl (R_assign E rfl) rfl ?_
  clear E a; intro a E
  refine WL_nil ?_
  refine T_n ?_
  refine WP_seq ?_
  refine WP_region ?_
  refine S_v E rfl (R_move E rfl) rfl ?_
  clear E a; intro a E
  refine S_v E rfl (R_move E rfl) rfl ?_
  clear E a; intro a E
  refine S_x (X_puI E S rfl rfl rfl (meth_116_Difference _ _) Tryz.call193 (U_Difference hv_2 hv_3 (by first | assumption | omega) (by first | assumption | omega)) (Hp.le.refl _) ?_)
  clear E a S; rintro a _ w M_4 hM_4 ⟨v_5, rfl, hv_5⟩ S E
  replace h1 := h1.le hM_4
  replace h2 := h2.le hM_4
  replace hv_2 := hv_2.le hM_4
  replace hv_3 := hv_3.le hM_4
  refine S_x (X_pu E S rfl rfl rfl (U_Sorted hv_5 (by first | assumption | omega | (simp only [List.length_append]; omega) | exact Nat.le_trans (List.length_filter_le _ _) (by omega) | (rw [List.length_append]; have h8 := List.length_filter_le (fun z => decide (z ∉ l2)) l1; have h9 := List.length_filter_le (fun z => decide (z ∉ l1)) l2; omega))) (Hp.le.refl _) ?_)
  clear E a S; rintro a v_7 w M_6 hM_6 hv_7 S E
  replace h1 := h1.le hM_6
  replace h2 := h2.le hM_6
  replace hv_2 := hv_2.le hM_6
  replace hv_3 := hv_3.le hM_6
  replace hv_5 := hv_5.le hM_6
  refine S_v E rfl (R_assign E rfl) rfl ?_
  clear E a; intro a E
  refine WL_nil ?_
  refine T_n ?_
  refine WP_ret ?_
  exact F_ret1 E Tryz.results16 rfl ⟨_, rfl, M_6, (hM_1.trans (hM_4.trans hM_6)), hv_7, S⟩

set_option maxRecDepth 100000 in
set_option maxHeartbeats 4000000 in
theorem S_Difference {M : Hp} {p0 : Nat} {v0 : Value} {c0 : List Int} (h0 : RdSU 145 M v0 c0) {p1 : Nat} {v1 : Value} {c1 : List Int} (h1 : RdSU 145 M v1 c1) (b0 : c0.length ≤ 1000000000) (b1 : c1.length ≤ 1000000000)  :
    Sp Tryz.prog (.func (.func 168) #[] #[]) M [.pointer (some ⟨p0, 0, none⟩), .iface 114 (.pointer (some ⟨p1, 0, none⟩))] [blk p0 (.cells #[.int .i32 0, .int .u32 0, .int .u32 0, .int .u32 0, .int .i32 0, .int .i32 0, v0] 144), blk p1 (.cells #[.int .i32 0, .int .u32 0, .int .u32 0, .int .u32 0, .int .i32 0, .int .i32 0, v1] 144)] (fun r M' C' => ∃ p_0 v_0, r = .iface 114 (.pointer (some ⟨p_0, 0, none⟩)) ∧ C' = [blk p0 (.cells #[.int .i32 0, .int .u32 0, .int .u32 0, .int .u32 0, .int .i32 0, .int .i32 0, v0] 144), blk p1 (.cells #[.int .i32 0, .int .u32 0, .int .u32 0, .int .u32 0, .int .i32 0, .int .i32 0, v1] 144), blk p_0 (.cells #[.int .i32 0, .int .u32 0, .int .u32 0, .int .u32 0, .int .i32 0, .int .i32 0, v_0] 144)] ∧ (RdSU 145 M' v_0 ((c0).filter (fun z => decide (z ∉ c1))))) := by
  refine Sp_enter Tryz.func168 rfl Tryz.ntmps168 rfl Tryz.call168 ?_
  intro a w M1 H hM1 S E
  replace S : St w M1 (blk p0 (.cells #[.int .i32 0, .int .u32 0, .int .u32 0, .int .u32 0, .int .i32 0, .int .i32 0, v0] 144) :: blk p1 (.cells #[.int .i32 0, .int .u32 0, .int .u32 0, .int .u32 0, .int .i32 0, .int .i32 0, v1] 144) :: _) := S
  replace h0 := h0.le hM1
  replace h1 := h1.le hM1
  have hset := h0
  obtain ⟨sb0, sm0, sq0, se0, shb0, shm0, shn0, shq0⟩ := hset
  have shq0l : sq0.length ≤ c0.length := nodup_len shn0 fun z hz => (shq0 z).1 hz
  have hset := h1
  obtain ⟨sb1, sm1, sq1, se1, shb1, shm1, shn1, shq1⟩ := hset
  have shq1l : sq1.length ≤ c1.length := nodup_len shn1 fun z hz => (shq1 z).1 hz
  refine WP_seq ?_
  refine WP_region ?_
  refine S_v E rfl (R_assign E rfl) rfl ?_
  clear E a; intro a E
  refine WL_nil ?_
  refine T_n ?_
  refine WP_seq ?_
  refine WP_region ?_
  refine S_v E rfl (R_move E rfl) rfl ?_
  clear E a; intro a E
  refine S_v E rfl (R_assert E rfl Tryz.underlying114 (by intro z hz; cases hz)) rfl ?_
  clear E a; intro a E
  refine S_v E rfl (R_assign E rfl) rfl ?_
  clear E a; intro a E
  refine WL_nil ?_
  refine T_n ?_
  refine WP_seq ?_
  refine WP_region ?_
  refine S_v E rfl (R_move E rfl) rfl ?_
  clear E a; intro a E
  refine S_v E rfl (R_nilCheck E rfl rfl) rfl ?_
  clear E a; intro a E
  refine S_v E rfl (R_fieldAddr E rfl (FA144_0 _)) rfl ?_
  clear E a; intro a E
  replace S : St w M1 (LK p0 144 0 v0 :: _) := S
  refine S_x (X_sp (p := [LK p0 144 0 v0]) E S rfl rfl rfl (rlock_sp Tryz.rwRLib (T := 144) (n := 0) (by decide) (by decide)) (Hp.le.refl _) ?_)
  clear E a S; rintro a _ w M_1 _ hM_1 ⟨rfl, rfl⟩ S E
  replace S : St w M_1 (blk p0 (.cells #[.int .i32 0, .int .u32 0, .int .u32 0, .int .u32 0, .int .i32 1, .int .i32 0, v0] 144) :: blk p1 (.cells #[.int .i32 0, .int .u32 0, .int .u32 0, .int .u32 0, .int .i32 0, .int .i32 0, v1] 144) :: H) := S
  replace h0 := h0.le hM_1
  replace h1 := h1.le hM_1
  replace shb0 := hM_1.2 _ _ shb0
  replace shm0 := shm0.le hM_1
  replace shb1 := hM_1.2 _ _ shb1
  replace shm1 := shm1.le hM_1
  refine WL_nil ?_
  refine T_n ?_
  refine WP_seq ?_
  refine WP_region ?_
  refine S_v E rfl (R_move E rfl) rfl ?_
  clear E a; intro a E
  refine S_v E rfl (R_nilCheck E rfl rfl) rfl ?_
  clear E a; intro a E
  refine S_v E rfl (R_fieldAddr E rfl (FA144_0 _)) rfl ?_
  clear E a; intro a E
  replace S := S.front1
  replace S : St w M_1 (LK p1 144 0 v1 :: _) := S
  refine S_x (X_sp (p := [LK p1 144 0 v1]) E S rfl rfl rfl (rlock_sp Tryz.rwRLib (T := 144) (n := 0) (by decide) (by decide)) (Hp.le.refl _) ?_)
  clear E a S; rintro a _ w M_2 _ hM_2 ⟨rfl, rfl⟩ S E
  replace S : St w M_2 (blk p1 (.cells #[.int .i32 0, .int .u32 0, .int .u32 0, .int .u32 0, .int .i32 1, .int .i32 0, v1] 144) :: blk p0 (.cells #[.int .i32 0, .int .u32 0, .int .u32 0, .int .u32 0, .int .i32 1, .int .i32 0, v0] 144) :: H) := S
  replace h0 := h0.le hM_2
  replace h1 := h1.le hM_2
  replace shb0 := hM_2.2 _ _ shb0
  replace shm0 := shm0.le hM_2
  replace shb1 := hM_2.2 _ _ shb1
  replace shm1 := shm1.le hM_2
  refine WL_nil ?_
  refine T_n ?_
  refine WP_seq ?_
  replace S := S.mono_heap (w' := World.drew _) rfl
  refine WP_drawn (C := fun x w => agree M_2 w ∧ (x = 3 → w.heap[p0]? = some (.cells #[.int .i32 0, .int .u32 0, .int .u32 0, .int .u32 0, .int .i32 1, .int .i32 0, v0] 144)) ∧ (x = 7 → w.heap[p1]? = some (.cells #[.int .i32 0, .int .u32 0, .int .u32 0, .int .u32 0, .int .i32 1, .int .i32 0, v1] 144))) (bf := (fun i => bif Nat.beq i 9 then [3, 7] else [])) [0, 1, 2, 3, 4, 5, 6, 7, 8, 10, 11] [0, 1, 2, 3, 4, 5, 6, 7, 8, 9, 10, 11] Tryz.mixed (by kernel_rfl) (fun x hq => ⟨S.imm, fun _ => (S.mem (.tail _ (.head _))), fun _ => (S.mem (.head _))⟩) ?_
  refine D_v E rfl rfl rfl (fun w hC => (R_move E rfl)) ?_
  clear E a; intro a E
  refine D_v E rfl rfl rfl (fun w hC => (R_nilCheck E rfl rfl)) ?_
  clear E a; intro a E
  refine D_v E rfl rfl rfl (fun w hC => (R_fieldAddr E rfl (FA144_1 _))) ?_
  clear E a; intro a E
  refine D_v E rfl rfl rfl (fun w hC => (R_load E rfl (Tryz.isAgg116 _) (cell_blkf (hC.2.1 rfl) rfl))) ?_
  clear E a; intro a E
  refine D_v E rfl rfl rfl (fun w hC => (R_move E rfl)) ?_
  clear E a; intro a E
  refine D_v E rfl rfl rfl (fun w hC => (R_nilCheck E rfl rfl)) ?_
  clear E a; intro a E
  refine D_v E rfl rfl rfl (fun w hC => (R_fieldAddr E rfl (FA144_1 _))) ?_
  clear E a; intro a E
  refine D_v E rfl rfl rfl (fun w hC => (R_load E rfl (Tryz.isAgg116 _) (cell_blkf (hC.2.2 rfl) rfl))) ?_
  clear E a; intro a E
  refine D_v E rfl rfl rfl (fun w hC => (R_ifaceP E rfl Tryz.underlying116)) ?_
  clear E a; intro a E
  refine D_x rfl rfl rfl (X_pu E S rfl rfl rfl (U_Difference h0 h1 (by first | assumption | omega) (by first | assumption | omega)) (Hp.le.refl _) ?_)
  clear E a S; rintro a _ w M_3 hM_3 ⟨v_4, rfl, hv_4⟩ S E
  replace h0 := h0.le hM_3
  replace h1 := h1.le hM_3
  replace shb0 := hM_3.2 _ _ shb0
  replace shm0 := shm0.le hM_3
  replace shb1 := hM_3.2 _ _ shb1
  replace shm1 := shm1.le hM_3
  refine ⟨fun x hq hb => ⟨(agree_le hM_3 S.imm), (fun e => by subst e; exact absurd hb (by decide)), (fun e => by subst e; exact absurd hb (by decide))⟩, ?_⟩
  refine D_v E rfl rfl rfl (fun w hC => (R_assert E rfl Tryz.underlying116 (by intro z hz; cases hz))) ?_
  clear E a; intro a E
  refine D_v E rfl rfl rfl (fun w hC => (R_assign E rfl)) ?_
  clear E a; intro a E
  refine D_end (NoP_n ?_)
  refine T_n ?_
  refine WP_seq ?_
  refine WP_region ?_
  refine S_v E rfl (R_move E rfl) rfl ?_
  clear E a; intro a E
  have hset := hv_4
  obtain ⟨b_5, m_6, q_7, e_8, hb_9, hm_10, hn_11, hq_12⟩ := hset
  have hq_12l : q_7.length ≤ ((c0).filter (fun z => decide (z ∉ c1))).length := nodup_len hn_11 fun z hz => (hq_12 z).1 hz
  refine S_v E rfl (R_build (u := .agg #[.int .i32 0, .int .u32 0, .int .u32 0, .int .u32 0, .int .i32 0, .int .i32 0, v_4]) (vs := [v_4]) E rfl (fun w => by rw [e_8]; exact BLK144 _ w)) rfl ?_
  clear E a; intro a E
  refine S_x (X_box (cs := #[.int .i32 0, .int .u32 0, .int .u32 0, .int .u32 0, .int .i32 0, .int .i32 0, v_4]) E S rfl rfl rfl ?_)
  clear E a S; rintro a w b_13 E S
  refine S_v E rfl (R_assign E rfl) rfl ?_
  clear E a; intro a E
  refine WL_nil ?_
  refine T_n ?_
  refine WP_seq ?_
  refine WP_region ?_
  refine S_v E rfl (R_move E rfl) rfl ?_
  clear E a; intro a E
  refine S_v E rfl (R_nilCheck E rfl rfl) rfl ?_
  clear E a; intro a E
  refine S_v E rfl (R_fieldAddr E rfl (FA144_0 _)) rfl ?_
  clear E a; intro a E
  replace S := S.front2
  replace S : St w M_3 (LK p0 144 (0 + 1) v0 :: _) := S
  refine S_x (X_sp (p := [LK p0 144 (0 + 1) v0]) E S rfl rfl rfl (runlock_sp Tryz.rwRLib (T := 144) (n := 0) (by decide) (by decide)) (Hp.le.refl _) ?_)
  clear E a S; rintro a _ w M_14 _ hM_14 ⟨rfl, rfl⟩ S E
  replace S : St w M_14 (blk p0 (.cells #[.int .i32 0, .int .u32 0, .int .u32 0, .int .u32 0, .int .i32 0, .int .i32 0, v0] 144) :: blk b_13 (.cells #[.int .i32 0, .int .u32 0, .int .u32 0, .int .u32 0, .int .i32 0, .int .i32 0, v_4] 144) :: blk p1 (.cells #[.int .i32 0, .int .u32 0, .int .u32 0, .int .u32 0, .int .i32 1, .int .i32 0, v1] 144) :: H) := S
  replace h0 := h0.le hM_14
  replace h1 := h1.le hM_14
  replace shb0 := hM_14.2 _ _ shb0
  replace shm0 := shm0.le hM_14
  replace shb1 := hM_14.2 _ _ shb1
  replace shm1 := shm1.le hM_14
  replace hv_4 := hv_4.le hM_14
  replace hb_9 := hM_14.2 _ _ hb_9
  replace hm_10 := hm_10.le hM_14
  refine WL_nil ?_
  refine T_n ?_
  refine WP_seq ?_
  refine WP_region ?_
  refine S_v E rfl (R_move E rfl) rfl ?_
  clear E a; intro a E
  refine S_v E rfl (R_nilCheck E rfl rfl) rfl ?_
  clear E a; intro a E
  refine S_v E rfl (R_fieldAddr E rfl (FA144_0 _)) rfl ?_
  clear E a; intro a E
  replace S := S.front2
  replace S : St w M_14 (LK p1 144 (0 + 1) v1 :: _) := S
  refine S_x (X_sp (p := [LK p1 144 (0 + 1) v1]) E S rfl rfl rfl (runlock_sp Tryz.rwRLib (T := 144) (n := 0) (by decide) (by decide)) (Hp.le.refl _) ?_)
  clear E a S; rintro a _ w M_15 _ hM_15 ⟨rfl, rfl⟩ S E
  replace S : St w M_15 (blk p1 (.cells #[.int .i32 0, .int .u32 0, .int .u32 0, .int .u32 0, .int .i32 0, .int .i32 0, v1] 144) :: blk p0 (.cells #[.int .i32 0, .int .u32 0, .int .u32 0, .int .u32 0, .int .i32 0, .int .i32 0, v0] 144) :: blk b_13 (.cells #[.int .i32 0, .int .u32 0, .int .u32 0, .int .u32 0, .int .i32 0, .int .i32 0, v_4] 144) :: H) := S
  replace h0 := h0.le hM_15
  replace h1 := h1.le hM_15
  replace shb0 := hM_15.2 _ _ shb0
  replace shm0 := shm0.le hM_15
  replace shb1 := hM_15.2 _ _ shb1
  replace shm1 := shm1.le hM_15
  replace hv_4 := hv_4.le hM_15
  replace hb_9 := hM_15.2 _ _ hb_9
  replace hm_10 := hm_10.le hM_15
  refine WL_nil ?_
  refine T_n ?_
  refine WP_seq ?_
  refine WP_region ?_
  refine S_v E rfl (R_move E rfl) rfl ?_
  clear E a; intro a E
  refine S_v E rfl (R_ifaceP E rfl Tryz.underlying114) rfl ?_
  clear E a; intro a E
  refine S_v E rfl (R_assign E rfl) rfl ?_
  clear E a; intro a E
  refine WL_nil ?_
  refine T_n ?_
  refine WP_ret ?_
  replace S := S.front2
  replace S := S.front1
  replace S := S.front2
  exact F_ret1 E Tryz.results168 rfl ⟨_, rfl, M_15, _, (hM_1.trans (hM_2.trans (hM_3.trans (hM_14.trans hM_15)))), ⟨_, _, rfl, rfl, hv_4⟩, S⟩

set_option maxRecDepth 100000 in
set_option maxHeartbeats 4000000 in
theorem S_SetDifference {M : Hp} {v1 v2 : Value} {l1 l2 : List Int} (h1 : RdI M v1 l1) (h2 : RdI M v2 l2)(hb1 : l1.length ≤ 100000000) (hb2 : l2.length ≤ 100000000)  :
    Pu Tryz.prog (.func (.func 16) #[] #[]) M [.bool true, v1, v2] (fun r M' => RdI M' r (suL ((l1).filter (fun z => decide (z ∉ l2))))) := by
  refine Pu_enter Tryz.func16 rfl Tryz.ntmps16 rfl Tryz.call16 ?_
  intro a w M1 H hM1 S E
  replace h1 := h1.le hM1
  replace h2 := h2.le hM1
  have b1 := h1.bound
  have b2 := h2.bound
  refine WP_seq ?_
  refine WP_region ?_
  refine S_v E rfl (R_assign E rfl) rfl ?_
  clear E a; intro a E
  refine WL_nil ?_
  refine T_n ?_
  refine WP_seq ?_
  refine WP_region ?_
  refine S_v E rfl (R_move E rfl) rfl ?_
  clear E a; intro a E
  refine S_v E rfl (R_move E rfl) rfl ?_
  clear E a; intro a E
  refine S_v E rfl (R_move E rfl) rfl ?_
  clear E a; intro a E
  refine S_x (X_sp (p := []) E S rfl rfl rfl (S_twoSets h1 h2 (by first | assumption | omega) (by first | assumption | omega)) (Hp.le.refl _) ?_)
  clear E a S; rintro a _ w M_1 _ hM_1 ⟨p_3, v_4, p_5, v_6, rfl, rfl, hv_4, hv_6⟩ S E
  replace S : St w M_1 (blk p_3 (.cells #[.int .i32 0, .int .u32 0, .int .u32 0, .int .u32 0, .int .i32 0, .int .i32 0, v_4] 144) :: blk p_5 (.cells #[.int .i32 0, .int .u32 0, .int .u32 0, .int .u32 0, .int .i32 0, .int .i32 0, v_6] 144) :: H) := S
  replace h1 := h1.le hM_1
  replace h2 := h2.le hM_1
  refine S_v E rfl (R_move E rfl) rfl ?_
  clear E a; intro a E
  refine S_v E rfl (R_extract E rfl rfl) rfl ?_
  clear E a; intro a E
  refine S_v E rfl (R_extract E rfl rfl) rfl ?_
  clear E a; intro a E
  refine S_v E rfl (R_assign E rfl) rfl ?_
  clear E a; intro a E
  refine S_v E rfl (R_assign E rfl) rfl ?_
  clear E a; intro a E
  refine WL_nil ?_
  refine T_n ?_
  refine WP_seq ?_
  refine WP_region ?_
  refine S_v E rfl (R_move E rfl) rfl ?_
  clear E a; intro a E
  refine S_v E rfl (R_move E rfl) rfl ?_
  clear E a; intro a E
  replace S := S.front1
  replace S := S.front1
  refine S_x (X_spI (p := [blk p_3 (.cells #[.int .i32 0, .int .u32 0, .int .u32 0, .int .u32 0, .int .i32 0, .int .i32 0, v_4] 144), blk p_5 (.cells #[.int .i32 0, .int .u32 0, .int .u32 0, .int .u32 0, .int .i32 0, .int .i32 0, v_6] 144)]) E S rfl rfl rfl (meth_114_Difference _ _) Tryz.call168 (S_Difference hv_4 hv_6 (by first | assumption | omega) (by first | assumption | omega)) (Hp.le.refl _) ?_)
  clear E a S; rintro a _ w M_7 _ hM_7 ⟨p_9, v_10, rfl, rfl, hv_10⟩ S E
  replace S : St w M_7 (blk p_3 (.cells #[.int .i32 0, .int .u32 0, .int .u32 0, .int .u32 0, .int .i32 0, .int .i32 0, v_4] 144) :: blk p_5 (.cells #[.int .i32 0, .int .u32 0, .int .u32 0, .int .u32 0, .int .i32 0, .int .i32 0, v_6] 144) :: blk p_9 (.cells #[.int .i32 0, .int .u32 0, .int .u32 0, .int .u32 0, .int .i32 0, .int .i32 0, v_10] 144) :: H) := S
  replace h1 := h1.le hM_7
  replace h2 := h2.le hM_7
  replace hv_4 := hv_4.le hM_7
  replace hv_6 := hv_6.le hM_7
  replace S := S.front2
  refine S_x (X_sp (p := [blk p_9 (.cells #[.int .i32 0, .int .u32 0, .int .u32 0, .int .u32 0, .int .i32 0, .int .i32 0, v_10] 144)]) E S rfl rfl rfl (S_Sorted hv_10 (by first | assumption | omega | (simp only [List.length_append]; omega) | exact Nat.le_trans (List.length_filter_le _ _) (by omega) | (rw [List.length_append]; have h8 := List.length_filter_le (fun z => decide (z ∉ l2)) l1; have h9 := List.length_filter_le (fun z => decide (z ∉ l1)) l2; omega))) (Hp.le.refl _) ?_)
  clear E a S; rintro a v_13 w M_11 _ hM_11 ⟨rfl, hv_13⟩ S E
  replace S : St w M_11 (blk p_9 (.cells #[.int .i32 0, .int .u32 0, .int .u32 0, .int .u32 0, .int .i32 0, .int .i32 0, v_10] 144) :: blk p_3 (.cells #[.int .i32 0, .int .u32 0, .int .u32 0, .int .u32 0, .int .i32 0, .int .i32 0, v_4] 144) :: blk p_5 (.cells #[.int .i32 0, .int .u32 0, .int .u32 0, .int .u32 0, .int .i32 0, .int .i32 0, v_6] 144) :: H) := S
  replace h1 := h1.le hM_11
  replace h2 := h2.le hM_11
  replace hv_4 := hv_4.le hM_11
  replace hv_6 := hv_6.le hM_11
  replace hv_10 := hv_10.le hM_11
  refine S_v E rfl (R_assign E rfl) rfl ?_
  clear E a; intro a E
  refine WL_nil ?_
  refine T_n ?_
  refine WP_ret ?_
  exact F_ret1 E Tryz.results16 rfl ⟨_, rfl, M_11, (hM_1.trans (hM_7.trans hM_11)), hv_13, S.drop.drop.drop⟩

set_option maxRecDepth 100000 in
set_option maxHeartbeats 4000000 in
theorem impl_SetDifference {M : Hp} {x0 : Bool} {v1 v2 : Value} {l1 l2 : List Int} (h1 : RdI M v1 l1) (h2 : RdI M v2 l2)(hb1 : l1.length ≤ 100000000) (hb2 : l2.length ≤ 100000000) :
    Pu Tryz.prog (.func (.func 16) #[] #[]) M [.bool x0, v1, v2] (fun r M' => RdI M' r (suL ((l1).filter (fun z => decide (z ∉ l2))))) := by
  cases x0
  · exact U_SetDifference h1 h2 hb1 hb2
  · exact S_SetDifference h1 h2 hb1 hb2

set_option maxRecDepth 100000 in
set_option maxHeartbeats 4000000 in
theorem laws_FnSetLaws_3 {M : Hp} {v0 v1 : Value} {l0 l1 : List Int} (h0 : RdI M v0 l0) (h1 : RdI M v1 l1)(hb1 : l0.length ≤ 100000000) (hb2 : l1.length ≤ 100000000) {bx2 : Nat} {x9 : Bool} (hbx2 : M bx2 = some (.cells #[.bool x9] 4)) :
    Pu Tryz.prog (.func (.func 15) #[] #[.pointer (some ⟨bx2, 0, none⟩)]) M [v0, v1] (fun r M' => RdI M' r (suL ((l0).filter (fun z => decide (z ∉ l1))))) := by
  refine Pu_enter Tryz.func15 rfl Tryz.ntmps15 rfl Tryz.call15 ?_
  intro a w M1 H hM1 S E
  replace h0 := h0.le hM1
  replace h1 := h1.le hM1
  replace hbx2 := hM1.2 _ _ hbx2
  have b0 := h0.bound
  have b1 := h1.bound
  refine WP_seq ?_
  refine WP_region ?_
  refine S_v E rfl (R_assign E rfl) rfl ?_
  clear E a; intro a E
  refine WL_nil ?_
  refine T_n ?_
  refine WP_seq ?_
  refine WP_region ?_
  refine S_v E rfl (R_loadM E rfl Tryz.isAgg4 S.imm (cellM_box hbx2)) rfl ?_
  clear E a; intro a E
  refine S_v E rfl (R_move E rfl) rfl ?_
  clear E a; intro a E
  refine S_v E rfl (R_move E rfl) rfl ?_
  clear E a; intro a E
  refine S_x (X_pu E S rfl rfl rfl (impl_SetDifference h0 h1 (by first | assumption | omega | (simp; done)) (by first | assumption | omega | (simp; done))) (Hp.le.refl _) ?_)
  clear E a S; rintro a v_2 w M_1 hM_1 hv_2 S E
  replace h0 := h0.le hM_1
  replace h1 := h1.le hM_1
  replace hbx2 := hM_1.2 _ _ hbx2
  have hzl := Nat.le_trans (suL_len ((l0).filter (fun z => decide (z ∉ l1)))) (List.length_filter_le _ _)
  refine S_v E rfl (R_assign E rfl) rfl ?_
  clear E a; intro a E
  refine WL_nil ?_
  refine T_n ?_
  refine WP_ret ?_
  exact F_ret1 E Tryz.results15 rfl ⟨_, rfl, M_1, hM_1, hv_2, S⟩

set_option maxRecDepth 100000 in
set_option maxHeartbeats 4000000 in
theorem U_SymmetricDifference {M : Hp} {v0 : Value} {c0 : List Int} (h0 : RdSU 145 M v0 c0) {v1 : Value} {c1 : List Int} (h1 : RdSU 145 M v1 c1) (b0 : c0.length ≤ 1000000000) (b1 : c1.length ≤ 1000000000)  :
    Pu Tryz.prog (.func (.func 201) #[] #[]) M [v0, .iface 116 v1] (fun r M' => (∃ p, r = .iface 116 p ∧ RdSU 145 M' p ((c0).filter (fun z => decide (z ∉ c1)) ++ (c1).filter (fun z => decide (z ∉ c0))))) := by
  refine Pu_enter Tryz.func201 rfl Tryz.ntmps201 rfl Tryz.call201 ?_
  intro a w M1 H hM1 S E
  replace h0 := h0.le hM1
  replace h1 := h1.le hM1
  have hcl0 := card_le c0
  have hcl1 := card_le c1
  refine WP_seq ?_
  refine WP_region ?_
  refine S_v E rfl (R_assign E rfl) rfl ?_
  clear E a; intro a E
  refine WL_nil ?_
  refine T_n ?_
  refine WP_seq ?_
  refine WP_region ?_
  refine S_v E rfl (R_move E rfl) rfl ?_
  clear E a; intro a E
  refine S_v E rfl (R_assert E rfl Tryz.underlying116 (by intro z hz; cases hz)) rfl ?_
  clear E a; intro a E
  refine S_v E rfl (R_assign E rfl) rfl ?_
  clear E a; intro a E
  refine WL_nil ?_
  refine T_n ?_
  refine WP_seq ?_
  refine WP_region ?_
  refine S_v E rfl (R_move E rfl) rfl ?_
  clear E a; intro a E
  refine S_x (X_pu E S rfl rfl rfl (U_Cardinality h0 (by first | assumption | omega)) (Hp.le.refl _) ?_)
  clear E a S; rintro a _ w M_1 hM_1 rfl S E
  replace h0 := h0.le hM_1
  replace h1 := h1.le hM_1
  refine S_v E rfl (R_move E rfl) rfl ?_
  clear E a; intro a E
  refine S_x (X_pu E S rfl rfl rfl (U_Cardinality h1 (by first | assumption | omega)) (Hp.le.refl _) ?_)
  clear E a S; rintro a _ w M_2 hM_2 rfl S E
  replace h0 := h0.le hM_2
  replace h1 := h1.le hM_2
  refine S_v E rfl (R_addx (m := ((card c0 + card c1 : Nat) : Int)) E rfl rfl (by omega) (by omega)) rfl ?_
  clear E a; intro a E
  refine S_v E rfl (R_assign E rfl) rfl ?_
  clear E a; intro a E
  refine WL_nil ?_
  refine T_n ?_
  refine WP_seq ?_
  refine WP_region ?_
  refine S_v E rfl (R_move E rfl) rfl ?_
  clear E a; intro a E
  refine S_x (X_makeMapR E S rfl MT145 rfl ?_)
  clear E a S; rintro a w b_3 E S
  replace S : St w M_2 (OwnS b_3 ([] : List Int) :: _) := S
  refine S_x (X_alloc (cs := #[.map none]) E S rfl Tryz.zeroValue145 rfl ?_)
  clear E a S; rintro a w b_4 E S
  refine S_x0 (X_store E S rfl rfl (Tryz.sizeOf145 _) rfl ?_)
  clear E a S; rintro a w E S
  refine WL_nil ?_
  refine T_n ?_
  refine WP_seq ?_
  refine WP_seq ?_
  refine WP_region ?_
  refine S_v E rfl (R_move E rfl) rfl ?_
  clear E a; intro a E
  have hset := h0
  obtain ⟨sb0, sm0, sq0, se0, shb0, shm0, shn0, shq0⟩ := hset
  have shq0l : sq0.length ≤ c0.length := nodup_len shn0 fun z hz => (shq0 z).1 hz
  refine S_v E rfl (R_nilCheck E rfl se0) rfl ?_
  clear E a; intro a E
  refine S_v E rfl (R_loadM E (congrArg some se0) Tryz.isAgg145 S.imm (cellM_box shb0)) rfl ?_
  clear E a; intro a E
  refine S_x (X_range E S rfl MT145 shm0 rfl ?_)
  clear E a S; rintro a w i_5 es_6 ck_7 E hf_8 S
  replace S : St w M_2 (ItO sm0 es_6 ck_7 i_5 (Sl.encS ([] : List Int)) :: _) := S
  refine WL_nil ?_
  refine T_n ?_
  refine WP_block ?_
  replace S := S.front2
  replace S := S.front1
  replace S := S.front1
  replace S := S.reM (L' := (Sl.encS (addsL [] (([]).filter (fun z => decide (z ∉ c1)))))) (congrArg Sl.encS (show ([] : List Int) = (addsL [] (([]).filter (fun z => decide (z ∉ c1)))) by (first | rfl | (simp [addsL_snoc]; done) | (simp [addsL_snoc, List.filter_append, *]; done))))
  replace S := S.front1
  replace S := S.reIt (p' := (Sl.encS [])) (congrArg Sl.encS (show ([] : List Int) = [] by (first | rfl | (simp [addsL_snoc]; done) | (simp [addsL_snoc, List.filter_append, *]; done))))
  refine WP_loop (γ := List Int) (fun (p : List Int) a w => ∃ (M_9 : Hp), Hp.le M_2 M_9 ∧ St w M_9 (ItO sm0 es_6 ck_7 i_5 (Sl.encS p) :: OwnS b_3 (addsL [] ((p).filter (fun z => decide (z ∉ c1)))) :: blk b_4 (.cells #[.map (some b_3)] 145) :: H) ∧ Env a 48 [] [(0, v0), (5, v1), (7, .pointer (some ⟨b_4, 0, none⟩)), (22, .pointer (some ⟨i_5, 0, none⟩))] ∧ (p.Nodup) ∧ (∀ z ∈ p, z ∈ sq0) ∧ (p.length ≤ sq0.length)) (fun p => sq0.length - p.length) [] ⟨M_2, Hp.le.refl _, S, E.keep ⟨rfl, rfl, rfl, rfl, trivial⟩, (by simp), (by simp), (by simp)⟩ ?_
  try clear E
  try clear S
  try clear a
  try clear w
  rintro p a w ⟨M_9, hM_9, S, E, hL0_0, hL0_1, hL0_2⟩
  replace h0 := h0.le hM_9
  replace h1 := h1.le hM_9
  replace shb0 := hM_9.2 _ _ shb0
  replace shm0 := shm0.le hM_9
  replace hf_8 := hf_8.le hM_9
  refine WP_seq ?_
  refine WP_region ?_
  refine S_x (X_nextS E S rfl hf_8 rfl (by assumption) (by assumption) ?_ ?_)
  · clear E a S; rintro a E hpm_10 S
    refine S_v E rfl (R_extract E rfl rfl) rfl ?_
    clear E a; intro a E
    refine WL_nil ?_
    refine T_n ?_
    refine WP_seq ?_
    refine WP_condF E rfl rfl ?_
    refine WP_exit ?_
    refine T_x ?_
    refine T_x ?_
    refine B_x ?_
    refine T_n ?_
    refine WP_seq ?_
    refine WP_seq ?_
    refine WP_region ?_
    refine S_v E rfl (R_move E rfl) rfl ?_
    clear E a; intro a E
    have hset := h1
    obtain ⟨sb1, sm1, sq1, se1, shb1, shm1, shn1, shq1⟩ := hset
    have shq1l : sq1.length ≤ c1.length := nodup_len shn1 fun z hz => (shq1 z).1 hz
    refine S_v E rfl (R_nilCheck E rfl se1) rfl ?_
    clear E a; intro a E
    refine S_v E rfl (R_loadM E (congrArg some se1) Tryz.isAgg145 S.imm (cellM_box shb1)) rfl ?_
    clear E a; intro a E
    refine S_x (X_range E S rfl MT145 shm1 rfl ?_)
    clear E a S; rintro a w i_11 es_12 ck_13 E hf_14 S
    replace S : St w M_9 (ItO sm1 es_12 ck_13 i_11 (Sl.encS ([] : List Int)) :: _) := S
    refine WL_nil ?_
    refine T_n ?_
    refine WP_block ?_
    replace S := S.front2
    replace S := S.front1
    replace S := S.front1
    replace S := S.reM (L' := (Sl.encS (addsL (addsL [] ((p).filter (fun z => decide (z ∉ c1)))) ([].filter (fun z => decide (z ∉ c0)))))) (congrArg Sl.encS (show (addsL [] ((p).filter (fun z => decide (z ∉ c1)))) = (addsL (addsL [] ((p).filter (fun z => decide (z ∉ c1)))) ([].filter (fun z => decide (z ∉ c0)))) by (first | rfl | (simp [addsL_snoc]; done) | (simp [addsL_snoc, List.filter_append, *]; done))))
    replace S := S.front1
    replace S := S.reIt (p' := (Sl.encS [])) (congrArg Sl.encS (show ([] : List Int) = [] by (first | rfl | (simp [addsL_snoc]; done) | (simp [addsL_snoc, List.filter_append, *]; done))))
    refine WP_loop (γ := List Int) (fun (r : List Int) a w => ∃ (M_15 : Hp), Hp.le M_9 M_15 ∧ St w M_15 (ItO sm1 es_12 ck_13 i_11 (Sl.encS r) :: OwnS b_3 (addsL (addsL [] ((p).filter (fun z => decide (z ∉ c1)))) (r.filter (fun z => decide (z ∉ c0)))) :: ItO sm0 es_6 ck_7 i_5 (Sl.encS p) :: blk b_4 (.cells #[.map (some b_3)] 145) :: H) ∧ Env a 48 [] [(0, v0), (7, .pointer (some ⟨b_4, 0, none⟩)), (36, .pointer (some ⟨i_11, 0, none⟩))] ∧ (r.Nodup) ∧ (∀ z ∈ r, z ∈ sq1) ∧ (r.length ≤ sq1.length)) (fun r => sq1.length - r.length) [] ⟨M_9, Hp.le.refl _, S, E.keep ⟨rfl, rfl, rfl, trivial⟩, (by simp), (by simp), (by simp)⟩ ?_
    try clear E
    try clear S
    try clear a
    try clear w
    rintro r a w ⟨M_15, hM_15, S, E, hL1_0, hL1_1, hL1_2⟩
    replace h0 := h0.le hM_15
    replace h1 := h1.le hM_15
    replace shb0 := hM_15.2 _ _ shb0
    replace shm0 := shm0.le hM_15
    replace hf_8 := hf_8.le hM_15
    replace shb1 := hM_15.2 _ _ shb1
    replace shm1 := shm1.le hM_15
    replace hf_14 := hf_14.le hM_15
    refine WP_seq ?_
    refine WP_region ?_
    refine S_x (X_nextS E S rfl hf_14 rfl (by assumption) (by assumption) ?_ ?_)
    · clear E a S; rintro a E hpm_16 S
      refine S_v E rfl (R_extract E rfl rfl) rfl ?_
      clear E a; intro a E
      refine WL_nil ?_
      refine T_n ?_
      refine WP_seq ?_
      refine WP_condF E rfl rfl ?_
      refine WP_exit ?_
      refine T_x ?_
      refine T_x ?_
      refine B_x ?_
      refine T_n ?_
      refine WP_seq ?_
      refine WP_region ?_
      replace S := S.front1
      have S0 := S; clear S
      obtain ⟨M_17, hM_17, hm_18, S⟩ := S0.freezeM
      clear S0
      replace h0 := h0.le hM_17
      replace h1 := h1.le hM_17
      replace shb0 := hM_17.2 _ _ shb0
      replace shm0 := shm0.le hM_17
      replace hf_8 := hf_8.le hM_17
      replace shb1 := hM_17.2 _ _ shb1
      replace shm1 := shm1.le hM_17
      replace hf_14 := hf_14.le hM_17
      replace S := S.front2
      have S0 := S; clear S
      obtain ⟨M_19, hM_19, hb_20, S⟩ := S0.freezeB
      clear S0
      replace h0 := h0.le hM_19
      replace h1 := h1.le hM_19
      replace shb0 := hM_19.2 _ _ shb0
      replace shm0 := shm0.le hM_19
      replace hf_8 := hf_8.le hM_19
      replace shb1 := hM_19.2 _ _ shb1
      replace shm1 := shm1.le hM_19
      replace hf_14 := hf_14.le hM_19
      replace hm_18 := hm_18.le hM_19
      refine S_v E rfl (R_ifaceP E rfl Tryz.underlying116) rfl ?_
      clear E a; intro a E
      refine S_v E rfl (R_assign E rfl) rfl ?_
      clear E a; intro a E
      refine WL_nil ?_
      refine T_n ?_
      refine WP_ret ?_
      exact F_ret1 E Tryz.results201 rfl ⟨_, rfl, M_19, (hM_1.trans (hM_2.trans (hM_9.trans (hM_15.trans (hM_17.trans hM_19))))), ⟨_, rfl, ⟨_, _, (addsL (addsL [] ((p).filter (fun z => decide (z ∉ c1)))) (r.filter (fun z => decide (z ∉ c0)))), rfl, hb_20, hm_18, (by first | assumption | exact addsL_nodup _ _ List.nodup_nil | exact addsL_nodup _ _ (addsL_nodup _ _ List.nodup_nil)), (by (intro x; have ep := (List.Perm.mem_iff (a := x) (show p.Perm sq0 by first | assumption | (exact List.Perm.symm (by assumption)))).trans (shq0 x); have er := (List.Perm.mem_iff (a := x) (show r.Perm sq1 by first | assumption | (exact List.Perm.symm (by assumption)))).trans (shq1 x); simp only [mem_addsL, List.not_mem_nil, false_or, List.mem_append, List.mem_filter, decide_eq_true_eq, List.nil_append]; simp only [ep, er]))⟩⟩, S.drop.drop⟩
    · clear E a S w; rintro a w k_21 E hk_22 hk_22n hk_22l S
      refine S_v E rfl (R_extract E rfl rfl) rfl ?_
      clear E a; intro a E
      refine WL_nil ?_
      refine T_n ?_
      refine WP_seq ?_
      refine WP_condT E rfl rfl ?_
      refine WP_skip ?_
      refine T_n ?_
      refine WP_block ?_
      refine WP_seq ?_
      refine WP_region ?_
      refine S_v E rfl (R_entry (k := k_21) (v := .agg #[]) E (by have S1 := S; simp only [Sl.encS, List.map_append, List.map_cons, List.map_nil] at S1; exact S1) hf_14 rfl) rfl ?_
      clear E a; intro a E
      refine S_v E rfl (R_extract E rfl rfl) rfl ?_
      clear E a; intro a E
      refine S_v E rfl (R_assign E rfl) rfl ?_
      clear E a; intro a E
      refine WL_nil ?_
      refine T_n ?_
      refine WP_seq ?_
      refine WP_region ?_
      refine S_v E rfl (R_move E rfl) rfl ?_
      clear E a; intro a E
      refine S_v E rfl (R_move E rfl) rfl ?_
      clear E a; intro a E
      refine S_x (X_pu E S rfl rfl rfl (U_contains h0 (by first | assumption | omega)) (Hp.le.refl _) ?_)
      clear E a S; rintro a _ w M_23 hM_23 rfl S E
      replace h0 := h0.le hM_23
      replace h1 := h1.le hM_23
      replace shb0 := hM_23.2 _ _ shb0
      replace shm0 := shm0.le hM_23
      replace hf_8 := hf_8.le hM_23
      replace shb1 := hM_23.2 _ _ shb1
      replace shm1 := shm1.le hM_23
      replace hf_14 := hf_14.le hM_23
      refine S_v E rfl (R_not E rfl) rfl ?_
      clear E a; intro a E
      refine WL_nil ?_
      refine T_n ?_
      refine WP_cond E rfl (fun hc_24 => ?_) (fun hc_24 => ?_)
      · refine WP_region ?_
        refine S_v E rfl (R_move E rfl) rfl ?_
        clear E a; intro a E
        replace S := S.front1
        replace S := S.front3
        refine S_x (X_sp (p := [blk b_4 (.cells #[.map (some b_3)] 145), OwnS b_3 (addsL (addsL [] ((p).filter (fun z => decide (z ∉ c1)))) (r.filter (fun z => decide (z ∉ c0))))]) E S rfl rfl rfl (U_add) (Hp.le.refl _) ?_)
        clear E a S; rintro a _ w M_25 _ hM_25 ⟨rfl, rfl⟩ S E
        replace S : St w M_25 (blk b_4 (.cells #[.map (some b_3)] 145) :: OwnS b_3 (addS (addsL (addsL [] ((p).filter (fun z => decide (z ∉ c1)))) (r.filter (fun z => decide (z ∉ c0)))) k_21) :: ItO sm1 es_12 ck_13 i_11 (Sl.encS (r ++ [k_21])) :: ItO sm0 es_6 ck_7 i_5 (Sl.encS p) :: H) := S
        replace h0 := h0.le hM_25
        replace h1 := h1.le hM_25
        replace shb0 := hM_25.2 _ _ shb0
        replace shm0 := shm0.le hM_25
        replace hf_8 := hf_8.le hM_25
        replace shb1 := hM_25.2 _ _ shb1
        replace shm1 := shm1.le hM_25
        replace hf_14 := hf_14.le hM_25
        refine WL_nil ?_
        refine B_n ?_
        refine T_n ?_
        replace S := S.front3
        replace S := S.front2
        replace S := S.front3
        replace S := S.front1
        replace S := S.reM (L' := (Sl.encS (addsL (addsL [] ((p).filter (fun z => decide (z ∉ c1)))) ((r ++ [k_21]).filter (fun z => decide (z ∉ c0)))))) (congrArg Sl.encS (show addS (addsL (addsL [] ((p).filter (fun z => decide (z ∉ c1)))) (r.filter (fun z => decide (z ∉ c0)))) k_21 = (addsL (addsL [] ((p).filter (fun z => decide (z ∉ c1)))) ((r ++ [k_21]).filter (fun z => decide (z ∉ c0)))) by (first | rfl | (simp [addsL_snoc]; done) | (simp [addsL_snoc, List.filter_append, *]; done))))
        replace S := S.front1
        replace S := S.reIt (p' := (Sl.encS (r ++ [k_21]))) (congrArg Sl.encS (show r ++ [k_21] = (r ++ [k_21]) by (first | rfl | (simp [addsL_snoc]; done) | (simp [addsL_snoc, List.filter_append, *]; done))))
        exact ⟨(r ++ [k_21]), ⟨M_25, (hM_15.trans (hM_23.trans hM_25)), S, E.keep ⟨rfl, rfl, rfl, trivial⟩, (by exact snocN (by assumption) (by assumption)), (by exact snocS (by assumption) (by assumption)), (by simp; omega)⟩, (by simp; omega)⟩
      · refine WP_skip ?_
        refine B_n ?_
        refine T_n ?_
        replace S := S.front1
        replace S := S.reM (L' := (Sl.encS (addsL (addsL [] ((p).filter (fun z => decide (z ∉ c1)))) ((r ++ [k_21]).filter (fun z => decide (z ∉ c0)))))) (congrArg Sl.encS (show (addsL (addsL [] ((p).filter (fun z => decide (z ∉ c1)))) (r.filter (fun z => decide (z ∉ c0)))) = (addsL (addsL [] ((p).filter (fun z => decide (z ∉ c1)))) ((r ++ [k_21]).filter (fun z => decide (z ∉ c0)))) by (first | rfl | (simp [addsL_snoc]; done) | (simp [addsL_snoc, List.filter_append, *]; done))))
        replace S := S.front1
        replace S := S.reIt (p' := (Sl.encS (r ++ [k_21]))) (congrArg Sl.encS (show r ++ [k_21] = (r ++ [k_21]) by (first | rfl | (simp [addsL_snoc]; done) | (simp [addsL_snoc, List.filter_append, *]; done))))
        exact ⟨(r ++ [k_21]), ⟨M_23, (hM_15.trans hM_23), S, E.keep ⟨rfl, rfl, rfl, trivial⟩, (by exact snocN (by assumption) (by assumption)), (by exact snocS (by assumption) (by assumption)), (by simp; omega)⟩, (by simp; omega)⟩
  · clear E a S w; rintro a w k_26 E hk_27 hk_27n hk_27l S
    refine S_v E rfl (R_extract E rfl rfl) rfl ?_
    clear E a; intro a E
    refine WL_nil ?_
    refine T_n ?_
    refine WP_seq ?_
    refine WP_condT E rfl rfl ?_
    refine WP_skip ?_
    refine T_n ?_
    refine WP_block ?_
    refine WP_seq ?_
    refine WP_region ?_
    refine S_v E rfl (R_entry (k := k_26) (v := .agg #[]) E (by have S1 := S; simp only [Sl.encS, List.map_append, List.map_cons, List.map_nil] at S1; exact S1) hf_8 rfl) rfl ?_
    clear E a; intro a E
    refine S_v E rfl (R_extract E rfl rfl) rfl ?_
    clear E a; intro a E
    refine S_v E rfl (R_assign E rfl) rfl ?_
    clear E a; intro a E
    refine WL_nil ?_
    refine T_n ?_
    refine WP_seq ?_
    refine WP_region ?_
    refine S_v E rfl (R_move E rfl) rfl ?_
    clear E a; intro a E
    refine S_v E rfl (R_move E rfl) rfl ?_
    clear E a; intro a E
    refine S_x (X_pu E S rfl rfl rfl (U_contains h1 (by first | assumption | omega)) (Hp.le.refl _) ?_)
    clear E a S; rintro a _ w M_28 hM_28 rfl S E
    replace h0 := h0.le hM_28
    replace h1 := h1.le hM_28
    replace shb0 := hM_28.2 _ _ shb0
    replace shm0 := shm0.le hM_28
    replace hf_8 := hf_8.le hM_28
    refine S_v E rfl (R_not E rfl) rfl ?_
    clear E a; intro a E
    refine WL_nil ?_
    refine T_n ?_
    refine WP_cond E rfl (fun hc_29 => ?_) (fun hc_29 => ?_)
    · refine WP_region ?_
      refine S_v E rfl (R_move E rfl) rfl ?_
      clear E a; intro a E
      replace S := S.front1
      replace S := S.front2
      refine S_x (X_sp (p := [blk b_4 (.cells #[.map (some b_3)] 145), OwnS b_3 (addsL [] ((p).filter (fun z => decide (z ∉ c1))))]) E S rfl rfl rfl (U_add) (Hp.le.refl _) ?_)
      clear E a S; rintro a _ w M_30 _ hM_30 ⟨rfl, rfl⟩ S E
      replace S : St w M_30 (blk b_4 (.cells #[.map (some b_3)] 145) :: OwnS b_3 (addS (addsL [] ((p).filter (fun z => decide (z ∉ c1)))) k_26) :: ItO sm0 es_6 ck_7 i_5 (Sl.encS (p ++ [k_26])) :: H) := S
      replace h0 := h0.le hM_30
      replace h1 := h1.le hM_30
      replace shb0 := hM_30.2 _ _ shb0
      replace shm0 := shm0.le hM_30
      replace hf_8 := hf_8.le hM_30
      refine WL_nil ?_
      refine B_n ?_
      refine T_n ?_
      replace S := S.front1
      replace S := S.front2
      replace S := S.front1
      replace S := S.reM (L' := (Sl.encS (addsL [] (((p ++ [k_26])).filter (fun z => decide (z ∉ c1)))))) (congrArg Sl.encS (show addS (addsL [] ((p).filter (fun z => decide (z ∉ c1)))) k_26 = (addsL [] (((p ++ [k_26])).filter (fun z => decide (z ∉ c1)))) by (first | rfl | (simp [addsL_snoc]; done) | (simp [addsL_snoc, List.filter_append, *]; done))))
      replace S := S.front1
      replace S := S.reIt (p' := (Sl.encS (p ++ [k_26]))) (congrArg Sl.encS (show p ++ [k_26] = (p ++ [k_26]) by (first | rfl | (simp [addsL_snoc]; done) | (simp [addsL_snoc, List.filter_append, *]; done))))
      exact ⟨(p ++ [k_26]), ⟨M_30, (hM_9.trans (hM_28.trans hM_30)), S, E.keep ⟨rfl, rfl, rfl, rfl, trivial⟩, (by exact snocN (by assumption) (by assumption)), (by exact snocS (by assumption) (by assumption)), (by simp; omega)⟩, (by simp; omega)⟩
    · refine WP_skip ?_
      refine B_n ?_
      refine T_n ?_
      replace S := S.front1
      replace S := S.reM (L' := (Sl.encS (addsL [] (((p ++ [k_26])).filter (fun z => decide (z ∉ c1)))))) (congrArg Sl.encS (show (addsL [] ((p).filter (fun z => decide (z ∉ c1)))) = (addsL [] (((p ++ [k_26])).filter (fun z => decide (z ∉ c1)))) by (first | rfl | (simp [addsL_snoc]; done) | (simp [addsL_snoc, List.filter_append, *]; done))))
      replace S := S.front1
      replace S := S.reIt (p' := (Sl.encS (p ++ [k_26]))) (congrArg Sl.encS (show p ++ [k_26] = (p ++ [k_26]) by (first | rfl | (simp [addsL_snoc]; done) | (simp [addsL_snoc, List.filter_append, *]; done))))
      exact ⟨(p ++ [k_26]), ⟨M_28, (hM_9.trans hM_28), S, E.keep ⟨rfl, rfl, rfl, rfl, trivial⟩, (by exact snocN (by assumption) (by assumption)), (by exact snocS (by assumption) (by assumption)), (by simp; omega)⟩, (by simp; omega)⟩

set_option maxRecDepth 100000 in
set_option maxHeartbeats 4000000 in
theorem U_SetSymmetric {M : Hp} {v1 v2 : Value} {l1 l2 : List Int} (h1 : RdI M v1 l1) (h2 : RdI M v2 l2)(hb1 : l1.length ≤ 100000000) (hb2 : l2.length ≤ 100000000)  :
    Pu Tryz.prog (.func (.func 18) #[] #[]) M [.bool false, v1, v2] (fun r M' => RdI M' r (suL ((l1).filter (fun z => decide (z ∉ l2)) ++ (l2).filter (fun z => decide (z ∉ l1))))) := by
  refine Pu_enter Tryz.func18 rfl Tryz.ntmps18 rfl Tryz.call18 ?_
  intro a w M1 H hM1 S E
  replace h1 := h1.le hM1
  replace h2 := h2.le hM1
  have b1 := h1.bound
  have b2 := h2.bound
  refine WP_seq ?_
  refine WP_region ?_
  refine S_v E rfl (R_assign E rfl) rfl ?_
  clear E a; intro a E
  refine WL_nil ?_
  refine T_n ?_
  refine WP_seq ?_
  refine WP_region ?_
  refine S_v E rfl (R_move E rfl) rfl ?_
  clear E a; intro a E
  refine S_v E rfl (R_move E rfl) rfl ?_
  clear E a; intro a E
  refine S_v E rfl (R_move E rfl) rfl ?_
  clear E a; intro a E
  refine S_x (X_pu E S rfl rfl rfl (U_twoSets h1 h2 (by first | assumption | omega) (by first | assumption | omega)) (Hp.le.refl _) ?_)
  clear E a S; rintro a _ w M_1 hM_1 ⟨_, _, rfl, ⟨v_2, rfl, hv_2⟩, ⟨v_3, rfl, hv_3⟩⟩ S E
  replace h1 := h1.le hM_1
  replace h2 := h2.le hM_1
  refine S_v E rfl (R_move E rfl) rfl ?_
  clear E a; intro a E
  refine S_v E rfl (R_extract E rfl rfl) rfl ?_
  clear E a; intro a E
  refine S_v E rfl (R_extract E rfl rfl) rfl ?_
  clear E a; intro a E
  refine S_v E rfl (R_assign E rfl) rfl ?_
  clear E a; intro a E
  refine S_v E rfl (R_assign E rfl) rfl ?_
  clear E a; intro a E
  refine WL_nil ?_
  refine T_n ?_
  refine WP_seq ?_
  refine WP_region ?_
  refine S_v E rfl (R_move E rfl) rfl ?_
  clear E a; intro a E
  refine S_v E rfl (R_move E rfl) rfl ?_
  clear E a; intro a E
  refine S_x (X_puI E S rfl rfl rfl (meth_116_SymmetricDifference _ _) Tryz.call201 (U_SymmetricDifference hv_2 hv_3 (by first | assumption | omega) (by first | assumption | omega)) (Hp.le.refl _) ?_)
  clear E a S; rintro a _ w M_4 hM_4 ⟨v_5, rfl, hv_5⟩ S E
  replace h1 := h1.le hM_4
  replace h2 := h2.le hM_4
  replace hv_2 := hv_2.le hM_4
  replace hv_3 := hv_3.le hM_4
  refine S_x (X_pu E S rfl rfl rfl (U_Sorted hv_5 (by first | assumption | omega | (simp only [List.length_append]; omega) | exact Nat.le_trans (List.length_filter_le _ _) (by omega) | (rw [List.length_append]; have h8 := List.length_filter_le (fun z => decide (z ∉ l2)) l1; have h9 := List.length_filter_le (fun z => decide (z ∉ l1)) l2; omega))) (Hp.le.refl _) ?_)
  clear E a S; rintro a v_7 w M_6 hM_6 hv_7 S E
  replace h1 := h1.le hM_6
  replace h2 := h2.le hM_6
  replace hv_2 := hv_2.le hM_6
  replace hv_3 := hv_3.le hM_6
  replace hv_5 := hv_5.le hM_6
  refine S_v E rfl (R_assign E rfl) rfl ?_
  clear E a; intro a E
  refine WL_nil ?_
  refine T_n ?_
  refine WP_ret ?_
  exact F_ret1 E Tryz.results18 rfl ⟨_, rfl, M_6, (hM_1.trans (hM_4.trans hM_6)), hv_7, S⟩

set_option maxRecDepth 100000 in
set_option maxHeartbeats 4000000 in
theorem S_SymmetricDifference {M : Hp} {p0 : Nat} {v0 : Value} {c0 : List Int} (h0 : RdSU 145 M v0 c0) {p1 : Nat} {v1 : Value} {c1 : List Int} (h1 : RdSU 145 M v1 c1) (b0 : c0.length ≤ 1000000000) (b1 : c1.length ≤ 1000000000)  :
    Sp Tryz.prog (.func (.func 181) #[] #[]) M [.pointer (some ⟨p0, 0, none⟩), .iface 114 (.pointer (some ⟨p1, 0, none⟩))] [blk p0 (.cells #[.int .i32 0, .int .u32 0, .int .u32 0, .int .u32 0, .int .i32 0, .int .i32 0, v0] 144), blk p1 (.cells #[.int .i32 0, .int .u32 0, .int .u32 0, .int .u32 0, .int .i32 0, .int .i32 0, v1] 144)] (fun r M' C' => ∃ p_0 v_0, r = .iface 114 (.pointer (some ⟨p_0, 0, none⟩)) ∧ C' = [blk p0 (.cells #[.int .i32 0, .int .u32 0, .int .u32 0, .int .u32 0, .int .i32 0, .int .i32 0, v0] 144), blk p1 (.cells #[.int .i32 0, .int .u32 0, .int .u32 0, .int .u32 0, .int .i32 0, .int .i32 0, v1] 144), blk p_0 (.cells #[.int .i32 0, .int .u32 0, .int .u32 0, .int .u32 0, .int .i32 0, .int .i32 0, v_0] 144)] ∧ (RdSU 145 M' v_0 ((c0).filter (fun z => decide (z ∉ c1)) ++ (c1).filter (fun z => decide (z ∉ c0))))) := by
  refine Sp_enter Tryz.func181 rfl Tryz.ntmps181 rfl Tryz.call181 ?_
  intro a w M1 H hM1 S E
  replace S : St w M1 (blk p0 (.cells #[.int .i32 0, .int .u32 0, .int .u32 0, .int .u32 0, .int .i32 0, .int .i32 0, v0] 144) :: blk p1 (.cells #[.int .i32 0, .int .u32 0, .int .u32 0, .int .u32 0, .int .i32 0, .int .i32 0, v1] 144) :: _) := S
  replace h0 := h0.le hM1
  replace h1 := h1.le hM1
  have hset := h0
  obtain ⟨sb0, sm0, sq0, se0, shb0, shm0, shn0, shq0⟩ := hset
  have shq0l : sq0.length ≤ c0.length := nodup_len shn0 fun z hz => (shq0 z).1 hz
  have hset := h1
  obtain ⟨sb1, sm1, sq1, se1, shb1, shm1, shn1, shq1⟩ := hset
  have shq1l : sq1.length ≤ c1.length := nodup_len shn1 fun z hz => (shq1 z).1 hz
  refine WP_seq ?_
  refine WP_region ?_
  refine S_v E rfl (R_assign E rfl) rfl ?_
  clear E a; intro a E
  refine WL_nil ?_
  refine T_n ?_
  refine WP_seq ?_
  refine WP_region ?_
  refine S_v E rfl (R_move E rfl) rfl ?_
  clear E a; intro a E
  refine S_v E rfl (R_assert E rfl Tryz.underlying114 (by intro z hz; cases hz)) rfl ?_
  clear E a; intro a E
  refine S_v E rfl (R_assign E rfl) rfl ?_
  clear E a; intro a E
  refine WL_nil ?_
  refine T_n ?_
  refine WP_seq ?_
  refine WP_region ?_
  refine S_v E rfl (R_move E rfl) rfl ?_
  clear E a; intro a E
  refine S_v E rfl (R_nilCheck E rfl rfl) rfl ?_
  clear E a; intro a E
  refine S_v E rfl (R_fieldAddr E rfl (FA144_0 _)) rfl ?_
  clear E a; intro a E
  replace S : St w M1 (LK p0 144 0 v0 :: _) := S
  refine S_x (X_sp (p := [LK p0 144 0 v0]) E S rfl rfl rfl (rlock_sp Tryz.rwRLib (T := 144) (n := 0) (by decide) (by decide)) (Hp.le.refl _) ?_)
  clear E a S; rintro a _ w M_1 _ hM_1 ⟨rfl, rfl⟩ S E
  replace S : St w M_1 (blk p0 (.cells #[.int .i32 0, .int .u32 0, .int .u32 0, .int .u32 0, .int .i32 1, .int .i32 0, v0] 144) :: blk p1 (.cells #[.int .i32 0, .int .u32 0, .int .u32 0, .int .u32 0, .int .i32 0, .int .i32 0, v1] 144) :: H) := S
  replace h0 := h0.le hM_1
  replace h1 := h1.le hM_1
  replace shb0 := hM_1.2 _ _ shb0
  replace shm0 := shm0.le hM_1
  replace shb1 := hM_1.2 _ _ shb1
  replace shm1 := shm1.le hM_1
  refine WL_nil ?_
  refine T_n ?_
  refine WP_seq ?_
  refine WP_region ?_
  refine S_v E rfl (R_move E rfl) rfl ?_
  clear E a; intro a E
  refine S_v E rfl (R_nilCheck E rfl rfl) rfl ?_
  clear E a; intro a E
  refine S_v E rfl (R_fieldAddr E rfl (FA144_0 _)) rfl ?_
  clear E a; intro a E
  replace S := S.front1
  replace S : St w M_1 (LK p1 144 0 v1 :: _) := S
  refine S_x (X_sp (p := [LK p1 144 0 v1]) E S rfl rfl rfl (rlock_sp Tryz.rwRLib (T := 144) (n := 0) (by decide) (by decide)) (Hp.le.refl _) ?_)
  clear E a S; rintro a _ w M_2 _ hM_2 ⟨rfl, rfl⟩ S E
  replace S : St w M_2 (blk p1 (.cells #[.int .i32 0, .int .u32 0, .int .u32 0, .int .u32 0, .int .i32 1, .int .i32 0, v1] 144) :: blk p0 (.cells #[.int .i32 0, .int .u32 0, .int .u32 0, .int .u32 0, .int .i32 1, .int .i32 0, v0] 144) :: H) := S
  replace h0 := h0.le hM_2
  replace h1 := h1.le hM_2
  replace shb0 := hM_2.2 _ _ shb0
  replace shm0 := shm0.le hM_2
  replace shb1 := hM_2.2 _ _ shb1
  replace shm1 := shm1.le hM_2
  refine WL_nil ?_
  refine T_n ?_
  refine WP_seq ?_
  replace S := S.mono_heap (w' := World.drew _) rfl
  refine WP_drawn (C := fun x w => agree M_2 w ∧ (x = 3 → w.heap[p0]? = some (.cells #[.int .i32 0, .int .u32 0, .int .u32 0, .int .u32 0, .int .i32 1, .int .i32 0, v0] 144)) ∧ (x = 7 → w.heap[p1]? = some (.cells #[.int .i32 0, .int .u32 0, .int .u32 0, .int .u32 0, .int .i32 1, .int .i32 0, v1] 144))) (bf := (fun i => bif Nat.beq i 9 then [3, 7] else [])) [0, 1, 2, 3, 4, 5, 6, 7, 8, 10, 11] [0, 1, 2, 3, 4, 5, 6, 7, 8, 9, 10, 11] Tryz.mixed (by kernel_rfl) (fun x hq => ⟨S.imm, fun _ => (S.mem (.tail _ (.head _))), fun _ => (S.mem (.head _))⟩) ?_
  refine D_v E rfl rfl rfl (fun w hC => (R_move E rfl)) ?_
  clear E a; intro a E
  refine D_v E rfl rfl rfl (fun w hC => (R_nilCheck E rfl rfl)) ?_
  clear E a; intro a E
  refine D_v E rfl rfl rfl (fun w hC => (R_fieldAddr E rfl (FA144_1 _))) ?_
  clear E a; intro a E
  refine D_v E rfl rfl rfl (fun w hC => (R_load E rfl (Tryz.isAgg116 _) (cell_blkf (hC.2.1 rfl) rfl))) ?_
  clear E a; intro a E
  refine D_v E rfl rfl rfl (fun w hC => (R_move E rfl)) ?_
  clear E a; intro a E
  refine D_v E rfl rfl rfl (fun w hC => (R_nilCheck E rfl rfl)) ?_
  clear E a; intro a E
  refine D_v E rfl rfl rfl (fun w hC => (R_fieldAddr E rfl (FA144_1 _))) ?_
  clear E a; intro a E
  refine D_v E rfl rfl rfl (fun w hC => (R_load E rfl (Tryz.isAgg116 _) (cell_blkf (hC.2.2 rfl) rfl))) ?_
  clear E a; intro a E
  refine D_v E rfl rfl rfl (fun w hC => (R_ifaceP E rfl Tryz.underlying116)) ?_
  clear E a; intro a E
  refine D_x rfl rfl rfl (X_pu E S rfl rfl rfl (U_SymmetricDifference h0 h1 (by first | assumption | omega) (by first | assumption | omega)) (Hp.le.refl _) ?_)
  clear E a S; rintro a _ w M_3 hM_3 ⟨v_4, rfl, hv_4⟩ S E
  replace h0 := h0.le hM_3
  replace h1 := h1.le hM_3
  replace shb0 := hM_3.2 _ _ shb0
  replace shm0 := shm0.le hM_3
  replace shb1 := hM_3.2 _ _ shb1
  replace shm1 := shm1.le hM_3
  refine ⟨fun x hq hb => ⟨(agree_le hM_3 S.imm), (fun e => by subst e; exact absurd hb (by decide)), (fun e => by subst e; exact absurd hb (by decide))⟩, ?_⟩
  refine D_v E rfl rfl rfl (fun w hC => (R_assert E rfl Tryz.underlying116 (by intro z hz; cases hz))) ?_
  clear E a; intro a E
  refine D_v E rfl rfl rfl (fun w hC => (R_assign E rfl)) ?_
  clear E a; intro a E
  refine D_end (NoP_n ?_)
  refine T_n ?_
  refine WP_seq ?_
  refine WP_region ?_
  refine S_v E rfl (R_move E rfl) rfl ?_
  clear E a; intro a E
  have hset := hv_4
  obtain ⟨b_5, m_6, q_7, e_8, hb_9, hm_10, hn_11, hq_12⟩ := hset
  have hq_12l : q_7.length ≤ ((c0).filter (fun z => decide (z ∉ c1)) ++ (c1).filter (fun z => decide (z ∉ c0))).length := nodup_len hn_11 fun z hz => (hq_12 z).1 hz
  refine S_v E rfl (R_build (u := .agg #[.int .i32 0, .int .u32 0, .int .u32 0, .int .u32 0, .int .i32 0, .int .i32 0, v_4]) (vs := [v_4]) E rfl (fun w => by rw [e_8]; exact BLK144 _ w)) rfl ?_
  clear E a; intro a E
  refine S_x (X_box (cs := #[.int .i32 0, .int .u32 0, .int .u32 0, .int .u32 0, .int .i32 0, .int .i32 0, v_4]) E S rfl rfl rfl ?_)
  clear E a S; rintro a w b_13 E S
  refine S_v E rfl (R_assign E rfl) rfl ?_
  clear E a; intro a E
  refine WL_nil ?_
  refine T_n ?_
  refine WP_seq ?_
  refine WP_region ?_
  refine S_v E rfl (R_move E rfl) rfl ?_
  clear E a; intro a E
  refine S_v E rfl (R_nilCheck E rfl rfl) rfl ?_
  clear E a; intro a E
  refine S_v E rfl (R_fieldAddr E rfl (FA144_0 _)) rfl ?_
  clear E a; intro a E
  replace S := S.front2
  replace S : St w M_3 (LK p0 144 (0 + 1) v0 :: _) := S
  refine S_x (X_sp (p := [LK p0 144 (0 + 1) v0]) E S rfl rfl rfl (runlock_sp Tryz.rwRLib (T := 144) (n := 0) (by decide) (by decide)) (Hp.le.refl _) ?_)
  clear E a S; rintro a _ w M_14 _ hM_14 ⟨rfl, rfl⟩ S E
  replace S : St w M_14 (blk p0 (.cells #[.int .i32 0, .int .u32 0, .int .u32 0, .int .u32 0, .int .i32 0, .int .i32 0, v0] 144) :: blk b_13 (.cells #[.int .i32 0, .int .u32 0, .int .u32 0, .int .u32 0, .int .i32 0, .int .i32 0, v_4] 144) :: blk p1 (.cells #[.int .i32 0, .int .u32 0, .int .u32 0, .int .u32 0, .int .i32 1, .int .i32 0, v1] 144) :: H) := S
  replace h0 := h0.le hM_14
  replace h1 := h1.le hM_14
  replace shb0 := hM_14.2 _ _ shb0
  replace shm0 := shm0.le hM_14
  replace shb1 := hM_14.2 _ _ shb1
  replace shm1 := shm1.le hM_14
  replace hv_4 := hv_4.le hM_14
  replace hb_9 := hM_14.2 _ _ hb_9
  replace hm_10 := hm_10.le hM_14
  refine WL_nil ?_
  refine T_n ?_
  refine WP_seq ?_
  refine WP_region ?_
  refine S_v E rfl (R_move E rfl) rfl ?_
  clear E a; intro a E
  refine S_v E rfl (R_nilCheck E rfl rfl) rfl ?_
  clear E a; intro a E
  refine S_v E rfl (R_fieldAddr E rfl (FA144_0 _)) rfl ?_
  clear E a; intro a E
  replace S := S.front2
  replace S : St w M_14 (LK p1 144 (0 + 1) v1 :: _) := S
  refine S_x (X_sp (p := [LK p1 144 (0 + 1) v1]) E S rfl rfl rfl (runlock_sp Tryz.rwRLib (T := 144) (n := 0) (by decide) (by decide)) (Hp.le.refl _) ?_)
  clear E a S; rintro a _ w M_15 _ hM_15 ⟨rfl, rfl⟩ S E
  replace S : St w M_15 (blk p1 (.cells #[.int .i32 0, .int .u32 0, .int .u32 0, .int .u32 0, .int .i32 0, .int .i32 0, v1] 144) :: blk p0 (.cells #[.int .i32 0, .int .u32 0, .int .u32 0, .int .u32 0, .int .i32 0, .int .i32 0, v0] 144) :: blk b_13 (.cells #[.int .i32 0, .int .u32 0, .int .u32 0, .int .u32 0, .int .i32 0, .int .i32 0, v_4] 144) :: H) := S
  replace h0 := h0.le hM_15
  replace h1 := h1.le hM_15
  replace shb0 := hM_15.2 _ _ shb0
  replace shm0 := shm0.le hM_15
  replace shb1 := hM_15.2 _ _ shb1
  replace shm1 := shm1.le hM_15
  replace hv_4 := hv_4.le hM_15
  replace hb_9 := hM_15.2 _ _ hb_9
  replace hm_10 := hm_10.le hM_15
  refine WL_nil ?_
  refine T_n ?_
  refine WP_seq ?_
  refine WP_region ?_
  refine S_v E rfl (R_move E rfl) rfl ?_
  clear E a; intro a E
  refine S_v E rfl (R_ifaceP E rfl Tryz.underlying114) rfl ?_
  clear E a; intro a E
  refine S_v E rfl (R_assign E rfl) rfl ?_
  clear E a; intro a E
  refine WL_nil ?_
  refine T_n ?_
  refine WP_ret ?_
  replace S := S.front2
  replace S := S.front1
  replace S := S.front2
  exact F_ret1 E Tryz.results181 rfl ⟨_, rfl, M_15, _, (hM_1.trans (hM_2.trans (hM_3.trans (hM_14.trans hM_15)))), ⟨_, _, rfl, rfl, hv_4⟩, S⟩

set_option maxRecDepth 100000 in
set_option maxHeartbeats 4000000 in
theorem S_SetSymmetric {M : Hp} {v1 v2 : Value} {l1 l2 : List Int} (h1 : RdI M v1 l1) (h2 : RdI M v2 l2)(hb1 : l1.length ≤ 100000000) (hb2 : l2.length ≤ 100000000)  :
    Pu Tryz.prog (.func (.func 18) #[] #[]) M [.bool true, v1, v2] (fun r M' => RdI M' r (suL ((l1).filter (fun z => decide (z ∉ l2)) ++ (l2).filter (fun z => decide (z ∉ l1))))) := by
  refine Pu_enter Tryz.func18 rfl Tryz.ntmps18 rfl Tryz.call18 ?_
  intro a w M1 H hM1 S E
  replace h1 := h1.le hM1
  replace h2 := h2.le hM1
  have b1 := h1.bound
  have b2 := h2.bound
  refine WP_seq ?_
  refine WP_region ?_
  refine S_v E rfl (R_assign E rfl) rfl ?_
  clear E a; intro a E
  refine WL_nil ?_
  refine T_n ?_
  refine WP_seq ?_
  refine WP_region ?_
  refine S_v E rfl (R_move E rfl) rfl ?_
  clear E a; intro a E
  refine S_v E rfl (R_move E rfl) rfl ?_
  clear E a; intro a E
  refine S_v E rfl (R_move E rfl) rfl ?_
  clear E a; intro a E
  refine S_x (X_sp (p := []) E S rfl rfl rfl (S_twoSets h1 h2 (by first | assumption | omega) (by first | assumption | omega)) (Hp.le.refl _) ?_)
  clear E a S; rintro a _ w M_1 _ hM_1 ⟨p_3, v_4, p_5, v_6, rfl, rfl, hv_4, hv_6⟩ S E
  replace S : St w M_1 (blk p_3 (.cells #[.int .i32 0, .int .u32 0, .int .u32 0, .int .u32 0, .int .i32 0, .int .i32 0, v_4] 144) :: blk p_5 (.cells #[.int .i32 0, .int .u32 0, .int .u32 0, .int .u32 0, .int .i32 0, .int .i32 0, v_6] 144) :: H) := S
  replace h1 := h1.le hM_1
  replace h2 := h2.le hM_1
  refine S_v E rfl (R_move E rfl) rfl ?_
  clear E a; intro a E
  refine S_v E rfl (R_extract E rfl rfl) rfl ?_
  clear E a; intro a E
  refine S_v E rfl (R_extract E rfl rfl) rfl ?_
  clear E a; intro a E
  refine S_v E rfl (R_assign E rfl) rfl ?_
  clear E a; intro a E
  refine S_v E rfl (R_assign E rfl) rfl ?_
  clear E a; intro a E
  refine WL_nil ?_
  refine T_n ?_
  refine WP_seq ?_
  refine WP_region ?_
  refine S_v E rfl (R_move E rfl) rfl ?_
  clear E a; intro a E
  refine S_v E rfl (R_move E rfl) rfl ?_
  clear E a; intro a E
  replace S := S.front1
  replace S := S.front1
  refine S_x (X_spI (p := [blk p_3 (.cells #[.int .i32 0, .int .u32 0, .int .u32 0, .int .u32 0, .int .i32 0, .int .i32 0, v_4] 144), blk p_5 (.cells #[.int .i32 0, .int .u32 0, .int .u32 0, .int .u32 0, .int .i32 0, .int .i32 0, v_6] 144)]) E S rfl rfl rfl (meth_114_SymmetricDifference _ _) Tryz.call181 (S_SymmetricDifference hv_4 hv_6 (by first | assumption | omega) (by first | assumption | omega)) (Hp.le.refl _) ?_)
  clear E a S; rintro a _ w M_7 _ hM_7 ⟨p_9, v_10, rfl, rfl, hv_10⟩ S E
  replace S : St w M_7 (blk p_3 (.cells #[.int .i32 0, .int .u32 0, .int .u32 0, .int .u32 0, .int .i32 0, .int .i32 0, v_4] 144) :: blk p_5 (.cells #[.int .i32 0, .int .u32 0, .int .u32 0, .int .u32 0, .int .i32 0, .int .i32 0, v_6] 144) :: blk p_9 (.cells #[.int .i32 0, .int .u32 0, .int .u32 0, .int .u32 0, .int .i32 0, .int .i32 0, v_10] 144) :: H) := S
  replace h1 := h1.le hM_7
  replace h2 := h2.le hM_7
  replace hv_4 := hv_4.le hM_7
  replace hv_6 := hv_6.le hM_7
  replace S := S.front2
  refine S_x (X_sp (p := [blk p_9 (.cells #[.int .i32 0, .int .u32 0, .int .u32 0, .int .u32 0, .int .i32 0, .int .i32 0, v_10] 144)]) E S rfl rfl rfl (S_Sorted hv_10 (by first | assumption | omega | (simp only [List.length_append]; omega) | exact Nat.le_trans (List.length_filter_le _ _) (by omega) | (rw [List.length_append]; have h8 := List.length_filter_le (fun z => decide (z ∉ l2)) l1; have h9 := List.length_filter_le (fun z => decide (z ∉ l1)) l2; omega))) (Hp.le.refl _) ?_)
  clear E a S; rintro a v_13 w M_11 _ hM_11 ⟨rfl, hv_13⟩ S E
  replace S : St w M_11 (blk p_9 (.cells #[.int .i32 0, .int .u32 0, .int .u32 0, .int .u32 0, .int .i32 0, .int .i32 0, v_10] 144) :: blk p_3 (.cells #[.int .i32 0, .int .u32 0, .int .u32 0, .int .u32 0, .int .i32 0, .int .i32 0, v_4] 144) :: blk p_5 (.cells #[.int .i32 0, .int .u32 0, .int .u32 0, .int .u32 0, .int .i32 0, .int .i32 0, v_6] 144) :: H) := S
  replace h1 := h1.le hM_11
  replace h2 := h2.le hM_11
  replace hv_4 := hv_4.le hM_11
  replace hv_6 := hv_6.le hM_11
  replace hv_10 := hv_10.le hM_11
  refine S_v E rfl (R_assign E rfl) rfl ?_
  clear E a; intro a E
  refine WL_nil ?_
  refine T_n ?_
  refine WP_ret ?_
  exact F_ret1 E Tryz.results18 rfl ⟨_, rfl, M_11, (hM_1.trans (hM_7.trans hM_11)), hv_13, S.drop.drop.drop⟩

set_option maxRecDepth 100000 in
set_option maxHeartbeats 4000000 in
theorem impl_SetSymmetric {M : Hp} {x0 : Bool} {v1 v2 : Value} {l1 l2 : List Int} (h1 : RdI M v1 l1) (h2 : RdI M v2 l2)(hb1 : l1.length ≤ 100000000) (hb2 : l2.length ≤ 100000000) :
    Pu Tryz.prog (.func (.func 18) #[] #[]) M [.bool x0, v1, v2] (fun r M' => RdI M' r (suL ((l1).filter (fun z => decide (z ∉ l2)) ++ (l2).filter (fun z => decide (z ∉ l1))))) := by
  cases x0
  · exact U_SetSymmetric h1 h2 hb1 hb2
  · exact S_SetSymmetric h1 h2 hb1 hb2

set_option maxRecDepth 100000 in
set_option maxHeartbeats 4000000 in
theorem laws_FnSetLaws_4 {M : Hp} {v0 v1 : Value} {l0 l1 : List Int} (h0 : RdI M v0 l0) (h1 : RdI M v1 l1)(hb1 : l0.length ≤ 100000000) (hb2 : l1.length ≤ 100000000) {bx2 : Nat} {x9 : Bool} (hbx2 : M bx2 = some (.cells #[.bool x9] 4)) :
    Pu Tryz.prog (.func (.func 17) #[] #[.pointer (some ⟨bx2, 0, none⟩)]) M [v0, v1] (fun r M' => RdI M' r (suL ((l0).filter (fun z => decide (z ∉ l1)) ++ (l1).filter (fun z => decide (z ∉ l0))))) := by
  refine Pu_enter Tryz.func17 rfl Tryz.ntmps17 rfl Tryz.call17 ?_
  intro a w M1 H hM1 S E
  replace h0 := h0.le hM1
  replace h1 := h1.le hM1
  replace hbx2 := hM1.2 _ _ hbx2
  have b0 := h0.bound
  have b1 := h1.bound
  refine WP_seq ?_
  refine WP_region ?_
  refine S_v E rfl (R_assign E rfl) rfl ?_
  clear E a; intro a E
  refine WL_nil ?_
  refine T_n ?_
  refine WP_seq ?_
  refine WP_region ?_
  refine S_v E rfl (R_loadM E rfl Tryz.isAgg4 S.imm (cellM_box hbx2)) rfl ?_
  clear E a; intro a E
  refine S_v E rfl (R_move E rfl) rfl ?_
  clear E a; intro a E
  refine S_v E rfl (R_move E rfl) rfl ?_
  clear E a; intro a E
  refine S_x (X_pu E S rfl rfl rfl (impl_SetSymmetric h0 h1 (by first | assumption | omega | (simp; done)) (by first | assumption | omega | (simp; done))) (Hp.le.refl _) ?_)
  clear E a S; rintro a v_2 w M_1 hM_1 hv_2 S E
  replace h0 := h0.le hM_1
  replace h1 := h1.le hM_1
  replace hbx2 := hM_1.2 _ _ hbx2
  have hzl := suL_len ((l0).filter (fun z => decide (z ∉ l1)) ++ (l1).filter (fun z => decide (z ∉ l0)))
  rw [List.length_append] at hzl
  have hzm := List.length_filter_le (fun z => decide (z ∉ l1)) l0
  have hzn := List.length_filter_le (fun z => decide (z ∉ l0)) l1
  refine S_v E rfl (R_assign E rfl) rfl ?_
  clear E a; intro a E
  refine WL_nil ?_
  refine T_n ?_
  refine WP_ret ?_
  exact F_ret1 E Tryz.results17 rfl ⟨_, rfl, M_1, hM_1, hv_2, S⟩

end Go.Proofs.YtlmpgefhnmfhpaaGreat.wFnSetLaws
