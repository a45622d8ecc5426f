/- Walks through the functions that laws.FnSetsApart reaches: what each computes; no conditions beyond what each theorem states. -/
import Derived.Test.YtlmpgefhnmfhpaaGreatProg
import Derived.Test.YtlmpgefhnmfhpaaGreatSlS
import Derived.Ground.SlgmProg
import Derived.Conc.RwLoneW
import Derived.KernelRfl
set_option linter.unusedVariables false
set_option linter.unusedSimpArgs false
namespace Go.Proofs.YtlmpgefhnmfhpaaGreat.wFnSetsApart
open Go Go.Sl
theorem Tryz.mixed : Tryz.prog.follows .mixedOrders = true := by kernel_rfl
theorem T22 : SlT Tryz.prog 22 3 1 8 (.int .i64 0) := ⟨Tryz.underlying22, ⟨Tryz.t3, by kernel_rfl, rfl, rfl, rfl⟩, rfl, by decide⟩
theorem T33 : SlT Tryz.prog 33 40 6 64 (.agg #[(.int .i64 0), (.int .i64 0), (.int .i64 0), (.int .i64 0), (.int .i64 0), (.slice none 0 0)]) := ⟨Tryz.underlying33, ⟨Tryz.t40, by kernel_rfl, rfl, rfl, rfl⟩, rfl, by decide⟩
theorem T35 : SlT Tryz.prog 35 42 3 40 (.agg #[(.bool false), (.int .i64 0), (.slice none 0 0)]) := ⟨Tryz.underlying35, ⟨Tryz.t42, by kernel_rfl, rfl, rfl, rfl⟩, rfl, by decide⟩
theorem T36 : SlT Tryz.prog 36 22 1 24 (.slice none 0 0) := ⟨Tryz.underlying36, ⟨Tryz.t22, by kernel_rfl, rfl, rfl, rfl⟩, rfl, by decide⟩
theorem T62 : SlT Tryz.prog 62 55 1 16 (.nilIface) := ⟨Tryz.underlying62, ⟨Tryz.t55, by kernel_rfl, rfl, rfl, rfl⟩, rfl, by decide⟩
theorem MT106 : MapT Tryz.prog 106 3 4 (.bool false) := ⟨Tryz.underlying106, Tryz.underlying3, ⟨Tryz.t4, by kernel_rfl, rfl⟩⟩
theorem MT145 : MapT Tryz.prog 145 3 104 (.agg #[]) := ⟨Tryz.underlying145, Tryz.underlying3, ⟨Tryz.t104, by kernel_rfl, rfl⟩⟩
theorem FB104__ (w : World) : (Instr.build 104 #[]).run Tryz.prog w = .ok (.agg #[]) w := run_build _ _ _ _ (by kernel_rfl)
theorem FB40_0_1_ii (x0 : Int) (x1 : Int) (w : World) : (Instr.build 40 #[(0, (.int .i64 x0)), (1, (.int .i64 x1))]).run Tryz.prog w = .ok (.agg #[(.int .i64 x0), (.int .i64 x1), (.int .i64 0), (.int .i64 0), (.int .i64 0), (.slice none 0 0)]) w := run_build _ _ _ _ (by kernel_rfl)
theorem FB40_0_1_2_3_iiii (x0 : Int) (x1 : Int) (x2 : Int) (x3 : Int) (w : World) : (Instr.build 40 #[(0, (.int .i64 x0)), (1, (.int .i64 x1)), (2, (.int .i64 x2)), (3, (.int .i64 x3))]).run Tryz.prog w = .ok (.agg #[(.int .i64 x0), (.int .i64 x1), (.int .i64 x2), (.int .i64 x3), (.int .i64 0), (.slice none 0 0)]) w := run_build _ _ _ _ (by kernel_rfl)
theorem FB40_0_1_3_iii (x0 : Int) (x1 : Int) (x2 : Int) (w : World) : (Instr.build 40 #[(0, (.int .i64 x0)), (1, (.int .i64 x1)), (3, (.int .i64 x2))]).run Tryz.prog w = .ok (.agg #[(.int .i64 x0), (.int .i64 x1), (.int .i64 0), (.int .i64 x2), (.int .i64 0), (.slice none 0 0)]) w := run_build _ _ _ _ (by kernel_rfl)
theorem FB40_0_1_4_iii (x0 : Int) (x1 : Int) (x2 : Int) (w : World) : (Instr.build 40 #[(0, (.int .i64 x0)), (1, (.int .i64 x1)), (4, (.int .i64 x2))]).run Tryz.prog w = .ok (.agg #[(.int .i64 x0), (.int .i64 x1), (.int .i64 0), (.int .i64 0), (.int .i64 x2), (.slice none 0 0)]) w := run_build _ _ _ _ (by kernel_rfl)
theorem FB40_0_1_5_iis (x0 : Int) (x1 : Int) (x2 : Option Addr) (n2 c2 : Nat) (w : World) : (Instr.build 40 #[(0, (.int .i64 x0)), (1, (.int .i64 x1)), (5, (.slice x2 n2 c2))]).run Tryz.prog w = .ok (.agg #[(.int .i64 x0), (.int .i64 x1), (.int .i64 0), (.int .i64 0), (.int .i64 0), (.slice x2 n2 c2)]) w := run_build _ _ _ _ (by kernel_rfl)
theorem FB40_0_3_5_iis (x0 : Int) (x1 : Int) (x2 : Option Addr) (n2 c2 : Nat) (w : World) : (Instr.build 40 #[(0, (.int .i64 x0)), (3, (.int .i64 x1)), (5, (.slice x2 n2 c2))]).run Tryz.prog w = .ok (.agg #[(.int .i64 x0), (.int .i64 0), (.int .i64 0), (.int .i64 x1), (.int .i64 0), (.slice x2 n2 c2)]) w := run_build _ _ _ _ (by kernel_rfl)
theorem FB40_0_4_ii (x0 : Int) (x1 : Int) (w : World) : (Instr.build 40 #[(0, (.int .i64 x0)), (4, (.int .i64 x1))]).run Tryz.prog w = .ok (.agg #[(.int .i64 x0), (.int .i64 0), (.int .i64 0), (.int .i64 0), (.int .i64 x1), (.slice none 0 0)]) w := run_build _ _ _ _ (by kernel_rfl)
theorem BLK144 (x : Option Addr) (w : World) : (Instr.build 144 #[(1, .pointer x)]).run Tryz.prog w = .ok (.agg #[.int .i32 0, .int .u32 0, .int .u32 0, .int .u32 0, .int .i32 0, .int .i32 0, .pointer x]) w := run_build _ _ _ _ (by kernel_rfl)
theorem FA144_0 (p : Addr) (w : World) : (Instr.fieldAt 144 (.pointer (some p)) 0).run Tryz.prog w = .ok (.pointer (some (p.add 0))) w := by kernel_rfl
theorem FA144_1 (p : Addr) (w : World) : (Instr.fieldAt 144 (.pointer (some p)) 1).run Tryz.prog w = .ok (.pointer (some (p.add 6))) w := by kernel_rfl
theorem FA40_0 (p : Addr) (w : World) : (Instr.fieldAt 40 (.pointer (some p)) 0).run Tryz.prog w = .ok (.pointer (some (p.add 0))) w := by kernel_rfl
theorem FA40_1 (p : Addr) (w : World) : (Instr.fieldAt 40 (.pointer (some p)) 1).run Tryz.prog w = .ok (.pointer (some (p.add 1))) w := by kernel_rfl
theorem FA40_2 (p : Addr) (w : World) : (Instr.fieldAt 40 (.pointer (some p)) 2).run Tryz.prog w = .ok (.pointer (some (p.add 2))) w := by kernel_rfl
theorem FA40_3 (p : Addr) (w : World) : (Instr.fieldAt 40 (.pointer (some p)) 3).run Tryz.prog w = .ok (.pointer (some (p.add 3))) w := by kernel_rfl
theorem FA40_4 (p : Addr) (w : World) : (Instr.fieldAt 40 (.pointer (some p)) 4).run Tryz.prog w = .ok (.pointer (some (p.add 4))) w := by kernel_rfl
theorem FA40_5 (p : Addr) (w : World) : (Instr.fieldAt 40 (.pointer (some p)) 5).run Tryz.prog w = .ok (.pointer (some (p.add 5))) w := by kernel_rfl
theorem FA42_0 (p : Addr) (w : World) : (Instr.fieldAt 42 (.pointer (some p)) 0).run Tryz.prog w = .ok (.pointer (some (p.add 0))) w := by kernel_rfl
theorem FA42_1 (p : Addr) (w : World) : (Instr.fieldAt 42 (.pointer (some p)) 1).run Tryz.prog w = .ok (.pointer (some (p.add 1))) w := by kernel_rfl
theorem FA42_2 (p : Addr) (w : World) : (Instr.fieldAt 42 (.pointer (some p)) 2).run Tryz.prog w = .ok (.pointer (some (p.add 2))) w := by kernel_rfl
abbrev Tryz.muLink : Go.Conc.Locks.MuLink := { lock := 120, unlock := 129, ilock := 132, iunlock := 134, lockSlow := 136, unlockSlow := 137, disable := 119, enable := 123, acquire := 124, relMerge := 126, cas32 := 135, add32 := 133, tMutex := 137, tIMutex := 135, tPMutex := 157, tPIMutex := 168, tPI32 := 167, tUP := 156, tNoCopy := 133, tU32 := 130 }
theorem Tryz.muLib : Go.Conc.Locks.MuLib Tryz.prog Tryz.muLink :=
  ⟨Tryz.func120, Tryz.func129, Tryz.func132, Tryz.func134, Tryz.func119, Tryz.func123, Tryz.func124, Tryz.func126, Tryz.func135, Tryz.func133, Tryz.underlying135, Tryz.runUnderlying135, Tryz.sizeOf135, Tryz.isAgg135, Tryz.zeroValue135, Tryz.underlying137, Tryz.runUnderlying137, Tryz.sizeOf137, Tryz.isAgg137, Tryz.zeroValue137, Tryz.underlying157, Tryz.runUnderlying157, Tryz.sizeOf157, Tryz.isAgg157, Tryz.zeroValue157, Tryz.underlying168, Tryz.runUnderlying168, Tryz.sizeOf168, Tryz.isAgg168, Tryz.zeroValue168, Tryz.underlying167, Tryz.runUnderlying167, Tryz.sizeOf167, Tryz.isAgg167, Tryz.zeroValue167, Tryz.underlying156, Tryz.runUnderlying156, Tryz.sizeOf156, Tryz.isAgg156, Tryz.zeroValue156, Tryz.underlying133, Tryz.runUnderlying133, Tryz.sizeOf133, Tryz.isAgg133, Tryz.zeroValue133, Tryz.underlying21, Tryz.runUnderlying21, Tryz.sizeOf21, Tryz.isAgg21, Tryz.zeroValue21, (by kernel_rfl)⟩
abbrev Tryz.rwLink : Go.Conc.Locks.RwLink := { lock := 120, unlock := 129, ilock := 132, iunlock := 134, lockSlow := 136, unlockSlow := 137, disable := 119, enable := 123, acquire := 124, relMerge := 126, cas32 := 135, add32 := 133, tMutex := 137, tIMutex := 135, tPMutex := 157, tPIMutex := 168, tPI32 := 167, tUP := 156, tNoCopy := 133, tU32 := 130, rlock := 185, runlock := 186, wlock := 106, wunlock := 107, i32add := 121, raceRead := 118, release := 125, rUnlockSlow := 204, semacqR := 203, semacqW := 122, semrel := 128, sfatal := 127, tRW := 142, tPRW := 154, tAI32 := 140, tPAI32 := 165, tPU32 := 160, tANoCopy := 138 }
theorem Tryz.rwCore : Go.Conc.Locks.RwCore Tryz.prog Tryz.rwLink :=
  ⟨Tryz.func121, Tryz.func118, Tryz.func119, Tryz.func123, Tryz.func124, Tryz.func126, Tryz.func133, Tryz.underlying142, Tryz.runUnderlying142, Tryz.sizeOf142, Tryz.isAgg142, Tryz.zeroValue142, Tryz.underlying140, Tryz.runUnderlying140, Tryz.sizeOf140, Tryz.isAgg140, Tryz.zeroValue140, Tryz.underlying154, Tryz.runUnderlying154, Tryz.sizeOf154, Tryz.isAgg154, Tryz.zeroValue154, Tryz.underlying165, Tryz.runUnderlying165, Tryz.sizeOf165, Tryz.isAgg165, Tryz.zeroValue165, Tryz.underlying160, Tryz.runUnderlying160, Tryz.sizeOf160, Tryz.isAgg160, Tryz.zeroValue160, Tryz.underlying138, Tryz.runUnderlying138, Tryz.sizeOf138, Tryz.isAgg138, Tryz.zeroValue138, Tryz.underlying130, Tryz.runUnderlying130, Tryz.sizeOf130, Tryz.isAgg130, Tryz.zeroValue130, Tryz.underlying137, Tryz.runUnderlying137, Tryz.sizeOf137, Tryz.isAgg137, Tryz.zeroValue137, Tryz.underlying157, Tryz.runUnderlying157, Tryz.sizeOf157, Tryz.isAgg157, Tryz.zeroValue157, Tryz.underlying167, Tryz.runUnderlying167, Tryz.sizeOf167, Tryz.isAgg167, Tryz.zeroValue167, Tryz.underlying156, Tryz.runUnderlying156, Tryz.sizeOf156, Tryz.isAgg156, Tryz.zeroValue156, Tryz.underlying21, Tryz.runUnderlying21, Tryz.sizeOf21, Tryz.isAgg21, Tryz.zeroValue21, (by kernel_rfl), (by kernel_rfl)⟩
theorem Tryz.rwRLib : Go.Conc.Locks.RwRLib Tryz.prog Tryz.rwLink := ⟨Tryz.rwCore, Tryz.func185, Tryz.func186⟩
theorem Tryz.rwWLib : Go.Conc.Locks.RwWLib Tryz.prog Tryz.rwLink := ⟨Tryz.rwCore, Tryz.muLib, Tryz.func106, Tryz.func107, Tryz.func125, Tryz.underlying3, Tryz.runUnderlying3, Tryz.sizeOf3, Tryz.isAgg3, Tryz.zeroValue3⟩

theorem meth_114_Add (p : Value) (w : World) : ∀ args : Array Value, (callMethod (.iface 114 p) "Add" args).run Tryz.prog w = .ok (.enter 84 (#[p] ++ args)) w := fun args => by kernel_rfl
theorem meth_114_Append (p : Value) (w : World) : ∀ args : Array Value, (callMethod (.iface 114 p) "Append" args).run Tryz.prog w = .ok (.enter 160 (#[p] ++ args)) w := fun args => by kernel_rfl
theorem meth_114_Cardinality (p : Value) (w : World) : ∀ args : Array Value, (callMethod (.iface 114 p) "Cardinality" args).run Tryz.prog w = .ok (.enter 161 (#[p] ++ args)) w := fun args => by kernel_rfl
theorem meth_114_Clear (p : Value) (w : World) : ∀ args : Array Value, (callMethod (.iface 114 p) "Clear" args).run Tryz.prog w = .ok (.enter 162 (#[p] ++ args)) w := fun args => by kernel_rfl
theorem meth_114_Clone (p : Value) (w : World) : ∀ args : Array Value, (callMethod (.iface 114 p) "Clone" args).run Tryz.prog w = .ok (.enter 163 (#[p] ++ args)) w := fun args => by kernel_rfl
theorem meth_114_Contains (p : Value) (w : World) : ∀ args : Array Value, (callMethod (.iface 114 p) "Contains" args).run Tryz.prog w = .ok (.enter 164 (#[p] ++ args)) w := fun args => by kernel_rfl
theorem meth_114_ContainsAny (p : Value) (w : World) : ∀ args : Array Value, (callMethod (.iface 114 p) "ContainsAny" args).run Tryz.prog w = .ok (.enter 165 (#[p] ++ args)) w := fun args => by kernel_rfl
theorem meth_114_ContainsAnyElement (p : Value) (w : World) : ∀ args : Array Value, (callMethod (.iface 114 p) "ContainsAnyElement" args).run Tryz.prog w = .ok (.enter 166 (#[p] ++ args)) w := fun args => by kernel_rfl
theorem meth_114_ContainsOne (p : Value) (w : World) : ∀ args : Array Value, (callMethod (.iface 114 p) "ContainsOne" args).run Tryz.prog w = .ok (.enter 167 (#[p] ++ args)) w := fun args => by kernel_rfl
theorem meth_114_Difference (p : Value) (w : World) : ∀ args : Array Value, (callMethod (.iface 114 p) "Difference" args).run Tryz.prog w = .ok (.enter 168 (#[p] ++ args)) w := fun args => by kernel_rfl
theorem meth_114_Each (p : Value) (w : World) : ∀ args : Array Value, (callMethod (.iface 114 p) "Each" args).run Tryz.prog w = .ok (.enter 169 (#[p] ++ args)) w := fun args => by kernel_rfl
theorem meth_114_Equal (p : Value) (w : World) : ∀ args : Array Value, (callMethod (.iface 114 p) "Equal" args).run Tryz.prog w = .ok (.enter 170 (#[p] ++ args)) w := fun args => by kernel_rfl
theorem meth_114_Intersect (p : Value) (w : World) : ∀ args : Array Value, (callMethod (.iface 114 p) "Intersect" args).run Tryz.prog w = .ok (.enter 171 (#[p] ++ args)) w := fun args => by kernel_rfl
theorem meth_114_IsEmpty (p : Value) (w : World) : ∀ args : Array Value, (callMethod (.iface 114 p) "IsEmpty" args).run Tryz.prog w = .ok (.enter 172 (#[p] ++ args)) w := fun args => by kernel_rfl
theorem meth_114_IsProperSubset (p : Value) (w : World) : ∀ args : Array Value, (callMethod (.iface 114 p) "IsProperSubset" args).run Tryz.prog w = .ok (.enter 173 (#[p] ++ args)) w := fun args => by kernel_rfl
theorem meth_114_IsProperSuperset (p : Value) (w : World) : ∀ args : Array Value, (callMethod (.iface 114 p) "IsProperSuperset" args).run Tryz.prog w = .ok (.enter 174 (#[p] ++ args)) w := fun args => by kernel_rfl
theorem meth_114_IsSubset (p : Value) (w : World) : ∀ args : Array Value, (callMethod (.iface 114 p) "IsSubset" args).run Tryz.prog w = .ok (.enter 175 (#[p] ++ args)) w := fun args => by kernel_rfl
theorem meth_114_IsSuperset (p : Value) (w : World) : ∀ args : Array Value, (callMethod (.iface 114 p) "IsSuperset" args).run Tryz.prog w = .ok (.enter 176 (#[p] ++ args)) w := fun args => by kernel_rfl
theorem meth_114_Pop (p : Value) (w : World) : ∀ args : Array Value, (callMethod (.iface 114 p) "Pop" args).run Tryz.prog w = .ok (.enter 177 (#[p] ++ args)) w := fun args => by kernel_rfl
theorem meth_114_PopN (p : Value) (w : World) : ∀ args : Array Value, (callMethod (.iface 114 p) "PopN" args).run Tryz.prog w = .ok (.enter 178 (#[p] ++ args)) w := fun args => by kernel_rfl
theorem meth_114_Remove (p : Value) (w : World) : ∀ args : Array Value, (callMethod (.iface 114 p) "Remove" args).run Tryz.prog w = .ok (.enter 179 (#[p] ++ args)) w := fun args => by kernel_rfl
theorem meth_114_RemoveAll (p : Value) (w : World) : ∀ args : Array Value, (callMethod (.iface 114 p) "RemoveAll" args).run Tryz.prog w = .ok (.enter 180 (#[p] ++ args)) w := fun args => by kernel_rfl
theorem meth_114_SymmetricDifference (p : Value) (w : World) : ∀ args : Array Value, (callMethod (.iface 114 p) "SymmetricDifference" args).run Tryz.prog w = .ok (.enter 181 (#[p] ++ args)) w := fun args => by kernel_rfl
theorem meth_114_ToSlice (p : Value) (w : World) : ∀ args : Array Value, (callMethod (.iface 114 p) "ToSlice" args).run Tryz.prog w = .ok (.enter 182 (#[p] ++ args)) w := fun args => by kernel_rfl
theorem meth_114_Union (p : Value) (w : World) : ∀ args : Array Value, (callMethod (.iface 114 p) "Union" args).run Tryz.prog w = .ok (.enter 183 (#[p] ++ args)) w := fun args => by kernel_rfl
theorem meth0_116_Add (p : Value) (w : World) : (method (Tryz.prog.types.size + Made.depth) 116 p "Add").run Tryz.prog w = ((receiverAt 116 (.val p) false (some (("Add".splitOn ".").getLastD "Add"))) >>= fun v => pure (86, v)).run Tryz.prog w := by kernel_rfl
theorem meth_116_Add {p v : Value} {b : Nat} {w : World} (e : p = .pointer (some ⟨b, 0, none⟩)) (hc : w.cell? ⟨b, 0, none⟩ = some v) : ∀ args : Array Value, (callMethod (.iface 116 p) "Add" args).run Tryz.prog w = .ok (.enter 86 (#[v] ++ args)) w := by
  intro args
  subst e
  have hw : ∀ s w, (Builtin.ssaWrapNilChk_ #[116] 116 #[.pointer (some ⟨b, 0, none⟩), strVal "", strVal s]).run Tryz.prog w = .ok (.pointer (some ⟨b, 0, none⟩)) w := fun _ _ => rfl
  simp only [callMethod, Sem.run_bind, run_program, Result.andThen_ok]
  rw [meth0_116_Add]
  simp [receiverAt, Place.get, hw, go_sem, hc, asAddr]
theorem meth_116_Append (p : Value) (w : World) : ∀ args : Array Value, (callMethod (.iface 116 p) "Append" args).run Tryz.prog w = .ok (.enter 184 (#[p] ++ args)) w := fun args => by kernel_rfl
theorem meth_116_Cardinality (p : Value) (w : World) : ∀ args : Array Value, (callMethod (.iface 116 p) "Cardinality" args).run Tryz.prog w = .ok (.enter 205 (#[p] ++ args)) w := fun args => by kernel_rfl
theorem meth_116_Clear (p : Value) (w : World) : ∀ args : Array Value, (callMethod (.iface 116 p) "Clear" args).run Tryz.prog w = .ok (.enter 187 (#[p] ++ args)) w := fun args => by kernel_rfl
theorem meth_116_Clone (p : Value) (w : World) : ∀ args : Array Value, (callMethod (.iface 116 p) "Clone" args).run Tryz.prog w = .ok (.enter 188 (#[p] ++ args)) w := fun args => by kernel_rfl
theorem meth_116_Contains (p : Value) (w : World) : ∀ args : Array Value, (callMethod (.iface 116 p) "Contains" args).run Tryz.prog w = .ok (.enter 189 (#[p] ++ args)) w := fun args => by kernel_rfl
theorem meth_116_ContainsAny (p : Value) (w : World) : ∀ args : Array Value, (callMethod (.iface 116 p) "ContainsAny" args).run Tryz.prog w = .ok (.enter 190 (#[p] ++ args)) w := fun args => by kernel_rfl
theorem meth_116_ContainsAnyElement (p : Value) (w : World) : ∀ args : Array Value, (callMethod (.iface 116 p) "ContainsAnyElement" args).run Tryz.prog w = .ok (.enter 191 (#[p] ++ args)) w := fun args => by kernel_rfl
theorem meth_116_ContainsOne (p : Value) (w : World) : ∀ args : Array Value, (callMethod (.iface 116 p) "ContainsOne" args).run Tryz.prog w = .ok (.enter 192 (#[p] ++ args)) w := fun args => by kernel_rfl
theorem meth_116_Difference (p : Value) (w : World) : ∀ args : Array Value, (callMethod (.iface 116 p) "Difference" args).run Tryz.prog w = .ok (.enter 193 (#[p] ++ args)) w := fun args => by kernel_rfl
theorem meth_116_Each (p : Value) (w : World) : ∀ args : Array Value, (callMethod (.iface 116 p) "Each" args).run Tryz.prog w = .ok (.enter 208 (#[p] ++ args)) w := fun args => by kernel_rfl
theorem meth_116_Equal (p : Value) (w : World) : ∀ args : Array Value, (callMethod (.iface 116 p) "Equal" args).run Tryz.prog w = .ok (.enter 194 (#[p] ++ args)) w := fun args => by kernel_rfl
theorem meth_116_Intersect (p : Value) (w : World) : ∀ args : Array Value, (callMethod (.iface 116 p) "Intersect" args).run Tryz.prog w = .ok (.enter 195 (#[p] ++ args)) w := fun args => by kernel_rfl
theorem meth_116_IsEmpty (p : Value) (w : World) : ∀ args : Array Value, (callMethod (.iface 116 p) "IsEmpty" args).run Tryz.prog w = .ok (.enter 209 (#[p] ++ args)) w := fun args => by kernel_rfl
theorem meth_116_IsProperSubset (p : Value) (w : World) : ∀ args : Array Value, (callMethod (.iface 116 p) "IsProperSubset" args).run Tryz.prog w = .ok (.enter 196 (#[p] ++ args)) w := fun args => by kernel_rfl
theorem meth_116_IsProperSuperset (p : Value) (w : World) : ∀ args : Array Value, (callMethod (.iface 116 p) "IsProperSuperset" args).run Tryz.prog w = .ok (.enter 210 (#[p] ++ args)) w := fun args => by kernel_rfl
theorem meth_116_IsSubset (p : Value) (w : World) : ∀ args : Array Value, (callMethod (.iface 116 p) "IsSubset" args).run Tryz.prog w = .ok (.enter 197 (#[p] ++ args)) w := fun args => by kernel_rfl
theorem meth_116_IsSuperset (p : Value) (w : World) : ∀ args : Array Value, (callMethod (.iface 116 p) "IsSuperset" args).run Tryz.prog w = .ok (.enter 211 (#[p] ++ args)) w := fun args => by kernel_rfl
theorem meth_116_Pop (p : Value) (w : World) : ∀ args : Array Value, (callMethod (.iface 116 p) "Pop" args).run Tryz.prog w = .ok (.enter 198 (#[p] ++ args)) w := fun args => by kernel_rfl
theorem meth_116_PopN (p : Value) (w : World) : ∀ args : Array Value, (callMethod (.iface 116 p) "PopN" args).run Tryz.prog w = .ok (.enter 199 (#[p] ++ args)) w := fun args => by kernel_rfl
theorem meth0_116_Remove (p : Value) (w : World) : (method (Tryz.prog.types.size + Made.depth) 116 p "Remove").run Tryz.prog w = ((receiverAt 116 (.val p) false (some (("Remove".splitOn ".").getLastD "Remove"))) >>= fun v => pure (212, v)).run Tryz.prog w := by kernel_rfl
theorem meth_116_Remove {p v : Value} {b : Nat} {w : World} (e : p = .pointer (some ⟨b, 0, none⟩)) (hc : w.cell? ⟨b, 0, none⟩ = some v) : ∀ args : Array Value, (callMethod (.iface 116 p) "Remove" args).run Tryz.prog w = .ok (.enter 212 (#[v] ++ args)) w := by
  intro args
  subst e
  have hw : ∀ s w, (Builtin.ssaWrapNilChk_ #[116] 116 #[.pointer (some ⟨b, 0, none⟩), strVal "", strVal s]).run Tryz.prog w = .ok (.pointer (some ⟨b, 0, none⟩)) w := fun _ _ => rfl
  simp only [callMethod, Sem.run_bind, run_program, Result.andThen_ok]
  rw [meth0_116_Remove]
  simp [receiverAt, Place.get, hw, go_sem, hc, asAddr]
theorem meth0_116_RemoveAll (p : Value) (w : World) : (method (Tryz.prog.types.size + Made.depth) 116 p "RemoveAll").run Tryz.prog w = ((receiverAt 116 (.val p) false (some (("RemoveAll".splitOn ".").getLastD "RemoveAll"))) >>= fun v => pure (200, v)).run Tryz.prog w := by kernel_rfl
theorem meth_116_RemoveAll {p v : Value} {b : Nat} {w : World} (e : p = .pointer (some ⟨b, 0, none⟩)) (hc : w.cell? ⟨b, 0, none⟩ = some v) : ∀ args : Array Value, (callMethod (.iface 116 p) "RemoveAll" args).run Tryz.prog w = .ok (.enter 200 (#[v] ++ args)) w := by
  intro args
  subst e
  have hw : ∀ s w, (Builtin.ssaWrapNilChk_ #[116] 116 #[.pointer (some ⟨b, 0, none⟩), strVal "", strVal s]).run Tryz.prog w = .ok (.pointer (some ⟨b, 0, none⟩)) w := fun _ _ => rfl
  simp only [callMethod, Sem.run_bind, run_program, Result.andThen_ok]
  rw [meth0_116_RemoveAll]
  simp [receiverAt, Place.get, hw, go_sem, hc, asAddr]
theorem meth_116_SymmetricDifference (p : Value) (w : World) : ∀ args : Array Value, (callMethod (.iface 116 p) "SymmetricDifference" args).run Tryz.prog w = .ok (.enter 201 (#[p] ++ args)) w := fun args => by kernel_rfl
theorem meth0_116_ToSlice (p : Value) (w : World) : (method (Tryz.prog.types.size + Made.depth) 116 p "ToSlice").run Tryz.prog w = ((receiverAt 116 (.val p) false (some (("ToSlice".splitOn ".").getLastD "ToSlice"))) >>= fun v => pure (213, v)).run Tryz.prog w := by kernel_rfl
theorem meth_116_ToSlice {p v : Value} {b : Nat} {w : World} (e : p = .pointer (some ⟨b, 0, none⟩)) (hc : w.cell? ⟨b, 0, none⟩ = some v) : ∀ args : Array Value, (callMethod (.iface 116 p) "ToSlice" args).run Tryz.prog w = .ok (.enter 213 (#[v] ++ args)) w := by
  intro args
  subst e
  have hw : ∀ s w, (Builtin.ssaWrapNilChk_ #[116] 116 #[.pointer (some ⟨b, 0, none⟩), strVal "", strVal s]).run Tryz.prog w = .ok (.pointer (some ⟨b, 0, none⟩)) w := fun _ _ => rfl
  simp only [callMethod, Sem.run_bind, run_program, Result.andThen_ok]
  rw [meth0_116_ToSlice]
  simp [receiverAt, Place.get, hw, go_sem, hc, asAddr]
theorem meth0_116_Union (p : Value) (w : World) : (method (Tryz.prog.types.size + Made.depth) 116 p "Union").run Tryz.prog w = ((receiverAt 116 (.val p) false (some (("Union".splitOn ".").getLastD "Union"))) >>= fun v => pure (202, v)).run Tryz.prog w := by kernel_rfl
theorem meth_116_Union {p v : Value} {b : Nat} {w : World} (e : p = .pointer (some ⟨b, 0, none⟩)) (hc : w.cell? ⟨b, 0, none⟩ = some v) : ∀ args : Array Value, (callMethod (.iface 116 p) "Union" args).run Tryz.prog w = .ok (.enter 202 (#[v] ++ args)) w := by
  intro args
  subst e
  have hw : ∀ s w, (Builtin.ssaWrapNilChk_ #[116] 116 #[.pointer (some ⟨b, 0, none⟩), strVal "", strVal s]).run Tryz.prog w = .ok (.pointer (some ⟨b, 0, none⟩)) w := fun _ _ => rfl
  simp only [callMethod, Sem.run_bind, run_program, Result.andThen_ok]
  rw [meth0_116_Union]
  simp [receiverAt, Place.get, hw, go_sem, hc, asAddr]
def maxLen (ll : List (List Int)) : Nat := ll.foldl (fun a x => max a x.length) 0
theorem tmod_emod (a b : Int) (hb : b ≠ 0) : (Int.tmod a b = a % b ∨ Int.tmod a b = a % b - b.natAbs) ∧ 0 ≤ a % b ∧ a % b < b.natAbs := by
  refine ⟨?_, Int.emod_nonneg _ hb, ?_⟩
  · rw [Int.tmod_eq_emod]; split <;> simp
  · have := Int.emod_lt a hb; omega
def mapI (f : Int → Int → Int) : Nat → List Int → List Int
  | _, [] => []
  | i, x :: l => f x i :: mapI f (i + 1) l
theorem mapI_append (f : Int → Int → Int) : ∀ (a b : List Int) (i : Nat), mapI f i (a ++ b) = mapI f i a ++ mapI f (i + a.length) b
  | [], b, i => by simp [mapI]
  | x :: a, b, i => by
    simp only [List.cons_append, mapI, mapI_append f a b (i + 1), List.length_cons]
    rw [show i + 1 + a.length = i + (a.length + 1) by omega]
theorem mapI_succ {f : Int → Int → Int} {l : List Int} {k : Nat} {x : Int} (h : l[k]? = some x) : mapI f 0 (l.take (k + 1)) = mapI f 0 (l.take k) ++ [f x k] := by
  have hk := (List.getElem?_eq_some_iff.1 h).1
  rw [List.take_add_one, h, mapI_append]
  simp only [Option.toList_some, mapI, List.length_take, Nat.zero_add, Nat.min_eq_left (Nat.le_of_lt hk)]

def PF2T (P : Program) (fv : Value) (M : Hp) (f : Int → Int → Int × Bool) : Prop := fv.oneCell' = true ∧ ∀ x i : Int, Pu P fv M [.int .i64 x, .int .i64 i] (fun r _ => r = .tuple #[.int .i64 (f x i).1, .bool (f x i).2])
theorem PF2T.le {P : Program} {fv : Value} {M M' : Hp} {f : Int → Int → Int × Bool} (h : PF2T P fv M f) (hM : Hp.le M M') : PF2T P fv M' f := ⟨h.1, fun x i => (h.2 x i).le hM⟩
theorem map_set {f : Int → Int → Int} {l : List Int} {k : Nat} {x : Int} (hk : (mapI f 0 (l.take k)).length = k) (hx : l[k]? = some x) : (mapI f 0 (l.take k) ++ l.drop k).set k (f x k) = mapI f 0 (l.take (k + 1)) ++ l.drop (k + 1) := by
  have hlt := (List.getElem?_eq_some_iff.1 hx).1
  rw [List.set_append_right _ _ (by omega), hk, Nat.sub_self, List.drop_eq_getElem_cons hlt, List.set_cons_zero, mapI_succ hx, List.append_assoc]; rfl
theorem take_s {l : List Int} {k : Nat} {x : Int} (hx : l[k]? = some x) : l.take (k + 1) = l.take k ++ [x] ∧ (l.take k).length = k := by
  have hk := (List.getElem?_eq_some_iff.1 hx).1
  rw [List.take_add_one, hx]; exact ⟨rfl, by rw [List.length_take]; omega⟩
theorem foldl_inv {σ : Type} (f : σ → Int → σ) (Q : List Int → σ → Prop) (s0 : σ) (h0 : Q [] s0) (hs : ∀ p x, Q p (p.foldl f s0) → Q (p ++ [x]) (f (p.foldl f s0) x)) : ∀ (n : Nat) (l : List Int), l.length = n → Q l (l.foldl f s0)
  | 0, l, h => by have := List.eq_nil_of_length_eq_zero h; subst this; exact h0
  | n + 1, l, h => by
    obtain ⟨p, x, rfl⟩ : ∃ p x, l = p ++ [x] := ⟨l.dropLast, l.getLast (by intro e; subst e; simp at h), (List.dropLast_concat_getLast _).symm⟩
    have ih := foldl_inv f Q s0 h0 hs n p (by simpa using h)
    have e : (p ++ [x]).foldl f s0 = f (p.foldl f s0) x := by simp
    rw [e]; exact hs p x ih
theorem take_snoc {b : List Int} {i : Nat} {x : Int} (h : b[i]? = some x) : b.take (i + 1) = b.take i ++ [x] := by rw [List.take_add_one, h]; rfl
def SortedI (l : List Int) : Prop := l.Pairwise (· ≤ ·)
theorem sorted_eq : ∀ {a b : List Int}, SortedI a → SortedI b → a.Perm b → a = b
  | [], b, _, _, h => (List.nil_perm.1 h).symm ▸ rfl
  | x :: a, [], _, _, h => by simp at h
  | x :: a, y :: b, ha, hb, h => by
    unfold SortedI at ha hb
    rw [List.pairwise_cons] at ha hb
    have h1 : x ≤ y := by
      rcases List.mem_cons.1 (h.symm.subset (List.mem_cons_self ..)) with e | e
      · omega
      · exact ha.1 y e
    have h2 : y ≤ x := by
      rcases List.mem_cons.1 (h.subset (List.mem_cons_self ..)) with e | e
      · omega
      · exact hb.1 x e
    have e : x = y := by omega
    subst e
    rw [sorted_eq ha.2 hb.2 ((List.perm_cons x).1 h)]
/-! ## a set, as a rising list -/
def insU (x : Int) (l : List Int) : List Int := l.takeWhile (fun y => decide (y < x)) ++ (if x ∈ l then [] else [x]) ++ l.dropWhile (fun y => decide (y < x))
def setI (l : List Int) : List Int := l.foldl (fun s x => insU x s) []
def SortedU (l : List Int) : Prop := l.Pairwise (· < ·)
theorem setI_app (l : List Int) (x : Int) : setI (l ++ [x]) = insU x (setI l) := by simp [setI]
theorem setI_take {l : List Int} {k : Nat} {x : Int} (h : l[k]? = some x) : setI (l.take (k + 1)) = insU x (setI (l.take k)) := by rw [(take_s h).1, setI_app]
theorem insU_same {x : Int} {l : List Int} (h : x ∈ l) : insU x l = l := by
  unfold insU; rw [if_pos h, List.append_nil, List.takeWhile_append_dropWhile]
theorem insU_mem {x z : Int} {l : List Int} : z ∈ insU x l ↔ z = x ∨ z ∈ l := by
  by_cases h : x ∈ l
  · rw [insU_same h]; constructor
    · exact .inr
    · rintro (rfl | h2); exact h; exact h2
  · unfold insU; rw [if_neg h]
    have e : l = l.takeWhile (fun y => decide (y < x)) ++ l.dropWhile (fun y => decide (y < x)) := (List.takeWhile_append_dropWhile).symm
    conv => rhs; rw [e]
    simp only [List.mem_append, List.mem_singleton]
    constructor
    · rintro ((h1 | h1) | h1); exact .inr (.inl h1); exact .inl h1; exact .inr (.inr h1)
    · rintro (h1 | h1 | h1); exact .inl (.inr h1); exact .inl (.inl h1); exact .inr h1
theorem insU_len (x : Int) (l : List Int) : (insU x l).length ≤ l.length + 1 := by
  have := congrArg List.length (List.takeWhile_append_dropWhile (p := fun y => decide (y < x)) (l := l))
  rw [List.length_append] at this
  unfold insU; simp only [List.length_append]; split <;> simp <;> omega
theorem insU_sorted {x : Int} {l : List Int} (h : SortedU l) : SortedU (insU x l) := by
  by_cases hx : x ∈ l
  · rw [insU_same hx]; exact h
  · unfold insU; rw [if_neg hx]
    unfold SortedU at h ⊢
    induction l with
    | nil => simp
    | cons a l ih =>
      have hx2 : x ∉ l := fun e => hx (by simp [e])
      rw [List.pairwise_cons] at h
      by_cases ha : a < x
      · simp only [List.takeWhile_cons, List.dropWhile_cons, ha, decide_true, if_true, List.cons_append, List.pairwise_cons]
        refine ⟨fun y hy => ?_, ih h.2 hx2⟩
        have e : l.takeWhile (fun y => decide (y < x)) ++ l.dropWhile (fun y => decide (y < x)) = l := List.takeWhile_append_dropWhile
        simp only [List.mem_append, List.mem_singleton] at hy
        rcases hy with (hy | hy) | hy
        · exact h.1 y (by rw [← e]; exact List.mem_append_left _ hy)
        · omega
        · exact h.1 y (by rw [← e]; exact List.mem_append_right _ hy)
      · have hne : x ≠ a := fun e => hx (by simp [e])
        simp only [List.takeWhile_cons, List.dropWhile_cons, ha, decide_false, Bool.false_eq_true, if_false, List.nil_append, List.singleton_append, List.pairwise_cons]
        refine ⟨fun y hy => ?_, h.1, h.2⟩
        rcases List.mem_cons.1 hy with rfl | hy
        · omega
        · have := h.1 y hy; omega
theorem setI_spec (l : List Int) : SortedU (setI l) ∧ (∀ z, z ∈ setI l ↔ z ∈ l) ∧ (setI l).length ≤ l.length :=
  foldl_inv (fun s x => insU x s) (fun p s => SortedU s ∧ (∀ z, z ∈ s ↔ z ∈ p) ∧ s.length ≤ p.length) [] ⟨List.Pairwise.nil, fun z => Iff.rfl, Nat.le_refl _⟩ (fun p x h => ⟨insU_sorted h.1, fun z => by rw [insU_mem, h.2.1, List.mem_append, List.mem_singleton]; exact Or.comm, by have := insU_len x (p.foldl (fun s x => insU x s) []); simp; omega⟩) _ l rfl
theorem SortedU.nodup {l : List Int} (h : SortedU l) : l.Nodup := List.Pairwise.imp (fun h => by omega) h
theorem SortedU.le {l : List Int} (h : SortedU l) : SortedI l := List.Pairwise.imp (fun h => by omega) h
theorem setI_eq {a b : List Int} (h : ∀ z, z ∈ a ↔ z ∈ b) : setI a = setI b := by
  have ha := setI_spec a
  have hb := setI_spec b
  refine sorted_eq ha.1.le hb.1.le ((List.perm_ext_iff_of_nodup ha.1.nodup hb.1.nodup).2 fun z => ?_)
  rw [ha.2.1, hb.2.1, h]
theorem split_at {p : Int → Bool} {s : List Int} {j : Nat} (h : ∀ y ∈ s.take j, p y = true) (h2 : s.length ≤ j ∨ ∃ v, s[j]? = some v ∧ p v = false) : s.takeWhile p = s.take j ∧ s.dropWhile p = s.drop j := by
  induction s generalizing j with
  | nil => simp
  | cons a s ih =>
    cases j with
    | zero =>
      rcases h2 with h2 | ⟨v, hv, hn⟩
      · simp at h2
      · have : a = v := by simpa using hv
        subst this
        simp [List.takeWhile_cons, List.dropWhile_cons, hn]
    | succ j =>
      have ha : p a = true := h a (by simp)
      have := ih (j := j) (fun y hy => h y (by simp [hy])) (by
        rcases h2 with h2 | ⟨v, hv, hn⟩
        · left; simp at h2; omega
        · right; exact ⟨v, by simpa using hv, hn⟩)
      simp [List.takeWhile_cons, List.dropWhile_cons, ha, this.1, this.2]
theorem set_at {s : List Int} {x : Int} {j : Nat} (hs : SortedU s) (h : ∀ y ∈ s.take j, y < x) (h2 : s.length ≤ j ∨ ∃ v, s[j]? = some v ∧ ¬ v < x ∧ ¬ v = x) : s.take j ++ [x] ++ s.drop j = insU x s := by
  obtain ⟨e1, e2⟩ := split_at (p := fun y => decide (y < x)) (fun y hy => decide_eq_true (h y hy)) (by
    rcases h2 with h2 | ⟨v, hv, hn, _⟩
    · exact .inl h2
    · exact .inr ⟨v, hv, decide_eq_false hn⟩)
  have hx : x ∉ s := by
    intro hx
    rw [← List.take_append_drop j s, List.mem_append] at hx
    rcases hx with hx | hx
    · have := h x hx; omega
    · rcases h2 with h2 | ⟨v, hv, hn, hn2⟩
      · rw [List.drop_of_length_le h2] at hx; cases hx
      · have hj := (List.getElem?_eq_some_iff.1 hv).1
        have hd : s.drop j = v :: s.drop (j + 1) := by rw [List.drop_eq_getElem_cons hj, (List.getElem?_eq_some_iff.1 hv).2]
        rw [hd] at hx
        rcases List.mem_cons.1 hx with e | hx
        · exact hn2 e.symm
        · have hp : (s.drop j).Pairwise (· < ·) := List.Pairwise.sublist (List.drop_sublist _ _) hs
          rw [hd, List.pairwise_cons] at hp
          have := hp.1 x hx; omega
  unfold insU; rw [if_neg hx, e1, e2]
theorem set_bubble {s : List Int} {x : Int} {i : Nat} (hs : SortedU s) (hx : x ∉ s) (h : ∀ y ∈ s.drop i, x < y) (hi : i ≤ s.length) (h2 : i = 0 ∨ ∃ v, s[i - 1]? = some v ∧ ¬ x < v) : s.take i ++ [x] ++ s.drop i = insU x s := by
  refine set_at hs (fun y hy => ?_) ?_
  · rcases h2 with h2 | ⟨v, hv, hn⟩
    · subst h2; simp at hy
    · obtain ⟨m, hm⟩ := List.mem_iff_getElem?.1 hy
      have hm1 := (List.getElem?_eq_some_iff.1 hm).1
      rw [List.length_take] at hm1
      rw [List.getElem?_take_of_lt (by omega)] at hm
      have hy2 := (List.getElem?_eq_some_iff.1 hm).2
      have hv2 := (List.getElem?_eq_some_iff.1 hv).2
      have hyv : y ≤ v := by
        by_cases e : m = i - 1
        · subst e; rw [hy2] at hv2; omega
        · have := List.pairwise_iff_getElem.1 hs m (i - 1) (by omega) (by omega) (by omega)
          rw [hy2, hv2] at this; omega
      have : y ≠ x := fun e => hx (by rw [← e]; exact List.mem_of_getElem? hm)
      omega
  · by_cases hl : s.length ≤ i
    · exact .inl hl
    · right
      refine ⟨s[i], List.getElem?_eq_getElem (by omega), ?_⟩
      have := h s[i] (by rw [List.drop_eq_getElem_cons (by omega)]; exact List.mem_cons_self ..)
      exact ⟨by omega, by omega⟩
theorem bubble_step {s : List Int} {x v : Int} {i : Nat} (h0 : 0 < i) (hi : i ≤ s.length) (hv : s[i - 1]? = some v) : s.take (i - 1) ++ [x] ++ s.drop (i - 1) = ((s.take i ++ [x] ++ s.drop i).set i v).set (i - 1) x := by
  obtain ⟨m, rfl⟩ : ∃ m, i = m + 1 := ⟨i - 1, by omega⟩
  simp only [Nat.add_sub_cancel] at hv ⊢
  have hm := (List.getElem?_eq_some_iff.1 hv).1
  have e1 : s.take (m + 1) = s.take m ++ [v] := take_snoc hv
  have e2 : s.drop m = v :: s.drop (m + 1) := by rw [List.drop_eq_getElem_cons hm, (List.getElem?_eq_some_iff.1 hv).2]
  rw [e1, e2]
  have hl : (s.take m).length = m := by rw [List.length_take]; omega
  simp [List.set_append, hl]

theorem setI_take' {l : List Int} {k : Nat} {x : Int} (h : l[k]? = some x) : setI (l.take (k + 1)) = insU (l[k]?.getD 0) (setI (l.take k)) := by rw [setI_take h, h]; rfl
theorem bub_at {s : List Int} {x v : Int} {i : Nat} (hi : i ≤ s.length) (h : (s.take i ++ [x] ++ s.drop i)[i]? = some v) : v = x := by
  rw [List.append_assoc, List.getElem?_append_right (by rw [List.length_take]; omega), List.length_take, Nat.min_eq_left hi, Nat.sub_self] at h
  simpa using h.symm
theorem bub_left {s : List Int} {x v : Int} {i : Nat} (h0 : 0 < i) (hi : i ≤ s.length) (h : (s.take i ++ [x] ++ s.drop i)[i - 1]? = some v) : s[i - 1]? = some v := by
  rw [List.append_assoc, List.getElem?_append_left (by rw [List.length_take]; omega), List.getElem?_take_of_lt (by omega)] at h
  exact h
theorem drop_bub {s : List Int} {x v : Int} {i : Nat} (h : ∀ y ∈ s.drop i, x < y) (h0 : 0 < i) (hi : i ≤ s.length) (hv : s[i - 1]? = some v) (hlt : x < v) : ∀ y ∈ s.drop (i - 1), x < y := by
  obtain ⟨m, rfl⟩ : ∃ m, i = m + 1 := ⟨i - 1, by omega⟩
  simp only [Nat.add_sub_cancel] at hv ⊢
  have hm := (List.getElem?_eq_some_iff.1 hv).1
  rw [List.drop_eq_getElem_cons hm, (List.getElem?_eq_some_iff.1 hv).2]
  intro y hy
  rcases List.mem_cons.1 hy with rfl | hy
  · exact hlt
  · exact h y hy

instance (l : List Int) : Decidable (SortedI l) := inferInstanceAs (Decidable (l.Pairwise (· ≤ ·)))
theorem srtM_sorted (l : List Int) : SortedI (srtM l) := by
  have := List.pairwise_mergeSort (le := fun x y : Int => decide (x ≤ y)) (fun a b c h1 h2 => by simp at *; omega) (fun a b => by simp; omega) l
  exact List.Pairwise.imp (fun h => by simpa using h) this
theorem srtM_perm (l : List Int) : (srtM l).Perm l := List.mergeSort_perm ..
theorem snocN {p : List Int} {k : Int} (h : p.Nodup) (hk : k ∉ p) : (p ++ [k]).Nodup :=
  List.nodup_append.2 ⟨h, by simp, fun a ha b hb => by simp at hb; subst hb; intro e; subst e; exact hk ha⟩
theorem snocS {p m : List Int} {k : Int} (h : ∀ z ∈ p, z ∈ m) (hk : k ∈ m) : ∀ z ∈ p ++ [k], z ∈ m := by
  intro z hz; rcases List.mem_append.1 hz with e | e
  · exact h z e
  · simp at e; rw [e]; exact hk

theorem nodup_len : ∀ {D S : List Int}, D.Nodup → (∀ z ∈ D, z ∈ S) → D.length ≤ S.length
  | [], S, _, _ => Nat.zero_le _
  | x :: D, S, hn, h => by
    rw [List.nodup_cons] at hn
    have hx := List.perm_cons_erase (h x (List.mem_cons_self ..))
    have := nodup_len (S := S.erase x) hn.2 fun z hz => (List.mem_erase_of_ne (fun e => hn.1 (by rw [← e]; exact hz))).2 (h z (List.mem_cons_of_mem _ hz))
    have h2 := hx.length_eq
    simp only [List.length_cons] at h2 ⊢; omega
structure SlS where
  buf : List Int
  cnt : Nat
  skip : Nat
  out : List (List Int)
section
variable {n s : Nat} {p : List Int} {x : Int}
end
/-- the map that pairs make: the last one of a key counts -/
def mkE (L : List (Int × Int)) : List (Int × Int) := L.foldl (fun q p => putK q p.1 p.2) []
theorem putK_le (q : List (Int × Int)) (k v : Int) : (putK q k v).length ≤ q.length + 1 := by
  have h := congrArg List.length (putK_keys q k v)
  rw [List.length_map] at h
  rw [h]; split <;> simp
theorem mkE_len (L : List (Int × Int)) : (mkE L).length ≤ L.length := by
  unfold mkE
  have : ∀ q : List (Int × Int), (L.foldl (fun q p => putK q p.1 p.2) q).length ≤ q.length + L.length := by
    induction L with
    | nil => intro q; simp
    | cons p L ih => intro q; rw [List.foldl_cons, List.length_cons]; have := ih (putK q p.1 p.2); have := putK_le q p.1 p.2; omega
  simpa using this []
def PF2U (P : Program) (fv : Value) (M : Hp) (f : Int → Int → Int × Int) : Prop := fv.oneCell' = true ∧ ∀ x i : Int, Pu P fv M [.int .i64 x, .int .i64 i] (fun r _ => r = .tuple #[.int .i64 (f x i).1, .int .i64 (f x i).2])
theorem PF2U.le {P : Program} {fv : Value} {M M' : Hp} {f : Int → Int → Int × Int} (h : PF2U P fv M f) (hM : Hp.le M M') : PF2U P fv M' f := ⟨h.1, fun x i => (h.2 x i).le hM⟩
def PF1U (P : Program) (fv : Value) (M : Hp) (f : Int → Int × Int) : Prop := fv.oneCell' = true ∧ ∀ x : Int, Pu P fv M [.int .i64 x] (fun r _ => r = .tuple #[.int .i64 (f x).1, .int .i64 (f x).2])
theorem PF1U.le {P : Program} {fv : Value} {M M' : Hp} {f : Int → Int × Int} (h : PF1U P fv M f) (hM : Hp.le M M') : PF1U P fv M' f := ⟨h.1, fun x => (h.2 x).le hM⟩
def PF2V (P : Program) (fv : Value) (M : Hp) (f : Int → Int → Int × Int × Bool) : Prop := fv.oneCell' = true ∧ ∀ x i : Int, Pu P fv M [.int .i64 x, .int .i64 i] (fun r _ => r = .tuple #[.int .i64 (f x i).1, .int .i64 (f x i).2.1, .bool (f x i).2.2])
theorem PF2V.le {P : Program} {fv : Value} {M M' : Hp} {f : Int → Int → Int × Int × Bool} (h : PF2V P fv M f) (hM : Hp.le M M') : PF2V P fv M' f := ⟨h.1, fun x i => (h.2 x i).le hM⟩
def RMp : Hp → List Value → List (Int × Int) → Prop := fun M cs q => ∃ v, cs = [v] ∧ RdM M v (encE (Value.int .i64) q)
theorem RdMp.at {M : Hp} {v : Value} {l : List (List (Int × Int))} {k : Nat} {e : List (Int × Int)} (h : RdS 1 RMp M v l) (he : l[k]? = some e) : ∃ p u, IdxPtr v k 1 p ∧ cellM M p = some u ∧ RdM M u (encE (Value.int .i64) e) := by
  obtain ⟨p, u, h1, h2, ⟨v, h3, h4⟩⟩ := h.at1 he
  cases h3; exact ⟨p, u, h1, h2, h4⟩
theorem RdPP.at {M : Hp} {v : Value} {l : List (List (Int × Int))} {k : Nat} {e : List (Int × Int)} (h : RdS 1 (RSl 2 RP2) M v l) (he : l[k]? = some e) : ∃ p u, IdxPtr v k 1 p ∧ cellM M p = some u ∧ RdS 2 RP2 M u e := by
  obtain ⟨p, u, h1, h2, ⟨v, h3, h4⟩⟩ := h.at1 he
  cases h3; exact ⟨p, u, h1, h2, h4⟩
theorem fl_le {α : Type} (l : List (List α)) (k : Nat) : ((l.take k).flatten).length ≤ l.flatten.length := by
  have := congrArg (fun x : List (List α) => x.flatten.length) (List.take_append_drop k l)
  simp only [List.flatten_append, List.length_append] at this; omega
theorem fl_mk_le : ∀ l : List (List (Int × Int)), ((l.map mkE).flatten).length ≤ l.flatten.length
  | [] => Nat.le_refl _
  | a :: l => by have := fl_mk_le l; have := mkE_len a; simp only [List.map_cons, List.flatten_cons, List.length_append]; omega
theorem fl_mk (l : List (List (Int × Int))) (k : Nat) : (((l.take k).map mkE).flatten).length ≤ l.flatten.length := Nat.le_trans (fl_mk_le _) (fl_le l k)
section
variable {r : Option Nat} {P : Program} {ops : Array Oper} {Q : Exit → Act → World → Prop} {C : Nat → World → Prop} {bf : Nat → List Nat} {E : List (Nat × Nat)}
end
section
variable {r : Option Nat} {P : Program} {ops : Array Oper} {Q : Exit → Act → World → Prop} {E : List (Nat × Nat)}
end
theorem srt_setB {q L : List Int} (hn : q.Nodup) (h : ∀ z, z ∈ q ↔ z ∈ L) : srtM q = setI L := by
  have hs := setI_spec L
  exact sorted_eq (srtM_sorted q) hs.1.le ((srtM_perm q).trans ((List.perm_ext_iff_of_nodup hn hs.1.nodup).2 fun z => by rw [h, hs.2.1]))
def PFAB (P : Program) (fv : Value) (M : Hp) (f : Int × Int → Bool) : Prop := fv.oneCell' = true ∧ ∀ x y : Int, ((-9223372036854775808 ≤ x ∧ x ≤ 9223372036854775807) ∧ (-9223372036854775808 ≤ y ∧ y ≤ 9223372036854775807)) → Pu P fv M [.agg #[.int .i64 x, .int .i64 y]] (fun r _ => r = .bool (f (x, y)))
theorem PFAB.le {P : Program} {fv : Value} {M M' : Hp} {f : Int × Int → Bool} (h : PFAB P fv M f) (hM : Hp.le M M') : PFAB P fv M' f := ⟨h.1, fun x y g => (h.2 x y g).le hM⟩
def RA2 : Hp → List Value → List (Int × Int) × List (Int × Int) → Prop := fun M cs x => ∃ u v, cs = [u, v] ∧ RdS 2 RP2 M u x.1 ∧ RdS 2 RP2 M v x.2
theorem RdA2.at {M : Hp} {v : Value} {l : List (List (Int × Int) × List (Int × Int))} {k : Nat} {e : List (Int × Int) × List (Int × Int)} (h : RdS 2 RA2 M v l) (he : l[k]? = some e) : ∃ p u1 u2, IdxPtr v k 2 p ∧ cellsM M p [u1, u2] ∧ RdS 2 RP2 M u1 e.1 ∧ RdS 2 RP2 M u2 e.2 := by
  obtain ⟨p, cs, h1, h2, ⟨u1, u2, h3, h5, h6⟩, h4⟩ := RdS.at h he
  subst h3; exact ⟨p, u1, u2, h1, h4, h5, h6⟩
section
variable {r : Option Nat} {P : Program} {Q : Exit → Act → World → Prop} {a : Act} {w : World} {n : Nat} {ds : List Deferred} {l : List (Nat × Value)} {d : Nat} {ty t el : TypeId} {pos : String} {af : Array Edge} {gd : Option (Nat × Bool)} {x y : Operand} {next : Act → World → Prop} {M : Hp} {H : List HProp} {by_ : Nat}
end
theorem sat_app : ∀ {A H : List HProp} {h : Hq}, sat (A ++ H) h ↔ ∃ g1 g2, Hp.disj g1 g2 ∧ h = Hp.union g1 g2 ∧ sat A g1 ∧ sat H g2
  | [], H, h => ⟨fun s => ⟨Hp.emp, h, (Hp.disj_emp h).symm, (Hp.emp_union h).symm, rfl, s⟩, fun ⟨g1, g2, d, e, h1, h2⟩ => by
    have : g1 = Hp.emp := h1
    subst this; rw [Hp.emp_union] at e; subst e; exact h2⟩
  | p :: A, H, h => by
    constructor
    · rintro ⟨g1, g2, d, e, hp, hs⟩
      obtain ⟨g3, g4, d', e', h3, h4⟩ := sat_app.1 hs
      subst e'; subst e
      have ⟨d1, d2⟩ := Hp.disj_union_right.1 d
      exact ⟨Hp.union g1 g3, g4, Hp.disj_union_left.2 ⟨d2, d'⟩, (Hp.union_assoc ..).symm, ⟨g1, g3, d1, rfl, hp, h3⟩, h4⟩
    · rintro ⟨g1, g2, d, e, ⟨g3, g4, d', e', hp, h4⟩, hs⟩
      subst e'; subst e
      have ⟨d1, d2⟩ := Hp.disj_union_left.1 d
      exact ⟨g3, Hp.union g4 g2, Hp.disj_union_right.2 ⟨d', d1⟩, Hp.union_assoc .., hp, sat_app.2 ⟨g4, g2, d2, rfl, h4, hs⟩⟩
def grp (A : List HProp) : HProp := fun h => sat A h
theorem ungrp {w : World} {M : Hp} {A H : List HProp} (s : St w M (grp A :: H)) : St w M (A ++ H) := s.of_sat fun _ ⟨g1, g2, d, e, h1, h2⟩ => sat_app.2 ⟨g1, g2, d, e, h1, h2⟩
theorem regrp {w : World} {M : Hp} {A H : List HProp} (s : St w M (A ++ H)) : St w M (grp A :: H) := s.of_sat fun _ h => let ⟨g1, g2, d, e, h1, h2⟩ := sat_app.1 h; ⟨g1, g2, d, e, h1, h2⟩
abbrev MLE := List (Int × Value × List Int)
/-- a key with a frozen list -/
def RG2 : Hp → List Value → Int × List Int → Prop := fun M cs x => ∃ v, cs = [.int .i64 x.1, v] ∧ RdI M v x.2
theorem RdG2.at {M : Hp} {v : Value} {l : List (Int × List Int)} {k : Nat} {e : Int × List Int} (h : RdS 2 RG2 M v l) (he : l[k]? = some e) : ∃ p u, IdxPtr v k 2 p ∧ cellsM M p [.int .i64 e.1, u] ∧ RdI M u e.2 := by
  obtain ⟨p, cs, h1, h2, ⟨u, h3, h5⟩, h4⟩ := RdS.at h he
  subst h3; exact ⟨p, u, h1, h4, h5⟩
theorem St.under2 {w : World} {M : Hp} {p q : HProp} {H H' : List HProp} (s : St w M (p :: q :: H)) (f : ∀ h, sat H h → sat H' h) : St w M (p :: q :: H') := s.of_sat fun _ h => sat_cons_of (fun _ => sat_cons_of f) h
/-- a frozen map of frozen lists -/
def RdML (M : Hp) (v : Value) (q : List (Int × List Int)) : Prop := ∃ t : MLE, t.map (fun x => (x.1, x.2.2)) = q ∧ RdM M v (encE Prod.fst t) ∧ ∀ x ∈ t, RdI M x.2.1 x.2.2
theorem RdML.le {M M' : Hp} {v : Value} {q : List (Int × List Int)} (h : RdML M v q) (hM : Hp.le M M') : RdML M' v q := by
  obtain ⟨t, h1, h2, h3⟩ := h; exact ⟨t, h1, h2.le hM, fun x hx => (h3 x hx).le hM⟩
theorem RdML.one' {M : Hp} {v : Value} {q : List (Int × List Int)} (h : RdML M v q) : v.oneCell' = true := by obtain ⟨_, _, h, _⟩ := h; exact h.one'
theorem RdML.nodup {M : Hp} {v : Value} {q : List (Int × List Int)} (h : RdML M v q) : (q.map Prod.fst).Nodup := by
  obtain ⟨t, h1, h2, _⟩ := h
  have := h2.nodup
  rw [keys_encE] at this
  rw [← h1, List.map_map]; exact this
theorem snocNG {β : Type} {p : List (Int × β)} {k : Int} {u : β} (h : (p.map Prod.fst).Nodup) (hk : k ∉ p.map Prod.fst) : ((p ++ [(k, u)]).map Prod.fst).Nodup := by
  rw [List.map_append]
  exact List.nodup_append.2 ⟨h, by simp, fun a ha b hb => by simp at hb; subst hb; intro e; subst e; exact hk ha⟩
theorem snocSG {β : Type} {p m : List (Int × β)} {k : Int} {u : β} (h : ∀ z ∈ p, z ∈ m) (hk : (k, u) ∈ m) : ∀ z ∈ p ++ [(k, u)], z ∈ m := by
  intro z hz; rcases List.mem_append.1 hz with e | e
  · exact h z e
  · simp at e; rw [e]; exact hk
section
variable {r : Option Nat} {P : Program} {Q : Exit → Act → World → Prop} {a : Act} {w : World}
  {n : Nat} {ds : List Deferred} {l : List (Nat × Value)} {ty t : TypeId} {pos : String} {af : Array Edge} {gd : Option (Nat × Bool)} {x y : Operand}
  {next : Act → World → Prop} {M : Hp} {H : List HProp}
/-- a field of a struct's block -/
theorem cell_blkf {b f : Nat} {cs : Array Value} {v : Value} {e : TypeId} {fr : Nat × Nat} (S : w.heap[b]? = some (.cells cs e fr)) (hv : cs[f]? = some v) : w.cell? ⟨b, f, none⟩ = some v := by simp [World.cell?, S, hv]
/-- a field of an owned struct's block is stored -/
theorem X_storeB {b f : Nat} {cs : Array Value} {u : Value} {e : TypeId} (E : Env a n ds l) (S : St w M (blk b (.cells cs e) :: H)) (hx : opv l x = some (.pointer (some ⟨b, f, none⟩))) (hy : opv l y = some u)
    (hs : (sizeOf t).run P w = .ok 1 w) (h1 : u.oneCell' = true) (hf : Nat.blt f cs.size = true)
    (kk : ∀ a w', Env a n ds l → St w' M (blk b (.cells (cs.setIfInBounds f u) e) :: H) → next a w') : (⟨none, .store t x y, ty, pos, af, gd⟩ : Oper).wpIn (Fw r) 0 P a w next Q := by
  have hg := S.get
  have hf : f < cs.size := by simpa using hf
  have hc : w.cell? ⟨b, f, none⟩ = some cs[f] := by simp [World.cell?, hg, hf]
  have hfz : w.frozen? ⟨b, f, none⟩ = false := by simp [World.frozen?, hg]
  have hcells : u.cells = #[u] := by cases u <;> first | rfl | (simp [Value.oneCell'] at h1)
  refine X_skip (w' := w.setCell ⟨b, f, none⟩ u) E rfl ?_ fun a E => kk a _ E ?_
  · simp [execOp, E.eval hx, E.eval hy, Instr.storeAt, Instr.sureAddr, storeVar, hs, hcells, storeCells, run_store P _ _ _ _ h1, Addr.add, hc, hfz]
  · refine S.set ?_ fun c hc x hx => ?_
    · simp only [World.setCell]; rw [Array.getElem?_modify, if_pos rfl, hg]; rfl
    · simp only [World.setCell]; rw [Array.getElem?_modify, if_neg (Ne.symm hc)]; exact hx
end
theorem ml_len {t : MLE} {q : List (Int × List Int)} {N : Nat} (h : t.map (fun x => (x.1, x.2.2)) = q) (hb : ∀ x ∈ q, x.2.length ≤ N) {k : Int} {u : Value × List Int} (hk : (k, u) ∈ t) : u.2.length ≤ N :=
  hb (k, u.2) (h ▸ List.mem_map.2 ⟨(k, u), hk, rfl⟩)
section
variable {r : Option Nat} {P : Program} {Q : Exit → Act → World → Prop} {a : Act} {w : World}
  {n : Nat} {ds : List Deferred} {l : List (Nat × Value)} {d : Nat} {ty t el : TypeId} {pos : String} {af : Array Edge} {gd : Option (Nat × Bool)} {x y : Operand}
  {next : Act → World → Prop} {M : Hp} {H : List HProp} {v : Value} {by_ : Nat} {zv : Value}
end
/-! ### functions that panic, and a function that recovers -/
section
variable {P : Program}
/-- a call that panics with a value held as an interface -/
def CallP (P : Program) (fv : Value) (args : List Value) (w : World) (R : Value → World → Prop) : Prop :=
  ∀ (r : Option Nat) (o : Oper) (c : Call) (f : Operand) (a : Act) (next : Act → World → Prop) (Q : Exit → Act → World → Prop), o.op = .call c → c.callee = .value f → a.eval f = fv →
    c.args.toList.map a.eval = args → (∀ t u w', R (.iface t u) w' → Q (.panic [{ v := .iface t u, recovered := false }]) a w') → o.wpIn (Fw r) 0 P a w next Q
def PEnd (R : Value → World → Prop) : Ending → World → Prop := fun e w' => ∃ t u, e = .panicked [{ v := .iface t u, recovered := false }] ∧ R (.iface t u) w'
theorem CallP.func {g : FuncId} {first cap : Array Value} {args : List Value} {w : World} {R : Value → World → Prop}
    (hc : ∀ args w, (callFunc g args).run P w = .ok (.enter g args) w)
    (h : Calls P g (first.toList ++ args ++ cap.toList).toArray w (PEnd R)) : CallP P (.func (.func g) first cap) args w R := by
  intro r o c f a next Q h1 h2 h3 h4 h5
  refine ⟨fun _ _ => trivial, ?_⟩
  rw [semAt_nodefer (by rw [h1]; rfl)]
  have e4 : c.args.map a.eval = args.toArray := by rw [← h4, ← Array.toList_map, Array.toArray_toList]
  have : (execOp a.eval o).run P w = .ok (.enter g (first ++ args.toArray ++ cap)) w := by
    simp only [execOp, h1, resolve, h2, h3, e4, Deferred.ofValue]
    simp [invoke, hc]
  rw [this]
  refine ⟨fun h => by simp [Fw_depth] at h, ?_⟩
  rw [callsIn_Fw, show first ++ args.toArray ++ cap = (first.toList ++ args ++ cap.toList).toArray by simp]
  exact h.mono fun e w' ⟨t, u, he, hR⟩ => by subst he; exact h5 t u w' hR
/-- from the frozen memory M on: a call panics; what is owned stays -/
def PuP (P : Program) (fv : Value) (M : Hp) (args : List Value) : Prop :=
  ∀ w M1 H, Hp.le M M1 → St w M1 H → CallP P fv args w (fun _ w' => ∃ M2, Hp.le M1 M2 ∧ St w' M2 H)
theorem PuP.le {fv : Value} {M M' : Hp} {args : List Value} (h : PuP P fv M args) (hM : Hp.le M M') : PuP P fv M' args := fun w M1 H h1 => h w M1 H (hM.trans h1)
/-- a function without arguments that panics -/
def PF0P (P : Program) (fv : Value) (M : Hp) : Prop := fv.oneCell' = true ∧ PuP P fv M []
theorem PF0P.le {fv : Value} {M M' : Hp} (h : PF0P P fv M) (hM : Hp.le M M') : PF0P P fv M' := ⟨h.1, h.2.le hM⟩
variable {Q : Exit → Act → World → Prop} {a : Act} {w : World} {n : Nat} {ds : List Deferred} {l : List (Nat × Value)} {fn : Func} {R : Ending → World → Prop} {M : Hp} {H : List HProp} {next : Act → World → Prop} {r : Option Nat}
end
section
variable {P : Program} {a : Act} {w : World} {n : Nat} {ds : List Deferred} {l : List (Nat × Value)} {d : Nat} {ty t t' el : TypeId} {pos : String} {af : Array Edge} {gd : Option (Nat × Bool)} {x y : Operand} {v : Value} {l' : List Int}
end
/-! floats: the ceiling of a quotient of small whole numbers is a small whole number -/
section
open Ieee
end
section
variable {P : Program} {a : Act} {w : World} {n : Nat} {ds : List Deferred} {l : List (Nat × Value)} {d : Nat} {ty t t' : TypeId} {pos : String} {af : Array Edge} {gd : Option (Nat × Bool)} {x y : Operand} {κ : IntKind} {i : Int}
end
/-! texts: values .string (bs l) with l a list of bytes -/
def bs (l : List UInt8) : ByteArray := ⟨l.toArray⟩
def RTx : Hp → List Value → List UInt8 → Prop := fun _ cs x => cs = [.string (bs x)]
theorem RdTx.at {M : Hp} {v : Value} {l : List (List UInt8)} {k : Nat} {e : List UInt8} (h : RdS 1 RTx M v l) (he : l[k]? = some e) : ∃ p, IdxPtr v k 1 p ∧ cellM M p = some (.string (bs e)) := by
  obtain ⟨p, cs, h1, h2, h3, h4⟩ := RdS.at h he
  have h5 : cs = [.string (bs e)] := h3
  subst h5
  exact ⟨p, h1, h4 0 _ rfl⟩
section
variable {P : Program} {a : Act} {w : World} {n : Nat} {ds : List Deferred} {l : List (Nat × Value)} {d : Nat} {ty t t' : TypeId} {pos : String} {af : Array Edge} {gd : Option (Nat × Bool)} {x y z : Operand} {κ κ' : IntKind} {s s' : List UInt8} {i j : Int} {lo up : Nat}
end
section
variable {r : Option Nat} {P : Program} {Q : Exit → Act → World → Prop} {a : Act} {w : World}
  {n : Nat} {ds : List Deferred} {l : List (Nat × Value)} {d : Nat} {ty t : TypeId} {pos : String} {af : Array Edge} {gd : Option (Nat × Bool)} {x : Operand}
  {next : Act → World → Prop} {M : Hp} {H : List HProp} {s : List UInt8}
end
/-! calls of methods of interface values -/
section
variable {P : Program} {a : Act} {w : World} {n : Nat} {ds : List Deferred} {l : List (Nat × Value)} {d : Nat} {ty : TypeId} {pos : String} {af : Array Edge} {gd : Option (Nat × Bool)} {x y : Operand} {M : Hp} {H : List HProp} {r : Option Nat} {next : Act → World → Prop} {Q : Exit → Act → World → Prop}
/-- the method called NAME of an interface value goes to g, which takes rv first -/
def MethV (P : Program) (iv : Value) (name : String) (g : FuncId) (rv : Value) (w : World) : Prop :=
  ∀ args : Array Value, (callMethod iv name args).run P w = .ok (.enter g (#[rv] ++ args)) w
theorem X_callI {ats : Array TypeId} {f : Operand} {aa : Array Operand} {iv rv : Value} {g : FuncId} {nm : String} {args : List Value} {R : Value → World → Prop}
  (E : Env a n ds l) (hd : Nat.blt d n = true) (hf : opv l f = some iv) (ha : opvs l aa.toList = some args) (hm : MethV P iv nm g rv w) (hg : ∀ args w, (callFunc g args).run P w = .ok (.enter g args) w)
  (C : CallV P (.func (.func g) #[] #[]) (rv :: args) w R)
  (k : ∀ a v w', R v w' → Env a n ds ((d, v) :: l) → next a w') : (⟨some d, .call ⟨.invoke f nm, aa, ats⟩, ty, pos, af, gd⟩ : Oper).wpIn (Fw r) 0 P a w next Q := by
  have h := C r ⟨some d, .call ⟨.value (.const (.func (.func g) #[] #[])), ((rv :: args).map Operand.const).toArray, ats⟩, ty, pos, af, gd⟩ _ (.const (.func (.func g) #[] #[])) a next Q rfl rfl rfl
    (by simp [List.map_map, Function.comp_def, Act.eval]) (fun v w' hR => k _ v w' hR (E.put (by simpa using hd) v))
  refine ⟨fun _ _ => trivial, ?_⟩
  have h2 := h.2
  rw [semAt_nodefer (by rfl)] at h2 ⊢
  have e1 : (execOp a.eval ⟨some d, .call ⟨.value (.const (.func (.func g) #[] #[])), ((rv :: args).map Operand.const).toArray, ats⟩, ty, pos, af, gd⟩).run P w = .ok (.enter g (#[rv] ++ args.toArray)) w := by
    simp [execOp, resolve, Act.eval, Deferred.ofValue, invoke, hg, Function.comp_def]
  have e2 : (execOp a.eval ⟨some d, .call ⟨.invoke f nm, aa, ats⟩, ty, pos, af, gd⟩).run P w = .ok (.enter g (#[rv] ++ args.toArray)) w := by
    have e4 : aa.map a.eval = args.toArray := by rw [← E.evals ha, ← Array.toList_map, Array.toArray_toList]
    have h3 := hm args.toArray
    simp only [execOp, resolve, E.eval hf, e4]
    simp [invoke, h3]
  rw [e1] at h2
  rw [e2]
  exact h2
theorem X_puI {ats : Array TypeId} {f : Operand} {aa : Array Operand} {iv rv : Value} {g : FuncId} {nm : String} {args : List Value} {q : Value → Hp → Prop} {M0 : Hp}
  (E : Env a n ds l) (S : St w M H) (hd : Nat.blt d n = true) (hf : opv l f = some iv) (ha : opvs l aa.toList = some args) (hm : MethV P iv nm g rv w) (hg : ∀ args w, (callFunc g args).run P w = .ok (.enter g args) w)
  (C : Pu P (.func (.func g) #[] #[]) M0 (rv :: args) q) (hM : Hp.le M0 M)
  (k : ∀ a v w' M', Hp.le M M' → q v M' → St w' M' H → Env a n ds ((d, v) :: l) → next a w') : (⟨some d, .call ⟨.invoke f nm, aa, ats⟩, ty, pos, af, gd⟩ : Oper).wpIn (Fw r) 0 P a w next Q :=
  X_callI E hd hf ha hm hg (C w M H hM S) fun a v w' ⟨M', h1, h2, h3⟩ E => k a v w' M' h1 h2 h3 E
theorem X_spI {ats : Array TypeId} {f : Operand} {aa : Array Operand} {iv rv : Value} {g : FuncId} {nm : String} {args : List Value} {p : List HProp} {q : Value → Hp → List HProp → Prop} {M0 : Hp}
  (E : Env a n ds l) (S : St w M (p ++ H)) (hd : Nat.blt d n = true) (hf : opv l f = some iv) (ha : opvs l aa.toList = some args) (hm : MethV P iv nm g rv w) (hg : ∀ args w, (callFunc g args).run P w = .ok (.enter g args) w)
  (C : Sp P (.func (.func g) #[] #[]) M0 (rv :: args) p q) (hM : Hp.le M0 M)
  (k : ∀ a v w' M' C, Hp.le M M' → q v M' C → St w' M' (C ++ H) → Env a n ds ((d, v) :: l) → next a w') : (⟨some d, .call ⟨.invoke f nm, aa, ats⟩, ty, pos, af, gd⟩ : Oper).wpIn (Fw r) 0 P a w next Q :=
  X_callI E hd hf ha hm hg (C w M H hM S) fun a v w' ⟨M', C', h1, h2, h3⟩ E => k a v w' M' C' h1 h2 h3 E
/-- an interface value of a concrete type, asked for that type -/
theorem R_assert {T T' : TypeId} {v : Value} {u : TypeDesc} (E : Env a n ds l) (hx : opv l x = some (.iface T v)) (hu : P.underlying T = some u) (hi : ∀ z, u ≠ .interface z) :
    (execOp a.eval ⟨some d, .typeAssert x T' T false, ty, pos, af, gd⟩).run P w = .ok (.value v) w := by
  cases u <;> first | (exact absurd rfl (hi _)) | (simp [execOp, E.eval hx, Instr.typeAssert, run_underlying hu])
theorem R_ifaceP {T : TypeId} {v : Value} {e : TypeId} (E : Env a n ds l) (hx : opv l x = some v) (hu : P.underlying T = some (.pointer e)) :
    (execOp a.eval ⟨some d, .makeInterface T x, ty, pos, af, gd⟩).run P w = .ok (.value (.iface T v)) w := by
  simp [execOp, E.eval hx, Instr.makeInterface, run_underlying hu]
end
/-! sets behind pointers: a pointer to a cell that holds a map with the keys q; c: a list with the same members -/
def RdSU (T : TypeId) (M : Hp) (v : Value) (c : List Int) : Prop := ∃ b m q, v = .pointer (some ⟨b, 0, none⟩) ∧ M b = some (.cells #[m] T) ∧ RdM M m (Sl.encS q) ∧ q.Nodup ∧ ∀ x, x ∈ q ↔ x ∈ c
theorem RdSU.le {T : TypeId} {M M' : Hp} {v : Value} {c : List Int} (h : RdSU T M v c) (hM : Hp.le M M') : RdSU T M' v c := by
  obtain ⟨b, m, q, e, hb, hm, hn, hq⟩ := h
  exact ⟨b, m, q, e, hM.2 _ _ hb, hm.le hM, hn, hq⟩
theorem RdSU.eq {T : TypeId} {M : Hp} {v : Value} {c c' : List Int} (h : RdSU T M v c) (e : ∀ x, x ∈ c ↔ x ∈ c') : RdSU T M v c' := by
  obtain ⟨b, m, q, e1, hb, hm, hn, hq⟩ := h
  exact ⟨b, m, q, e1, hb, hm, hn, fun x => (hq x).trans (e x)⟩
def addsL (s p : List Int) : List Int := p.foldl addS s
theorem addsL_snoc (s p : List Int) (x : Int) : addsL s (p ++ [x]) = addS (addsL s p) x := by simp [addsL]
theorem mem_addsL : ∀ (p s : List Int) (x : Int), x ∈ addsL s p ↔ x ∈ s ∨ x ∈ p
  | [], s, x => by simp [addsL]
  | y :: p, s, x => by
    show x ∈ addsL (addS s y) p ↔ _
    rw [mem_addsL p (addS s y) x, mem_addS, List.mem_cons]
    constructor
    · rintro ((h | h) | h)
      · exact .inl h
      · exact .inr (.inl h)
      · exact .inr (.inr h)
    · rintro (h | h | h)
      · exact .inl (.inl h)
      · exact .inl (.inr h)
      · exact .inr h
theorem addsL_nodup : ∀ (p s : List Int), s.Nodup → (addsL s p).Nodup
  | [], _, h => h
  | y :: p, s, h => addsL_nodup p (addS s y) (addS_nodup h y)
section
variable {P : Program} {a : Act} {w : World} {n : Nat} {ds : List Deferred} {l : List (Nat × Value)} {d : Nat} {ty : TypeId} {pos : String} {af : Array Edge} {gd : Option (Nat × Bool)} {x : Operand}
theorem R_nilCheck {ad : Addr} {v : Value} (E : Env a n ds l) (hx : opv l x = some v) (e : v = .pointer (some ad)) :
    (execOp a.eval ⟨some d, .nilCheck x, ty, pos, af, gd⟩).run P w = .ok (.value v) w := by
  subst e
  simp [execOp, E.eval hx]
end
def card (c : List Int) : Nat := (addsL [] c).length
theorem card_eq {q c : List Int} (hn : q.Nodup) (h : ∀ x, x ∈ q ↔ x ∈ c) : q.length = card c := by
  have h2 := addsL_nodup c [] (by simp)
  have h3 : ∀ x, x ∈ addsL [] c ↔ x ∈ c := fun x => by simp [mem_addsL]
  exact Nat.le_antisymm (nodup_len hn fun z hz => (h3 z).2 ((h z).1 hz)) (nodup_len h2 fun z hz => (h z).2 ((h3 z).1 hz))
theorem card_le (c : List Int) : card c ≤ c.length := nodup_len (addsL_nodup c [] (by simp)) fun z hz => by simpa [mem_addsL] using hz
/-! sync.RWMutex as the first six cells of a block of seven -/
section
open Go.RwLone Go.Conc.Locks Go.MuLone
variable {P : Program} {L : RwLink}
theorem St.setF {w : World} {M : Hp} {H : List HProp} {b f : Nat} {cs : List Value} {T : TypeId} (u : Value) (S : St w M (blk b (.cells cs.toArray T) :: H)) (hf : f < cs.length) :
    St (w.setCell ⟨b, f, none⟩ u) M (blk b (.cells (cs.set f u).toArray T) :: H) := by
  have hg := S.get
  refine S.set (o' := .cells (cs.set f u).toArray T) ?_ ?_
  · simp only [World.setCell]; rw [Array.getElem?_modify, if_pos rfl, hg]; simp
  · intro c hc x hx
    simp only [World.setCell]; rw [Array.getElem?_modify, if_neg (Ne.symm hc)]; exact hx
def lkc (n : Int) (q : Value) : List Value := [.int .i32 0, .int .u32 0, .int .u32 0, .int .u32 0, .int .i32 n, .int .i32 0, q]
def lko (m n : Int) (q : Value) : List Value := [.int .i32 m, .int .u32 0, .int .u32 0, .int .u32 0, .int .i32 n, .int .i32 0, q]
/-- a lock of n readers beside q -/
def LK (p : Nat) (T : TypeId) (n : Int) (q : Value) : HProp := blk p (.cells (lkc n q).toArray T)
def LKw (p : Nat) (T : TypeId) (q : Value) : HProp := blk p (.cells (lko 1 (-1073741824) q).toArray T)
theorem cellL {w : World} {M : Hp} {H : List HProp} {p f : Nat} {T : TypeId} {cs : List Value} {v : Value} (S : St w M (blk p (.cells cs.toArray T) :: H)) (h : cs[f]? = some v) : w.cell? ⟨p, f, none⟩ = some v := by
  have hg := S.get
  simp [World.cell?, hg, h]
theorem frzL {w : World} {M : Hp} {H : List HProp} {p f : Nat} {T : TypeId} {cs : List Value} (S : St w M (blk p (.cells cs.toArray T) :: H)) : w.frozen? ⟨p, f, none⟩ = false := by
  have hg := S.get
  simp [World.frozen?, hg]
theorem rlock_sp (R : RwRLib P L) {M : Hp} {p : Nat} {T : TypeId} {n : Int} {q : Value} (h0 : 0 ≤ n) (h1 : n ≤ 1000) :
    Sp P (.func (.func L.rlock) #[] #[]) M [.pointer (some ⟨p, 0, none⟩)] [LK p T n q] (fun v M' C' => v = .tuple #[] ∧ C' = [LK p T (n + 1) q]) := by
  intro w M1 H hM S
  have S1 : St w M1 (blk p (.cells (lkc n q).toArray T) :: H) := S
  have hw : Go.RowKit.wrap32 (n + 1) = n + 1 := by simp [Go.RowKit.wrap32]; omega
  refine CallV.func (fun args w => run_callFunc_enter R.f_rlock (by kernel_rfl) rfl args w) ?_
  refine (rlock_open R p 0 n (.int .i32 0) (.int .u32 0) w (cellL S1 rfl) (cellL S1 rfl) (cellL S1 rfl) (frzL S1) (by rw [hw]; omega)).mono ?_
  rintro e w' ⟨rfl, rfl⟩
  refine ⟨_, rfl, M1, _, Hp.le.refl _, ⟨rfl, rfl⟩, ?_⟩
  rw [hw]
  exact St.setF (f := 4) (.int .i32 (n + 1)) S1 (by simp [lkc, lko])
theorem runlock_sp (R : RwRLib P L) {M : Hp} {p : Nat} {T : TypeId} {n : Int} {q : Value} (h0 : 0 ≤ n) (h1 : n ≤ 1000) :
    Sp P (.func (.func L.runlock) #[] #[]) M [.pointer (some ⟨p, 0, none⟩)] [LK p T (n + 1) q] (fun v M' C' => v = .tuple #[] ∧ C' = [LK p T n q]) := by
  intro w M1 H hM S
  have S1 : St w M1 (blk p (.cells (lkc (n + 1) q).toArray T) :: H) := S
  have hw : Go.RowKit.wrap32 (n + 1 + -1) = n := by simp [Go.RowKit.wrap32]; omega
  refine CallV.func (fun args w => run_callFunc_enter R.f_runlock (by kernel_rfl) rfl args w) ?_
  refine (runlock_held R p 0 (n + 1) (.int .i32 0) (.int .u32 0) w (cellL S1 rfl) (cellL S1 rfl) (cellL S1 rfl) (frzL S1) (by rw [hw]; omega)).mono ?_
  rintro e w' ⟨rfl, rfl⟩
  refine ⟨_, rfl, M1, _, Hp.le.refl _, ⟨rfl, rfl⟩, ?_⟩
  rw [hw]
  exact St.setF (f := 4) (.int .i32 n) S1 (by simp [lkc, lko])
theorem wlock_sp (R : RwWLib P L) {M : Hp} {p : Nat} {T : TypeId} {q : Value} :
    Sp P (.func (.func L.wlock) #[] #[]) M [.pointer (some ⟨p, 0, none⟩)] [LK p T 0 q] (fun v M' C' => v = .tuple #[] ∧ C' = [LKw p T q]) := by
  intro w M1 H hM S
  have S1 : St w M1 (blk p (.cells (lkc 0 q).toArray T) :: H) := S
  refine CallV.func (fun args w => run_callFunc_enter R.f_wlock (by kernel_rfl) rfl args w) ?_
  refine (wlock_free R p 0 (.int .u32 0) (.int .u32 0) w (cellL S1 rfl) (cellL S1 rfl) (cellL S1 rfl) (cellL S1 rfl) (frzL S1) (frzL S1)).mono ?_
  rintro e w' ⟨rfl, rfl⟩
  refine ⟨_, rfl, M1, _, Hp.le.refl _, ⟨rfl, rfl⟩, ?_⟩
  exact St.setF (f := 4) (.int .i32 (-1073741824)) (St.setF (f := 0) (.int .i32 1) S1 (by simp [lkc, lko])) (by simp [lkc, lko])
theorem wunlock_sp (R : RwWLib P L) {M : Hp} {p : Nat} {T : TypeId} {q : Value} :
    Sp P (.func (.func L.wunlock) #[] #[]) M [.pointer (some ⟨p, 0, none⟩)] [LKw p T q] (fun v M' C' => v = .tuple #[] ∧ C' = [LK p T 0 q]) := by
  intro w M1 H hM S
  have S1 : St w M1 (blk p (.cells (lko 1 (-1073741824) q).toArray T) :: H) := S
  refine CallV.func (fun args w => run_callFunc_enter R.f_wunlock (by kernel_rfl) rfl args w) ?_
  refine (wunlock_held R p 0 (.int .u32 0) (.int .u32 0) w (cellL S1 rfl) (cellL S1 rfl) (cellL S1 rfl) (cellL S1 rfl) (frzL S1) (frzL S1)).mono ?_
  rintro e w' ⟨rfl, rfl⟩
  refine ⟨_, rfl, M1, _, Hp.le.refl _, ⟨rfl, rfl⟩, ?_⟩
  exact St.setF (f := 0) (.int .i32 0) (St.setF (f := 4) (.int .i32 0) S1 (by simp [lkc, lko])) (by simp [lkc, lko])
end
def sub' (a b : List Int) : Bool := a.all (fun z => decide (z ∈ b))
theorem sub_iff {a b : List Int} : sub' a b = true ↔ ∀ z ∈ a, z ∈ b := by unfold sub'; rw [List.all_eq_true]; simp
theorem sub_t {q p a b : List Int} (hp : p.Perm q) (hq : ∀ x, x ∈ q ↔ x ∈ a) (h : ∀ z ∈ p, z ∈ b) : sub' a b = true :=
  sub_iff.2 fun z hz => h z (hp.mem_iff.2 ((hq z).2 hz))
theorem sub_f {q a b : List Int} {k : Int} (hk : k ∈ q) (hq : ∀ x, x ∈ q ↔ x ∈ a) (h : k ∉ b) : sub' a b = false := by
  cases e : sub' a b
  · rfl
  · exact absurd (sub_iff.1 e k ((hq k).1 hk)) h
theorem card_sub {a b : List Int} (h : sub' a b = true) : card a ≤ card b := by
  have mA : ∀ c : List Int, ∀ x, x ∈ addsL [] c ↔ x ∈ c := fun c x => by simp [mem_addsL]
  exact nodup_len (addsL_nodup a [] List.nodup_nil) fun z hz => (mA b z).2 (sub_iff.1 h z ((mA a z).1 hz))
theorem sub_card {a b : List Int} (h : card b < card a) : sub' a b = false := by
  cases e : sub' a b
  · rfl
  · have := card_sub e; omega
theorem sub_back {a b : List Int} (h : sub' a b = true) (hc : card a = card b) : sub' b a = true := by
  have mA : ∀ c : List Int, ∀ x, x ∈ addsL [] c ↔ x ∈ c := fun c x => by simp [mem_addsL]
  refine sub_iff.2 fun z hz => ?_
  by_cases hn : z ∈ a
  · exact hn
  · exfalso
    have hA := addsL_nodup a [] List.nodup_nil
    have h2 : (z :: addsL [] a).length ≤ (addsL [] b).length := nodup_len (List.nodup_cons.2 ⟨fun h => hn ((mA a z).1 h), hA⟩) fun y hy => by
      rcases List.mem_cons.1 hy with e | e
      · rw [e]; exact (mA b z).2 hz
      · exact (mA b y).2 (sub_iff.1 h y ((mA a y).1 e))
    rw [List.length_cons] at h2
    unfold card at hc; omega
def any' (a b : List Int) : Bool := a.any (fun z => decide (z ∈ b))
theorem any_t {q a b : List Int} {k : Int} (hk : k ∈ q) (hq : ∀ x, x ∈ q ↔ x ∈ a) (h : k ∈ b) : any' a b = true := by
  unfold any'; rw [List.any_eq_true]; exact ⟨k, (hq k).1 hk, decide_eq_true h⟩
theorem any_f {q p a b : List Int} (hp : p.Perm q) (hq : ∀ x, x ∈ q ↔ x ∈ a) (h : ∀ z ∈ p, z ∉ b) : any' a b = false := by
  cases e : any' a b
  · rfl
  · unfold any' at e; rw [List.any_eq_true] at e
    obtain ⟨z, h1, h2⟩ := e
    exact absurd (of_decide_eq_true h2) (h z (hp.mem_iff.2 ((hq z).2 h1)))
theorem any_comm (a b : List Int) : any' a b = any' b a := by
  have h : ∀ a b : List Int, any' a b = true → any' b a = true := fun a b e => by
    unfold any' at e ⊢; rw [List.any_eq_true] at e ⊢
    obtain ⟨z, h1, h2⟩ := e
    exact ⟨z, of_decide_eq_true h2, decide_eq_true h1⟩
  cases e : any' a b
  · cases e2 : any' b a
    · rfl
    · rw [h b a e2] at e; exact e.symm
  · exact (h a b e).symm
theorem snocP {Q : Int → Prop} {p : List Int} {k : Int} (h : ∀ z ∈ p, Q z) (hk : Q k) : ∀ z ∈ p ++ [k], Q z := by
  intro z hz
  rcases List.mem_append.1 hz with h9 | h9
  · exact h z h9
  · rw [List.mem_singleton.1 h9]; exact hk
theorem S_deferA {P : Program} {a : Act} {w : World} {n : Nat} {ds : List Deferred} {l : List (Nat × Value)} {ops : Array Oper} {Q : Exit → Act → World → Prop} {rest : List Oper} {f : Operand} {aa : Array Operand} {args : List Value} {ats : Array TypeId} {ty : TypeId} {pos : String} {af : Array Edge} {g : Fn} {cap : Array Value} (E : Env a n ds l) (hx : opv l f = some (.func g #[] cap)) (ha : opvs l aa.toList = some args)
    (k : ∀ a, Env a n (⟨.fn g cap, args.toArray⟩ :: ds) l → WL none P ops Q rest a w) : WL none P ops Q (⟨none, .defer ⟨.value f, aa, ats⟩, ty, pos, af, none⟩ :: rest) a w := by
  refine WL_op rfl ⟨fun _ _ => trivial, ?_⟩
  have e4 : aa.map a.eval = args.toArray := by rw [← E.evals ha, ← Array.toList_map, Array.toArray_toList]
  have hr : (execOp a.eval ⟨none, .defer ⟨.value f, aa, ats⟩, ty, pos, af, none⟩).run P w = .ok (.defer ⟨.fn g cap, args.toArray⟩) w := by
    simp [execOp, resolve, E.eval hx, Deferred.ofValue, e4]
  rw [show (Fw none).round = none from rfl, Oper.semAt_none]
  rw [hr]
  refine k _ ⟨E.size, ?_, E.get⟩
  show (⟨.fn g cap, args.toArray⟩ :: a.defers : List Deferred) = _
  rw [E.dfr]
/-! deferred unlocks of a sync.RWMutex: the bodies walked once more, inside the fence that the engine asks for -/
section
open Go.RwLone Go.Conc.Locks
variable {P : Program} {L : RwLink}
theorem run_enterF {f : FuncId} {fn : Func} {c : Code} (hf : P.funcs[f]? = some fn) (hname : (fn.name == "runtime.NumGoroutine") = false) (hb : fn.body = some c) (args : Array Value) (w : World) : (callFunc f args).run P w = .ok (.enter f args) w :=
  Go.MuLone.run_callFunc_enter hf hname hb args w
set_option maxRecDepth 100000 in
set_option maxHeartbeats 3200000 in
theorem runlock_din (R : RwRLib P L) {w : World} {p : Nat} {rc : Int} {x0 x2 : Value} (c0 : w.cell? ⟨p, 0, none⟩ = some x0) (c2 : w.cell? ⟨p, 2, none⟩ = some x2)
    (hc : w.cell? ⟨p, 4, none⟩ = some (.int .i32 rc)) (hz : w.frozen? ⟨p, 4, none⟩ = false) (hge : ¬ Go.RowKit.wrap32 (rc + -1) < 0) :
    CallsDIn (Fw none) 0 P L.runlock #[.pointer (some ⟨p, 0, none⟩)] .returning w (fun e u' w' => u' = .returning ∧ (e = .returned (.tuple #[]) ∧ w' = w.setCell ⟨p, 4, none⟩ (.int .i32 (Go.RowKit.wrap32 (rc + -1))))) := by
  have C := R.core
  have b1 := disable C; have b2 := enable C; have b3 := raceRead C; have b4 := releaseMerge C
  have d1 := C.runUnderlying_tRW; have d2 := C.sizeOf_tRW; have d3 := C.isAgg_tRW; have d4 := C.zeroValue_tRW
  have e1 := C.runUnderlying_tAI32; have e2 := C.sizeOf_tAI32; have e3 := C.isAgg_tAI32; have e4 := C.zeroValue_tAI32
  have f1 := C.runUnderlying_tPRW; have f2 := C.sizeOf_tPRW; have f3 := C.isAgg_tPRW; have f4 := C.zeroValue_tPRW
  have g1 := C.runUnderlying_tPAI32; have g2 := C.sizeOf_tPAI32; have g3 := C.isAgg_tPAI32; have g4 := C.zeroValue_tPAI32
  have i1 := C.runUnderlying_tPU32; have i2 := C.sizeOf_tPU32; have i3 := C.isAgg_tPU32; have i4 := C.zeroValue_tPU32
  have j1 := C.runUnderlying_tANoCopy; have j2 := C.sizeOf_tANoCopy; have j3 := C.isAgg_tANoCopy; have j4 := C.zeroValue_tANoCopy
  have k1 := C.runUnderlying_tU32; have k2 := C.sizeOf_tU32; have k3 := C.isAgg_tU32; have k4 := C.zeroValue_tU32
  have l1 := C.runUnderlying_tMutex; have l2 := C.sizeOf_tMutex; have l3 := C.isAgg_tMutex; have l4 := C.zeroValue_tMutex
  have m1 := C.runUnderlying_tPMutex; have m2 := C.sizeOf_tPMutex; have m3 := C.isAgg_tPMutex; have m4 := C.zeroValue_tPMutex
  have n1 := C.runUnderlying_tPI32; have n2 := C.sizeOf_tPI32; have n3 := C.isAgg_tPI32; have n4 := C.zeroValue_tPI32
  have o1 := C.runUnderlying_tUP; have o2 := C.sizeOf_tUP; have o3 := C.isAgg_tUP; have o4 := C.zeroValue_tUP
  have q1 := C.runUnderlying_t21; have q2 := C.sizeOf_t21; have q3 := C.isAgg_t21; have q4 := C.zeroValue_t21
  have v0 := run_convert_to_unsafe (P := P) (src := L.tPMutex) (dst := L.tUP) C.underlying_tPMutex C.underlying_tUP C.room_tMutex c0
  have v2 := run_convert_to_unsafe (P := P) (src := L.tPU32) (dst := L.tUP) C.underlying_tPU32 C.underlying_tUP C.room_tU32 c2
  have hin := fun args w => run_enterF (P := P) C.f_i32add (by kernel_rfl) rfl args w
  refine callsDIn_of_wp R.f_runlock rfl trivial ?_
  show Code.wpIn Fence.wide 0 P _ _ _ _
  rw [wpIn_wide]
  simp only [nt_runlock L, List.size_toArray, List.length_cons, List.length_nil, Nat.reduceAdd, Nat.reduceSub, Array.replicate_succ,
     Array.replicate_zero, List.push_toArray, List.append_toArray, List.nil_append, List.cons_append]
  simp only [runlockFn]
  go_wp2
  refine (i32add_any C ⟨p, 4, none⟩ rc (-1) _ hc hz).mono ?_
  rintro e w' ⟨rfl, rfl⟩
  go_wp2
  go_end0
  exact ⟨rfl, rfl⟩
theorem LV_nil {fn : Func} {tmps : Array Value} {R : Ending → World → Prop} {w : World} {v : Value} (h : (results fn tmps).run P w = .ok v w) (hR : R (.returned v) w) : LeavesInM (Fw none) 0 P fn tmps R [] .returning w := ⟨v, h, hR⟩
theorem LV_runlock (K : RwRLib P L) {fn : Func} {tmps : Array Value} {R : Ending → World → Prop} {ds : List Deferred} {w : World} {M : Hp} {H : List HProp} {p : Nat} {T : TypeId} {n : Int} {q : Value} (h0 : 0 ≤ n) (h1 : n ≤ 1000) (S : St w M (LK p T (n + 1) q :: H))
    (k : ∀ w', St w' M (LK p T n q :: H) → LeavesInM (Fw none) 0 P fn tmps R ds .returning w') : LeavesInM (Fw none) 0 P fn tmps R (⟨.fn (.func L.runlock) #[], #[.pointer (some ⟨p, 0, none⟩)]⟩ :: ds) .returning w := by
  have S1 : St w M (blk p (.cells (lkc (n + 1) q).toArray T) :: H) := S
  have hw : Go.RowKit.wrap32 (n + 1 + -1) = n := by simp [Go.RowKit.wrap32]; omega
  have hc := run_enterF (P := P) K.f_runlock (by kernel_rfl) rfl
  refine ⟨by simp, .inr ⟨by simp [Fw, Fence.wide], .func L.runlock, #[], L.runlock, #[.pointer (some ⟨p, 0, none⟩)], rfl, by simp [invoke, hc], fun _ _ => trivial, (runlock_din K (cellL S1 rfl) (cellL S1 rfl) (cellL S1 rfl) (frzL S1) (by rw [hw]; omega)).mono ?_⟩⟩
  rintro _ _ _ ⟨rfl, rfl, rfl⟩
  refine k _ ?_
  rw [hw]
  exact St.setF (f := 4) (.int .i32 n) S1 (by simp [lkc, lko])
end
section
variable {P : Program} {a : Act} {w : World} {n : Nat} {ds : List Deferred} {l : List (Nat × Value)} {fn : Func} {R : Ending → World → Prop}
theorem F_retL0 (E : Env a n ds l) (h : fn.results = #[]) (k : (∀ w, (results fn a.tmps).run P w = .ok (.tuple #[]) w) → LeavesInM (Fw none) 0 P fn a.tmps R ds .returning w) : FPost P fn R .ret a w := by
  show LeavesInM _ _ _ _ _ _ a.defers .returning w
  rw [E.dfr]; exact k fun w => results_none h _ _ _
theorem F_retL1 {t : Tmp} {v : Value} (E : Env a n ds l) (h : fn.results = #[.tmp t]) (hv : Sl.look l t = some v) (k : (∀ w, (results fn a.tmps).run P w = .ok v w) → LeavesInM (Fw none) 0 P fn a.tmps R ds .returning w) : FPost P fn R .ret a w := by
  show LeavesInM _ _ _ _ _ _ a.defers .returning w
  rw [E.dfr]; exact k fun w => by rw [results_tmp h, E.getD' hv]
theorem F_retL2 {t t' : Tmp} {v v' : Value} (E : Env a n ds l) (h : fn.results = #[.tmp t, .tmp t']) (hv : Sl.look l t = some v) (hv' : Sl.look l t' = some v') (k : (∀ w, (results fn a.tmps).run P w = .ok (.tuple #[v, v']) w) → LeavesInM (Fw none) 0 P fn a.tmps R ds .returning w) : FPost P fn R .ret a w := by
  show LeavesInM _ _ _ _ _ _ a.defers .returning w
  rw [E.dfr]; exact k fun w => by rw [results_tmp2 h, E.getD' hv, E.getD' hv']
end
/-! maps that stand for sets, ranged over while they are emptied -/
section
variable {r : Option Nat} {P : Program} {Q : Exit → Act → World → Prop} {a : Act} {w : World}
  {n : Nat} {ds : List Deferred} {l : List (Nat × Value)} {d : Nat} {ty t kt et : TypeId} {pos : String} {af : Array Edge} {gd : Option (Nat × Bool)} {x y : Operand}
  {next : Act → World → Prop} {M : Hp} {H : List HProp} {zv : Value} {b i : Nat} {k : Int} {D : List Int} {cur : Option (Int × Value)}
theorem X_nextWS {q : List Int} (E : Env a n ds l) (S : St w M (ItW b i (Sl.encS q) D cur :: H)) (hd : Nat.blt d n = true) (hx : opv l x = some (.pointer (some ⟨i, 0, none⟩)))
    (k0 : ∀ a, Env a n ds ((d, .tuple #[.bool false]) :: l) → (∀ z ∈ q, z ∈ D) → St w M (OwnS b q :: H) → next a w)
    (k1 : ∀ a w' k, Env a n ds ((d, .tuple #[.bool true, .int .i64 k, .agg #[]]) :: l) → k ∈ q → k ∉ D → St w' M (ItW b i (Sl.encS q) (D ++ [k]) (some (k, .agg #[])) :: H) → next a w') :
    (⟨some d, .next x false, ty, pos, af, gd⟩ : Oper).wpIn (Fw r) 0 P a w next Q := by
  refine X_nextW E S hd hx (fun a E h S => k0 a E (fun z hz => h (z, .agg #[]) (List.mem_map_of_mem (f := fun x : Int => (x, Value.agg #[])) hz)) S) fun a w' k v E h1 h2 S => ?_
  obtain ⟨u, hu, e⟩ := List.mem_map.1 h1
  simp only [Prod.mk.injEq] at e
  obtain ⟨e1, e2⟩ := e
  subst e1; subst e2
  exact k1 a w' u E hu h2 S
theorem X_delete0WS {q : List Int} (E : Env a n ds l) (S : St w M (ItW b i (Sl.encS q) D cur :: H)) (T : MapT P t kt et zv) (hx : opv l x = some (.map (some b))) (hy : opv l y = some (.int .i64 k))
    (kk : ∀ a w', Env a n ds l → St w' M (ItW b i (Sl.encS (q.filter fun q_ => decide (q_ ≠ k))) D none :: H) → next a w') : (⟨none, .call ⟨.builtin .delete, #[x, y], #[t, kt]⟩, ty, pos, af, gd⟩ : Oper).wpIn (Fw r) 0 P a w next Q :=
  X_delete0W E S T hx hy fun a w' E S => kk a w' E (by rw [delK_encS] at S; exact S)
end
/-! a chunk lent out, for whatever is owned behind it -/
theorem lendH {w : World} {M : Hp} {H : List HProp} {p : HProp} (s : St w M (p :: H)) : ∃ M' g, Hp.le M M' ∧ (∀ b o, g b = some o → M' b = some o) ∧ p g ∧ St w M' H ∧ ∀ w' M2 H', Hp.le M' M2 → St w' M2 H' → ∃ M3, Hp.le M M3 ∧ St w' M3 (p :: H') := by
  obtain ⟨h, ⟨g, h2, d, rfl, hp, hH⟩, dM, aq, ag⟩ := s
  have ⟨dg, dh⟩ := Hp.disj_union_left.1 dM
  refine ⟨⟨Hp.union g M.mem, M.env⟩, g, ⟨rfl, fun b o e => Hp.le_union_right dg b o e⟩, fun b o e => Hp.le_union_left g M.mem b o e, hp, ⟨h2, hH, Hp.disj_union_right.2 ⟨d.symm, dh⟩, fun b o e => aq b o (Hp.le_union_right d b o e), ag.1, fun b o e => ?_⟩, ?_⟩
  · have e' : Hp.union g M.mem b = some o := e
    unfold Hp.union at e'
    cases hg : g b with
    | some o' => rw [hg] at e'; cases e'; exact aq b o (Hp.le_union_left g h2 b o hg)
    | none => rw [hg] at e'; exact ag.2 b o e'
  · rintro w' M2 H' hM ⟨h', hH', d', aq', ag'⟩
    have hgM : ∀ b o, g b = some o → M2 b = some o := fun b o e => hM.2 b o (Hp.le_union_left g M.mem b o e)
    have hMM : ∀ b o, M b = some o → M2 b = some o := fun b o e => hM.2 b o (Hp.le_union_right dg b o e)
    refine ⟨⟨M.mem, M2.env⟩, ⟨hM.1, fun b o e => e⟩, Hp.union g h', ⟨g, h', fun b => ?_, rfl, hp, hH'⟩, fun b => ?_, fun b o e => ?_, ag'.1, fun b o e => ag'.2 b o (hMM b o e)⟩
    · cases hg : g b with
      | none => exact .inl rfl
      | some o => rcases d' b with e | e
                  · exact .inr e
                  · have := hgM b o hg; exact absurd (this.symm.trans e) (by simp)
    · show Hp.union g h' b = none ∨ M.mem b = none
      rcases dg b with e | e
      · cases hM0 : M.mem b with
        | none => exact .inr rfl
        | some o => left; unfold Hp.union; rw [e]; rcases d' b with e2 | e2
                    · exact e2
                    · have := hMM b o hM0; exact absurd (this.symm.trans e2) (by simp)
      · exact .inr e
    · unfold Hp.union at e
      cases hg : g b with
      | some o' => rw [hg] at e; cases e; exact ag'.2 b o (hgM b o hg)
      | none => rw [hg] at e; exact aq' b o e
/-! calls of methods, whatever the interface value holds -/
def InvV (P : Program) (iv : Value) (nm : String) (args : List Value) (w : World) (R : Value → World → Prop) : Prop :=
  ∃ g rv, MethV P iv nm g rv w ∧ (∀ args w, (callFunc g args).run P w = .ok (.enter g args) w) ∧ CallV P (.func (.func g) #[] #[]) (rv :: args) w R
theorem InvV.mono {P : Program} {iv : Value} {nm : String} {args : List Value} {w : World} {R R' : Value → World → Prop} (h : InvV P iv nm args w R) (hr : ∀ v w', R v w' → R' v w') : InvV P iv nm args w R' := by
  obtain ⟨g, rv, h1, h2, h3⟩ := h
  exact ⟨g, rv, h1, h2, h3.mono hr⟩
/-- a call of the method NM of iv: with chunks p taken, and chunks handed back -/
def InvSp (P : Program) (iv : Value) (nm : String) (M : Hp) (args : List Value) (p : List HProp) (q : Value → Hp → List HProp → Prop) : Prop :=
  ∀ w M1 H, Hp.le M M1 → St w M1 (p ++ H) → InvV P iv nm args w (fun v w' => ∃ M2 C, Hp.le M1 M2 ∧ q v M2 C ∧ St w' M2 (C ++ H))
section
variable {P : Program} {a : Act} {w : World} {n : Nat} {ds : List Deferred} {l : List (Nat × Value)} {d : Nat} {ty : TypeId} {pos : String} {af : Array Edge} {gd : Option (Nat × Bool)} {M : Hp} {H : List HProp} {r : Option Nat} {next : Act → World → Prop} {Q : Exit → Act → World → Prop}
theorem X_inv {ats : Array TypeId} {f : Operand} {aa : Array Operand} {iv : Value} {nm : String} {args : List Value} {p : List HProp} {q : Value → Hp → List HProp → Prop} {M0 : Hp}
  (E : Env a n ds l) (S : St w M (p ++ H)) (hd : Nat.blt d n = true) (hf : opv l f = some iv) (ha : opvs l aa.toList = some args) (C : InvSp P iv nm M0 args p q) (hM : Hp.le M0 M)
  (k : ∀ a v w' M' C, Hp.le M M' → q v M' C → St w' M' (C ++ H) → Env a n ds ((d, v) :: l) → next a w') : (⟨some d, .call ⟨.invoke f nm, aa, ats⟩, ty, pos, af, gd⟩ : Oper).wpIn (Fw r) 0 P a w next Q := by
  obtain ⟨g, rv, h1, h2, h3⟩ := C w M H hM S
  exact X_callI E hd hf ha h1 h2 h3 fun a v w' ⟨M', C', h1, h2, h3⟩ E => k a v w' M' C' h1 h2 h3 E
end
theorem InvSp.mono {P : Program} {iv : Value} {nm : String} {M : Hp} {args : List Value} {p : List HProp} {q q' : Value → Hp → List HProp → Prop} (h : InvSp P iv nm M args p q) (hq : ∀ v M2 C, q v M2 C → q' v M2 C) : InvSp P iv nm M args p q' :=
  fun w M1 H hM S => (h w M1 H hM S).mono fun v w' ⟨M2, C, h1, h2, h3⟩ => ⟨M2, C, h1, hq v M2 C h2, h3⟩
theorem InvSp.of_sp {P : Program} {T : TypeId} {u : Value} {nm : String} {M : Hp} {args : List Value} {p : List HProp} {q : Value → Hp → List HProp → Prop} {g : FuncId} (hm : ∀ w, MethV P (.iface T u) nm g u w) (hg : ∀ args w, (callFunc g args).run P w = .ok (.enter g args) w)
    (C : Sp P (.func (.func g) #[] #[]) M (u :: args) p q) : InvSp P (.iface T u) nm M args p q :=
  fun w M1 H hM S => ⟨g, u, hm w, hg, C w M1 H hM S⟩
/-! sets that are owned: the cell behind the pointer u, and its map -/
def SetU (T : TypeId) (u : Value) (l : List Int) : HProp := fun h => ∃ (b m : Nat) (q : List Int), (u = .pointer (some ⟨b, 0, none⟩) ∧ q.Nodup ∧ ∀ x, x ∈ q ↔ x ∈ l) ∧ grp [blk b (.cells #[.map (some m)] T), OwnS m q] h
theorem SetU_eq {T : TypeId} {u : Value} {l l' : List Int} (h : ∀ x, x ∈ l ↔ x ∈ l') : SetU T u l = SetU T u l' := by
  funext g; apply propext
  constructor <;> rintro ⟨b, m, q, ⟨h1, h2, h3⟩, h4⟩
  · exact ⟨b, m, q, ⟨h1, h2, fun x => (h3 x).trans (h x)⟩, h4⟩
  · exact ⟨b, m, q, ⟨h1, h2, fun x => (h3 x).trans (h x).symm⟩, h4⟩
theorem openU {w : World} {M : Hp} {H : List HProp} {T : TypeId} {u : Value} {l : List Int} (S : St w M (SetU T u l :: H)) :
    ∃ (b m : Nat) (q : List Int), u = .pointer (some ⟨b, 0, none⟩) ∧ q.Nodup ∧ (∀ x, x ∈ q ↔ x ∈ l) ∧ St w M (blk b (.cells #[.map (some m)] T) :: OwnS m q :: H) := by
  obtain ⟨b, S⟩ := S.ex
  obtain ⟨m, S⟩ := S.ex
  obtain ⟨q, S⟩ := S.ex
  obtain ⟨⟨h1, h2, h3⟩, S⟩ := S.pure_
  exact ⟨b, m, q, h1, h2, h3, ungrp S⟩
theorem closeU {w : World} {M : Hp} {H : List HProp} {T : TypeId} {b m : Nat} {q l : List Int} (hn : q.Nodup) (hq : ∀ x, x ∈ q ↔ x ∈ l) (S : St w M (blk b (.cells #[.map (some m)] T) :: OwnS m q :: H)) : St w M (SetU T (.pointer (some ⟨b, 0, none⟩)) l :: H) :=
  (regrp (A := [blk b (.cells #[.map (some m)] T), OwnS m q]) S).imp fun _ h => ⟨b, m, q, ⟨rfl, hn, hq⟩, h⟩
/-- what is owned is there to be read, where its memory is frozen -/
theorem SetU.rd {T : TypeId} {u : Value} {l : List Int} {g : Hq} {M : Hp} (h : SetU T u l g) (hM : ∀ b o, g b = some o → M b = some o) : RdSU T M u l := by
  obtain ⟨b, m, q, ⟨h1, h2, h3⟩, g1, g2, d, e, hb, g3, g4, d', e', ⟨o, ⟨es, clock, ho, he⟩, hm⟩, h0⟩ := h
  have h0' : g4 = Hp.emp := h0
  subst h0'; subst ho
  have hb' : g1 = Hp.one b (.cells #[.map (some m)] T) := hb
  subst hb'; subst hm; subst e'; subst e
  refine ⟨b, .map (some m), q, h1, hM _ _ (Hp.le_union_left _ _ _ _ (by simp [Hp.one])), ⟨m, es, clock, rfl, hM _ _ (Hp.le_union_right d _ _ ?_), he⟩, h2, h3⟩
  rw [Hp.union_emp]; simp [Hp.one]
/-! registers of sets: a slice of interface values, each with its set, and its lock where it has one -/
theorem grp_perm {A B : List HProp} (h : A.Perm B) : grp A = grp B := funext fun _ => propext ⟨sat_perm h, sat_perm h.symm⟩
theorem grp_cons {w : World} {M : Hp} {p : HProp} {A H : List HProp} (s : St w M (grp (p :: A) :: H)) : St w M (p :: grp A :: H) :=
  s.of_sat fun _ hh => sat_cons_of (H := A ++ H) (H' := grp A :: H) (fun _ hg => sat_app.1 hg) (sat_app.2 hh)
theorem cons_grp {w : World} {M : Hp} {p : HProp} {A H : List HProp} (s : St w M (p :: grp A :: H)) : St w M (grp (p :: A) :: H) :=
  s.of_sat fun _ hh => (sat_app (A := p :: A)).1 (sat_cons_of (H := grp A :: H) (H' := A ++ H) (fun _ hg => sat_app.2 hg) hh)
theorem grp_nil {w : World} {M : Hp} {H : List HProp} (s : St w M H) : St w M (grp [] :: H) := regrp (A := []) s
structure SK where
  (tu ts um ss e : TypeId)
abbrev RG := Nat × Value × List Int
def ifv (K : SK) (safe : Bool) (x : RG) : Value := if safe then .iface K.ts (.pointer (some ⟨x.1, 0, none⟩)) else .iface K.tu x.2.1
def lkI (K : SK) (safe : Bool) (x : RG) : HProp := if safe then LK x.1 K.ss 0 x.2.1 else grp []
def suI (K : SK) (x : RG) : HProp := SetU K.um x.2.1 x.2.2
def Regs (K : SK) (safe : Bool) (v : Value) (t : List RG) : HProp := grp [OwnC K.e 1 v t.length (t.map (ifv K safe)), grp (t.map (lkI K safe)), grp (t.map (suI K))]
def SetI (K : SK) (safe : Bool) (x : RG) : HProp := grp [lkI K safe x, suI K x]
/-- the same set, told by another list -/
def RG.w (x : RG) (l : List Int) : RG := (x.1, x.2.1, l)
theorem perm_at {α : Type} : ∀ {t : List α} {i : Nat} {x : α}, t[i]? = some x → t.Perm (x :: t.eraseIdx i)
  | [], i, x, h => by simp at h
  | a :: t, 0, x, h => by simp at h; subst h; exact List.Perm.refl _
  | a :: t, i + 1, x, h => by
    have ih := perm_at (t := t) (i := i) (x := x) (by simpa using h)
    rw [List.eraseIdx_cons_succ]
    exact (ih.cons a).trans (List.Perm.swap ..)
theorem perm_set {α : Type} : ∀ {t : List α} {i : Nat} {y : α}, i < t.length → (t.set i y).Perm (y :: t.eraseIdx i)
  | [], i, y, h => by simp at h
  | a :: t, 0, y, h => List.Perm.refl _
  | a :: t, i + 1, y, h => by
    have ih := perm_set (t := t) (i := i) (y := y) (by simpa using h)
    rw [List.eraseIdx_cons_succ, List.set_cons_succ]
    exact (ih.cons a).trans (List.Perm.swap ..)
theorem lt_of_at {α : Type} {t : List α} {i : Nat} {x : α} (h : t[i]? = some x) : i < t.length := (List.getElem?_eq_some_iff.1 h).1
section
variable {w : World} {M : Hp} {H : List HProp} {K : SK} {safe : Bool} {v : Value} {t : List RG} {i j : Nat} {x y : RG}
theorem openR (S : St w M (Regs K safe v t :: H)) : St w M (OwnC K.e 1 v t.length (t.map (ifv K safe)) :: grp (t.map (lkI K safe)) :: grp (t.map (suI K)) :: H) := ungrp S
theorem closeR (S : St w M (OwnC K.e 1 v t.length (t.map (ifv K safe)) :: grp (t.map (lkI K safe)) :: grp (t.map (suI K)) :: H)) : St w M (Regs K safe v t :: H) := regrp (A := [_, _, _]) S
theorem map_set_same {α β : Type} (f : α → β) {t : List α} {i : Nat} {x y : α} (h : t[i]? = some x) (e : f y = f x) : (t.set i y).map f = t.map f := by
  rw [List.map_set, e]
  refine List.ext_getElem? fun j => ?_
  rw [List.getElem?_set]
  split
  · rename_i hij; subst hij; split
    · rw [List.getElem?_map, h]; rfl
    · rename_i h2; exact absurd (by simpa using lt_of_at h) h2
  · rfl
theorem regs_same {l l' : List Int} (h : ∀ z, z ∈ l ↔ z ∈ l') : Regs K safe v (t.set i (x.w l)) = Regs K safe v (t.set i (x.w l')) := by
  have e1 : (t.set i (x.w l)).map (ifv K safe) = (t.set i (x.w l')).map (ifv K safe) := by rw [List.map_set, List.map_set]; rfl
  have e2 : (t.set i (x.w l)).map (lkI K safe) = (t.set i (x.w l')).map (lkI K safe) := by rw [List.map_set, List.map_set]; rfl
  have e3 : (t.set i (x.w l)).map (suI K) = (t.set i (x.w l')).map (suI K) := by
    rw [List.map_set, List.map_set]
    exact congrArg (fun p => (t.map (suI K)).set i p) (SetU_eq h)
  unfold Regs
  rw [e1, e2, e3, List.length_set, List.length_set]
/-- register i taken out -/
theorem regs_at (hx : t[i]? = some x) (S : St w M (Regs K safe v t :: H)) : ∃ R : HProp, St w M (lkI K safe x :: suI K x :: R :: H) ∧
    ∀ w' M' H' x', ifv K safe x' = ifv K safe x → St w' M' (lkI K safe x' :: suI K x' :: R :: H') → St w' M' (Regs K safe v (t.set i x') :: H') := by
  have hp := perm_at hx
  refine ⟨grp [OwnC K.e 1 v t.length (t.map (ifv K safe)), grp ((t.eraseIdx i).map (lkI K safe)), grp ((t.eraseIdx i).map (suI K))], ?_, ?_⟩
  · have s1 := openR S
    rw [grp_perm (hp.map (lkI K safe)), grp_perm (hp.map (suI K))] at s1
    have s2 := grp_cons s1.front1
    have s3 := grp_cons s2.front3
    exact St.under2 (s3.front1.front3.front4.front3.front4) fun _ hh => (sat_app (A := [_, _, _])).1 hh
  · intro w' M' H' x' he s
    have s0 : St w' M' (lkI K safe x' :: suI K x' :: OwnC K.e 1 v t.length (t.map (ifv K safe)) :: grp ((t.eraseIdx i).map (lkI K safe)) :: grp ((t.eraseIdx i).map (suI K)) :: H') := St.under2 s fun _ hh => (sat_app (A := [_, _, _])).2 hh
    have hs := perm_set (y := x') (lt_of_at hx)
    refine closeR ?_
    rw [grp_perm (hs.map (lkI K safe)), grp_perm (hs.map (suI K)), map_set_same (ifv K safe) hx he, List.length_set]
    have s1 : St w' M' (grp ((x' :: t.eraseIdx i).map (suI K)) :: lkI K safe x' :: OwnC K.e 1 v t.length (t.map (ifv K safe)) :: grp ((t.eraseIdx i).map (lkI K safe)) :: H') := cons_grp (s0.front4.front2)
    have s2 : St w' M' (grp ((x' :: t.eraseIdx i).map (lkI K safe)) :: grp ((x' :: t.eraseIdx i).map (suI K)) :: OwnC K.e 1 v t.length (t.map (ifv K safe)) :: H') := cons_grp (s1.front3.front2)
    exact s2.front2
end
theorem sat_mem {A : List HProp} {p : HProp} {g : Hq} (hp : p ∈ A) (h : sat A g) : ∃ g1, p g1 ∧ ∀ b o, g1 b = some o → g b = some o := by
  induction A generalizing g with
  | nil => cases hp
  | cons q A ih =>
    obtain ⟨g1, g2, d, e, h1, h2⟩ := h
    subst e
    rcases List.mem_cons.1 hp with e | hp
    · subst e; exact ⟨g1, h1, fun b o hb => Hp.le_union_left g1 g2 b o hb⟩
    · obtain ⟨g3, h3, h4⟩ := ih hp h2
      exact ⟨g3, h3, fun b o hb => Hp.le_union_right d b o (h4 b o hb)⟩
section
variable {w : World} {M : Hp} {H : List HProp} {K : SK} {safe : Bool} {v : Value} {t : List RG} {i j : Nat} {x y : RG}
/-- all sets lent out, to be looked at -/
theorem regs_lend (S : St w M (Regs K safe v t :: H)) : ∃ M', Hp.le M M' ∧ (∀ (i : Nat) (x : RG), t[i]? = some x → RdSU K.um M' x.2.1 x.2.2) ∧ St w M' (OwnC K.e 1 v t.length (t.map (ifv K safe)) :: grp (t.map (lkI K safe)) :: H) ∧
    ∀ w' M2 H', Hp.le M' M2 → St w' M2 (OwnC K.e 1 v t.length (t.map (ifv K safe)) :: grp (t.map (lkI K safe)) :: H') → ∃ M3, Hp.le M M3 ∧ St w' M3 (Regs K safe v t :: H') := by
  have s1 := (openR S).front2
  obtain ⟨M', g, h1, h2, h3, s2, back⟩ := lendH s1
  refine ⟨M', h1, fun i x hx => ?_, s2, fun w' M2 H' hM s => ?_⟩
  · obtain ⟨g1, h4, h5⟩ := sat_mem (p := suI K x) (List.mem_map_of_mem (f := suI K) (List.mem_of_getElem? hx)) h3
    exact SetU.rd h4 fun b o hb => h2 b o (h5 b o hb)
  · obtain ⟨M3, h6, s3⟩ := back w' M2 _ hM s
    exact ⟨M3, h6, closeR (s3.front2.front2)⟩
/-- a lock of the registers taken out -/
theorem lock_at (hx : t[i]? = some x) (S : St w M (grp (t.map (lkI K safe)) :: H)) : St w M (lkI K safe x :: grp ((t.eraseIdx i).map (lkI K safe)) :: H) := by
  rw [grp_perm ((perm_at hx).map (lkI K safe))] at S; exact grp_cons S
theorem lock_back (hx : t[i]? = some x) (S : St w M (lkI K safe x :: grp ((t.eraseIdx i).map (lkI K safe)) :: H)) : St w M (grp (t.map (lkI K safe)) :: H) := by
  rw [grp_perm ((perm_at hx).map (lkI K safe))]; exact cons_grp S
end
theorem InvSp.conv {P : Program} {iv : Value} {nm : String} {M : Hp} {args : List Value} {p p' : List HProp} {q q' : Value → Hp → List HProp → Prop} (h : InvSp P iv nm M args p q) (hp : ∀ w M H, St w M (p' ++ H) → St w M (p ++ H)) (hq : ∀ v M2 C, q v M2 C → ∃ C', q' v M2 C' ∧ ∀ w M H, St w M (C ++ H) → St w M (C' ++ H)) : InvSp P iv nm M args p' q' :=
  fun w M1 H hM S => (h w M1 H hM (hp _ _ _ S)).mono fun v w' ⟨M2, C, h1, h2, h3⟩ => let ⟨C', h4, h5⟩ := hq v M2 C h2; ⟨M2, C', h1, h4, h5 _ _ _ h3⟩
theorem InvSp.frame {P : Program} {iv : Value} {nm : String} {M : Hp} {args : List Value} {F : List HProp} {Φ : Value → List HProp → Prop} (h : InvSp P iv nm M args [] (fun r _ C => Φ r C)) : InvSp P iv nm M args F (fun r _ C => ∃ D, C = F ++ D ∧ Φ r D) :=
  fun w M1 H hM S => (h w M1 (F ++ H) hM S).mono fun v w' ⟨M2, C, h1, h2, h3⟩ => ⟨M2, F ++ C, h1, ⟨C, rfl, h2⟩, h3.perm (by rw [← List.append_assoc]; exact List.perm_append_comm.append_right H)⟩
section
variable {P : Program} {K : SK} {safe : Bool} {v : Value} {t : List RG} {i j : Nat} {x y : RG} {M : Hp} {iv : Value} {nm : String} {args : List Value}
/-- a method that changes one set and hands over something more -/
theorem reg_liftD {Φ : Value → List Int → List HProp → Prop} (hx : t[i]? = some x) (C : InvSp P iv nm M args [lkI K safe x, suI K x] (fun r _ C' => ∃ l' D, C' = lkI K safe x :: suI K (x.w l') :: D ∧ Φ r l' D)) :
    InvSp P iv nm M args [Regs K safe v t] (fun r _ C' => ∃ l' D, C' = Regs K safe v (t.set i (x.w l')) :: D ∧ Φ r l' D) := by
  intro w M1 H hM S
  obtain ⟨R, S1, back⟩ := regs_at hx S
  refine (C w M1 (R :: H) hM S1).mono fun r w' ⟨M2, C', h1, ⟨l', D, h3, h4⟩, h5⟩ => ⟨M2, _, h1, ⟨l', D, rfl, h4⟩, ?_⟩
  subst h3
  have s1 : St w' M2 (lkI K safe x :: suI K (x.w l') :: (D ++ R :: H)) := h5
  have s2 : St w' M2 (lkI K safe x :: suI K (x.w l') :: R :: (D ++ H)) := s1.perm ((List.perm_middle.cons _).cons _)
  exact back _ _ _ (x.w l') rfl s2
/-- what is told of a set is told of any list with the same members -/
theorem reg_canon {Φ Ψ : Value → List Int → List HProp → Prop} (h : InvSp P iv nm M args [Regs K safe v t] (fun r _ C' => ∃ l' D, C' = Regs K safe v (t.set i (x.w l')) :: D ∧ Φ r l' D)) (hΦ : ∀ r l' D, Φ r l' D → ∃ L, (∀ z, z ∈ l' ↔ z ∈ L) ∧ Ψ r L D) :
    InvSp P iv nm M args [Regs K safe v t] (fun r _ C' => ∃ L D, C' = Regs K safe v (t.set i (x.w L)) :: D ∧ Ψ r L D) := by
  refine h.mono fun r M2 C ⟨l', D, h1, h2⟩ => ?_
  obtain ⟨L, h3, h4⟩ := hΦ r l' D h2
  exact ⟨L, D, by rw [h1, regs_same (x := x) h3], h4⟩
/-- a method that looks at one set -/
theorem reg_look1F {Φ : Value → List HProp → Prop} {F : List HProp} (hx : t[i]? = some x) (C : ∀ M', Hp.le M M' → RdSU K.um M' x.2.1 x.2.2 → InvSp P iv nm M' args (lkI K safe x :: F) (fun r _ C' => ∃ D, C' = lkI K safe x :: D ∧ Φ r D)) :
    InvSp P iv nm M args (Regs K safe v t :: F) (fun r _ C' => ∃ D, C' = Regs K safe v t :: D ∧ Φ r D) := by
  intro w M1 H hM S
  obtain ⟨M', h1, hr, s, back⟩ := regs_lend (H := F ++ H) S
  have s1 := (lock_at hx s.front1)
  have s1' : St w M' ((lkI K safe x :: F) ++ (grp ((t.eraseIdx i).map (lkI K safe)) :: OwnC K.e 1 v t.length (t.map (ifv K safe)) :: H)) := by
    refine s1.perm (List.Perm.cons _ ?_)
    exact ((List.perm_middle (l₁ := F) (a := grp ((t.eraseIdx i).map (lkI K safe))) (l₂ := OwnC K.e 1 v t.length (t.map (ifv K safe)) :: H)).trans (List.perm_middle.cons _)).symm
  refine (C M' (hM.trans h1) (hr i x hx) w M' _ (Hp.le.refl _) s1').mono fun r w' ⟨M2, C', h2, ⟨D, h3, h4⟩, h5⟩ => ?_
  subst h3
  have s2 : St w' M2 (lkI K safe x :: grp ((t.eraseIdx i).map (lkI K safe)) :: OwnC K.e 1 v t.length (t.map (ifv K safe)) :: (D ++ H)) := by
    refine (show St w' M2 (lkI K safe x :: (D ++ grp ((t.eraseIdx i).map (lkI K safe)) :: OwnC K.e 1 v t.length (t.map (ifv K safe)) :: H)) from h5).perm (List.Perm.cons _ ?_)
    exact List.perm_middle.trans (List.perm_middle.cons _)
  obtain ⟨M3, h6, s3⟩ := back w' M2 (D ++ H) h2 ((lock_back hx s2).front1)
  exact ⟨M3, _, h6, ⟨D, rfl, h4⟩, s3⟩
theorem reg_look1 {Φ : Value → List HProp → Prop} (hx : t[i]? = some x) (C : ∀ M', Hp.le M M' → RdSU K.um M' x.2.1 x.2.2 → InvSp P iv nm M' args [lkI K safe x] (fun r _ C' => ∃ D, C' = lkI K safe x :: D ∧ Φ r D)) :
    InvSp P iv nm M args [Regs K safe v t] (fun r _ C' => ∃ D, C' = Regs K safe v t :: D ∧ Φ r D) := reg_look1F (F := []) hx C
/-- a method that looks at two sets, or at one twice -/
theorem reg_look2 {Φ : Value → List HProp → Prop} (hx : t[i]? = some x) (hy : t[j]? = some y)
    (C1 : ∀ M', Hp.le M M' → RdSU K.um M' x.2.1 x.2.2 → RdSU K.um M' y.2.1 y.2.2 → InvSp P iv nm M' args [lkI K safe x, lkI K safe y] (fun r _ C' => ∃ D, C' = lkI K safe x :: lkI K safe y :: D ∧ Φ r D))
    (C2 : y = x → ∀ M', Hp.le M M' → RdSU K.um M' x.2.1 x.2.2 → InvSp P iv nm M' args [lkI K safe x] (fun r _ C' => ∃ D, C' = lkI K safe x :: D ∧ Φ r D)) :
    InvSp P iv nm M args [Regs K safe v t] (fun r _ C' => ∃ D, C' = Regs K safe v t :: D ∧ Φ r D) := by
  by_cases hij : i = j
  · subst hij; rw [hx] at hy; cases hy
    exact reg_look1 hx (C2 rfl)
  intro w M1 H hM S
  obtain ⟨M', h1, hr, s, back⟩ := regs_lend S
  have s1 := (lock_at hx s.front1)
  have hy' : ∃ j' : Nat, (t.eraseIdx i)[j']? = some y := by
    by_cases h : j < i
    · exact ⟨j, by rw [List.getElem?_eraseIdx_of_lt h]; exact hy⟩
    · refine ⟨j - 1, ?_⟩
      rw [List.getElem?_eraseIdx_of_ge (by omega), Nat.sub_add_cancel (by omega)]; exact hy
  obtain ⟨j', hy'⟩ := hy'
  have s2 := (lock_at hy' s1.front1).front2
  refine (C1 M' (hM.trans h1) (hr i x hx) (hr j y hy) w M' _ (Hp.le.refl _) s2).mono fun r w' ⟨M2, C', h2, ⟨D, h3, h4⟩, h5⟩ => ?_
  subst h3
  generalize hG : grp (((t.eraseIdx i).eraseIdx j').map (lkI K safe)) = G at h5
  have s3 : St w' M2 (lkI K safe x :: lkI K safe y :: G :: OwnC K.e 1 v t.length (t.map (ifv K safe)) :: (D ++ H)) := by
    refine (show St w' M2 (lkI K safe x :: lkI K safe y :: (D ++ G :: OwnC K.e 1 v t.length (t.map (ifv K safe)) :: H)) from h5).perm (List.Perm.cons _ (List.Perm.cons _ ?_))
    exact List.perm_middle.trans (List.perm_middle.cons _)
  subst hG
  have s4 : St w' M2 (lkI K safe x :: grp ((t.eraseIdx i).map (lkI K safe)) :: OwnC K.e 1 v t.length (t.map (ifv K safe)) :: (D ++ H)) := (lock_back hy' (s3.front1.front2.front1)).front1
  obtain ⟨M3, h6, s5⟩ := back w' M2 (D ++ H) h2 ((lock_back hx s4).front1)
  exact ⟨M3, _, h6, ⟨D, rfl, h4⟩, s5⟩
end
/-- a function that takes a member and keeps what it was called with -/
def EachF (P : Program) (fv : Value) (M : Hp) (J : List Int → HProp) : Prop := fv.oneCell' = true ∧ ∀ p x, p.length ≤ 1000000000 → Sp P fv M [.int .i64 x] [J p] (fun r _ C' => r = .bool false ∧ C' = [J (p ++ [x])])
theorem EachF.le {P : Program} {fv : Value} {M M' : Hp} {J : List Int → HProp} (h : EachF P fv M J) (hM : Hp.le M M') : EachF P fv M' J := ⟨h.1, fun p x hp => (h.2 p x hp).le hM⟩
theorem addS_ne {l : List Int} {x : Int} : (((l.length : Nat) : Int) ≠ (((addS l x).length : Nat) : Int)) ↔ x ∉ l := by
  unfold addS; split
  · rename_i h; simp [h]
  · rename_i h; simp [h]; omega
theorem addsL_le : ∀ (p s : List Int), s.length ≤ (addsL s p).length ∧ (addsL s p).length ≤ s.length + p.length
  | [], s => ⟨Nat.le_refl _, Nat.le_refl _⟩
  | x :: p, s => by
    have ih := addsL_le p (addS s x)
    have h : s.length ≤ (addS s x).length ∧ (addS s x).length ≤ s.length + 1 := by unfold addS; split <;> simp
    rw [List.length_cons]
    show s.length ≤ (addsL (addS s x) p).length ∧ (addsL (addS s x) p).length ≤ _
    omega
theorem addsL_le1 (p s : List Int) (k : Nat) : (addsL s (p.take k)).length ≤ s.length + p.length := by
  have h := (addsL_le (p.take k) s).2
  rw [List.length_take] at h; omega
theorem cl_snoc (l p : List Int) (x : Int) : (l.filter (fun z => decide (z ∉ p))).filter (fun q_ => decide (q_ ≠ x)) = l.filter (fun z => decide (z ∉ p ++ [x])) := by
  rw [List.filter_filter]
  refine congrArg (fun f => l.filter f) (funext fun z => ?_)
  by_cases h1 : z ∈ p <;> by_cases h2 : z = x <;> simp [h1, h2]
theorem rm_snoc {l m : List Int} {k : Nat} {x : Int} (h : m[k]? = some x) : (l.filter (fun z => decide (z ∉ m.take k))).filter (fun q_ => decide (q_ ≠ x)) = l.filter (fun z => decide (z ∉ m.take (k + 1))) := by
  rw [cl_snoc, List.take_add_one, h]; rfl
theorem cl_nil (l : List Int) : l.filter (fun z => decide (z ∉ ([] : List Int))) = l := by simp
theorem cl_done {l p : List Int} (h : ∀ z ∈ l.filter (fun z => decide (z ∉ p)), z ∈ p) : ∀ z ∈ l, z ∈ p := fun z hz => by
  by_cases h1 : z ∈ p
  · exact h1
  · exact h z (List.mem_filter.2 ⟨hz, by simpa using h1⟩)
theorem cl_empty {l p : List Int} (h : ∀ z ∈ l.filter (fun z => decide (z ∉ p)), z ∈ p) : l.filter (fun z => decide (z ∉ p)) = [] := by
  rw [List.filter_eq_nil_iff]; intro z hz; simp; exact cl_done h z hz
theorem pn_all {l p : List Int} {n : Nat} (hn : l.Nodup) (h : ∀ z ∈ l.filter (fun z => decide (z ∉ p)), z ∈ p) (h2 : p.length ≤ min n l.length) : p.length = min n l.length := by
  have := nodup_len hn (cl_done h); omega
theorem pn_step {l p : List Int} {k : Int} (hp : p.Nodup) (hk : k ∉ p) : (p ++ [k]).Nodup := snocN hp hk
theorem pn_sub {l p : List Int} {k : Int} (hp : ∀ z ∈ p, z ∈ l) (hk : k ∈ l.filter (fun z => decide (z ∉ p))) : ∀ z ∈ p ++ [k], z ∈ l := fun z hz => by
  rcases List.mem_append.1 hz with h | h
  · exact hp z h
  · rw [List.mem_singleton.1 h]; exact (List.mem_filter.1 hk).1
theorem pn_lt {l p : List Int} {k : Int} (hl : l.Nodup) (hp : p.Nodup) (hs : ∀ z ∈ p, z ∈ l) (hk : k ∈ l.filter (fun z => decide (z ∉ p))) : p.length < l.length := by
  have h1 := nodup_len (pn_step (l := l) hp (k := k) (by have := (List.mem_filter.1 hk).2; simpa using this)) (pn_sub hs hk)
  rw [List.length_append, List.length_singleton] at h1; omega
theorem sub_f1 {l c : List Int} {k : Nat} {x : Int} (h : l[k]? = some x) (hx : x ∉ c) : sub' l c = false := by
  cases e : sub' l c
  · rfl
  · exact absurd (sub_iff.1 e x (List.mem_of_getElem? h)) hx
theorem sub_all {l c : List Int} {k : Nat} (h : ∀ z ∈ l.take k, z ∈ c) (hk : l.length ≤ k) : sub' l c = true := by
  rw [List.take_of_length_le hk] at h; exact sub_iff.2 h
theorem any_t1 {l c : List Int} {k : Nat} {x : Int} (h : l[k]? = some x) (hx : x ∈ c) : any' l c = true := by
  unfold any'; rw [List.any_eq_true]; exact ⟨x, List.mem_of_getElem? h, decide_eq_true hx⟩
theorem any_none {l c : List Int} {k : Nat} (h : ∀ z ∈ l.take k, z ∉ c) (hk : l.length ≤ k) : any' l c = false := by
  rw [List.take_of_length_le hk] at h; unfold any'; rw [List.any_eq_false]; intro x hx; simp; exact h x hx
/-! deferred Unlock of a sync.RWMutex -/
section
open Go.RwLone Go.Conc.Locks
variable {P : Program} {L : RwLink}
set_option maxRecDepth 100000 in
set_option maxHeartbeats 3200000 in
theorem wunlock_din (R : RwWLib P L) {w : World} {p : Nat} {x2 x3 : Value} (c0 : w.cell? ⟨p, 0, none⟩ = some (.int .i32 1)) (c2 : w.cell? ⟨p, 2, none⟩ = some x2) (c3 : w.cell? ⟨p, 3, none⟩ = some x3)
    (hc : w.cell? ⟨p, 4, none⟩ = some (.int .i32 (-1073741824))) (z0 : w.frozen? ⟨p, 0, none⟩ = false) (hz : w.frozen? ⟨p, 4, none⟩ = false) :
    CallsDIn (Fw none) 0 P L.wunlock #[.pointer (some ⟨p, 0, none⟩)] .returning w (fun e u' w' => u' = .returning ∧ (e = .returned (.tuple #[]) ∧ w' = (w.setCell ⟨p, 4, none⟩ (.int .i32 0)).setCell ⟨p, 0, none⟩ (.int .i32 0))) := by
  have C := R.core
  have b1 := disable C; have b2 := enable C; have b3 := raceRead C; have b4 := releaseMerge C; have b5 := release R
  have d1 := C.runUnderlying_tRW; have d2 := C.sizeOf_tRW; have d3 := C.isAgg_tRW; have d4 := C.zeroValue_tRW
  have e1 := C.runUnderlying_tAI32; have e2 := C.sizeOf_tAI32; have e3 := C.isAgg_tAI32; have e4 := C.zeroValue_tAI32
  have f1 := C.runUnderlying_tPRW; have f2 := C.sizeOf_tPRW; have f3 := C.isAgg_tPRW; have f4 := C.zeroValue_tPRW
  have g1 := C.runUnderlying_tPAI32; have g2 := C.sizeOf_tPAI32; have g3 := C.isAgg_tPAI32; have g4 := C.zeroValue_tPAI32
  have i1 := C.runUnderlying_tPU32; have i2 := C.sizeOf_tPU32; have i3 := C.isAgg_tPU32; have i4 := C.zeroValue_tPU32
  have j1 := C.runUnderlying_tANoCopy; have j2 := C.sizeOf_tANoCopy; have j3 := C.isAgg_tANoCopy; have j4 := C.zeroValue_tANoCopy
  have k1 := C.runUnderlying_tU32; have k2 := C.sizeOf_tU32; have k3 := C.isAgg_tU32; have k4 := C.zeroValue_tU32
  have l1 := C.runUnderlying_tMutex; have l2 := C.sizeOf_tMutex; have l3 := C.isAgg_tMutex; have l4 := C.zeroValue_tMutex
  have m1 := C.runUnderlying_tPMutex; have m2 := C.sizeOf_tPMutex; have m3 := C.isAgg_tPMutex; have m4 := C.zeroValue_tPMutex
  have n1 := C.runUnderlying_tPI32; have n2 := C.sizeOf_tPI32; have n3 := C.isAgg_tPI32; have n4 := C.zeroValue_tPI32
  have o1 := C.runUnderlying_tUP; have o2 := C.sizeOf_tUP; have o3 := C.isAgg_tUP; have o4 := C.zeroValue_tUP
  have q1 := C.runUnderlying_t21; have q2 := C.sizeOf_t21; have q3 := C.isAgg_t21; have q4 := C.zeroValue_t21
  have r1 := R.runUnderlying_t3; have r2 := R.sizeOf_t3; have r3 := R.isAgg_t3; have r4 := R.zeroValue_t3; have r5 := R.underlying_t3; have r6 := C.underlying_t21
  have v0 := run_convert_to_unsafe (P := P) (src := L.tPMutex) (dst := L.tUP) C.underlying_tPMutex C.underlying_tUP C.room_tMutex c0
  have v2 := run_convert_to_unsafe (P := P) (src := L.tPU32) (dst := L.tUP) C.underlying_tPU32 C.underlying_tUP C.room_tU32 c2
  have v3 := run_convert_to_unsafe (P := P) (src := L.tPU32) (dst := L.tUP) C.underlying_tPU32 C.underlying_tUP C.room_tU32 c3
  have hin1 := fun args w => run_enterF (P := P) R.mu.f_unlock (by kernel_rfl) rfl args w
  have hin2 := fun args w => run_enterF (P := P) C.f_i32add (by kernel_rfl) rfl args w
  refine callsDIn_of_wp R.f_wunlock rfl trivial ?_
  show Code.wpIn Fence.wide 0 P _ _ _ _
  rw [wpIn_wide]
  simp only [nt_wunlock L, List.size_toArray, List.length_cons, List.length_nil, Nat.reduceAdd, Nat.reduceSub, Array.replicate_succ,
     Array.replicate_zero, List.push_toArray, List.append_toArray, List.nil_append, List.cons_append]
  simp only [wunlockFn]
  go_wp2
  refine (i32add_any C ⟨p, 4, none⟩ (-1073741824) 1073741824 _ hc hz).mono ?_
  rintro e w' ⟨rfl, rfl⟩
  simp only [up30]
  go_wp2
  refine wp_loop_once ?_
  go_wp2
  refine (Go.MuLone.unlock_held R.mu ⟨p, 0, none⟩ _ ((World.cell?_setCell_other _ ⟨p, 4, none⟩ ⟨p, 0, none⟩ _ (by simp)).trans c0) (by simp [z0])).mono ?_
  rintro e w' ⟨rfl, rfl⟩
  go_wp2
  go_end0
  exact ⟨rfl, rfl⟩
theorem LV_wunlock (K : RwWLib P L) {fn : Func} {tmps : Array Value} {R : Ending → World → Prop} {ds : List Deferred} {w : World} {M : Hp} {H : List HProp} {p : Nat} {T : TypeId} {q : Value} (S : St w M (LKw p T q :: H))
    (k : ∀ w', St w' M (LK p T 0 q :: H) → LeavesInM (Fw none) 0 P fn tmps R ds .returning w') : LeavesInM (Fw none) 0 P fn tmps R (⟨.fn (.func L.wunlock) #[], #[.pointer (some ⟨p, 0, none⟩)]⟩ :: ds) .returning w := by
  have S1 : St w M (blk p (.cells (lko 1 (-1073741824) q).toArray T) :: H) := S
  have hc := run_enterF (P := P) K.f_wunlock (by kernel_rfl) rfl
  refine ⟨by simp, .inr ⟨by simp [Fw, Fence.wide], .func L.wunlock, #[], L.wunlock, #[.pointer (some ⟨p, 0, none⟩)], rfl, by simp [invoke, hc], fun _ _ => trivial, (wunlock_din K (cellL S1 rfl) (cellL S1 rfl) (cellL S1 rfl) (cellL S1 rfl) (frzL S1) (frzL S1)).mono ?_⟩⟩
  rintro _ _ _ ⟨rfl, rfl, rfl⟩
  refine k _ ?_
  exact St.setF (f := 0) (.int .i32 0) (St.setF (f := 4) (.int .i32 0) S1 (by simp [lkc, lko])) (by simp [lkc, lko])
end
theorem spConv {P : Program} {fv : Value} {M : Hp} {args : List Value} {p : List HProp} {q q' : Value → Hp → List HProp → Prop} (h : Sp P fv M args p q) (hq : ∀ v M2 C, q v M2 C → q' v M2 C) : Sp P fv M args p q' :=
  fun w M1 H hM S => (h w M1 H hM S).mono fun v w' ⟨M2, C, h1, h2, h3⟩ => ⟨M2, C, h1, hq v M2 C h2, h3⟩
theorem InvSp.of_pu {P : Program} {T : TypeId} {u : Value} {nm : String} {M : Hp} {args : List Value} {q : Value → Hp → Prop} {g : FuncId} (hm : ∀ w, MethV P (.iface T u) nm g u w) (hg : ∀ args w, (callFunc g args).run P w = .ok (.enter g args) w)
    (C : Pu P (.func (.func g) #[] #[]) M (u :: args) q) : InvSp P (.iface T u) nm M args [] (fun r M2 C => q r M2 ∧ C = []) :=
  fun w M1 H hM S => ⟨g, u, hm w, hg, (C w M1 H hM S).mono fun v w' ⟨M2, h1, h2, h3⟩ => ⟨M2, [], h1, ⟨h2, rfl⟩, h3⟩⟩
section
variable {P : Program} {K : SK} {v : Value} {x y : RG} {M : Hp} {nm : String} {args : List Value} {k : FuncId}
/-- a method with a pointer receiver that changes a set without a lock -/
theorem mutU_ptr {Φ : Value → List Int → List HProp → Prop} (hm : ∀ p w, MethV P (.iface K.tu p) nm k p w) (hk : ∀ args w, (callFunc k args).run P w = .ok (.enter k args) w)
    (C : ∀ b m q, q.Nodup → (∀ z, z ∈ q ↔ z ∈ x.2.2) → Sp P (.func (.func k) #[] #[]) M (.pointer (some ⟨b, 0, none⟩) :: args) [blk b (.cells #[.map (some m)] K.um), OwnS m q]
      (fun r _ C' => ∃ l' D, C' = blk b (.cells #[.map (some m)] K.um) :: OwnS m l' :: D ∧ l'.Nodup ∧ Φ r l' D)) :
    InvSp P (ifv K false x) nm M args [lkI K false x, suI K x] (fun r _ C' => ∃ l' D, C' = lkI K false x :: suI K (x.w l') :: D ∧ Φ r l' D) := by
  intro w M1 H hM S
  obtain ⟨b, m, q, hu, hn, hq, S1⟩ := openU (show St w M1 (lkI K false x :: SetU K.um x.2.1 x.2.2 :: H) from S).drop
  refine ⟨k, x.2.1, hm _ _, hk, ?_⟩
  rw [hu]
  refine (C b m q hn hq w M1 H hM S1).mono fun r w' ⟨M2, C', h1, ⟨l', D, h2, h3, h4⟩, h5⟩ => ⟨M2, _, h1, ⟨l', D, rfl, h4⟩, ?_⟩
  subst h2
  have s := closeU h3 (fun z => Iff.rfl) (show St w' M2 (blk b (.cells #[.map (some m)] K.um) :: OwnS m l' :: (D ++ H)) from h5)
  rw [← hu] at s
  exact grp_nil s
theorem mutU_val {Φ : Value → List Int → List HProp → Prop} (hm : ∀ b v w, w.cell? ⟨b, 0, none⟩ = some v → MethV P (.iface K.tu (.pointer (some ⟨b, 0, none⟩))) nm k v w) (hk : ∀ args w, (callFunc k args).run P w = .ok (.enter k args) w)
    (C : ∀ m q, q.Nodup → (∀ z, z ∈ q ↔ z ∈ x.2.2) → Sp P (.func (.func k) #[] #[]) M (.map (some m) :: args) [OwnS m q] (fun r _ C' => ∃ l' D, C' = OwnS m l' :: D ∧ l'.Nodup ∧ Φ r l' D)) :
    InvSp P (ifv K false x) nm M args [lkI K false x, suI K x] (fun r _ C' => ∃ l' D, C' = lkI K false x :: suI K (x.w l') :: D ∧ Φ r l' D) := by
  intro w M1 H hM S
  obtain ⟨b, m, q, hu, hn, hq, S1⟩ := openU (show St w M1 (lkI K false x :: SetU K.um x.2.1 x.2.2 :: H) from S).drop
  have hc : w.cell? ⟨b, 0, none⟩ = some (.map (some m)) := cell_blk S1.get
  refine ⟨k, .map (some m), ?_, hk, ?_⟩
  · show MethV P (.iface K.tu x.2.1) nm k _ w
    rw [hu]; exact hm b _ w hc
  refine (C m q hn hq w M1 (blk b (.cells #[.map (some m)] K.um) :: H) hM S1.swap).mono fun r w' ⟨M2, C', h1, ⟨l', D, h2, h3, h4⟩, h5⟩ => ⟨M2, _, h1, ⟨l', D, rfl, h4⟩, ?_⟩
  subst h2
  have s0 : St w' M2 (blk b (.cells #[.map (some m)] K.um) :: OwnS m l' :: (D ++ H)) :=
    (show St w' M2 (OwnS m l' :: (D ++ blk b (.cells #[.map (some m)] K.um) :: H)) from h5).perm ((List.perm_middle.cons _).trans (List.Perm.swap ..))
  have s := closeU h3 (fun z => Iff.rfl) s0
  rw [← hu] at s
  exact grp_nil s
/-- a method that changes a set with a lock -/
theorem mutS {Φ : Value → List Int → List HProp → Prop} (hm : ∀ p w, MethV P (.iface K.ts p) nm k p w) (hk : ∀ args w, (callFunc k args).run P w = .ok (.enter k args) w)
    (C : ∀ b m q, q.Nodup → (∀ z, z ∈ q ↔ z ∈ x.2.2) → Sp P (.func (.func k) #[] #[]) M (.pointer (some ⟨x.1, 0, none⟩) :: args) [LK x.1 K.ss 0 (.pointer (some ⟨b, 0, none⟩)), blk b (.cells #[.map (some m)] K.um), OwnS m q]
      (fun r _ C' => ∃ l' D, C' = LK x.1 K.ss 0 (.pointer (some ⟨b, 0, none⟩)) :: blk b (.cells #[.map (some m)] K.um) :: OwnS m l' :: D ∧ l'.Nodup ∧ Φ r l' D)) :
    InvSp P (ifv K true x) nm M args [lkI K true x, suI K x] (fun r _ C' => ∃ l' D, C' = lkI K true x :: suI K (x.w l') :: D ∧ Φ r l' D) := by
  intro w M1 H hM S
  obtain ⟨b, m, q, hu, hn, hq, S1⟩ := openU (show St w M1 (lkI K true x :: SetU K.um x.2.1 x.2.2 :: H) from S).swap
  have S2 : St w M1 (LK x.1 K.ss 0 x.2.1 :: blk b (.cells #[.map (some m)] K.um) :: OwnS m q :: H) := S1.front2
  rw [hu] at S2
  refine ⟨k, .pointer (some ⟨x.1, 0, none⟩), hm _ _, hk, ?_⟩
  refine (C b m q hn hq w M1 H hM S2).mono fun r w' ⟨M2, C', h1, ⟨l', D, h2, h3, h4⟩, h5⟩ => ⟨M2, _, h1, ⟨l', D, rfl, h4⟩, ?_⟩
  subst h2
  have s := closeU h3 (fun z => Iff.rfl) (show St w' M2 (LK x.1 K.ss 0 (.pointer (some ⟨b, 0, none⟩)) :: blk b (.cells #[.map (some m)] K.um) :: OwnS m l' :: (D ++ H)) from h5).front2.front2
  rw [← hu] at s
  exact s.swap
end
def mkB (l : List Int) : List (Int × Bool) := l.foldl (fun m x => putK m x true) []
theorem mkB_snoc (l : List Int) (x : Int) : mkB (l ++ [x]) = putK (mkB l) x true := by simp [mkB]
theorem mkB_take {l : List Int} {k : Nat} {x : Int} (h : l[k]? = some x) : putK (mkB (l.take k)) x true = mkB (l.take (k + 1)) := by rw [List.take_add_one, h]; exact (mkB_snoc _ _).symm
theorem mkB_put (m : List (Int × Bool)) (x : Int) : (∀ z, z ∈ (putK m x true).map Prod.fst ↔ z ∈ m.map Prod.fst ∨ z = x) ∧ (putK m x true).length ≤ m.length + 1 := by
  have e := putK_keys m x true
  have e2 := congrArg List.length e
  rw [List.length_map] at e2
  refine ⟨fun z => ?_, ?_⟩
  · rw [e]; split
    · rename_i hx
      constructor
      · exact .inl
      · rintro (h1 | h1)
        · exact h1
        · subst h1; exact hx
    · rw [List.mem_append, List.mem_singleton]
  · rw [e2]; split
    · rw [List.length_map]; omega
    · rw [List.length_append, List.length_map, List.length_singleton]; omega
theorem mkB_go : ∀ (l : List Int) (m : List (Int × Bool)), (∀ z, z ∈ (l.foldl (fun m x => putK m x true) m).map Prod.fst ↔ z ∈ m.map Prod.fst ∨ z ∈ l) ∧ (l.foldl (fun m x => putK m x true) m).length ≤ m.length + l.length
  | [], m => ⟨fun z => by simp, by simp⟩
  | x :: l, m => by
    have ih := mkB_go l (putK m x true)
    have h := mkB_put m x
    refine ⟨fun z => ?_, ?_⟩
    · rw [List.foldl_cons, ih.1, h.1, List.mem_cons, or_assoc]
    · rw [List.foldl_cons, List.length_cons]; omega
theorem mkB_spec (l : List Int) : (∀ z, z ∈ (mkB l).map Prod.fst ↔ z ∈ l) ∧ (mkB l).length ≤ l.length := by
  have h := mkB_go l []
  have h2 := h.2
  rw [List.length_nil, Nat.zero_add] at h2
  exact ⟨fun z => (h.1 z).trans (by simp), h2⟩
theorem spConvC {P : Program} {fv : Value} {M : Hp} {args : List Value} {p : List HProp} {q q' : Value → Hp → List HProp → Prop} (h : Sp P fv M args p q) (hq : ∀ v M2 C, q v M2 C → ∃ C', q' v M2 C' ∧ ∀ w M H, St w M (C ++ H) → St w M (C' ++ H)) : Sp P fv M args p q' :=
  fun w M1 H hM S => (h w M1 H hM S).mono fun v w' ⟨M2, C, h1, h2, h3⟩ => let ⟨C', h4, h5⟩ := hq v M2 C h2; ⟨M2, C', h1, h4, h5 _ _ _ h3⟩
section
variable {w : World} {M : Hp} {H : List HProp} {K : SK} {b m p : Nat} {l L : List Int}
theorem mkSetU (hn : l.Nodup) (hq : ∀ z, z ∈ l ↔ z ∈ L) (S : St w M (blk b (.cells #[.map (some m)] K.um) :: OwnS m l :: H)) : St w M (SetI K false (0, .pointer (some ⟨b, 0, none⟩), L) :: H) :=
  regrp (A := [lkI K false (0, .pointer (some ⟨b, 0, none⟩), L), suI K (0, .pointer (some ⟨b, 0, none⟩), L)]) (grp_nil (closeU hn hq S))
theorem mkSetS (hn : l.Nodup) (hq : ∀ z, z ∈ l ↔ z ∈ L) (S : St w M (LK p K.ss 0 (.pointer (some ⟨b, 0, none⟩)) :: blk b (.cells #[.map (some m)] K.um) :: OwnS m l :: H)) : St w M (SetI K true (p, .pointer (some ⟨b, 0, none⟩), L) :: H) :=
  regrp (A := [lkI K true (p, .pointer (some ⟨b, 0, none⟩), L), suI K (p, .pointer (some ⟨b, 0, none⟩), L)]) ((closeU hn hq (S.front2.front2)).swap)
end
/-- a look at a frozen set that has no lock: whatever stands beside it -/
theorem lookU {P : Program} {iv : Value} {nm : String} {M : Hp} {args : List Value} {F : List HProp} {q : Value → Hp → List HProp → Prop} {Φ : Value → List HProp → Prop} (h : InvSp P iv nm M args [] q) (hq : ∀ r M2 C, q r M2 C → Φ r C) : InvSp P iv nm M args F (fun r _ C' => ∃ D, C' = F ++ D ∧ Φ r D) :=
  InvSp.frame (h.mono hq)
theorem InvSp.of_spS {P : Program} {iv rv : Value} {nm : String} {M : Hp} {args : List Value} {p : List HProp} {q : Value → Hp → List HProp → Prop} {g : FuncId} (hm : ∀ w M1 H, Hp.le M M1 → St w M1 H → MethV P iv nm g rv w) (hg : ∀ args w, (callFunc g args).run P w = .ok (.enter g args) w)
    (C : Sp P (.func (.func g) #[] #[]) M (rv :: args) p q) : InvSp P iv nm M args p q :=
  fun w M1 H hM S => ⟨g, rv, hm w M1 _ hM S, hg, C w M1 H hM S⟩
section
variable {P : Program} {K : SK} {iv : Value} {nm : String} {M : Hp} {args : List Value} {L : List Int} {c1 c2 : HProp}
/-- a new set without a lock -/
theorem newU (h : InvSp P iv nm M args [] (fun r _ C' => ∃ b m l, C' = [blk b (.cells #[.map (some m)] K.um), OwnS m l] ∧ r = .iface K.tu (.pointer (some ⟨b, 0, none⟩)) ∧ l.Nodup ∧ ∀ z, z ∈ l ↔ z ∈ L)) :
    InvSp P iv nm M args [] (fun r _ C' => ∃ x : RG, r = ifv K false x ∧ x.2.2 = L ∧ C' = [SetI K false x]) :=
  h.conv (fun _ _ _ s => s) fun r M2 C ⟨b, m, l, h1, h2, h3, h4⟩ => ⟨_, ⟨(0, .pointer (some ⟨b, 0, none⟩), L), h2, rfl, rfl⟩, fun w M H s => by subst h1; exact mkSetU h3 h4 s⟩
theorem newS2 (h : InvSp P iv nm M args [c1, c2] (fun r _ C' => ∃ p b m l, C' = [c1, c2, LK p K.ss 0 (.pointer (some ⟨b, 0, none⟩)), blk b (.cells #[.map (some m)] K.um), OwnS m l] ∧ r = .iface K.ts (.pointer (some ⟨p, 0, none⟩)) ∧ l.Nodup ∧ ∀ z, z ∈ l ↔ z ∈ L)) :
    InvSp P iv nm M args [c1, c2] (fun r _ C' => ∃ D, C' = c1 :: c2 :: D ∧ ∃ x : RG, r = ifv K true x ∧ x.2.2 = L ∧ D = [SetI K true x]) :=
  h.conv (fun _ _ _ s => s) fun r M2 C ⟨p, b, m, l, h1, h2, h3, h4⟩ => ⟨_, ⟨_, rfl, (p, .pointer (some ⟨b, 0, none⟩), L), h2, rfl, rfl⟩, fun w M H s => by
    subst h1
    exact (mkSetS h3 h4 (show St w M (c1 :: c2 :: LK p K.ss 0 (.pointer (some ⟨b, 0, none⟩)) :: blk b (.cells #[.map (some m)] K.um) :: OwnS m l :: H) from s).front4.front4.front4).front2.front2⟩
theorem newS1 (h : InvSp P iv nm M args [c1] (fun r _ C' => ∃ p b m l, C' = [c1, LK p K.ss 0 (.pointer (some ⟨b, 0, none⟩)), blk b (.cells #[.map (some m)] K.um), OwnS m l] ∧ r = .iface K.ts (.pointer (some ⟨p, 0, none⟩)) ∧ l.Nodup ∧ ∀ z, z ∈ l ↔ z ∈ L)) :
    InvSp P iv nm M args [c1] (fun r _ C' => ∃ D, C' = c1 :: D ∧ ∃ x : RG, r = ifv K true x ∧ x.2.2 = L ∧ D = [SetI K true x]) :=
  h.conv (fun _ _ _ s => s) fun r M2 C ⟨p, b, m, l, h1, h2, h3, h4⟩ => ⟨_, ⟨_, rfl, (p, .pointer (some ⟨b, 0, none⟩), L), h2, rfl, rfl⟩, fun w M H s => by
    subst h1
    exact (mkSetS h3 h4 (show St w M (c1 :: LK p K.ss 0 (.pointer (some ⟨b, 0, none⟩)) :: blk b (.cells #[.map (some m)] K.um) :: OwnS m l :: H) from s).front3.front3.front3).front1⟩
end
/-! what a step makes of sets, as the reference has it -/
def setDif (a b : List Int) : List Int := (setI a).filter (fun z => decide (z ∉ b))
def setInt (a b : List Int) : List Int := setDif a (setDif a b)
def setSym (a b : List Int) : List Int := setI (setDif a b ++ setDif b a)
theorem mem_dif {a b : List Int} {z : Int} : z ∈ setDif a b ↔ z ∈ a ∧ z ∉ b := by unfold setDif; rw [List.mem_filter, (setI_spec a).2.1, decide_eq_true_eq]
theorem mem_int {a b : List Int} {z : Int} : z ∈ setInt a b ↔ z ∈ a ∧ z ∈ b := by
  unfold setInt; rw [mem_dif, mem_dif]
  by_cases h1 : z ∈ a <;> by_cases h2 : z ∈ b <;> simp [h1, h2]
theorem mem_setI {a : List Int} {z : Int} : z ∈ setI a ↔ z ∈ a := (setI_spec a).2.1 z
theorem mem_sym {a b : List Int} {z : Int} : z ∈ setSym a b ↔ (z ∈ a ∧ z ∉ b) ∨ (z ∈ b ∧ z ∉ a) := by unfold setSym; rw [mem_setI, List.mem_append, mem_dif, mem_dif]
theorem set_len {q c : List Int} (hn : q.Nodup) (h : ∀ z, z ∈ q ↔ z ∈ c) : q.length = (setI c).length :=
  Nat.le_antisymm (nodup_len hn fun z hz => mem_setI.2 ((h z).1 hz)) (nodup_len (setI_spec c).1.nodup fun z hz => (h z).2 (mem_setI.1 hz))
theorem pop_eq {q c : List Int} {k : Int} {b : Bool} (hq : ∀ z, z ∈ q ↔ z ∈ c) (h : if b = true then k ∈ q else (k = 0 ∧ q = [])) : if b = true then k ∈ c else (k = 0 ∧ ∀ z, z ∉ c) := by
  cases b
  · simp at h ⊢
    obtain ⟨h1, h2⟩ := h
    exact ⟨h1, fun z hz => by have := (hq z).2 hz; rw [h2] at this; cases this⟩
  · simp at h ⊢; exact (hq k).1 h
abbrev KS : SK := ⟨116, 114, 145, 144, 55⟩
section
variable {w : World} {M : Hp} {H : List HProp} {K : SK} {safe : Bool} {v : Value} {t : List RG} {k : Nat} {x : RG}
theorem one_ifv (K : SK) (safe : Bool) (x : RG) : (ifv K safe x).oneCell' = true := by unfold ifv; split <;> rfl
theorem ptrR (S : St w M (Regs K safe v t :: H)) (hk : k < t.length) : ∃ p, IdxPtr v k 1 p := (openR S).ptrC hk
theorem cellR {p : Addr} (S : St w M (Regs K safe v t :: H)) (hp : IdxPtr v k 1 p) (hx : t[k]? = some x) : w.cell? p = some (ifv K safe x) := (openR S).cellC hp (by rw [List.getElem?_map, hx]; rfl)
theorem lenR (S : St w M (Regs K safe v t :: H)) : ∃ A c, v = .slice A t.length c ∧ t.length ≤ c := (openR S).lenC
theorem putR {x' : RG} (hk : k < t.length) (S : St w M (OwnC K.e 1 v t.length ((t.map (ifv K safe)).set k (ifv K safe x')) :: grp (t.map (lkI K safe)) :: grp (t.map (suI K)) :: SetI K safe x' :: H)) : St w M (Regs K safe v (t.set k x') :: H) := by
  have hx : t[k]? = some t[k] := List.getElem?_eq_getElem hk
  have s1 := (lock_at hx S.front1).drop
  have s2 : St w M (lkI K safe x' :: suI K x' :: grp ((t.eraseIdx k).map (lkI K safe)) :: OwnC K.e 1 v t.length ((t.map (ifv K safe)).set k (ifv K safe x')) :: grp (t.map (suI K)) :: H) := ungrp (A := [lkI K safe x', suI K x']) s1.front3
  have s3 : St w M (grp ((x' :: t.eraseIdx k).map (lkI K safe)) :: suI K x' :: OwnC K.e 1 v t.length ((t.map (ifv K safe)).set k (ifv K safe x')) :: grp (t.map (suI K)) :: H) := cons_grp (s2.front2.front1)
  have s4 := s3.front3
  rw [grp_perm ((perm_at hx).map (suI K))] at s4
  have s5 := (grp_cons s4).drop
  have s6 : St w M (grp ((x' :: t.eraseIdx k).map (suI K)) :: grp ((x' :: t.eraseIdx k).map (lkI K safe)) :: OwnC K.e 1 v t.length ((t.map (ifv K safe)).set k (ifv K safe x')) :: H) := cons_grp s5.front2
  have hs := perm_set (y := x') hk
  refine closeR ?_
  rw [grp_perm (hs.map (lkI K safe)), grp_perm (hs.map (suI K)), List.map_set, List.length_set]
  exact s6.front1.front2
end
theorem X_storeR {P : Program} {a : Act} {w : World} {n : Nat} {ds : List Deferred} {l : List (Nat × Value)} {ty t0 : TypeId} {pos : String} {af : Array Edge} {gd : Option (Nat × Bool)} {xo yo : Operand} {M : Hp} {H : List HProp} {r : Option Nat} {next : Act → World → Prop} {Q : Exit → Act → World → Prop}
    {K : SK} {safe : Bool} {v : Value} {t : List RG} {k : Nat} {x' : RG} {p : Addr} (E : Env a n ds l) (S : St w M (Regs K safe v t :: SetI K safe x' :: H)) (hx : opv l xo = some (.pointer (some p))) (hy : opv l yo = some (ifv K safe x'))
    (hs : (sizeOf t0).run P w = .ok 1 w) (hp : IdxPtr v k 1 p) (hk : k < t.length)
    (kk : ∀ a w', Env a n ds l → St w' M (Regs K safe v (t.set k x') :: H) → next a w') : (⟨none, .store t0 xo yo, ty, pos, af, gd⟩ : Oper).wpIn (Fw r) 0 P a w next Q :=
  X_storeC E (openR S) hx hy hs (one_ifv K safe x') hp fun a w' E s => kk a w' E (putR hk s)
/-- the lists that registers stand for -/
def lsT (t : List RG) : List (List Int) := t.map (fun x => x.2.2)
theorem lsT_set (t : List RG) (i : Nat) (x : RG) : lsT (t.set i x) = (lsT t).set i x.2.2 := List.map_set ..
theorem lsT_at {t : List RG} {i : Nat} {x : RG} (h : t[i]? = some x) : (lsT t).getD i [] = x.2.2 := by unfold lsT; rw [List.getD_eq_getElem?_getD, List.getElem?_map, h]; rfl
def regN (n : Int) : Nat := (n % 8).toNat
/-- what a step over sets does: DO, the registers A and TO, the number and the list; a, b: what A and B hold -/
def StepR (d : Int) (i k : Nat) (x : Int) (l a b : List Int) (ls ls' : List (List Int)) (is : Bool) (n : Int) (al : List Int) : Prop :=
  if d = 0 then ls' = ls.set k (setI l) ∧ is = false ∧ n = 0 ∧ al = []
  else if d = 1 then ls' = ls.set i (setI (a ++ [x])) ∧ is = decide (x ∉ a) ∧ n = 0 ∧ al = []
  else if d = 2 then ls' = ls.set i (setI (a ++ l)) ∧ is = false ∧ n = ((setI (a ++ l)).length : Nat) - ((card a : Nat) : Int) ∧ al = []
  else if d = 3 then ls' = ls.set i (setDif a [x]) ∧ is = false ∧ n = 0 ∧ al = []
  else if d = 4 then ls' = ls.set i (setDif a l) ∧ is = false ∧ n = 0 ∧ al = []
  else if d = 5 then ls' = ls.set i [] ∧ is = false ∧ n = 0 ∧ al = []
  else if d = 6 then ls' = ls.set k (setI a) ∧ is = false ∧ n = 0 ∧ al = []
  else if d = 7 then ls' = ls.set k (setI (a ++ b)) ∧ is = false ∧ n = 0 ∧ al = []
  else if d = 8 then ls' = ls.set k (setInt a b) ∧ is = false ∧ n = 0 ∧ al = []
  else if d = 9 then ls' = ls.set k (setDif a b) ∧ is = false ∧ n = 0 ∧ al = []
  else if d = 10 then ls' = ls.set k (setSym a b) ∧ is = false ∧ n = 0 ∧ al = []
  else if d = 11 then ls' = ls ∧ is = (sub' a b && sub' b a) ∧ n = 0 ∧ al = []
  else if d = 12 then ls' = ls ∧ is = sub' a b ∧ n = 0 ∧ al = []
  else if d = 13 then ls' = ls ∧ is = (decide (card a < card b) && sub' a b) ∧ n = 0 ∧ al = []
  else if d = 14 then ls' = ls ∧ is = sub' b a ∧ n = 0 ∧ al = []
  else if d = 15 then ls' = ls ∧ is = (decide (card b < card a) && sub' b a) ∧ n = 0 ∧ al = []
  else if d = 16 then ls' = ls ∧ is = any' a b ∧ n = 0 ∧ al = []
  else if d = 17 then ls' = ls ∧ is = sub' l a ∧ n = 0 ∧ al = []
  else if d = 18 then ls' = ls ∧ is = any' l a ∧ n = 0 ∧ al = []
  else if d = 19 then ls' = ls ∧ is = decide (x ∈ a) ∧ n = 0 ∧ al = []
  else if d = 20 then ls' = ls ∧ is = false ∧ n = ((card a : Nat) : Int) ∧ al = []
  else if d = 21 then ls' = ls ∧ is = decide (((card a : Nat) : Int) = 0) ∧ n = 0 ∧ al = []
  else if d = 22 then ls' = ls ∧ is = false ∧ n = 0 ∧ al = setI a
  else if d = 23 then ls' = ls ∧ is = false ∧ n = 0 ∧ al = setI a
  else if d = 24 then ls' = ls.set i (setDif a (if is = true then [n] else [])) ∧ (if is = true then n ∈ a else (n = 0 ∧ ∀ z, z ∉ a)) ∧ al = []
  else if d = 25 then ls' = ls.set i (setDif a al) ∧ is = false ∧ n = ((al.length : Nat) : Int) ∧ al.length = min x.toNat (card a) ∧ setI al = al ∧ ∀ z ∈ al, z ∈ a
  else if d = 26 then ls' = ls.set k (setI l) ∧ is = false ∧ n = 0 ∧ al = []
  else ls' = ls ∧ is = false ∧ n = 0 ∧ al = []
/-- an answer in making: a cell whose list is p -/
def JA (b : Nat) (tA e : TypeId) (p : List Int) : HProp := fun h => ∃ v : Value, grp [blk b (.cells #[.bool false, .int .i64 0, v] tA), OwnI e v p] h
theorem mkJA {w : World} {M : Hp} {H : List HProp} {b : Nat} {tA e : TypeId} {v : Value} {p : List Int} (S : St w M (blk b (.cells #[.bool false, .int .i64 0, v] tA) :: OwnI e v p :: H)) : St w M (JA b tA e p :: H) :=
  (regrp (A := [_, _]) S).imp fun _ h => ⟨v, h⟩
theorem openJA {w : World} {M : Hp} {H : List HProp} {b : Nat} {tA e : TypeId} {p : List Int} (S : St w M (JA b tA e p :: H)) : ∃ v, St w M (blk b (.cells #[.bool false, .int .i64 0, v] tA) :: OwnI e v p :: H) := by
  obtain ⟨v, S⟩ := S.ex
  exact ⟨v, ungrp S⟩
theorem R_loadGB {P : Program} {a : Act} {w : World} {n : Nat} {ds : List Deferred} {l : List (Nat × Value)} {d : Nat} {ty t : TypeId} {pos : String} {af : Array Edge} {gd : Option (Nat × Bool)} {x : Operand} {b : Nat} {e : TypeId} {fr : Nat × Nat} {cs : List Value} (E : Env a n ds l) (hx : opv l x = some (.pointer (some ⟨b, 0, none⟩))) (hg : (isAgg t).run P w = .ok true w) (hs : (sizeOf t).run P w = .ok cs.length w)
    (hc : w.heap[b]? = some (.cells cs.toArray e fr)) : (execOp a.eval ⟨some d, .load t x, ty, pos, af, gd⟩).run P w = .ok (.value (.agg cs.toArray)) w :=
  R_loadG E hx hg hs fun j u hj => by
    have : (Addr.add ⟨b, 0, none⟩ j) = ⟨b, j, none⟩ := by simp [Addr.add]; exact fun h => h.symm
    rw [this]; simp [World.cell?, hc, hj]
theorem setDif_perm {a p q : List Int} (h : ∀ z, z ∈ p ↔ z ∈ q) : setDif a p = setDif a q := by
  unfold setDif
  refine congrArg (fun f => (setI a).filter f) (funext fun z => ?_)
  by_cases hz : z ∈ p
  · simp [hz, (h z).1 hz]
  · have h2 : z ∉ q := fun h2 => hz ((h z).2 h2)
    simp [hz, h2]
theorem srtM_mem {p : List Int} (z : Int) : z ∈ srtM p ↔ z ∈ p := (srtM_perm p).mem_iff
theorem setI_srt {p : List Int} (hn : p.Nodup) : setI (srtM p) = srtM p := by
  rw [srt_setB hn fun z => Iff.rfl]
  exact setI_eq fun z => mem_setI
theorem step25 {d : Int} {i k : Nat} {x : Int} {l a b p : List Int} {ls : List (List Int)} (hd : d = 25) (hn : p.Nodup) (hs : ∀ z ∈ p, z ∈ a) (hl : p.length = min x.toNat (card a)) :
    StepR d i k x l a b ls (ls.set i (setDif a p)) false ((p.length : Nat) : Int) (srtM p) := by
  subst hd
  simp only [StepR, Int.reduceEq, ↓reduceIte]
  refine ⟨by rw [setDif_perm (p := srtM p) (q := p) srtM_mem], trivial, by rw [srtM_len], by rw [srtM_len]; exact hl, setI_srt hn, fun z hz => hs z ((srtM_mem z).1 hz)⟩
theorem step23 {d : Int} {i k : Nat} {x : Int} {l a b p : List Int} {ls : List (List Int)} (hd : d = 23) (hn : p.Nodup) (hm : ∀ z, z ∈ p ↔ z ∈ a) : StepR d i k x l a b ls ls false 0 (srtM p) := by
  subst hd
  simp only [StepR, Int.reduceEq, ↓reduceIte]
  exact ⟨trivial, trivial, trivial, srt_setB hn hm⟩
/-! steps and answers: structs with a list in the last cell -/
abbrev SSt := Int × Int × Int × Int × Int × List Int
abbrev SAn := Bool × Int × List Int
def RSS : Hp → List Value → SSt → Prop := fun M cs x => ∃ v, cs = [.int .i64 x.1, .int .i64 x.2.1, .int .i64 x.2.2.1, .int .i64 x.2.2.2.1, .int .i64 x.2.2.2.2.1, v] ∧ RdI M v x.2.2.2.2.2
def RAN : Hp → List Value → SAn → Prop := fun M cs x => ∃ v, cs = [.bool x.1, .int .i64 x.2.1, v] ∧ RdI M v x.2.2
theorem RSS_mono : RMono RSS := fun _ _ _ _ hM ⟨v, e, h⟩ => ⟨v, e, h.le hM⟩
theorem RAN_mono : RMono RAN := fun _ _ _ _ hM ⟨v, e, h⟩ => ⟨v, e, h.le hM⟩
theorem one_RSS : ROne RSS := by
  rintro M cs x ⟨v, rfl, h⟩ u hu
  simp only [List.mem_cons, List.not_mem_nil, or_false] at hu
  rcases hu with rfl | rfl | rfl | rfl | rfl | rfl
  all_goals first | rfl | exact RdI.one h
theorem one_RAN : ROne RAN := by
  rintro M cs x ⟨v, rfl, h⟩ u hu
  simp only [List.mem_cons, List.not_mem_nil, or_false] at hu
  rcases hu with rfl | rfl | rfl
  all_goals first | rfl | exact RdI.one h
theorem RdSS.at {M : Hp} {v : Value} {l : List SSt} {k : Nat} {e : SSt} (h : RdS 6 RSS M v l) (he : l[k]? = some e) : ∃ p u, IdxPtr v k 6 p ∧ cellsM M p [.int .i64 e.1, .int .i64 e.2.1, .int .i64 e.2.2.1, .int .i64 e.2.2.2.1, .int .i64 e.2.2.2.2.1, u] ∧ RdI M u e.2.2.2.2.2 := by
  obtain ⟨p, cs, h1, h2, ⟨u, h3, h5⟩, h4⟩ := RdS.at h he
  subst h3; exact ⟨p, u, h1, h4, h5⟩
theorem RdAN.at {M : Hp} {v : Value} {l : List SAn} {k : Nat} {e : SAn} (h : RdS 3 RAN M v l) (he : l[k]? = some e) : ∃ p u, IdxPtr v k 3 p ∧ cellsM M p [.bool e.1, .int .i64 e.2.1, u] ∧ RdI M u e.2.2 := by
  obtain ⟨p, cs, h1, h2, ⟨u, h3, h5⟩, h4⟩ := RdS.at h he
  subst h3; exact ⟨p, u, h1, h4, h5⟩
section
variable {w : World} {M : Hp} {H : List HProp} {K : SK} {safe : Bool} {v : Value} {t : List RG} {x' : RG}
theorem nilRegs (K : SK) (safe : Bool) (S : St w M H) : St w M (Regs K safe (.slice none 0 0) [] :: H) := by
  have s := (S.ownNil (e := K.e) (sz := 1))
  exact closeR (t := []) ((grp_nil (grp_nil s)).front2)
theorem snocR {v' : Value} (S : St w M (OwnC K.e 1 v' (t.length + 1) (t.map (ifv K safe) ++ [ifv K safe x']) :: grp (t.map (lkI K safe)) :: grp (t.map (suI K)) :: SetI K safe x' :: H)) : St w M (Regs K safe v' (t ++ [x']) :: H) := by
  have s1 : St w M (lkI K safe x' :: suI K x' :: OwnC K.e 1 v' (t.length + 1) (t.map (ifv K safe) ++ [ifv K safe x']) :: grp (t.map (lkI K safe)) :: grp (t.map (suI K)) :: H) := ungrp (A := [lkI K safe x', suI K x']) S.front3
  have hp := (List.perm_append_singleton x' t)
  refine closeR ?_
  rw [grp_perm (hp.map (lkI K safe)), grp_perm (hp.map (suI K)), List.map_append, List.length_append]
  have s2 : St w M (grp ((x' :: t).map (suI K)) :: lkI K safe x' :: OwnC K.e 1 v' (t.length + 1) (t.map (ifv K safe) ++ [ifv K safe x']) :: grp (t.map (lkI K safe)) :: H) := cons_grp (s1.front4.front2)
  have s3 : St w M (grp ((x' :: t).map (lkI K safe)) :: grp ((x' :: t).map (suI K)) :: OwnC K.e 1 v' (t.length + 1) (t.map (ifv K safe) ++ [ifv K safe x']) :: H) := cons_grp (s2.front3.front2)
  exact s3.front2
end
theorem X_appendRG {P : Program} {a : Act} {w : World} {n : Nat} {ds : List Deferred} {l : List (Nat × Value)} {d : Nat} {ty t0 : TypeId} {pos : String} {af : Array Edge} {gd : Option (Nat × Bool)} {x y : Operand} {M : Hp} {H : List HProp} {r : Option Nat} {next : Act → World → Prop} {Q : Exit → Act → World → Prop}
    {K : SK} {safe : Bool} {v sv zv : Value} {t : List RG} {x' : RG} {e' : TypeId} {by_ : Nat} (E : Env a n ds l) (S : St w M (OwnC e' 1 sv 1 [ifv K safe x'] :: SetI K safe x' :: Regs K safe v t :: H)) (hd : Nat.blt d n = true) (hx : opv l x = some v) (hy : opv l y = some sv) (T : SlT P t0 K.e 1 by_ zv)
    (hb : (t.length + 1) * by_ ≤ 140737488355328) (h63 : t.length + 1 ≤ 2 ^ 44)
    (kk : ∀ a w' v', Env a n ds ((d, v') :: l) → St w' M (Regs K safe v' (t ++ [x']) :: H) → next a w') : (⟨some d, .call ⟨.builtin .append, #[x, y], #[t0, t0]⟩, ty, pos, af, gd⟩ : Oper).wpIn (Fw r) 0 P a w next Q := by
  have s1 := (openR S.front2).front3.drop
  refine X_append E s1 hd hx hy T (Src.own S) (by simp) (by intro u hu; simp at hu; rw [hu]; exact one_ifv _ _ _) hb h63 fun a w' v' E s => kk a w' v' E (snocR s)
/-- the steps played one behind the other: what they answer, and what the registers hold then -/
inductive PlayR : List SSt → List SAn → List (List Int) → Prop
  | nil : PlayR [] [] (List.replicate 8 [])
  | snoc {l : List SSt} {an : List SAn} {ls ls' : List (List Int)} {s : SSt} {a : SAn} : PlayR l an ls → StepR s.1 (regN s.2.1) (regN s.2.2.2.1) s.2.2.2.2.1 s.2.2.2.2.2 (ls.getD (regN s.2.1) []) (ls.getD (regN s.2.2.1) []) ls ls' a.1 a.2.1 a.2.2 → PlayR (l ++ [s]) (an ++ [a]) ls'
/-- all that steps could put into sets -/
def univ (l : List SSt) : List Int := (l.map fun s => s.2.2.2.2.1 :: s.2.2.2.2.2).flatten
theorem univ_snoc (l : List SSt) (s : SSt) : univ (l ++ [s]) = univ l ++ (s.2.2.2.2.1 :: s.2.2.2.2.2) := by simp [univ]
/-- registers stay canonical, and hold only what steps put in -/
def Canon (U : List Int) (ls : List (List Int)) : Prop := ∀ c ∈ ls, setI c = c ∧ ∀ z ∈ c, z ∈ U
theorem setI_idem (c : List Int) : setI (setI c) = setI c := setI_eq fun _ => mem_setI
theorem setI_dif (a b : List Int) : setI (setDif a b) = setDif a b := by
  have hs := setI_spec (setDif a b)
  have ha : SortedU (setDif a b) := List.Pairwise.sublist List.filter_sublist (setI_spec a).1
  exact sorted_eq hs.1.le ha.le ((List.perm_ext_iff_of_nodup hs.1.nodup ha.nodup).2 fun z => hs.2.1 z)
theorem canon_set {U : List Int} {ls : List (List Int)} {i : Nat} {c : List Int} (h : Canon U ls) (h1 : setI c = c) (h2 : ∀ z ∈ c, z ∈ U) : Canon U (ls.set i c) := fun d hd => by
  rcases List.mem_or_eq_of_mem_set hd with h3 | h3
  · exact h d h3
  · rw [h3]; exact ⟨h1, h2⟩
theorem canon_get {U : List Int} {ls : List (List Int)} (h : Canon U ls) (i : Nat) : setI (ls.getD i []) = ls.getD i [] ∧ ∀ z ∈ ls.getD i [], z ∈ U := by
  rw [List.getD_eq_getElem?_getD]
  cases e : ls[i]? with
  | none => exact ⟨rfl, fun z hz => by cases hz⟩
  | some c => exact h c (List.mem_of_getElem? e)
theorem canon_mono {U U' : List Int} {ls : List (List Int)} (h : Canon U ls) (hU : ∀ z ∈ U, z ∈ U') : Canon U' ls := fun c hc => ⟨(h c hc).1, fun z hz => hU z ((h c hc).2 z hz)⟩
set_option maxRecDepth 10000 in
theorem step_elim {d : Int} {i k : Nat} {x : Int} {l a b : List Int} {ls ls' : List (List Int)} {is : Bool} {n : Int} {al : List Int} {C : Prop} (h : StepR d i k x l a b ls ls' is n al)
    (c0 : ls' = ls.set k (setI l) ∧ is = false ∧ n = 0 ∧ al = [] → C) (c1 : ls' = ls.set i (setI (a ++ [x])) ∧ is = decide (x ∉ a) ∧ n = 0 ∧ al = [] → C) (c2 : ls' = ls.set i (setI (a ++ l)) ∧ is = false ∧ n = ((setI (a ++ l)).length : Nat) - ((card a : Nat) : Int) ∧ al = [] → C) (c3 : ls' = ls.set i (setDif a [x]) ∧ is = false ∧ n = 0 ∧ al = [] → C) (c4 : ls' = ls.set i (setDif a l) ∧ is = false ∧ n = 0 ∧ al = [] → C) (c5 : ls' = ls.set i [] ∧ is = false ∧ n = 0 ∧ al = [] → C) (c6 : ls' = ls.set k (setI a) ∧ is = false ∧ n = 0 ∧ al = [] → C) (c7 : ls' = ls.set k (setI (a ++ b)) ∧ is = false ∧ n = 0 ∧ al = [] → C) (c8 : ls' = ls.set k (setInt a b) ∧ is = false ∧ n = 0 ∧ al = [] → C) (c9 : ls' = ls.set k (setDif a b) ∧ is = false ∧ n = 0 ∧ al = [] → C) (c10 : ls' = ls.set k (setSym a b) ∧ is = false ∧ n = 0 ∧ al = [] → C) (c11 : ls' = ls ∧ is = (sub' a b && sub' b a) ∧ n = 0 ∧ al = [] → C) (c12 : ls' = ls ∧ is = sub' a b ∧ n = 0 ∧ al = [] → C) (c13 : ls' = ls ∧ is = (decide (card a < card b) && sub' a b) ∧ n = 0 ∧ al = [] → C) (c14 : ls' = ls ∧ is = sub' b a ∧ n = 0 ∧ al = [] → C) (c15 : ls' = ls ∧ is = (decide (card b < card a) && sub' b a) ∧ n = 0 ∧ al = [] → C) (c16 : ls' = ls ∧ is = any' a b ∧ n = 0 ∧ al = [] → C) (c17 : ls' = ls ∧ is = sub' l a ∧ n = 0 ∧ al = [] → C) (c18 : ls' = ls ∧ is = any' l a ∧ n = 0 ∧ al = [] → C) (c19 : ls' = ls ∧ is = decide (x ∈ a) ∧ n = 0 ∧ al = [] → C) (c20 : ls' = ls ∧ is = false ∧ n = ((card a : Nat) : Int) ∧ al = [] → C) (c21 : ls' = ls ∧ is = decide (((card a : Nat) : Int) = 0) ∧ n = 0 ∧ al = [] → C) (c22 : ls' = ls ∧ is = false ∧ n = 0 ∧ al = setI a → C) (c23 : ls' = ls ∧ is = false ∧ n = 0 ∧ al = setI a → C) (c24 : ls' = ls.set i (setDif a (if is = true then [n] else [])) ∧ (if is = true then n ∈ a else (n = 0 ∧ ∀ z, z ∉ a)) ∧ al = [] → C) (c25 : (ls' = ls.set i (setDif a al) ∧ is = false ∧ n = ((al.length : Nat) : Int) ∧ al.length = min x.toNat (card a) ∧ setI al = al ∧ ∀ z ∈ al, z ∈ a) → C) (c26 : ls' = ls.set k (setI l) ∧ is = false ∧ n = 0 ∧ al = [] → C) (c : ls' = ls ∧ is = false ∧ n = 0 ∧ al = [] → C) : C := by
  unfold StepR at h
  by_cases e0 : d = 0
  · rw [if_pos e0] at h; exact c0 h
  rw [if_neg e0] at h
  by_cases e1 : d = 1
  · rw [if_pos e1] at h; exact c1 h
  rw [if_neg e1] at h
  by_cases e2 : d = 2
  · rw [if_pos e2] at h; exact c2 h
  rw [if_neg e2] at h
  by_cases e3 : d = 3
  · rw [if_pos e3] at h; exact c3 h
  rw [if_neg e3] at h
  by_cases e4 : d = 4
  · rw [if_pos e4] at h; exact c4 h
  rw [if_neg e4] at h
  by_cases e5 : d = 5
  · rw [if_pos e5] at h; exact c5 h
  rw [if_neg e5] at h
  by_cases e6 : d = 6
  · rw [if_pos e6] at h; exact c6 h
  rw [if_neg e6] at h
  by_cases e7 : d = 7
  · rw [if_pos e7] at h; exact c7 h
  rw [if_neg e7] at h
  by_cases e8 : d = 8
  · rw [if_pos e8] at h; exact c8 h
  rw [if_neg e8] at h
  by_cases e9 : d = 9
  · rw [if_pos e9] at h; exact c9 h
  rw [if_neg e9] at h
  by_cases e10 : d = 10
  · rw [if_pos e10] at h; exact c10 h
  rw [if_neg e10] at h
  by_cases e11 : d = 11
  · rw [if_pos e11] at h; exact c11 h
  rw [if_neg e11] at h
  by_cases e12 : d = 12
  · rw [if_pos e12] at h; exact c12 h
  rw [if_neg e12] at h
  by_cases e13 : d = 13
  · rw [if_pos e13] at h; exact c13 h
  rw [if_neg e13] at h
  by_cases e14 : d = 14
  · rw [if_pos e14] at h; exact c14 h
  rw [if_neg e14] at h
  by_cases e15 : d = 15
  · rw [if_pos e15] at h; exact c15 h
  rw [if_neg e15] at h
  by_cases e16 : d = 16
  · rw [if_pos e16] at h; exact c16 h
  rw [if_neg e16] at h
  by_cases e17 : d = 17
  · rw [if_pos e17] at h; exact c17 h
  rw [if_neg e17] at h
  by_cases e18 : d = 18
  · rw [if_pos e18] at h; exact c18 h
  rw [if_neg e18] at h
  by_cases e19 : d = 19
  · rw [if_pos e19] at h; exact c19 h
  rw [if_neg e19] at h
  by_cases e20 : d = 20
  · rw [if_pos e20] at h; exact c20 h
  rw [if_neg e20] at h
  by_cases e21 : d = 21
  · rw [if_pos e21] at h; exact c21 h
  rw [if_neg e21] at h
  by_cases e22 : d = 22
  · rw [if_pos e22] at h; exact c22 h
  rw [if_neg e22] at h
  by_cases e23 : d = 23
  · rw [if_pos e23] at h; exact c23 h
  rw [if_neg e23] at h
  by_cases e24 : d = 24
  · rw [if_pos e24] at h; exact c24 h
  rw [if_neg e24] at h
  by_cases e25 : d = 25
  · rw [if_pos e25] at h; exact c25 h
  rw [if_neg e25] at h
  by_cases e26 : d = 26
  · rw [if_pos e26] at h; exact c26 h
  rw [if_neg e26] at h
  exact c h
theorem step_canon {d : Int} {i k : Nat} {x : Int} {l a b U : List Int} {ls ls' : List (List Int)} {is : Bool} {n : Int} {al : List Int} (h : StepR d i k x l a b ls ls' is n al) (hc : Canon U ls) (ha : ∀ z ∈ a, z ∈ U) (hb : ∀ z ∈ b, z ∈ U) (hx : x ∈ U) (hl : ∀ z ∈ l, z ∈ U) : Canon U ls' := by
  have S1 : ∀ {i : Nat} {c : List Int}, (∀ z ∈ c, z ∈ U) → Canon U (ls.set i (setI c)) := fun h2 => canon_set hc (setI_idem _) fun z hz => h2 z (mem_setI.1 hz)
  have S2 : ∀ {i : Nat} {c d : List Int}, (∀ z ∈ c, z ∈ U) → Canon U (ls.set i (setDif c d)) := fun h2 => canon_set hc (setI_dif _ _) fun z hz => h2 z (mem_dif.1 hz).1
  refine step_elim h ?_ ?_ ?_ ?_ ?_ ?_ ?_ ?_ ?_ ?_ ?_ ?_ ?_ ?_ ?_ ?_ ?_ ?_ ?_ ?_ ?_ ?_ ?_ ?_ ?_ ?_ ?_ ?_
  · rintro ⟨rfl, _⟩; exact S1 hl
  · rintro ⟨rfl, _⟩; exact S1 (fun z hz => by rcases List.mem_append.1 hz with h | h; exact ha z h; rw [List.mem_singleton.1 h]; exact hx)
  · rintro ⟨rfl, _⟩; exact S1 (fun z hz => by rcases List.mem_append.1 hz with h | h; exact ha z h; exact hl z h)
  · rintro ⟨rfl, _⟩; exact S2 ha
  · rintro ⟨rfl, _⟩; exact S2 ha
  · rintro ⟨rfl, _⟩; exact canon_set hc rfl fun z hz => by cases hz
  · rintro ⟨rfl, _⟩; exact S1 ha
  · rintro ⟨rfl, _⟩; exact S1 (fun z hz => by rcases List.mem_append.1 hz with h | h; exact ha z h; exact hb z h)
  · rintro ⟨rfl, _⟩; exact S2 ha
  · rintro ⟨rfl, _⟩; exact S2 ha
  · rintro ⟨rfl, _⟩; exact S1 (fun z hz => by rcases List.mem_append.1 hz with h | h; exact ha z (mem_dif.1 h).1; exact hb z (mem_dif.1 h).1)
  · rintro ⟨rfl, _⟩; exact hc
  · rintro ⟨rfl, _⟩; exact hc
  · rintro ⟨rfl, _⟩; exact hc
  · rintro ⟨rfl, _⟩; exact hc
  · rintro ⟨rfl, _⟩; exact hc
  · rintro ⟨rfl, _⟩; exact hc
  · rintro ⟨rfl, _⟩; exact hc
  · rintro ⟨rfl, _⟩; exact hc
  · rintro ⟨rfl, _⟩; exact hc
  · rintro ⟨rfl, _⟩; exact hc
  · rintro ⟨rfl, _⟩; exact hc
  · rintro ⟨rfl, _⟩; exact hc
  · rintro ⟨rfl, _⟩; exact hc
  · rintro ⟨rfl, _⟩; exact S2 ha
  · rintro ⟨rfl, _⟩; exact S2 ha
  · rintro ⟨rfl, _⟩; exact S1 hl
  · rintro ⟨rfl, _⟩; exact hc
theorem step_len {d : Int} {i k : Nat} {x : Int} {l a b : List Int} {ls ls' : List (List Int)} {is : Bool} {n : Int} {al : List Int} (h : StepR d i k x l a b ls ls' is n al) : ls'.length = ls.length := by
  refine step_elim h ?_ ?_ ?_ ?_ ?_ ?_ ?_ ?_ ?_ ?_ ?_ ?_ ?_ ?_ ?_ ?_ ?_ ?_ ?_ ?_ ?_ ?_ ?_ ?_ ?_ ?_ ?_ ?_
  all_goals (rintro ⟨rfl, _⟩; simp)
theorem play_canon {l : List SSt} {an : List SAn} {ls : List (List Int)} (h : PlayR l an ls) : Canon (univ l) ls ∧ ls.length = 8 ∧ an.length = l.length := by
  induction h with
  | nil => exact ⟨fun c hc => by rw [List.eq_of_mem_replicate hc]; exact ⟨rfl, fun z hz => by cases hz⟩, by simp, rfl⟩
  | @snoc l an ls ls' s a h hs ih =>
    obtain ⟨h1, h2, h3⟩ := ih
    have hU : ∀ z ∈ univ l, z ∈ univ (l ++ [s]) := fun z hz => by rw [univ_snoc]; exact List.mem_append_left _ hz
    have hc := canon_mono h1 hU
    refine ⟨step_canon hs hc (canon_get hc _).2 (canon_get hc _).2 ?_ ?_, by rw [step_len hs, h2], by simp [h3]⟩
    · rw [univ_snoc]; simp
    · intro z hz; rw [univ_snoc]; simp [hz]
theorem canon_len {U : List Int} {ls : List (List Int)} (h : Canon U ls) {c : List Int} (hc : c ∈ ls) : c.length ≤ U.length := by
  have := (h c hc).1
  refine nodup_len ?_ (h c hc).2
  rw [← this]; exact (setI_spec c).1.nodup
theorem univ_len {l : List SSt} {B : Nat} (h : ∀ s ∈ l, s.2.2.2.2.2.length ≤ B) : (univ l).length ≤ l.length * (B + 1) := by
  induction l with
  | nil => simp [univ]
  | cons s l ih =>
    have h1 := ih fun s hs => h s (List.mem_cons_of_mem _ hs)
    have h2 := h s (List.mem_cons_self ..)
    have e : univ (s :: l) = (s.2.2.2.2.1 :: s.2.2.2.2.2) ++ univ l := by simp [univ]
    rw [e, List.length_append, List.length_cons, List.length_cons, Nat.add_mul]; omega
theorem lsT_mem {t : List RG} {i : Nat} {y : RG} (h : t[i]? = some y) : y.2.2 ∈ lsT t := by
  unfold lsT; exact List.mem_map_of_mem (f := fun x : RG => x.2.2) (List.mem_of_getElem? h)
/-- how large registers can be -/
theorem play_bnd {l : List SSt} {k : Nat} {an : List SAn} {t : List RG} (h : PlayR (l.take k) an (lsT t)) (h1 : l.length ≤ 1000) (h2 : ∀ s ∈ l, s.2.2.2.2.2.length ≤ 1000) (i : Nat) (y : RG) (hy : t[i]? = some y) : y.2.2.length ≤ 1000000000 := by
  have h3 := canon_len (play_canon h).1 (lsT_mem hy)
  have h4 := univ_len (l := l.take k) (B := 1000) fun s hs => h2 s (List.mem_of_mem_take hs)
  rw [List.length_take] at h4
  have h5 : min k l.length * (1000 + 1) ≤ 1000 * 1001 := Nat.mul_le_mul (by omega) (Nat.le_refl _)
  omega
theorem lsT_new {t : List RG} (h1 : t.length = 8) (h2 : ∀ y ∈ t, y.2.2 = []) : lsT t = List.replicate 8 [] := by
  unfold lsT; rw [← h1]
  exact List.eq_replicate_iff.2 ⟨by simp, fun c hc => by obtain ⟨y, hy, rfl⟩ := List.mem_map.1 hc; exact h2 y hy⟩
theorem play_step {l : List SSt} {k : Nat} {s : SSt} {an : List SAn} {t t' : List RG} {is : Bool} {n : Int} {al : List Int} (h : l[k]? = some s) (hp : PlayR (l.take k) an (lsT t))
    (hs : StepR s.1 (regN s.2.1) (regN s.2.2.2.1) s.2.2.2.2.1 s.2.2.2.2.2 ((lsT t).getD (regN s.2.1) []) ((lsT t).getD (regN s.2.2.1) []) (lsT t) (lsT t') is n al) : PlayR (l.take (k + 1)) (an ++ [(is, n, al)]) (lsT t') := by
  rw [List.take_add_one, h]; exact PlayR.snoc hp hs
theorem ends_step {U : List Int} {t : List RG} {m : Nat} {x : RG} (hc : Canon U (lsT t)) (hx : t[m]? = some x) : (lsT t).take m ++ [setI x.2.2] = (lsT t).take (m + 1) := by
  have h1 : (lsT t)[m]? = some x.2.2 := by unfold lsT; rw [List.getElem?_map, hx]; rfl
  rw [List.take_add_one, h1, (hc _ (List.mem_of_getElem? h1)).1]; rfl
/-! steps, one behind the other, from the front -/
def runR : List SSt → List (List Int) → List SAn → List (List Int) → Prop
  | [], ls, an, ls' => an = [] ∧ ls' = ls
  | s :: l, ls, an, ls' => ∃ a ls1 an', an = a :: an' ∧ StepR s.1 (regN s.2.1) (regN s.2.2.2.1) s.2.2.2.2.1 s.2.2.2.2.2 (ls.getD (regN s.2.1) []) (ls.getD (regN s.2.2.1) []) ls ls1 a.1 a.2.1 a.2.2 ∧ runR l ls1 an' ls'
theorem runR_snoc : ∀ {l : List SSt} {ls ls1 ls2 : List (List Int)} {an : List SAn} {s : SSt} {a : SAn}, runR l ls an ls1 → StepR s.1 (regN s.2.1) (regN s.2.2.2.1) s.2.2.2.2.1 s.2.2.2.2.2 (ls1.getD (regN s.2.1) []) (ls1.getD (regN s.2.2.1) []) ls1 ls2 a.1 a.2.1 a.2.2 → runR (l ++ [s]) ls (an ++ [a]) ls2
  | [], ls, ls1, ls2, an, s, a, h, hs => by obtain ⟨rfl, rfl⟩ := h; exact ⟨a, ls2, [], rfl, hs, rfl, rfl⟩
  | s0 :: l, ls, ls1, ls2, an, s, a, h, hs => by
    obtain ⟨a0, l1, an', rfl, h1, h2⟩ := h
    exact ⟨a0, l1, an' ++ [a], rfl, h1, runR_snoc h2 hs⟩
theorem play_run {l : List SSt} {an : List SAn} {ls : List (List Int)} (h : PlayR l an ls) : runR l (List.replicate 8 []) an ls := by
  induction h with
  | nil => exact ⟨rfl, rfl⟩
  | snoc h hs ih => exact runR_snoc ih hs
theorem play_one {an : List SAn} {ls : List (List Int)} (h : PlayR [(1, 0, 0, 0, 5, [])] an ls) : an = [(true, 0, [])] ∧ ls = [[5], [], [], [], [], [], [], []] := by
  obtain ⟨a, l1, an', rfl, h1, rfl, rfl⟩ := play_run h
  simp only [StepR, Int.reduceEq, ↓reduceIte] at h1
  obtain ⟨rfl, e1, e2, e3⟩ := h1
  refine ⟨?_, by decide⟩
  obtain ⟨a1, a2, a3⟩ := a
  simp only at e1 e2 e3
  subst e1; subst e2; subst e3
  decide
/-! structs of six fields, opened -/
section
variable {H : Type} {enc : TypeId × Value → H} {P : Program} {W : World} {α β γ δ ε ζ : Type}
end
/-! a slice of several structs, built at once -/
theorem fillO_get : ∀ (L : List Value) (o k : Nat) (init : Array Value), o + k + L.length ≤ init.size → ∀ i, ((L.zipIdx k).foldl (fun (cs : Array Value) (c : Value × Nat) => cs.setIfInBounds (o + c.2) c.1) init)[i]? = if o + k ≤ i ∧ i < o + k + L.length then L[i - (o + k)]? else init[i]?
  | [], o, k, init, h, i => by simp; intro h1 h2; omega
  | c :: L, o, k, init, h, i => by
    simp only [List.length_cons] at h
    rw [List.zipIdx_cons, List.foldl_cons, fillO_get L o (k + 1) _ (by simp; omega) i]
    simp only [List.length_cons]
    by_cases h1 : o + (k + 1) ≤ i ∧ i < o + (k + 1) + L.length
    · rw [if_pos h1, if_pos (by omega), show i - (o + k) = (i - (o + (k + 1))) + 1 by omega, List.getElem?_cons_succ]
    · rw [if_neg h1, Array.getElem?_setIfInBounds]
      by_cases h2 : o + k = i
      · subst h2; rw [if_pos rfl, if_pos (by omega), if_pos (by omega)]; simp
      · rw [if_neg h2, if_neg (by omega)]
theorem fillO_size : ∀ (L : List Value) (o k : Nat) (init : Array Value), ((L.zipIdx k).foldl (fun (cs : Array Value) (c : Value × Nat) => cs.setIfInBounds (o + c.2) c.1) init).size = init.size
  | [], o, k, init => rfl
  | c :: L, o, k, init => by rw [List.zipIdx_cons, List.foldl_cons, fillO_size L o (k + 1) _]; simp
theorem fill_aggs {sz : Nat} : ∀ (vss : List (List Value)) (k : Nat) (init : Array Value), (∀ c ∈ vss, c.length = sz) → (k + vss.length) * sz ≤ init.size →
    ∃ out : Array Value, Instr.fill (fun i => some (i * sz, sz)) init ((List.range' k vss.length).zip (vss.map fun c => Value.agg c.toArray)) = some out ∧ out.size = init.size ∧ ∀ i, out[i]? = if k * sz ≤ i ∧ i < (k + vss.length) * sz then vss.flatten[i - k * sz]? else init[i]?
  | [], k, init, h, hl => ⟨init, rfl, rfl, fun i => by rw [if_neg fun h => by have h2 := h.2; simp only [List.length_nil, Nat.add_zero] at h2; omega]⟩
  | c :: vss, k, init, h, hl => by
    have hc := h c (List.mem_cons_self ..)
    have e1 : (k + (c :: vss).length) * sz = (k + 1 + vss.length) * sz := by rw [List.length_cons]; congr 1; omega
    rw [e1] at hl
    have e2 : (k + 1) * sz = k * sz + sz := Nat.succ_mul ..
    have e3 : (k + 1) * sz ≤ (k + 1 + vss.length) * sz := Nat.mul_le_mul_right _ (by omega)
    obtain ⟨out, h1, h2, h3⟩ := fill_aggs vss (k + 1) ((c.zipIdx 0).foldl (fun (cs : Array Value) (c : Value × Nat) => cs.setIfInBounds (k * sz + c.2) c.1) init) (fun d hd => h d (List.mem_cons_of_mem _ hd)) (by rw [fillO_size]; exact hl)
    refine ⟨out, ?_, by rw [h2, fillO_size], fun i => ?_⟩
    · rw [List.length_cons, List.range'_succ, List.map_cons, List.zip_cons_cons]
      have hsz : ¬ ((Value.agg c.toArray).cells.size ≠ sz || k * sz + (Value.agg c.toArray).cells.size > init.size) = true := by simp [Value.cells, hc]; omega
      simp only [Instr.fill]
      rw [if_neg hsz]
      rw [← h1]
      congr 1
      simp only [Value.cells]
      rw [← Array.foldl_toList, Array.toList_zipIdx]
    · rw [h3 i, fillO_get c (k * sz) 0 init (by omega) i, e1, List.flatten_cons]
      simp only [Nat.add_zero, hc]
      by_cases g1 : (k + 1) * sz ≤ i ∧ i < (k + 1 + vss.length) * sz
      · rw [if_pos g1, if_pos (by omega), List.getElem?_append_right (by omega)]
        congr 1; omega
      · rw [if_neg g1]
        by_cases g2 : k * sz ≤ i ∧ i < k * sz + sz
        · rw [if_pos g2, if_pos (by omega), List.getElem?_append_left (by omega)]
        · rw [if_neg g2, if_neg (by omega)]
theorem flat_sz {sz : Nat} : ∀ {vss : List (List Value)} {i : Nat} {c : List Value}, (∀ c ∈ vss, c.length = sz) → vss[i]? = some c → (vss.flatten.drop (i * sz)).take sz = c
  | [], i, c, h, hi => by simp at hi
  | d :: vss, 0, c, h, hi => by
    simp at hi; subst hi
    rw [Nat.zero_mul, List.drop_zero, List.flatten_cons, List.take_append_of_le_length (by rw [h d (List.mem_cons_self ..)]; exact Nat.le_refl _), List.take_of_length_le (by rw [h d (List.mem_cons_self ..)]; exact Nat.le_refl _)]
  | d :: vss, i + 1, c, h, hi => by
    have hd := h d (List.mem_cons_self ..)
    rw [List.flatten_cons, Nat.succ_mul, Nat.add_comm, List.drop_append, hd, Nat.add_sub_cancel_left, List.drop_eq_nil_of_le (show d.length ≤ sz + i * sz by omega), List.nil_append]
    exact flat_sz (fun c hc => h c (List.mem_cons_of_mem _ hc)) (by simpa using hi)
section
variable {r : Option Nat} {P : Program} {Q : Exit → Act → World → Prop} {a : Act} {w : World} {n : Nat} {ds : List Deferred} {l : List (Nat × Value)} {d : Nat} {ty t el : TypeId} {pos : String} {af : Array Edge} {gd : Option (Nat × Bool)}
  {next : Act → World → Prop} {M : Hp} {H : List HProp} {zv : Value} {sz by_ : Nat}
theorem X_buildAn {parts : Array (Nat × Operand)} {vss : List (List Value)} {len : Nat} (E : Env a n ds l) (S : St w M H) (hd : Nat.blt d n = true) (T : SlT P t el sz by_ zv) (h0 : Nat.ble 1 len = true) (hlen : Nat.ble len 1000 = true) (hsz : Nat.ble sz 1000 = true)
    (h1 : parts.toList.map (·.1) = List.range' 0 len) (hp : opvs l (parts.toList.map (·.2)) = some (vss.map fun c => Value.agg c.toArray)) (hl : vss.length = len) (hc : ∀ c ∈ vss, c.length = sz)
    (kk : ∀ a w' v, Env a n ds ((d, v) :: l) → St w' M (OwnC el sz v len vss.flatten :: H) → next a w') : (⟨some d, .buildSlice t len parts, ty, pos, af, gd⟩ : Oper).wpIn (Fw r) 0 P a w next Q := by
  obtain ⟨ti, h2, h3, h4, h5⟩ := T.inf
  have hs := T.pos
  have hz : sz ≤ 1000 := by simpa using hsz
  have hln : len ≤ 1000 := by simpa using hlen
  have hl1 : 1 ≤ len := by simpa using h0
  have hzs : zv.cells.size = sz := T.zsz
  have hpp : (parts.map fun (i, x) => (i, a.eval x)).toList = (List.range' 0 vss.length).zip (vss.map fun c => Value.agg c.toArray) := by
    rw [hl, ← h1, ← E.evals hp, Array.toList_map, List.map_map]
    simp [List.zip_map', Function.comp_def]
  obtain ⟨out, g1, g2, g3⟩ := fill_aggs vss 0 ((Array.range (len * sz)).map (zv.cells[· % zv.cells.size]!)) hc (by simp [hl])
  have hfl : vss.flatten.length = len * sz := by
    rw [List.length_flatten, ← hl]
    clear g1 g2 g3 hpp hp kk hl
    induction vss with
    | nil => simp
    | cons c vss ih => rw [List.map_cons, List.sum_cons, hc c (List.mem_cons_self ..), ih fun d hd => hc d (List.mem_cons_of_mem _ hd), List.length_cons, Nat.succ_mul]; omega
  have hout : out = vss.flatten.toArray := by
    apply Array.ext_getElem?
    intro i
    rw [g3 i]
    simp only [Nat.zero_add, Nat.zero_mul, Nat.zero_le, true_and, Nat.sub_zero, hl]
    by_cases hi : i < len * sz
    · rw [if_pos hi]; simp
    · have h6 : vss.flatten.length ≤ i := by omega
      rw [if_neg hi, Array.getElem?_eq_none (by simp; omega), List.getElem?_toArray, List.getElem?_eq_none h6]
  subst hout
  have hn : ¬ (len * sz > 2 ^ 24) := by
    have : len * sz ≤ 1000 * 1000 := Nat.mul_le_mul hln hz
    omega
  have hn2 : ¬ (len * sz = 0) := by
    have := Nat.mul_pos hl1 (show 0 < sz by omega)
    omega
  refine X_val E hd rfl (v := .slice (some ⟨w.heap.size, 0, none⟩) len len) (w' := w.alloc (.cells vss.flatten.toArray el)) ?_ fun a E => kk a _ _ E ?_
  · simp only [execOp]
    simp only [Instr.buildSlice, Sem.run_bind, run_underlying T.und, Result.andThen_ok, T.sizeOf, hn, hn2, if_false, Sem.run_pure]
    simp [zeroValue, typeInfo, h2, h5, newRow] at g1 hpp ⊢
    simp [hpp, g1]
  · exact (S.new rfl).ownOf (by rw [hfl]) (Nat.le_refl _) (by unfold Go.maxLen; omega) (by show vss.flatten.length = _; rw [hfl]) (by rw [List.take_of_length_le (by show vss.flatten.length ≤ _; rw [hfl]; exact Nat.le_refl _)])
/-- built, and frozen -/
theorem X_buildAF {α : Type} {R : Hp → List Value → α → Prop} {parts : Array (Nat × Operand)} {vss : List (List Value)} {xs : List α} {len : Nat} (hRm : RMono R) (E : Env a n ds l) (S : St w M H) (hd : Nat.blt d n = true) (T : SlT P t el sz by_ zv) (h0 : Nat.ble 1 len = true) (hlen : Nat.ble len 1000 = true) (hsz : Nat.ble sz 1000 = true)
    (h1 : parts.toList.map (·.1) = List.range' 0 len) (hp : opvs l (parts.toList.map (·.2)) = some (vss.map fun c => Value.agg c.toArray)) (hl : vss.length = len) (hx : xs.length = len) (hc : ∀ c ∈ vss, c.length = sz) (hR : ∀ (i : Nat) x, xs[i]? = some x → ∃ c, vss[i]? = some c ∧ R M c x)
    (kk : ∀ a v w' M', Hp.le M M' → RdS sz R M' v xs → St w' M' H → Env a n ds ((d, v) :: l) → next a w') : (⟨some d, .buildSlice t len parts, ty, pos, af, gd⟩ : Oper).wpIn (Fw r) 0 P a w next Q := by
  have hln : len ≤ 1000 := by simpa using hlen
  refine X_buildAn E S hd T h0 hlen hsz h1 hp hl hc fun a w' v E S => ?_
  rw [← hx] at S
  obtain ⟨M', hM, hr, S⟩ := S.freezeC (R := R) (l := xs) (by omega) fun i x hxi M' hM => by
    obtain ⟨c, h5, h6⟩ := hR i x hxi
    rw [flat_sz hc h5]; exact hRm _ _ _ _ hM h6
  exact kk a v w' M' hM hr S E
end
theorem rP_nil {α : Type} {R : Hp → List Value → α → Prop} {M : Hp} : ∀ (i : Nat) (x : α), ([] : List α)[i]? = some x → ∃ c, ([] : List (List Value))[i]? = some c ∧ R M c x := fun i x h => by simp at h
theorem rP_cons {α : Type} {R : Hp → List Value → α → Prop} {M : Hp} {c : List Value} {x : α} {vss : List (List Value)} {xs : List α} (h : R M c x) (hs : ∀ (i : Nat) (x : α), xs[i]? = some x → ∃ c, vss[i]? = some c ∧ R M c x) : ∀ (i : Nat) (y : α), (x :: xs)[i]? = some y → ∃ d, (c :: vss)[i]? = some d ∧ R M d y
  | 0, y, hy => by simp at hy; subst hy; exact ⟨c, rfl, h⟩
  | i + 1, y, hy => by simpa using hs i y (by simpa using hy)
theorem flatv_len {sz : Nat} : ∀ {vss : List (List Value)}, (∀ c ∈ vss, c.length = sz) → vss.flatten.length = vss.length * sz
  | [], _ => by simp
  | c :: vss, h => by rw [List.flatten_cons, List.length_append, h c (List.mem_cons_self ..), flatv_len fun d hd => h d (List.mem_cons_of_mem _ hd), List.length_cons, Nat.succ_mul]; omega
theorem rows_aggs {α : Type} {R : Hp → List Value → α → Prop} {sz : Nat} {M : Hp} {vss : List (List Value)} {xs : List α} (hone : ROne R) (hc : ∀ c ∈ vss, c.length = sz) (hx : xs.length = vss.length) (hR : ∀ (i : Nat) x, xs[i]? = some x → ∃ c, vss[i]? = some c ∧ R M c x) : RowsR R sz M xs vss.flatten := by
  refine ⟨by rw [flatv_len hc, hx], fun u hu => ?_, fun i x hxi => ?_⟩
  · obtain ⟨c, hc1, hu1⟩ := List.mem_flatten.1 hu
    obtain ⟨i, hi⟩ := List.getElem?_of_mem hc1
    have hlt := (List.getElem?_eq_some_iff.1 hi).1
    obtain ⟨d, h1, h2⟩ := hR i xs[i] (List.getElem?_eq_getElem (by omega))
    rw [hi] at h1; cases h1
    exact hone _ _ _ h2 u hu1
  · obtain ⟨c, h1, h2⟩ := hR i x hxi
    rw [flat_sz hc h1]; exact h2
theorem regN0 : regN 0 = 0 := by decide
theorem one_ln {ls : List (List Int)} {x : List Int} (h : ls = [[5], [], [], [], [], [], [], []]) (hx : ls[0]? = some x) : decide (((x.length : Nat) : Int) ≠ 1) = false := by
  subst h; cases hx; rfl
/-- the script of FnSetsApart: two sets, a copy, what two sets make, and then changes to what was made -/
def scrA (a b : List Int) : List SSt := [(0, 0, 0, 0, 0, a), (0, 0, 0, 1, 0, b), (6, 0, 0, 2, 0, [])]
def scrB : List SSt := [(7, 0, 1, 3, 0, []), (8, 0, 1, 4, 0, []), (9, 0, 1, 5, 0, []), (10, 0, 1, 6, 0, [])]
def scrC (x : Int) (c : List Int) (n : Nat) : List SSt := (List.range' 2 n).flatMap fun (i : Nat) => [((1 : Int), (i : Int), (0 : Int), (0 : Int), x, ([] : List Int)), (4, (i : Int), 0, 0, 0, c), (5, (i : Int), 0, 0, 0, [])]
theorem scrC_succ (x : Int) (c : List Int) (n : Nat) : scrC x c (n + 1) = scrC x c n ++ [(1, ((n + 2 : Nat) : Int), 0, 0, x, []), (4, ((n + 2 : Nat) : Int), 0, 0, 0, c), (5, ((n + 2 : Nat) : Int), 0, 0, 0, [])] := by
  unfold scrC
  rw [List.range'_1_concat, List.flatMap_append]
  simp [Nat.add_comm]
theorem scrC_len (x : Int) (c : List Int) (n : Nat) : (scrC x c n).length = n * 3 := by
  induction n with
  | zero => rfl
  | succ n ih => rw [scrC_succ, List.length_append, ih]; simp [Nat.succ_mul]
theorem scrB_succ {k : Nat} {d : Int} (h : ([7, 8, 9, 10] : List Int)[k]? = some d) : scrB.take k ++ [(d, 0, 1, ((3 + k : Nat) : Int), 0, [])] = scrB.take (k + 1) := by
  match k, h with
  | 0, h => cases h; rfl
  | 1, h => cases h; rfl
  | 2, h => cases h; rfl
  | 3, h => cases h; rfl
  | k + 4, h => simp at h
theorem apart_len {a b : List Int} {x : Int} {k : Nat} (h1 : a.length ≤ 100) (h2 : b.length ≤ 100) : ∀ s ∈ scrA a b ++ scrB.take 4 ++ scrC x (a ++ b) k, s.2.2.2.2.2.length ≤ 1000 := by
  intro s hs
  rcases List.mem_append.1 hs with hs | hs
  · rcases List.mem_append.1 hs with hs | hs
    · simp only [scrA, List.mem_cons, List.not_mem_nil, or_false] at hs
      rcases hs with rfl | rfl | rfl <;> simp <;> omega
    · have hs := List.mem_of_mem_take hs
      simp only [scrB, List.mem_cons, List.not_mem_nil, or_false] at hs
      rcases hs with rfl | rfl | rfl | rfl <;> simp
  · unfold scrC at hs
    obtain ⟨i, _, hs⟩ := List.mem_flatMap.1 hs
    simp only [List.mem_cons, List.not_mem_nil, or_false] at hs
    rcases hs with rfl | rfl | rfl <;> simp <;> omega
theorem regNs : regN 1 = 1 ∧ regN 2 = 2 ∧ regN 3 = 3 ∧ regN 4 = 4 ∧ regN 5 = 5 ∧ regN 6 = 6 := by decide
/-- what three steps on register i leave: nothing in it, all others as they were -/
theorem three {x : Int} {c : List Int} {i : Int} {l : List SSt} {ls ls' : List (List Int)} {an : List SAn} (h : runR ((1, i, 0, 0, x, []) :: (4, i, 0, 0, 0, c) :: (5, i, 0, 0, 0, []) :: l) ls an ls') : ∃ an', runR l (ls.set (regN i) []) an' ls' := by
  obtain ⟨⟨i0, n0, l0⟩, m0, t0, rfl, h0, ⟨i1, n1, l1⟩, m1, t1, rfl, h1, ⟨i2, n2, l2⟩, m2, t2, rfl, h2, h3⟩ := h
  simp only [StepR, Int.reduceEq, ↓reduceIte] at h0 h1 h2
  obtain ⟨rfl, _⟩ := h0
  obtain ⟨rfl, _⟩ := h1
  obtain ⟨rfl, _⟩ := h2
  rw [List.set_set, List.set_set] at h3
  exact ⟨_, h3⟩
theorem script_eq (a b : List Int) (x : Int) : scrA a b ++ scrB.take 4 ++ scrC x (a ++ b) 5 = [(0, 0, 0, 0, 0, a), (0, 0, 0, 1, 0, b), (6, 0, 0, 2, 0, []), (7, 0, 1, 3, 0, []), (8, 0, 1, 4, 0, []), (9, 0, 1, 5, 0, []), (10, 0, 1, 6, 0, []),
    (1, 2, 0, 0, x, []), (4, 2, 0, 0, 0, a ++ b), (5, 2, 0, 0, 0, []), (1, 3, 0, 0, x, []), (4, 3, 0, 0, 0, a ++ b), (5, 3, 0, 0, 0, []), (1, 4, 0, 0, x, []), (4, 4, 0, 0, 0, a ++ b), (5, 4, 0, 0, 0, []),
    (1, 5, 0, 0, x, []), (4, 5, 0, 0, 0, a ++ b), (5, 5, 0, 0, 0, []), (1, 6, 0, 0, x, []), (4, 6, 0, 0, 0, a ++ b), (5, 6, 0, 0, 0, [])] := rfl
theorem runR1 {s : SSt} {l : List SSt} {ls ls' : List (List Int)} {an : List SAn} {r : Nat} {c : List Int} (h : runR (s :: l) ls an ls') (hs : ∀ ls1 is n al, StepR s.1 (regN s.2.1) (regN s.2.2.2.1) s.2.2.2.2.1 s.2.2.2.2.2 (ls.getD (regN s.2.1) []) (ls.getD (regN s.2.2.1) []) ls ls1 is n al → ls1 = ls.set r c) : ∃ an', runR l (ls.set r c) an' ls' := by
  obtain ⟨⟨i0, n0, l0⟩, m0, t0, rfl, h0, h1⟩ := h
  rw [hs _ _ _ _ h0] at h1
  exact ⟨_, h1⟩
theorem apart {a b : List Int} {x : Int} {an : List SAn} {ls : List (List Int)} (h : PlayR (scrA a b ++ scrB.take 4 ++ scrC x (a ++ b) 5) an ls) : ls = [setI a, setI b, [], [], [], [], [], []] := by
  rw [script_eq] at h
  have h := play_run h
  obtain ⟨_, h⟩ := runR1 (r := 0) (c := setI a) h (fun ls1 is n al hs => by simp only [StepR, Int.reduceEq, ↓reduceIte, regN0] at hs; exact hs.1)
  obtain ⟨_, h⟩ := runR1 (r := 1) (c := setI b) h (fun ls1 is n al hs => by simp only [StepR, Int.reduceEq, ↓reduceIte, regN0, regNs] at hs; exact hs.1)
  obtain ⟨_, h⟩ := runR1 (r := 2) (c := setI (setI a)) h (fun ls1 is n al hs => by simp only [StepR, Int.reduceEq, ↓reduceIte, regN0, regNs] at hs; exact hs.1)
  obtain ⟨_, h⟩ := runR1 (r := 3) (c := setI (setI a ++ setI b)) h (fun ls1 is n al hs => by simp only [StepR, Int.reduceEq, ↓reduceIte, regN0, regNs] at hs; exact hs.1)
  obtain ⟨_, h⟩ := runR1 (r := 4) (c := setInt (setI a) (setI b)) h (fun ls1 is n al hs => by simp only [StepR, Int.reduceEq, ↓reduceIte, regN0, regNs] at hs; exact hs.1)
  obtain ⟨_, h⟩ := runR1 (r := 5) (c := setDif (setI a) (setI b)) h (fun ls1 is n al hs => by simp only [StepR, Int.reduceEq, ↓reduceIte, regN0, regNs] at hs; exact hs.1)
  obtain ⟨_, h⟩ := runR1 (r := 6) (c := setSym (setI a) (setI b)) h (fun ls1 is n al hs => by simp only [StepR, Int.reduceEq, ↓reduceIte, regN0, regNs] at hs; exact hs.1)
  obtain ⟨_, h⟩ := three h
  obtain ⟨_, h⟩ := three h
  obtain ⟨_, h⟩ := three h
  obtain ⟨_, h⟩ := three h
  obtain ⟨_, h⟩ := three h
  obtain ⟨_, rfl⟩ := h
  simp only [regNs]
  rfl
theorem apart_at {a b l : List Int} {ls : List (List Int)} {i : Nat} (h : ls = [setI a, setI b, [], [], [], [], [], []]) (hx : ls[i]? = some l) : (i = 0 → l = setI a) ∧ (i = 1 → l = setI b) ∧ (i = 2 ∨ i = 6 → l = []) := by
  subst h
  refine ⟨fun e => ?_, fun e => ?_, fun e => ?_⟩
  · subst e; exact (Option.some.inj hx).symm
  · subst e; exact (Option.some.inj hx).symm
  · rcases e with e | e <;> subst e <;> exact (Option.some.inj hx).symm
theorem apart_0 {a b l : List Int} {ls : List (List Int)} {i : Nat} (h : ls = [setI a, setI b, [], [], [], [], [], []]) (hx : ls[i]? = some l) (hi : i = 2 ∨ i = 6) : decide (((l.length : Nat) : Int) = 0) = true := by
  rw [(apart_at h hx).2.2 hi]; rfl

end Go.Proofs.YtlmpgefhnmfhpaaGreat.wFnSetsApart
