import Derived.Test.YtlmpgefhnmfhpaaGreatProg
import Derived.Test.YtlmpgefhnmfhpaaGreatSlS
import Derived.Ground.SlgmProg
import Derived.Conc.RwLoneW
import Derived.KernelRfl
set_option linter.unusedVariables false
set_option linter.unusedSimpArgs false
namespace Go.Proofs.YtlmpgefhnmfhpaaGreat.wFnSetScript
open Go Go.Sl
set_option maxRecDepth 100000
set_option maxHeartbeats 4000000

theorem Tryz.mixed : Tryz.prog.follows .mixedOrders = true := by kernel_rfl
theorem JE : Gj Tryz.prog 22 3 1 8 (.int .i64 0) := ⟨Tryz.underlying22, ⟨Tryz.t3, by kernel_rfl, rfl, rfl, rfl⟩, rfl, by decide⟩
theorem T28 : Gj Tryz.prog 28 4 1 1 (.bool false) := ⟨Tryz.underlying28, ⟨Tryz.t4, by kernel_rfl, rfl, rfl, rfl⟩, rfl, by decide⟩
theorem T33 : Gj Tryz.prog 33 40 6 64 (.agg #[(.int .i64 0), (.int .i64 0), (.int .i64 0), (.int .i64 0), (.int .i64 0), (.slice none 0 0)]) := ⟨Tryz.underlying33, ⟨Tryz.t40, by kernel_rfl, rfl, rfl, rfl⟩, rfl, by decide⟩
theorem T35 : Gj Tryz.prog 35 42 3 40 (.agg #[(.bool false), (.int .i64 0), (.slice none 0 0)]) := ⟨Tryz.underlying35, ⟨Tryz.t42, by kernel_rfl, rfl, rfl, rfl⟩, rfl, by decide⟩
theorem T36 : Gj Tryz.prog 36 22 1 24 (.slice none 0 0) := ⟨Tryz.underlying36, ⟨Tryz.t22, by kernel_rfl, rfl, rfl, rfl⟩, rfl, by decide⟩
theorem T45 : Gj Tryz.prog 45 67 6 64 (.agg #[(.int .i64 0), (.int .i64 0), (.int .i64 0), (.int .i64 0), (.int .i64 0), (.slice none 0 0)]) := ⟨Tryz.underlying45, ⟨Tryz.t67, by kernel_rfl, rfl, rfl, rfl⟩, rfl, by decide⟩
theorem yw : Gj Tryz.prog 47 69 3 40 (.agg #[(.bool false), (.int .i64 0), (.slice none 0 0)]) := ⟨Tryz.underlying47, ⟨Tryz.t69, by kernel_rfl, rfl, rfl, rfl⟩, rfl, by decide⟩
theorem T62 : Gj Tryz.prog 62 55 1 16 (.nilIface) := ⟨Tryz.underlying62, ⟨Tryz.t55, by kernel_rfl, rfl, rfl, rfl⟩, rfl, by decide⟩
theorem jc : Vh Tryz.prog 106 3 4 (.bool false) := ⟨Tryz.underlying106, Tryz.underlying3, ⟨Tryz.t4, by kernel_rfl, rfl⟩⟩
theorem JJ : Vh Tryz.prog 145 3 104 (.agg #[]) := ⟨Tryz.underlying145, Tryz.underlying3, ⟨Tryz.t104, by kernel_rfl, rfl⟩⟩
theorem qo (w : World) : (Instr.build 104 #[]).run Tryz.prog w = .ok (.agg #[]) w := run_build _ _ _ _ (by kernel_rfl)
theorem yv (x0 : Int) (x1 : Int) (w : World) : (Instr.build 40 #[(0, (.int .i64 x0)), (4, (.int .i64 x1))]).run Tryz.prog w = .ok (.agg #[(.int .i64 x0), (.int .i64 0), (.int .i64 0), (.int .i64 0), (.int .i64 x1), (.slice none 0 0)]) w := run_build _ _ _ _ (by kernel_rfl)
theorem VQ (x : Option Addr) (w : World) : (Instr.build 144 #[(1, .pointer x)]).run Tryz.prog w = .ok (.agg #[.int .i32 0, .int .u32 0, .int .u32 0, .int .u32 0, .int .i32 0, .int .i32 0, .pointer x]) w := run_build _ _ _ _ (by kernel_rfl)
theorem Qs (p : Addr) (w : World) : (Instr.fieldAt 144 (.pointer (some p)) 0).run Tryz.prog w = .ok (.pointer (some (p.add 0))) w := by kernel_rfl
theorem QW (p : Addr) (w : World) : (Instr.fieldAt 144 (.pointer (some p)) 1).run Tryz.prog w = .ok (.pointer (some (p.add 6))) w := by kernel_rfl
theorem FA40_0 (p : Addr) (w : World) : (Instr.fieldAt 40 (.pointer (some p)) 0).run Tryz.prog w = .ok (.pointer (some (p.add 0))) w := by kernel_rfl
theorem FA40_1 (p : Addr) (w : World) : (Instr.fieldAt 40 (.pointer (some p)) 1).run Tryz.prog w = .ok (.pointer (some (p.add 1))) w := by kernel_rfl
theorem FA40_2 (p : Addr) (w : World) : (Instr.fieldAt 40 (.pointer (some p)) 2).run Tryz.prog w = .ok (.pointer (some (p.add 2))) w := by kernel_rfl
theorem FA40_3 (p : Addr) (w : World) : (Instr.fieldAt 40 (.pointer (some p)) 3).run Tryz.prog w = .ok (.pointer (some (p.add 3))) w := by kernel_rfl
theorem jB (p : Addr) (w : World) : (Instr.fieldAt 40 (.pointer (some p)) 4).run Tryz.prog w = .ok (.pointer (some (p.add 4))) w := by kernel_rfl
theorem US (p : Addr) (w : World) : (Instr.fieldAt 40 (.pointer (some p)) 5).run Tryz.prog w = .ok (.pointer (some (p.add 5))) w := by kernel_rfl
theorem YZ (p : Addr) (w : World) : (Instr.fieldAt 42 (.pointer (some p)) 0).run Tryz.prog w = .ok (.pointer (some (p.add 0))) w := by kernel_rfl
theorem jA (p : Addr) (w : World) : (Instr.fieldAt 42 (.pointer (some p)) 1).run Tryz.prog w = .ok (.pointer (some (p.add 1))) w := by kernel_rfl
theorem UR (p : Addr) (w : World) : (Instr.fieldAt 42 (.pointer (some p)) 2).run Tryz.prog w = .ok (.pointer (some (p.add 2))) w := by kernel_rfl
theorem Zq (p : Addr) (w : World) : (Instr.fieldAt 67 (.pointer (some p)) 0).run Tryz.prog w = .ok (.pointer (some (p.add 0))) w := by kernel_rfl
theorem WD (p : Addr) (w : World) : (Instr.fieldAt 67 (.pointer (some p)) 1).run Tryz.prog w = .ok (.pointer (some (p.add 1))) w := by kernel_rfl
theorem FA67_2 (p : Addr) (w : World) : (Instr.fieldAt 67 (.pointer (some p)) 2).run Tryz.prog w = .ok (.pointer (some (p.add 2))) w := by kernel_rfl
theorem FA67_3 (p : Addr) (w : World) : (Instr.fieldAt 67 (.pointer (some p)) 3).run Tryz.prog w = .ok (.pointer (some (p.add 3))) w := by kernel_rfl
theorem ze (p : Addr) (w : World) : (Instr.fieldAt 67 (.pointer (some p)) 4).run Tryz.prog w = .ok (.pointer (some (p.add 4))) w := by kernel_rfl
theorem GH (p : Addr) (w : World) : (Instr.fieldAt 67 (.pointer (some p)) 5).run Tryz.prog w = .ok (.pointer (some (p.add 5))) w := by kernel_rfl
theorem Vo (p : Addr) (w : World) : (Instr.fieldAt 69 (.pointer (some p)) 0).run Tryz.prog w = .ok (.pointer (some (p.add 0))) w := by kernel_rfl
theorem VH (p : Addr) (w : World) : (Instr.fieldAt 69 (.pointer (some p)) 1).run Tryz.prog w = .ok (.pointer (some (p.add 1))) w := by kernel_rfl
theorem GG (p : Addr) (w : World) : (Instr.fieldAt 69 (.pointer (some p)) 2).run Tryz.prog w = .ok (.pointer (some (p.add 2))) w := by kernel_rfl
abbrev Tryz.muLink : Go.Conc.Locks.MuLink := { lock := 120, unlock := 129, ilock := 132, iunlock := 134, lockSlow := 136, unlockSlow := 137, disable := 119, enable := 123, acquire := 124, relMerge := 126, cas32 := 135, add32 := 133, tMutex := 137, tIMutex := 135, tPMutex := 157, tPIMutex := 168, tPI32 := 167, tUP := 156, tNoCopy := 133, tU32 := 130 }
theorem Tryz.muLib : Go.Conc.Locks.MuLib Tryz.prog Tryz.muLink :=
  ⟨Tryz.func120, Tryz.func129, Tryz.func132, Tryz.func134, Tryz.func119, Tryz.func123, Tryz.func124, Tryz.func126, Tryz.func135, Tryz.func133, Tryz.underlying135, Tryz.runUnderlying135, Tryz.sizeOf135, Tryz.isAgg135, Tryz.zeroValue135, Tryz.underlying137, Tryz.runUnderlying137, Tryz.sizeOf137, Tryz.isAgg137, Tryz.zeroValue137, Tryz.underlying157, Tryz.runUnderlying157, Tryz.sizeOf157, Tryz.isAgg157, Tryz.zeroValue157, Tryz.underlying168, Tryz.runUnderlying168, Tryz.sizeOf168, Tryz.isAgg168, Tryz.zeroValue168, Tryz.underlying167, Tryz.runUnderlying167, Tryz.sizeOf167, Tryz.isAgg167, Tryz.zeroValue167, Tryz.underlying156, Tryz.runUnderlying156, Tryz.sizeOf156, Tryz.isAgg156, Tryz.zeroValue156, Tryz.underlying133, Tryz.runUnderlying133, Tryz.sizeOf133, Tryz.isAgg133, Tryz.zeroValue133, Tryz.underlying21, Tryz.runUnderlying21, Tryz.sizeOf21, Tryz.isAgg21, Tryz.zeroValue21, (by kernel_rfl)⟩
abbrev Tryz.rwLink : Go.Conc.Locks.RwLink := { lock := 120, unlock := 129, ilock := 132, iunlock := 134, lockSlow := 136, unlockSlow := 137, disable := 119, enable := 123, acquire := 124, relMerge := 126, cas32 := 135, add32 := 133, tMutex := 137, tIMutex := 135, tPMutex := 157, tPIMutex := 168, tPI32 := 167, tUP := 156, tNoCopy := 133, tU32 := 130, rlock := 185, runlock := 186, wlock := 106, wunlock := 107, i32add := 121, raceRead := 118, release := 125, rUnlockSlow := 204, semacqR := 203, semacqW := 122, semrel := 128, sfatal := 127, tRW := 142, tPRW := 154, tAI32 := 140, tPAI32 := 165, tPU32 := 160, tANoCopy := 138 }
theorem Tryz.rwCore : Go.Conc.Locks.RwCore Tryz.prog Tryz.rwLink :=
  ⟨Tryz.func121, Tryz.func118, Tryz.func119, Tryz.func123, Tryz.func124, Tryz.func126, Tryz.func133, Tryz.underlying142, Tryz.runUnderlying142, Tryz.sizeOf142, Tryz.isAgg142, Tryz.zeroValue142, Tryz.underlying140, Tryz.runUnderlying140, Tryz.sizeOf140, Tryz.isAgg140, Tryz.zeroValue140, Tryz.underlying154, Tryz.runUnderlying154, Tryz.sizeOf154, Tryz.isAgg154, Tryz.zeroValue154, Tryz.underlying165, Tryz.runUnderlying165, Tryz.sizeOf165, Tryz.isAgg165, Tryz.zeroValue165, Tryz.underlying160, Tryz.runUnderlying160, Tryz.sizeOf160, Tryz.isAgg160, Tryz.zeroValue160, Tryz.underlying138, Tryz.runUnderlying138, Tryz.sizeOf138, Tryz.isAgg138, Tryz.zeroValue138, Tryz.underlying130, Tryz.runUnderlying130, Tryz.sizeOf130, Tryz.isAgg130, Tryz.zeroValue130, Tryz.underlying137, Tryz.runUnderlying137, Tryz.sizeOf137, Tryz.isAgg137, Tryz.zeroValue137, Tryz.underlying157, Tryz.runUnderlying157, Tryz.sizeOf157, Tryz.isAgg157, Tryz.zeroValue157, Tryz.underlying167, Tryz.runUnderlying167, Tryz.sizeOf167, Tryz.isAgg167, Tryz.zeroValue167, Tryz.underlying156, Tryz.runUnderlying156, Tryz.sizeOf156, Tryz.isAgg156, Tryz.zeroValue156, Tryz.underlying21, Tryz.runUnderlying21, Tryz.sizeOf21, Tryz.isAgg21, Tryz.zeroValue21, (by kernel_rfl), (by kernel_rfl)⟩
theorem Tryz.rwRLib : Go.Conc.Locks.RwRLib Tryz.prog Tryz.rwLink := ⟨Tryz.rwCore, Tryz.func185, Tryz.func186⟩
theorem Tryz.rwWLib : Go.Conc.Locks.RwWLib Tryz.prog Tryz.rwLink := ⟨Tryz.rwCore, Tryz.muLib, Tryz.func106, Tryz.func107, Tryz.func125, Tryz.underlying3, Tryz.runUnderlying3, Tryz.sizeOf3, Tryz.isAgg3, Tryz.zeroValue3⟩
theorem WV (p : Value) (w : World) : ∀ args : Array Value, (callMethod (.iface 114 p) "Add" args).run Tryz.prog w = .ok (.enter 84 (#[p] ++ args)) w := fun args => by kernel_rfl
theorem GZ (p : Value) (w : World) : ∀ args : Array Value, (callMethod (.iface 114 p) "Append" args).run Tryz.prog w = .ok (.enter 160 (#[p] ++ args)) w := fun args => by kernel_rfl
theorem UE (p : Value) (w : World) : ∀ args : Array Value, (callMethod (.iface 114 p) "Cardinality" args).run Tryz.prog w = .ok (.enter 161 (#[p] ++ args)) w := fun args => by kernel_rfl
theorem qJ (p : Value) (w : World) : ∀ args : Array Value, (callMethod (.iface 114 p) "Clear" args).run Tryz.prog w = .ok (.enter 162 (#[p] ++ args)) w := fun args => by kernel_rfl
theorem qI (p : Value) (w : World) : ∀ args : Array Value, (callMethod (.iface 114 p) "Clone" args).run Tryz.prog w = .ok (.enter 163 (#[p] ++ args)) w := fun args => by kernel_rfl
theorem WU (p : Value) (w : World) : ∀ args : Array Value, (callMethod (.iface 114 p) "Contains" args).run Tryz.prog w = .ok (.enter 164 (#[p] ++ args)) w := fun args => by kernel_rfl
theorem UD (p : Value) (w : World) : ∀ args : Array Value, (callMethod (.iface 114 p) "ContainsAny" args).run Tryz.prog w = .ok (.enter 165 (#[p] ++ args)) w := fun args => by kernel_rfl
theorem Yb (p : Value) (w : World) : ∀ args : Array Value, (callMethod (.iface 114 p) "ContainsAnyElement" args).run Tryz.prog w = .ok (.enter 166 (#[p] ++ args)) w := fun args => by kernel_rfl
theorem UC (p : Value) (w : World) : ∀ args : Array Value, (callMethod (.iface 114 p) "ContainsOne" args).run Tryz.prog w = .ok (.enter 167 (#[p] ++ args)) w := fun args => by kernel_rfl
theorem Vt (p : Value) (w : World) : ∀ args : Array Value, (callMethod (.iface 114 p) "Difference" args).run Tryz.prog w = .ok (.enter 168 (#[p] ++ args)) w := fun args => by kernel_rfl
theorem zt (p : Value) (w : World) : ∀ args : Array Value, (callMethod (.iface 114 p) "Each" args).run Tryz.prog w = .ok (.enter 169 (#[p] ++ args)) w := fun args => by kernel_rfl
theorem UB (p : Value) (w : World) : ∀ args : Array Value, (callMethod (.iface 114 p) "Equal" args).run Tryz.prog w = .ok (.enter 170 (#[p] ++ args)) w := fun args => by kernel_rfl
theorem VB (p : Value) (w : World) : ∀ args : Array Value, (callMethod (.iface 114 p) "Intersect" args).run Tryz.prog w = .ok (.enter 171 (#[p] ++ args)) w := fun args => by kernel_rfl
theorem Gw (p : Value) (w : World) : ∀ args : Array Value, (callMethod (.iface 114 p) "IsEmpty" args).run Tryz.prog w = .ok (.enter 172 (#[p] ++ args)) w := fun args => by kernel_rfl
theorem Zp (p : Value) (w : World) : ∀ args : Array Value, (callMethod (.iface 114 p) "IsProperSubset" args).run Tryz.prog w = .ok (.enter 173 (#[p] ++ args)) w := fun args => by kernel_rfl
theorem Yp (p : Value) (w : World) : ∀ args : Array Value, (callMethod (.iface 114 p) "IsProperSuperset" args).run Tryz.prog w = .ok (.enter 174 (#[p] ++ args)) w := fun args => by kernel_rfl
theorem Ya (p : Value) (w : World) : ∀ args : Array Value, (callMethod (.iface 114 p) "IsSubset" args).run Tryz.prog w = .ok (.enter 175 (#[p] ++ args)) w := fun args => by kernel_rfl
theorem Vs (p : Value) (w : World) : ∀ args : Array Value, (callMethod (.iface 114 p) "IsSuperset" args).run Tryz.prog w = .ok (.enter 176 (#[p] ++ args)) w := fun args => by kernel_rfl
theorem jn (p : Value) (w : World) : ∀ args : Array Value, (callMethod (.iface 114 p) "Pop" args).run Tryz.prog w = .ok (.enter 177 (#[p] ++ args)) w := fun args => by kernel_rfl
theorem zr (p : Value) (w : World) : ∀ args : Array Value, (callMethod (.iface 114 p) "PopN" args).run Tryz.prog w = .ok (.enter 178 (#[p] ++ args)) w := fun args => by kernel_rfl
theorem GY (p : Value) (w : World) : ∀ args : Array Value, (callMethod (.iface 114 p) "Remove" args).run Tryz.prog w = .ok (.enter 179 (#[p] ++ args)) w := fun args => by kernel_rfl
theorem Wz (p : Value) (w : World) : ∀ args : Array Value, (callMethod (.iface 114 p) "RemoveAll" args).run Tryz.prog w = .ok (.enter 180 (#[p] ++ args)) w := fun args => by kernel_rfl
theorem ZT (p : Value) (w : World) : ∀ args : Array Value, (callMethod (.iface 114 p) "SymmetricDifference" args).run Tryz.prog w = .ok (.enter 181 (#[p] ++ args)) w := fun args => by kernel_rfl
theorem Gv (p : Value) (w : World) : ∀ args : Array Value, (callMethod (.iface 114 p) "ToSlice" args).run Tryz.prog w = .ok (.enter 182 (#[p] ++ args)) w := fun args => by kernel_rfl
theorem UA (p : Value) (w : World) : ∀ args : Array Value, (callMethod (.iface 114 p) "Union" args).run Tryz.prog w = .ok (.enter 183 (#[p] ++ args)) w := fun args => by kernel_rfl
theorem zu (p : Value) (w : World) : (method (Tryz.prog.types.size + Made.depth) 116 p "Add").run Tryz.prog w = ((receiverAt 116 (.val p) false (some (("Add".splitOn ".").getLastD "Add"))) >>= fun v => pure (86, v)).run Tryz.prog w := by kernel_rfl
theorem WT {p v : Value} {b : Nat} {w : World} (e : p = .pointer (some ⟨b, 0, none⟩)) (hc : w.cell? ⟨b, 0, none⟩ = some v) : ∀ args : Array Value, (callMethod (.iface 116 p) "Add" args).run Tryz.prog w = .ok (.enter 86 (#[v] ++ args)) w := by
  intro args
  subst e
  have hw : ∀ s w, (Builtin.ssaWrapNilChk_ #[116] 116 #[.pointer (some ⟨b, 0, none⟩), strVal "", strVal s]).run Tryz.prog w = .ok (.pointer (some ⟨b, 0, none⟩)) w := fun _ _ => rfl
  simp only [callMethod, Sem.run_bind, run_program, Result.andThen_ok]
  rw [zu]
  simp [receiverAt, Place.get, hw, go_sem, hc, asAddr]
theorem GX (p : Value) (w : World) : ∀ args : Array Value, (callMethod (.iface 116 p) "Append" args).run Tryz.prog w = .ok (.enter 184 (#[p] ++ args)) w := fun args => by kernel_rfl
theorem JO (p : Value) (w : World) : ∀ args : Array Value, (callMethod (.iface 116 p) "Cardinality" args).run Tryz.prog w = .ok (.enter 205 (#[p] ++ args)) w := fun args => by kernel_rfl
theorem qH (p : Value) (w : World) : ∀ args : Array Value, (callMethod (.iface 116 p) "Clear" args).run Tryz.prog w = .ok (.enter 187 (#[p] ++ args)) w := fun args => by kernel_rfl
theorem qG (p : Value) (w : World) : ∀ args : Array Value, (callMethod (.iface 116 p) "Clone" args).run Tryz.prog w = .ok (.enter 188 (#[p] ++ args)) w := fun args => by kernel_rfl
theorem WS (p : Value) (w : World) : ∀ args : Array Value, (callMethod (.iface 116 p) "Contains" args).run Tryz.prog w = .ok (.enter 189 (#[p] ++ args)) w := fun args => by kernel_rfl
theorem Uz (p : Value) (w : World) : ∀ args : Array Value, (callMethod (.iface 116 p) "ContainsAny" args).run Tryz.prog w = .ok (.enter 190 (#[p] ++ args)) w := fun args => by kernel_rfl
theorem ZZ (p : Value) (w : World) : ∀ args : Array Value, (callMethod (.iface 116 p) "ContainsAnyElement" args).run Tryz.prog w = .ok (.enter 191 (#[p] ++ args)) w := fun args => by kernel_rfl
theorem Uy (p : Value) (w : World) : ∀ args : Array Value, (callMethod (.iface 116 p) "ContainsOne" args).run Tryz.prog w = .ok (.enter 192 (#[p] ++ args)) w := fun args => by kernel_rfl
theorem Vr (p : Value) (w : World) : ∀ args : Array Value, (callMethod (.iface 116 p) "Difference" args).run Tryz.prog w = .ok (.enter 193 (#[p] ++ args)) w := fun args => by kernel_rfl
theorem zq (p : Value) (w : World) : ∀ args : Array Value, (callMethod (.iface 116 p) "Each" args).run Tryz.prog w = .ok (.enter 208 (#[p] ++ args)) w := fun args => by kernel_rfl
theorem Ux (p : Value) (w : World) : ∀ args : Array Value, (callMethod (.iface 116 p) "Equal" args).run Tryz.prog w = .ok (.enter 194 (#[p] ++ args)) w := fun args => by kernel_rfl
theorem VA (p : Value) (w : World) : ∀ args : Array Value, (callMethod (.iface 116 p) "Intersect" args).run Tryz.prog w = .ok (.enter 195 (#[p] ++ args)) w := fun args => by kernel_rfl
theorem Gu (p : Value) (w : World) : ∀ args : Array Value, (callMethod (.iface 116 p) "IsEmpty" args).run Tryz.prog w = .ok (.enter 209 (#[p] ++ args)) w := fun args => by kernel_rfl
theorem Yy (p : Value) (w : World) : ∀ args : Array Value, (callMethod (.iface 116 p) "IsProperSubset" args).run Tryz.prog w = .ok (.enter 196 (#[p] ++ args)) w := fun args => by kernel_rfl
theorem Yo (p : Value) (w : World) : ∀ args : Array Value, (callMethod (.iface 116 p) "IsProperSuperset" args).run Tryz.prog w = .ok (.enter 210 (#[p] ++ args)) w := fun args => by kernel_rfl
theorem YG (p : Value) (w : World) : ∀ args : Array Value, (callMethod (.iface 116 p) "IsSubset" args).run Tryz.prog w = .ok (.enter 197 (#[p] ++ args)) w := fun args => by kernel_rfl
theorem Vq (p : Value) (w : World) : ∀ args : Array Value, (callMethod (.iface 116 p) "IsSuperset" args).run Tryz.prog w = .ok (.enter 211 (#[p] ++ args)) w := fun args => by kernel_rfl
theorem jm (p : Value) (w : World) : ∀ args : Array Value, (callMethod (.iface 116 p) "Pop" args).run Tryz.prog w = .ok (.enter 198 (#[p] ++ args)) w := fun args => by kernel_rfl
theorem zp (p : Value) (w : World) : ∀ args : Array Value, (callMethod (.iface 116 p) "PopN" args).run Tryz.prog w = .ok (.enter 199 (#[p] ++ args)) w := fun args => by kernel_rfl
theorem Gx (p : Value) (w : World) : (method (Tryz.prog.types.size + Made.depth) 116 p "Remove").run Tryz.prog w = ((receiverAt 116 (.val p) false (some (("Remove".splitOn ".").getLastD "Remove"))) >>= fun v => pure (212, v)).run Tryz.prog w := by kernel_rfl
theorem GW {p v : Value} {b : Nat} {w : World} (e : p = .pointer (some ⟨b, 0, none⟩)) (hc : w.cell? ⟨b, 0, none⟩ = some v) : ∀ args : Array Value, (callMethod (.iface 116 p) "Remove" args).run Tryz.prog w = .ok (.enter 212 (#[v] ++ args)) w := by
  intro args
  subst e
  have hw : ∀ s w, (Builtin.ssaWrapNilChk_ #[116] 116 #[.pointer (some ⟨b, 0, none⟩), strVal "", strVal s]).run Tryz.prog w = .ok (.pointer (some ⟨b, 0, none⟩)) w := fun _ _ => rfl
  simp only [callMethod, Sem.run_bind, run_program, Result.andThen_ok]
  rw [Gx]
  simp [receiverAt, Place.get, hw, go_sem, hc, asAddr]
theorem Wl (p : Value) (w : World) : (method (Tryz.prog.types.size + Made.depth) 116 p "RemoveAll").run Tryz.prog w = ((receiverAt 116 (.val p) false (some (("RemoveAll".splitOn ".").getLastD "RemoveAll"))) >>= fun v => pure (200, v)).run Tryz.prog w := by kernel_rfl
theorem Wy {p v : Value} {b : Nat} {w : World} (e : p = .pointer (some ⟨b, 0, none⟩)) (hc : w.cell? ⟨b, 0, none⟩ = some v) : ∀ args : Array Value, (callMethod (.iface 116 p) "RemoveAll" args).run Tryz.prog w = .ok (.enter 200 (#[v] ++ args)) w := by
  intro args
  subst e
  have hw : ∀ s w, (Builtin.ssaWrapNilChk_ #[116] 116 #[.pointer (some ⟨b, 0, none⟩), strVal "", strVal s]).run Tryz.prog w = .ok (.pointer (some ⟨b, 0, none⟩)) w := fun _ _ => rfl
  simp only [callMethod, Sem.run_bind, run_program, Result.andThen_ok]
  rw [Wl]
  simp [receiverAt, Place.get, hw, go_sem, hc, asAddr]
theorem ZS (p : Value) (w : World) : ∀ args : Array Value, (callMethod (.iface 116 p) "SymmetricDifference" args).run Tryz.prog w = .ok (.enter 201 (#[p] ++ args)) w := fun args => by kernel_rfl
theorem WW (p : Value) (w : World) : (method (Tryz.prog.types.size + Made.depth) 116 p "ToSlice").run Tryz.prog w = ((receiverAt 116 (.val p) false (some (("ToSlice".splitOn ".").getLastD "ToSlice"))) >>= fun v => pure (213, v)).run Tryz.prog w := by kernel_rfl
theorem Gt {p v : Value} {b : Nat} {w : World} (e : p = .pointer (some ⟨b, 0, none⟩)) (hc : w.cell? ⟨b, 0, none⟩ = some v) : ∀ args : Array Value, (callMethod (.iface 116 p) "ToSlice" args).run Tryz.prog w = .ok (.enter 213 (#[v] ++ args)) w := by
  intro args
  subst e
  have hw : ∀ s w, (Builtin.ssaWrapNilChk_ #[116] 116 #[.pointer (some ⟨b, 0, none⟩), strVal "", strVal s]).run Tryz.prog w = .ok (.pointer (some ⟨b, 0, none⟩)) w := fun _ _ => rfl
  simp only [callMethod, Sem.run_bind, run_program, Result.andThen_ok]
  rw [WW]
  simp [receiverAt, Place.get, hw, go_sem, hc, asAddr]
theorem qa (p : Value) (w : World) : (method (Tryz.prog.types.size + Made.depth) 116 p "Union").run Tryz.prog w = ((receiverAt 116 (.val p) false (some (("Union".splitOn ".").getLastD "Union"))) >>= fun v => pure (202, v)).run Tryz.prog w := by kernel_rfl
theorem Uw {p v : Value} {b : Nat} {w : World} (e : p = .pointer (some ⟨b, 0, none⟩)) (hc : w.cell? ⟨b, 0, none⟩ = some v) : ∀ args : Array Value, (callMethod (.iface 116 p) "Union" args).run Tryz.prog w = .ok (.enter 202 (#[v] ++ args)) w := by
  intro args
  subst e
  have hw : ∀ s w, (Builtin.ssaWrapNilChk_ #[116] 116 #[.pointer (some ⟨b, 0, none⟩), strVal "", strVal s]).run Tryz.prog w = .ok (.pointer (some ⟨b, 0, none⟩)) w := fun _ _ => rfl
  simp only [callMethod, Sem.run_bind, run_program, Result.andThen_ok]
  rw [qa]
  simp [receiverAt, Place.get, hw, go_sem, hc, asAddr]
def maxLen (ll : List (List Int)) : Nat := ll.foldl (fun a x => max a x.length) 0
theorem zF (a b : Int) (hb : b ≠ 0) : (Int.tmod a b = a % b ∨ Int.tmod a b = a % b - b.natAbs) ∧ 0 ≤ a % b ∧ a % b < b.natAbs := by
  refine ⟨?_, Int.emod_nonneg _ hb, ?_⟩
  · rw [Int.tmod_eq_emod]; split <;> simp
  · have := Int.emod_lt a hb; omega
def qb (f : Int → Int → Int) : Nat → List Int → List Int
  | _, [] => []
  | i, x :: l => f x i :: qb f (i + 1) l
theorem GK (f : Int → Int → Int) : ∀ (a b : List Int) (i : Nat), qb f i (a ++ b) = qb f i a ++ qb f (i + a.length) b
  | [], b, i => by simp [qb]
  | x :: a, b, i => by
    simp only [List.cons_append, qb, GK f a b (i + 1), List.length_cons]
    rw [show i + 1 + a.length = i + (a.length + 1) by omega]
theorem vI {f : Int → Int → Int} {l : List Int} {k : Nat} {x : Int} (h : l[k]? = some x) : qb f 0 (l.take (k + 1)) = qb f 0 (l.take k) ++ [f x k] := by
  have hk := (List.getElem?_eq_some_iff.1 h).1
  rw [List.take_add_one, h, GK]
  simp only [Option.toList_some, qb, List.length_take, Nat.zero_add, Nat.min_eq_left (Nat.le_of_lt hk)]
def PF2T (P : Program) (fv : Value) (M : Hp) (f : Int → Int → Int × Bool) : Prop := fv.oneCell' = true ∧ ∀ x i : Int, Pu P fv M [.int .i64 x, .int .i64 i] (fun r _ => r = .tuple #[.int .i64 (f x i).1, .bool (f x i).2])
theorem PF2T.le {P : Program} {fv : Value} {M M' : Hp} {f : Int → Int → Int × Bool} (h : PF2T P fv M f) (hM : Hp.le M M') : PF2T P fv M' f := ⟨h.1, fun x i => (h.2 x i).le hM⟩
theorem map_set {f : Int → Int → Int} {l : List Int} {k : Nat} {x : Int} (hk : (qb f 0 (l.take k)).length = k) (hx : l[k]? = some x) : (qb f 0 (l.take k) ++ l.drop k).set k (f x k) = qb f 0 (l.take (k + 1)) ++ l.drop (k + 1) := by
  have hlt := (List.getElem?_eq_some_iff.1 hx).1
  rw [List.set_append_right _ _ (by omega), hk, Nat.sub_self, List.drop_eq_getElem_cons hlt, List.set_cons_zero, vI hx, List.append_assoc]; rfl
theorem take_all {P : Int → Prop} {l : List Int} {k : Nat} {y : Int} (h : ∀ x ∈ l.take k, P x) (hy : l[k]? = some y) (hp : P y) : ∀ x ∈ l.take (k + 1), P x := by
  intro x hx; rw [List.take_add_one, hy, List.mem_append] at hx
  rcases hx with hx | hx
  · exact h x hx
  · simp at hx; rw [hx]; exact hp
theorem Gm {l : List Int} {k : Nat} {x : Int} (hx : l[k]? = some x) : l.take (k + 1) = l.take k ++ [x] ∧ (l.take k).length = k := by
  have hk := (List.getElem?_eq_some_iff.1 hx).1
  rw [List.take_add_one, hx]; exact ⟨rfl, by rw [List.length_take]; omega⟩
theorem zS {σ : Type} (f : σ → Int → σ) (Q : List Int → σ → Prop) (s0 : σ) (h0 : Q [] s0) (hs : ∀ p x, Q p (p.foldl f s0) → Q (p ++ [x]) (f (p.foldl f s0) x)) : ∀ (n : Nat) (l : List Int), l.length = n → Q l (l.foldl f s0)
  | 0, l, h => by have := List.eq_nil_of_length_eq_zero h; subst this; exact h0
  | n + 1, l, h => by
    obtain ⟨p, x, rfl⟩ : ∃ p x, l = p ++ [x] := ⟨l.dropLast, l.getLast (by intro e; subst e; simp at h), (List.dropLast_concat_getLast _).symm⟩
    have ih := zS f Q s0 h0 hs n p (by simpa using h)
    have e : (p ++ [x]).foldl f s0 = f (p.foldl f s0) x := by simp
    rw [e]; exact hs p x ih
def Wj (l : List Int) : Prop := l.Pairwise (· ≤ ·)
theorem UV : ∀ {a b : List Int}, Wj a → Wj b → a.Perm b → a = b
  | [], b, _, _, h => (List.nil_perm.1 h).symm ▸ rfl
  | x :: a, [], _, _, h => by simp at h
  | x :: a, y :: b, ha, hb, h => by
    unfold Wj at ha hb
    rw [List.pairwise_cons] at ha hb
    have h1 : x ≤ y := by
      rcases List.mem_cons.1 (h.symm.subset (List.mem_cons_self ..)) with e | e
      · omega
      · exact ha.1 y e
    have h2 : y ≤ x := by
      rcases List.mem_cons.1 (h.subset (List.mem_cons_self ..)) with e | e
      · omega
      · exact hb.1 x e
    have e : x = y := by omega
    subst e
    rw [UV ha.2 hb.2 ((List.perm_cons x).1 h)]
def Wm (x : Int) (l : List Int) : List Int := l.takeWhile (fun y => decide (y < x)) ++ (if x ∈ l then [] else [x]) ++ l.dropWhile (fun y => decide (y < x))
def Qw (l : List Int) : List Int := l.foldl (fun s x => Wm x s) []
def YL (l : List Int) : Prop := l.Pairwise (· < ·)
theorem setI_app (l : List Int) (x : Int) : Qw (l ++ [x]) = Wm x (Qw l) := by simp [Qw]
theorem QE {l : List Int} {k : Nat} {x : Int} (h : l[k]? = some x) : Qw (l.take (k + 1)) = Wm x (Qw (l.take k)) := by rw [(Gm h).1, setI_app]
theorem GA {x : Int} {l : List Int} (h : x ∈ l) : Wm x l = l := by
  unfold Wm; rw [if_pos h, List.append_nil, List.takeWhile_append_dropWhile]
theorem ZO {x v : Int} {l : List Int} {j : Nat} (h : l[j]? = some v) (hne : ¬ v ≠ x) : Wm x l = l := by
  have e : v = x := Decidable.not_not.1 hne
  subst e
  exact GA (List.mem_of_getElem? h)
theorem insU_mem {x z : Int} {l : List Int} : z ∈ Wm x l ↔ z = x ∨ z ∈ l := by
  by_cases h : x ∈ l
  · rw [GA h]; constructor
    · exact .inr
    · rintro (rfl | h2); exact h; exact h2
  · unfold Wm; rw [if_neg h]
    have e : l = l.takeWhile (fun y => decide (y < x)) ++ l.dropWhile (fun y => decide (y < x)) := (List.takeWhile_append_dropWhile).symm
    conv => rhs; rw [e]
    simp only [List.mem_append, List.mem_singleton]
    constructor
    · rintro ((h1 | h1) | h1); exact .inr (.inl h1); exact .inl h1; exact .inr (.inr h1)
    · rintro (h1 | h1 | h1); exact .inl (.inr h1); exact .inl (.inl h1); exact .inr h1
theorem insU_len (x : Int) (l : List Int) : (Wm x l).length ≤ l.length + 1 := by
  have := congrArg List.length (List.takeWhile_append_dropWhile (p := fun y => decide (y < x)) (l := l))
  rw [List.length_append] at this
  unfold Wm; simp only [List.length_append]; split <;> simp <;> omega
theorem yc {x : Int} {l : List Int} (h : YL l) : YL (Wm x l) := by
  by_cases hx : x ∈ l
  · rw [GA hx]; exact h
  · unfold Wm; rw [if_neg hx]
    unfold YL at h ⊢
    induction l with
    | nil => simp
    | cons a l ih =>
      have hx2 : x ∉ l := fun e => hx (by simp [e])
      rw [List.pairwise_cons] at h
      by_cases ha : a < x
      · simp only [List.takeWhile_cons, List.dropWhile_cons, ha, decide_true, if_true, List.cons_append, List.pairwise_cons]
        refine ⟨fun y hy => ?_, ih h.2 hx2⟩
        have e : l.takeWhile (fun y => decide (y < x)) ++ l.dropWhile (fun y => decide (y < x)) = l := List.takeWhile_append_dropWhile
        simp only [List.mem_append, List.mem_singleton] at hy
        rcases hy with (hy | hy) | hy
        · exact h.1 y (by rw [← e]; exact List.mem_append_left _ hy)
        · omega
        · exact h.1 y (by rw [← e]; exact List.mem_append_right _ hy)
      · have hne : x ≠ a := fun e => hx (by simp [e])
        simp only [List.takeWhile_cons, List.dropWhile_cons, ha, decide_false, Bool.false_eq_true, if_false, List.nil_append, List.singleton_append, List.pairwise_cons]
        refine ⟨fun y hy => ?_, h.1, h.2⟩
        rcases List.mem_cons.1 hy with rfl | hy
        · omega
        · have := h.1 y hy; omega
theorem Zu (l : List Int) : YL (Qw l) ∧ (∀ z, z ∈ Qw l ↔ z ∈ l) ∧ (Qw l).length ≤ l.length :=
  zS (fun s x => Wm x s) (fun p s => YL s ∧ (∀ z, z ∈ s ↔ z ∈ p) ∧ s.length ≤ p.length) [] ⟨List.Pairwise.nil, fun z => Iff.rfl, Nat.le_refl _⟩ (fun p x h => ⟨yc h.1, fun z => by rw [insU_mem, h.2.1, List.mem_append, List.mem_singleton]; exact Or.comm, by have := insU_len x (p.foldl (fun s x => Wm x s) []); simp; omega⟩) _ l rfl
theorem YL.nodup {l : List Int} (h : YL l) : l.Nodup := List.Pairwise.imp (fun h => by omega) h
theorem YL.le {l : List Int} (h : YL l) : Wj l := List.Pairwise.imp (fun h => by omega) h
theorem ve {a b : List Int} (h : ∀ z, z ∈ a ↔ z ∈ b) : Qw a = Qw b := by
  have ha := Zu a
  have hb := Zu b
  refine UV ha.1.le hb.1.le ((List.perm_ext_iff_of_nodup ha.1.nodup hb.1.nodup).2 fun z => ?_)
  rw [ha.2.1, hb.2.1, h]
theorem split_at {p : Int → Bool} {s : List Int} {j : Nat} (h : ∀ y ∈ s.take j, p y = true) (h2 : s.length ≤ j ∨ ∃ v, s[j]? = some v ∧ p v = false) : s.takeWhile p = s.take j ∧ s.dropWhile p = s.drop j := by
  induction s generalizing j with
  | nil => simp
  | cons a s ih =>
    cases j with
    | zero =>
      rcases h2 with h2 | ⟨v, hv, hn⟩
      · simp at h2
      · have : a = v := by simpa using hv
        subst this
        simp [List.takeWhile_cons, List.dropWhile_cons, hn]
    | succ j =>
      have ha : p a = true := h a (by simp)
      have := ih (j := j) (fun y hy => h y (by simp [hy])) (by
        rcases h2 with h2 | ⟨v, hv, hn⟩
        · left; simp at h2; omega
        · right; exact ⟨v, by simpa using hv, hn⟩)
      simp [List.takeWhile_cons, List.dropWhile_cons, ha, this.1, this.2]
theorem JZ {s : List Int} {x : Int} {j : Nat} (hs : YL s) (h : ∀ y ∈ s.take j, y < x) (h2 : s.length ≤ j ∨ ∃ v, s[j]? = some v ∧ ¬ v < x ∧ ¬ v = x) : s.take j ++ [x] ++ s.drop j = Wm x s := by
  obtain ⟨e1, e2⟩ := split_at (p := fun y => decide (y < x)) (fun y hy => decide_eq_true (h y hy)) (by
    rcases h2 with h2 | ⟨v, hv, hn, _⟩
    · exact .inl h2
    · exact .inr ⟨v, hv, decide_eq_false hn⟩)
  have hx : x ∉ s := by
    intro hx
    rw [← List.take_append_drop j s, List.mem_append] at hx
    rcases hx with hx | hx
    · have := h x hx; omega
    · rcases h2 with h2 | ⟨v, hv, hn, hn2⟩
      · rw [List.drop_of_length_le h2] at hx; cases hx
      · have hj := (List.getElem?_eq_some_iff.1 hv).1
        have hd : s.drop j = v :: s.drop (j + 1) := by rw [List.drop_eq_getElem_cons hj, (List.getElem?_eq_some_iff.1 hv).2]
        rw [hd] at hx
        rcases List.mem_cons.1 hx with e | hx
        · exact hn2 e.symm
        · have hp : (s.drop j).Pairwise (· < ·) := List.Pairwise.sublist (List.drop_sublist _ _) hs
          rw [hd, List.pairwise_cons] at hp
          have := hp.1 x hx; omega
  unfold Wm; rw [if_neg hx, e1, e2]
theorem Vx {p : Int → Bool} {l : List Int} {k : Nat} {x : Int} (h : l[k]? = some x) : (l.take (k + 1)).filter p = (l.take k).filter p ++ (if p x then [x] else []) := by
  rw [(Gm h).1, List.filter_append]; cases hp : p x <;> simp [hp]
instance (l : List Int) : Decidable (Wj l) := inferInstanceAs (Decidable (l.Pairwise (· ≤ ·)))
theorem jH (l : List Int) : Wj (Vm l) := by
  have := List.pairwise_mergeSort (le := fun x y : Int => decide (x ≤ y)) (fun a b c h1 h2 => by simp at *; omega) (fun a b => by simp; omega) l
  exact List.Pairwise.imp (fun h => by simpa using h) this
theorem zJ (l : List Int) : (Vm l).Perm l := List.mergeSort_perm ..
theorem Yn {p : List Int} {k : Int} (h : p.Nodup) (hk : k ∉ p) : (p ++ [k]).Nodup :=
  List.nodup_append.2 ⟨h, by simp, fun a ha b hb => by simp at hb; subst hb; intro e; subst e; exact hk ha⟩
theorem Yt {p m : List Int} {k : Int} (h : ∀ z ∈ p, z ∈ m) (hk : k ∈ m) : ∀ z ∈ p ++ [k], z ∈ m := by
  intro z hz; rcases List.mem_append.1 hz with e | e
  · exact h z e
  · simp at e; rw [e]; exact hk
theorem Qn : ∀ {D S : List Int}, D.Nodup → (∀ z ∈ D, z ∈ S) → D.length ≤ S.length
  | [], S, _, _ => Nat.zero_le _
  | x :: D, S, hn, h => by
    rw [List.nodup_cons] at hn
    have hx := List.perm_cons_erase (h x (List.mem_cons_self ..))
    have := Qn (S := S.erase x) hn.2 fun z hz => (List.mem_erase_of_ne (fun e => hn.1 (by rw [← e]; exact hz))).2 (h z (List.mem_cons_of_mem _ hz))
    have h2 := hx.length_eq
    simp only [List.length_cons] at h2 ⊢; omega
def g0 (l : List Int) (i : Nat) : Int := (l[i]?).getD 0
structure SlS where
  buf : List Int
  cnt : Nat
  skip : Nat
  out : List (List Int)
def mkE (L : List (Int × Int)) : List (Int × Int) := L.foldl (fun q p => Yq q p.1 p.2) []
theorem putK_le (q : List (Int × Int)) (k v : Int) : (Yq q k v).length ≤ q.length + 1 := by
  have h := congrArg List.length (Gp q k v)
  rw [List.length_map] at h
  rw [h]; split <;> simp
theorem mkE_len (L : List (Int × Int)) : (mkE L).length ≤ L.length := by
  unfold mkE
  have : ∀ q : List (Int × Int), (L.foldl (fun q p => Yq q p.1 p.2) q).length ≤ q.length + L.length := by
    induction L with
    | nil => intro q; simp
    | cons p L ih => intro q; rw [List.foldl_cons, List.length_cons]; have := ih (Yq q p.1 p.2); have := putK_le q p.1 p.2; omega
  simpa using this []
def PF2U (P : Program) (fv : Value) (M : Hp) (f : Int → Int → Int × Int) : Prop := fv.oneCell' = true ∧ ∀ x i : Int, Pu P fv M [.int .i64 x, .int .i64 i] (fun r _ => r = .tuple #[.int .i64 (f x i).1, .int .i64 (f x i).2])
theorem PF2U.le {P : Program} {fv : Value} {M M' : Hp} {f : Int → Int → Int × Int} (h : PF2U P fv M f) (hM : Hp.le M M') : PF2U P fv M' f := ⟨h.1, fun x i => (h.2 x i).le hM⟩
def PF1U (P : Program) (fv : Value) (M : Hp) (f : Int → Int × Int) : Prop := fv.oneCell' = true ∧ ∀ x : Int, Pu P fv M [.int .i64 x] (fun r _ => r = .tuple #[.int .i64 (f x).1, .int .i64 (f x).2])
theorem PF1U.le {P : Program} {fv : Value} {M M' : Hp} {f : Int → Int × Int} (h : PF1U P fv M f) (hM : Hp.le M M') : PF1U P fv M' f := ⟨h.1, fun x => (h.2 x).le hM⟩
def PF2V (P : Program) (fv : Value) (M : Hp) (f : Int → Int → Int × Int × Bool) : Prop := fv.oneCell' = true ∧ ∀ x i : Int, Pu P fv M [.int .i64 x, .int .i64 i] (fun r _ => r = .tuple #[.int .i64 (f x i).1, .int .i64 (f x i).2.1, .bool (f x i).2.2])
theorem PF2V.le {P : Program} {fv : Value} {M M' : Hp} {f : Int → Int → Int × Int × Bool} (h : PF2V P fv M f) (hM : Hp.le M M') : PF2V P fv M' f := ⟨h.1, fun x i => (h.2 x i).le hM⟩
def RMp : Hp → List Value → List (Int × Int) → Prop := fun M cs q => ∃ v, cs = [v] ∧ qZ M v (ZY (Value.int .i64) q)
theorem RdMp.at {M : Hp} {v : Value} {l : List (List (Int × Int))} {k : Nat} {e : List (Int × Int)} (h : JN 1 RMp M v l) (he : l[k]? = some e) : ∃ p u, Zj v k 1 p ∧ ZC M p = some u ∧ qZ M u (ZY (Value.int .i64) e) := by
  obtain ⟨p, u, h1, h2, ⟨v, h3, h4⟩⟩ := h.at1 he
  cases h3; exact ⟨p, u, h1, h2, h4⟩
theorem RdPP.at {M : Hp} {v : Value} {l : List (List (Int × Int))} {k : Nat} {e : List (Int × Int)} (h : JN 1 (vv 2 RP2) M v l) (he : l[k]? = some e) : ∃ p u, Zj v k 1 p ∧ ZC M p = some u ∧ JN 2 RP2 M u e := by
  obtain ⟨p, u, h1, h2, ⟨v, h3, h4⟩⟩ := h.at1 he
  cases h3; exact ⟨p, u, h1, h2, h4⟩
theorem fl_le {α : Type} (l : List (List α)) (k : Nat) : ((l.take k).flatten).length ≤ l.flatten.length := by
  have := congrArg (fun x : List (List α) => x.flatten.length) (List.take_append_drop k l)
  simp only [List.flatten_append, List.length_append] at this; omega
theorem ye : ∀ l : List (List (Int × Int)), ((l.map mkE).flatten).length ≤ l.flatten.length
  | [] => Nat.le_refl _
  | a :: l => by have := ye l; have := mkE_len a; simp only [List.map_cons, List.flatten_cons, List.length_append]; omega
theorem fl_mk (l : List (List (Int × Int))) (k : Nat) : (((l.take k).map mkE).flatten).length ≤ l.flatten.length := Nat.le_trans (ye _) (fl_le l k)
theorem WI {q L : List Int} (hn : q.Nodup) (h : ∀ z, z ∈ q ↔ z ∈ L) : Vm q = Qw L := by
  have hs := Zu L
  exact UV (jH q) hs.1.le ((zJ q).trans ((List.perm_ext_iff_of_nodup hn hs.1.nodup).2 fun z => by rw [h, hs.2.1]))
def PFAB (P : Program) (fv : Value) (M : Hp) (f : Int × Int → Bool) : Prop := fv.oneCell' = true ∧ ∀ x y : Int, ((-9223372036854775808 ≤ x ∧ x ≤ 9223372036854775807) ∧ (-9223372036854775808 ≤ y ∧ y ≤ 9223372036854775807)) → Pu P fv M [.agg #[.int .i64 x, .int .i64 y]] (fun r _ => r = .bool (f (x, y)))
theorem PFAB.le {P : Program} {fv : Value} {M M' : Hp} {f : Int × Int → Bool} (h : PFAB P fv M f) (hM : Hp.le M M') : PFAB P fv M' f := ⟨h.1, fun x y g => (h.2 x y g).le hM⟩
def RA2 : Hp → List Value → List (Int × Int) × List (Int × Int) → Prop := fun M cs x => ∃ u v, cs = [u, v] ∧ JN 2 RP2 M u x.1 ∧ JN 2 RP2 M v x.2
theorem RdA2.at {M : Hp} {v : Value} {l : List (List (Int × Int) × List (Int × Int))} {k : Nat} {e : List (Int × Int) × List (Int × Int)} (h : JN 2 RA2 M v l) (he : l[k]? = some e) : ∃ p u1 u2, Zj v k 2 p ∧ VP M p [u1, u2] ∧ JN 2 RP2 M u1 e.1 ∧ JN 2 RP2 M u2 e.2 := by
  obtain ⟨p, cs, h1, h2, ⟨u1, u2, h3, h5, h6⟩, h4⟩ := JN.at h he
  subst h3; exact ⟨p, u1, u2, h1, h4, h5, h6⟩
section
variable {r : Option Nat} {P : Program} {Q : Exit → Act → World → Prop} {a : Act} {w : World} {n : Nat} {ds : List Deferred} {l : List (Nat × Value)} {d : Nat} {ty t el : TypeId} {pos : String} {af : Array Edge} {gd : Option (Nat × Bool)} {x y : Operand} {next : Act → World → Prop} {M : Hp} {H : List Qm} {by_ : Nat}
theorem R_idxA {ad : Addr} {m k sz : Nat} (E : Env a n ds l) (hx : Jy l x = some (.pointer (some ad))) (hy : Jy l y = some (.int .i64 (k : Int))) (ht : P.underlying t = some (.array m el)) (hs : (sizeOf el).run P w = .ok sz w) (hk : k < m) :
    (execOp a.eval ⟨some d, .indexAddr t x y, ty, pos, af, gd⟩).run P w = .ok (.value (.pointer (some (ad.add (k * sz))))) w := by
  have h1 : (0 : Int) ≤ k ∧ (k : Int) < m := ⟨by omega, by omega⟩
  simp [execOp, E.eval hx, E.eval hy, Instr.indexAt, asIntOf, run_underlying ht, Instr.sureAddr, hs, h1, hk]
end
theorem Vb : ∀ {A H : List Qm} {h : Hq}, sat (A ++ H) h ↔ ∃ g1 g2, Hp.disj g1 g2 ∧ h = Hp.union g1 g2 ∧ sat A g1 ∧ sat H g2
  | [], H, h => ⟨fun s => ⟨Hp.emp, h, (Hp.disj_emp h).symm, (Hp.emp_union h).symm, rfl, s⟩, fun ⟨g1, g2, d, e, h1, h2⟩ => by
    have : g1 = Hp.emp := h1
    subst this; rw [Hp.emp_union] at e; subst e; exact h2⟩
  | p :: A, H, h => by
    constructor
    · rintro ⟨g1, g2, d, e, hp, hs⟩
      obtain ⟨g3, g4, d', e', h3, h4⟩ := Vb.1 hs
      subst e'; subst e
      have ⟨d1, d2⟩ := Hp.disj_union_right.1 d
      exact ⟨Hp.union g1 g3, g4, Hp.disj_union_left.2 ⟨d2, d'⟩, (Hp.union_assoc ..).symm, ⟨g1, g3, d1, Y, hp, h3⟩, h4⟩
    · rintro ⟨g1, g2, d, e, ⟨g3, g4, d', e', hp, h4⟩, hs⟩
      subst e'; subst e
      have ⟨d1, d2⟩ := Hp.disj_union_left.1 d
      exact ⟨g3, Hp.union g4 g2, Hp.disj_union_right.2 ⟨d', d1⟩, Hp.union_assoc .., hp, Vb.2 ⟨g4, g2, d2, Y, h4, hs⟩⟩
def YH (A : List Qm) : Qm := fun h => sat A h
theorem jG {w : World} {M : Hp} {A H : List Qm} (s : St w M (YH A :: H)) : St w M (A ++ H) := s.of_sat fun _ ⟨g1, g2, d, e, h1, h2⟩ => Vb.2 ⟨g1, g2, d, e, h1, h2⟩
theorem zN {w : World} {M : Hp} {A H : List Qm} (s : St w M (A ++ H)) : St w M (YH A :: H) := s.of_sat fun _ h => let ⟨g1, g2, d, e, h1, h2⟩ := Vb.1 h; ⟨g1, g2, d, e, h1, h2⟩
abbrev MLE := List (Int × Value × List Int)
def RG2 : Hp → List Value → Int × List Int → Prop := fun M cs x => ∃ v, cs = [.int .i64 x.1, v] ∧ Zh M v x.2
theorem RdG2.at {M : Hp} {v : Value} {l : List (Int × List Int)} {k : Nat} {e : Int × List Int} (h : JN 2 RG2 M v l) (he : l[k]? = some e) : ∃ p u, Zj v k 2 p ∧ VP M p [.int .i64 e.1, u] ∧ Zh M u e.2 := by
  obtain ⟨p, cs, h1, h2, ⟨u, h3, h5⟩, h4⟩ := JN.at h he
  subst h3; exact ⟨p, u, h1, h4, h5⟩
theorem St.under2 {w : World} {M : Hp} {p q : Qm} {H H' : List Qm} (s : St w M (p :: q :: H)) (f : ∀ h, sat H h → sat H' h) : St w M (p :: q :: H') := s.of_sat fun _ h => Vd (fun _ => Vd f) h
def yT (M : Hp) (v : Value) (q : List (Int × List Int)) : Prop := ∃ t : MLE, t.map (fun x => (x.1, x.2.2)) = q ∧ qZ M v (ZY Prod.fst t) ∧ ∀ x ∈ t, Zh M x.2.1 x.2.2
theorem yT.le {M M' : Hp} {v : Value} {q : List (Int × List Int)} (h : yT M v q) (hM : Hp.le M M') : yT M' v q := by
  obtain ⟨t, h1, h2, h3⟩ := h; exact ⟨t, h1, h2.le hM, fun x hx => (h3 x hx).le hM⟩
theorem yT.one' {M : Hp} {v : Value} {q : List (Int × List Int)} (h : yT M v q) : v.oneCell' = true := by obtain ⟨_, _, h, _⟩ := h; exact h.one'
theorem yT.nodup {M : Hp} {v : Value} {q : List (Int × List Int)} (h : yT M v q) : (q.map Prod.fst).Nodup := by
  obtain ⟨t, h1, h2, _⟩ := h
  have := h2.nodup
  rw [UY] at this
  rw [← h1, List.map_map]; exact this
theorem snocNG {β : Type} {p : List (Int × β)} {k : Int} {u : β} (h : (p.map Prod.fst).Nodup) (hk : k ∉ p.map Prod.fst) : ((p ++ [(k, u)]).map Prod.fst).Nodup := by
  rw [List.map_append]
  exact List.nodup_append.2 ⟨h, by simp, fun a ha b hb => by simp at hb; subst hb; intro e; subst e; exact hk ha⟩
theorem snocSG {β : Type} {p m : List (Int × β)} {k : Int} {u : β} (h : ∀ z ∈ p, z ∈ m) (hk : (k, u) ∈ m) : ∀ z ∈ p ++ [(k, u)], z ∈ m := by
  intro z hz; rcases List.mem_append.1 hz with e | e
  · exact h z e
  · simp at e; rw [e]; exact hk
section
variable {r : Option Nat} {P : Program} {Q : Exit → Act → World → Prop} {a : Act} {w : World}
  {n : Nat} {ds : List Deferred} {l : List (Nat × Value)} {ty t : TypeId} {pos : String} {af : Array Edge} {gd : Option (Nat × Bool)} {x y : Operand}
  {next : Act → World → Prop} {M : Hp} {H : List Qm}
theorem QC {b f : Nat} {cs : Array Value} {v : Value} {e : TypeId} {fr : Nat × Nat} (S : w.heap[b]? = some (.cells cs e fr)) (hv : cs[f]? = some v) : w.cell? ⟨b, f, none⟩ = some v := by simp [World.cell?, S, hv]
theorem JW {b f : Nat} {cs : Array Value} {u : Value} {e : TypeId} (E : Env a n ds l) (S : St w M (Qh b (.cells cs e) :: H)) (hx : Jy l x = some (.pointer (some ⟨b, f, none⟩))) (hy : Jy l y = some u)
    (hs : (sizeOf t).run P w = .ok 1 w) (h1 : u.oneCell' = true) (hf : Nat.blt f cs.size = true)
    (kk : ∀ a w', Env a n ds l → St w' M (Qh b (.cells (cs.setIfInBounds f u) e) :: H) → next a w') : (⟨none, .store t x y, ty, pos, af, gd⟩ : Oper).wpIn (Fw r) 0 P a w next Q := by
  have hg := S.get
  have hf : f < cs.size := by simpa using hf
  have hc : w.cell? ⟨b, f, none⟩ = some cs[f] := by simp [World.cell?, hg, hf]
  have hfz : w.frozen? ⟨b, f, none⟩ = false := by simp [World.frozen?, hg]
  have hcells : u.cells = #[u] := by cases u <;> first | rfl | (simp [Value.oneCell'] at h1)
  refine qS (w' := w.setCell ⟨b, f, none⟩ u) E Y ?_ fun a E => kk a _ E ?_
  · simp [execOp, E.eval hx, E.eval hy, Instr.storeAt, Instr.sureAddr, storeVar, hs, hcells, storeCells, run_store P _ _ _ _ h1, Addr.add, hc, hfz]
  · refine S.set ?_ fun c hc x hx => ?_
    · simp only [World.setCell]; rw [Array.getElem?_modify, if_pos rfl, hg]; rfl
    · simp only [World.setCell]; rw [Array.getElem?_modify, if_neg (Ne.symm hc)]; exact hx
end
theorem ml_len {t : MLE} {q : List (Int × List Int)} {N : Nat} (h : t.map (fun x => (x.1, x.2.2)) = q) (hb : ∀ x ∈ q, x.2.length ≤ N) {k : Int} {u : Value × List Int} (hk : (k, u) ∈ t) : u.2.length ≤ N :=
  hb (k, u.2) (h ▸ List.mem_map.2 ⟨(k, u), hk, rfl⟩)
section
variable {r : Option Nat} {P : Program} {Q : Exit → Act → World → Prop} {a : Act} {w : World}
  {n : Nat} {ds : List Deferred} {l : List (Nat × Value)} {d : Nat} {ty t el : TypeId} {pos : String} {af : Array Edge} {gd : Option (Nat × Bool)} {x y : Operand}
  {next : Act → World → Prop} {M : Hp} {H : List Qm} {v : Value} {by_ : Nat} {zv : Value}
end
section
variable {P : Program}
def CallP (P : Program) (fv : Value) (args : List Value) (w : World) (R : Value → World → Prop) : Prop :=
  ∀ (r : Option Nat) (o : Oper) (c : Call) (f : Operand) (a : Act) (next : Act → World → Prop) (Q : Exit → Act → World → Prop), o.op = .call c → c.callee = .value f → a.eval f = fv →
    c.args.toList.map a.eval = args → (∀ t u w', R (.iface t u) w' → Q (.panic [{ v := .iface t u, recovered := false }]) a w') → o.wpIn (Fw r) 0 P a w next Q
def PEnd (R : Value → World → Prop) : Ending → World → Prop := fun e w' => ∃ t u, e = .panicked [{ v := .iface t u, recovered := false }] ∧ R (.iface t u) w'
theorem CallP.func {g : FuncId} {first cap : Array Value} {args : List Value} {w : World} {R : Value → World → Prop}
    (hc : ∀ args w, (callFunc g args).run P w = .ok (.enter g args) w)
    (h : Calls P g (first.toList ++ args ++ cap.toList).toArray w (PEnd R)) : CallP P (.func (.func g) first cap) args w R := by
  intro r o c f a next Q h1 h2 h3 h4 h5
  refine ⟨fun _ _ => trivial, ?_⟩
  rw [Zl (by rw [h1]; rfl)]
  have e4 : c.args.map a.eval = args.toArray := by rw [← h4, ← Array.toList_map, Array.toArray_toList]
  have : (execOp a.eval o).run P w = .ok (.enter g (first ++ args.toArray ++ cap)) w := by
    simp only [execOp, h1, resolve, h2, h3, e4, Deferred.ofValue]
    simp [invoke, hc]
  rw [this]
  refine ⟨fun h => by simp [zd] at h, ?_⟩
  rw [WA, show first ++ args.toArray ++ cap = (first.toList ++ args ++ cap.toList).toArray by simp]
  exact h.mono fun e w' ⟨t, u, he, hR⟩ => by subst he; exact h5 t u w' hR
def PuP (P : Program) (fv : Value) (M : Hp) (args : List Value) : Prop :=
  ∀ w M1 H, Hp.le M M1 → St w M1 H → CallP P fv args w (fun _ w' => ∃ M2, Hp.le M1 M2 ∧ St w' M2 H)
theorem PuP.le {fv : Value} {M M' : Hp} {args : List Value} (h : PuP P fv M args) (hM : Hp.le M M') : PuP P fv M' args := fun w M1 H h1 => h w M1 H (hM.trans h1)
def PF0P (P : Program) (fv : Value) (M : Hp) : Prop := fv.oneCell' = true ∧ PuP P fv M []
theorem PF0P.le {fv : Value} {M M' : Hp} (h : PF0P P fv M) (hM : Hp.le M M') : PF0P P fv M' := ⟨h.1, h.2.le hM⟩
variable {Q : Exit → Act → World → Prop} {a : Act} {w : World} {n : Nat} {ds : List Deferred} {l : List (Nat × Value)} {fn : Func} {R : Ending → World → Prop} {M : Hp} {H : List Qm} {next : Act → World → Prop} {r : Option Nat}
end
def bs (l : List UInt8) : ByteArray := ⟨l.toArray⟩
def RTx : Hp → List Value → List UInt8 → Prop := fun _ cs x => cs = [.string (bs x)]
theorem RdTx.at {M : Hp} {v : Value} {l : List (List UInt8)} {k : Nat} {e : List UInt8} (h : JN 1 RTx M v l) (he : l[k]? = some e) : ∃ p, Zj v k 1 p ∧ ZC M p = some (.string (bs e)) := by
  obtain ⟨p, cs, h1, h2, h3, h4⟩ := JN.at h he
  have h5 : cs = [.string (bs e)] := h3
  subst h5
  exact ⟨p, h1, h4 0 _ Y⟩
section
variable {r : Option Nat} {P : Program} {Q : Exit → Act → World → Prop} {a : Act} {w : World}
  {n : Nat} {ds : List Deferred} {l : List (Nat × Value)} {d : Nat} {ty t : TypeId} {pos : String} {af : Array Edge} {gd : Option (Nat × Bool)} {x : Operand}
  {next : Act → World → Prop} {M : Hp} {H : List Qm} {s : List UInt8}
end
section
variable {P : Program} {a : Act} {w : World} {n : Nat} {ds : List Deferred} {l : List (Nat × Value)} {d : Nat} {ty : TypeId} {pos : String} {af : Array Edge} {gd : Option (Nat × Bool)} {x y : Operand} {M : Hp} {H : List Qm} {r : Option Nat} {next : Act → World → Prop} {Q : Exit → Act → World → Prop}
def UQ (P : Program) (iv : Value) (name : String) (g : FuncId) (rv : Value) (w : World) : Prop :=
  ∀ args : Array Value, (callMethod iv name args).run P w = .ok (.enter g (#[rv] ++ args)) w
theorem jt {ats : Array TypeId} {f : Operand} {aa : Array Operand} {iv rv : Value} {g : FuncId} {nm : String} {args : List Value} {R : Value → World → Prop}
  (E : Env a n ds l) (hd : Nat.blt d n = true) (hf : Jy l f = some iv) (ha : VS l aa.toList = some args) (hm : UQ P iv nm g rv w) (hg : ∀ args w, (callFunc g args).run P w = .ok (.enter g args) w)
  (C : Yd P (.func (.func g) #[] #[]) (rv :: args) w R)
  (k : ∀ a v w', R v w' → Env a n ds ((d, v) :: l) → next a w') : (⟨some d, .call ⟨.invoke f nm, aa, ats⟩, ty, pos, af, gd⟩ : Oper).wpIn (Fw r) 0 P a w next Q := by
  have h := C r ⟨some d, .call ⟨.value (.const (.func (.func g) #[] #[])), ((rv :: args).map Operand.const).toArray, ats⟩, ty, pos, af, gd⟩ _ (.const (.func (.func g) #[] #[])) a next Q rfl rfl rfl
    (by simp [List.map_map, Function.comp_def, Act.eval]) (fun v w' hR => k _ v w' hR (E.put (by simpa using hd) v))
  refine ⟨fun _ _ => trivial, ?_⟩
  have h2 := h.2
  rw [Zl (by rfl)] at h2 ⊢
  have e1 : (execOp a.eval ⟨some d, .call ⟨.value (.const (.func (.func g) #[] #[])), ((rv :: args).map Operand.const).toArray, ats⟩, ty, pos, af, gd⟩).run P w = .ok (.enter g (#[rv] ++ args.toArray)) w := by
    simp [execOp, resolve, Act.eval, Deferred.ofValue, invoke, hg, Function.comp_def]
  have e2 : (execOp a.eval ⟨some d, .call ⟨.invoke f nm, aa, ats⟩, ty, pos, af, gd⟩).run P w = .ok (.enter g (#[rv] ++ args.toArray)) w := by
    have e4 : aa.map a.eval = args.toArray := by rw [← E.evals ha, ← Array.toList_map, Array.toArray_toList]
    have h3 := hm args.toArray
    simp only [execOp, resolve, E.eval hf, e4]
    simp [invoke, h3]
  rw [e1] at h2
  rw [e2]
  exact h2
theorem qT {ats : Array TypeId} {f : Operand} {aa : Array Operand} {iv rv : Value} {g : FuncId} {nm : String} {args : List Value} {q : Value → Hp → Prop} {M0 : Hp}
  (E : Env a n ds l) (S : St w M H) (hd : Nat.blt d n = true) (hf : Jy l f = some iv) (ha : VS l aa.toList = some args) (hm : UQ P iv nm g rv w) (hg : ∀ args w, (callFunc g args).run P w = .ok (.enter g args) w)
  (C : Pu P (.func (.func g) #[] #[]) M0 (rv :: args) q) (hM : Hp.le M0 M)
  (k : ∀ a v w' M', Hp.le M M' → q v M' → St w' M' H → Env a n ds ((d, v) :: l) → next a w') : (⟨some d, .call ⟨.invoke f nm, aa, ats⟩, ty, pos, af, gd⟩ : Oper).wpIn (Fw r) 0 P a w next Q :=
  jt E hd hf ha hm hg (C w M H hM S) fun a v w' ⟨M', h1, h2, h3⟩ E => k a v w' M' h1 h2 h3 E
theorem ja {ats : Array TypeId} {f : Operand} {aa : Array Operand} {iv rv : Value} {g : FuncId} {nm : String} {args : List Value} {p : List Qm} {q : Value → Hp → List Qm → Prop} {M0 : Hp}
  (E : Env a n ds l) (S : St w M (p ++ H)) (hd : Nat.blt d n = true) (hf : Jy l f = some iv) (ha : VS l aa.toList = some args) (hm : UQ P iv nm g rv w) (hg : ∀ args w, (callFunc g args).run P w = .ok (.enter g args) w)
  (C : Sp P (.func (.func g) #[] #[]) M0 (rv :: args) p q) (hM : Hp.le M0 M)
  (k : ∀ a v w' M' C, Hp.le M M' → q v M' C → St w' M' (C ++ H) → Env a n ds ((d, v) :: l) → next a w') : (⟨some d, .call ⟨.invoke f nm, aa, ats⟩, ty, pos, af, gd⟩ : Oper).wpIn (Fw r) 0 P a w next Q :=
  jt E hd hf ha hm hg (C w M H hM S) fun a v w' ⟨M', C', h1, h2, h3⟩ E => k a v w' M' C' h1 h2 h3 E
theorem Jo {T T' : TypeId} {v : Value} {u : TypeDesc} (E : Env a n ds l) (hx : Jy l x = some (.iface T v)) (hu : P.underlying T = some u) (hi : ∀ z, u ≠ .interface z) :
    (execOp a.eval ⟨some d, .typeAssert x T' T false, ty, pos, af, gd⟩).run P w = .ok (.value v) w := by
  cases u <;> first | (exact absurd rfl (hi _)) | (simp [execOp, E.eval hx, Instr.typeAssert, run_underlying hu])
theorem QV {T : TypeId} {v : Value} {e : TypeId} (E : Env a n ds l) (hx : Jy l x = some v) (hu : P.underlying T = some (.pointer e)) :
    (execOp a.eval ⟨some d, .makeInterface T x, ty, pos, af, gd⟩).run P w = .ok (.value (.iface T v)) w := by
  simp [execOp, E.eval hx, Instr.makeInterface, run_underlying hu]
end
def JH (T : TypeId) (M : Hp) (v : Value) (c : List Int) : Prop := ∃ b m q, v = .pointer (some ⟨b, 0, none⟩) ∧ M b = some (.cells #[m] T) ∧ qZ M m (Sl.encS q) ∧ q.Nodup ∧ ∀ x, x ∈ q ↔ x ∈ c
theorem JH.le {T : TypeId} {M M' : Hp} {v : Value} {c : List Int} (h : JH T M v c) (hM : Hp.le M M') : JH T M' v c := by
  obtain ⟨b, m, q, e, hb, hm, hn, hq⟩ := h
  exact ⟨b, m, q, e, hM.2 _ _ hb, hm.le hM, hn, hq⟩
theorem JH.eq {T : TypeId} {M : Hp} {v : Value} {c c' : List Int} (h : JH T M v c) (e : ∀ x, x ∈ c ↔ x ∈ c') : JH T M v c' := by
  obtain ⟨b, m, q, e1, hb, hm, hn, hq⟩ := h
  exact ⟨b, m, q, e1, hb, hm, hn, fun x => (hq x).trans (e x)⟩
def Qp (s p : List Int) : List Int := p.foldl Zr s
theorem Qe (s p : List Int) (x : Int) : Qp s (p ++ [x]) = Zr (Qp s p) x := by simp [Qp]
theorem JP : ∀ (p s : List Int) (x : Int), x ∈ Qp s p ↔ x ∈ s ∨ x ∈ p
  | [], s, x => by simp [Qp]
  | y :: p, s, x => by
    show x ∈ Qp (Zr s y) p ↔ _
    rw [JP p (Zr s y) x, ya, List.mem_cons]
    constructor
    · rintro ((h | h) | h)
      · exact .inl h
      · exact .inr (.inl h)
      · exact .inr (.inr h)
    · rintro (h | h | h)
      · exact .inl (.inl h)
      · exact .inl (.inr h)
      · exact .inr h
theorem Qt : ∀ (p s : List Int), s.Nodup → (Qp s p).Nodup
  | [], _, h => h
  | y :: p, s, h => Qt p (Zr s y) (qR h y)
section
variable {P : Program} {a : Act} {w : World} {n : Nat} {ds : List Deferred} {l : List (Nat × Value)} {d : Nat} {ty : TypeId} {pos : String} {af : Array Edge} {gd : Option (Nat × Bool)} {x : Operand}
theorem Qb {ad : Addr} {v : Value} (E : Env a n ds l) (hx : Jy l x = some v) (e : v = .pointer (some ad)) :
    (execOp a.eval ⟨some d, .nilCheck x, ty, pos, af, gd⟩).run P w = .ok (.value v) w := by
  subst e
  simp [execOp, E.eval hx]
end
def Jd (c : List Int) : Nat := (Qp [] c).length
theorem Wb {q c : List Int} (hn : q.Nodup) (h : ∀ x, x ∈ q ↔ x ∈ c) : q.length = Jd c := by
  have h2 := Qt c [] (by simp)
  have h3 : ∀ x, x ∈ Qp [] c ↔ x ∈ c := fun x => by simp [JP]
  exact Nat.le_antisymm (Qn hn fun z hz => (h3 z).2 ((h z).1 hz)) (Qn h2 fun z hz => (h z).2 ((h3 z).1 hz))
theorem JY (c : List Int) : Jd c ≤ c.length := Qn (Qt c [] (by simp)) fun z hz => by simpa [JP] using hz
def suL (c : List Int) : List Int := Vm (Qp [] c)
section
open Go.RwLone Go.Conc.Locks Go.MuLone
variable {P : Program} {L : RwLink}
theorem St.setF {w : World} {M : Hp} {H : List Qm} {b f : Nat} {cs : List Value} {T : TypeId} (u : Value) (S : St w M (Qh b (.cells cs.toArray T) :: H)) (hf : f < cs.length) :
    St (w.setCell ⟨b, f, none⟩ u) M (Qh b (.cells (cs.set f u).toArray T) :: H) := by
  have hg := S.get
  refine S.set (o' := .cells (cs.set f u).toArray T) ?_ ?_
  · simp only [World.setCell]; rw [Array.getElem?_modify, if_pos rfl, hg]; simp
  · intro c hc x hx
    simp only [World.setCell]; rw [Array.getElem?_modify, if_neg (Ne.symm hc)]; exact hx
def vk (n : Int) (q : Value) : List Value := [.int .i32 0, .int .u32 0, .int .u32 0, .int .u32 0, .int .i32 n, .int .i32 0, q]
def lko (m n : Int) (q : Value) : List Value := [.int .i32 m, .int .u32 0, .int .u32 0, .int .u32 0, .int .i32 n, .int .i32 0, q]
def LK (p : Nat) (T : TypeId) (n : Int) (q : Value) : Qm := Qh p (.cells (vk n q).toArray T)
def yt (p : Nat) (T : TypeId) (q : Value) : Qm := Qh p (.cells (lko 1 (-1073741824) q).toArray T)
theorem cellL {w : World} {M : Hp} {H : List Qm} {p f : Nat} {T : TypeId} {cs : List Value} {v : Value} (S : St w M (Qh p (.cells cs.toArray T) :: H)) (h : cs[f]? = some v) : w.cell? ⟨p, f, none⟩ = some v := by
  have hg := S.get
  simp [World.cell?, hg, h]
theorem js {w : World} {M : Hp} {H : List Qm} {p f : Nat} {T : TypeId} {cs : List Value} (S : St w M (Qh p (.cells cs.toArray T) :: H)) : w.frozen? ⟨p, f, none⟩ = false := by
  have hg := S.get
  simp [World.frozen?, hg]
theorem QX (R : RwRLib P L) {M : Hp} {p : Nat} {T : TypeId} {n : Int} {q : Value} (h0 : 0 ≤ n) (h1 : n ≤ 1000) :
    Sp P (.func (.func L.rlock) #[] #[]) M [.pointer (some ⟨p, 0, none⟩)] [LK p T n q] (fun v M' C' => v = .tuple #[] ∧ C' = [LK p T (n + 1) q]) := by
  intro w M1 H hM S
  have S1 : St w M1 (Qh p (.cells (vk n q).toArray T) :: H) := S
  have hw : Go.RowKit.wrap32 (n + 1) = n + 1 := by simp [Go.RowKit.wrap32]; omega
  refine Yd.func (fun args w => run_callFunc_enter R.f_rlock (by kernel_rfl) Y args w) ?_
  refine (rlock_open R p 0 n (.int .i32 0) (.int .u32 0) w (cellL S1 Y) (cellL S1 Y) (cellL S1 Y) (js S1) (by rw [hw]; omega)).mono ?_
  rintro e w' ⟨rfl, rfl⟩
  refine ⟨_, Y, M1, _, lerf, ⟨Y, Y⟩, ?_⟩
  rw [hw]
  exact St.setF (f := 4) (.int .i32 (n + 1)) S1 (by simp [vk, lko])
theorem QP (R : RwRLib P L) {M : Hp} {p : Nat} {T : TypeId} {n : Int} {q : Value} (h0 : 0 ≤ n) (h1 : n ≤ 1000) :
    Sp P (.func (.func L.runlock) #[] #[]) M [.pointer (some ⟨p, 0, none⟩)] [LK p T (n + 1) q] (fun v M' C' => v = .tuple #[] ∧ C' = [LK p T n q]) := by
  intro w M1 H hM S
  have S1 : St w M1 (Qh p (.cells (vk (n + 1) q).toArray T) :: H) := S
  have hw : Go.RowKit.wrap32 (n + 1 + -1) = n := by simp [Go.RowKit.wrap32]; omega
  refine Yd.func (fun args w => run_callFunc_enter R.f_runlock (by kernel_rfl) Y args w) ?_
  refine (runlock_held R p 0 (n + 1) (.int .i32 0) (.int .u32 0) w (cellL S1 Y) (cellL S1 Y) (cellL S1 Y) (js S1) (by rw [hw]; omega)).mono ?_
  rintro e w' ⟨rfl, rfl⟩
  refine ⟨_, Y, M1, _, lerf, ⟨Y, Y⟩, ?_⟩
  rw [hw]
  exact St.setF (f := 4) (.int .i32 n) S1 (by simp [vk, lko])
theorem Vc (R : RwWLib P L) {M : Hp} {p : Nat} {T : TypeId} {q : Value} :
    Sp P (.func (.func L.wlock) #[] #[]) M [.pointer (some ⟨p, 0, none⟩)] [LK p T 0 q] (fun v M' C' => v = .tuple #[] ∧ C' = [yt p T q]) := by
  intro w M1 H hM S
  have S1 : St w M1 (Qh p (.cells (vk 0 q).toArray T) :: H) := S
  refine Yd.func (fun args w => run_callFunc_enter R.f_wlock (by kernel_rfl) Y args w) ?_
  refine (wlock_free R p 0 (.int .u32 0) (.int .u32 0) w (cellL S1 Y) (cellL S1 Y) (cellL S1 Y) (cellL S1 Y) (js S1) (js S1)).mono ?_
  rintro e w' ⟨rfl, rfl⟩
  refine ⟨_, Y, M1, _, lerf, ⟨Y, Y⟩, ?_⟩
  exact St.setF (f := 4) (.int .i32 (-1073741824)) (St.setF (f := 0) (.int .i32 1) S1 (by simp [vk, lko])) (by simp [vk, lko])
theorem YQ (R : RwWLib P L) {M : Hp} {p : Nat} {T : TypeId} {q : Value} :
    Sp P (.func (.func L.wunlock) #[] #[]) M [.pointer (some ⟨p, 0, none⟩)] [yt p T q] (fun v M' C' => v = .tuple #[] ∧ C' = [LK p T 0 q]) := by
  intro w M1 H hM S
  have S1 : St w M1 (Qh p (.cells (lko 1 (-1073741824) q).toArray T) :: H) := S
  refine Yd.func (fun args w => run_callFunc_enter R.f_wunlock (by kernel_rfl) Y args w) ?_
  refine (wunlock_held R p 0 (.int .u32 0) (.int .u32 0) w (cellL S1 Y) (cellL S1 Y) (cellL S1 Y) (cellL S1 Y) (js S1) (js S1)).mono ?_
  rintro e w' ⟨rfl, rfl⟩
  refine ⟨_, Y, M1, _, lerf, ⟨Y, Y⟩, ?_⟩
  exact St.setF (f := 0) (.int .i32 0) (St.setF (f := 4) (.int .i32 0) S1 (by simp [vk, lko])) (by simp [vk, lko])
end
theorem suL_card (c : List Int) : (suL c).length = Jd c := by unfold suL Jd; rw [Ye]
def QT (a b : List Int) : Bool := a.all (fun z => decide (z ∈ b))
theorem Vu {a b : List Int} : QT a b = true ↔ ∀ z ∈ a, z ∈ b := by unfold QT; rw [List.all_eq_true]; simp
theorem zG {q p a b : List Int} (hp : p.Perm q) (hq : ∀ x, x ∈ q ↔ x ∈ a) (h : ∀ z ∈ p, z ∈ b) : QT a b = true :=
  Vu.2 fun z hz => h z (hp.mem_iff.2 ((hq z).2 hz))
theorem zH {q a b : List Int} {k : Int} (hk : k ∈ q) (hq : ∀ x, x ∈ q ↔ x ∈ a) (h : k ∉ b) : QT a b = false := by
  cases e : QT a b
  · rfl
  · exact absurd (Vu.1 e k ((hq k).1 hk)) h
theorem qQ {a b : List Int} (h : QT a b = true) : Jd a ≤ Jd b := by
  have mA : ∀ c : List Int, ∀ x, x ∈ Qp [] c ↔ x ∈ c := fun c x => by simp [JP]
  exact Qn (Qt a [] List.nodup_nil) fun z hz => (mA b z).2 (Vu.1 h z ((mA a z).1 hz))
theorem YB {a b : List Int} (h : Jd b < Jd a) : QT a b = false := by
  cases e : QT a b
  · rfl
  · have := qQ e; omega
theorem WH {a b : List Int} (h : QT a b = true) (hc : Jd a = Jd b) : QT b a = true := by
  have mA : ∀ c : List Int, ∀ x, x ∈ Qp [] c ↔ x ∈ c := fun c x => by simp [JP]
  refine Vu.2 fun z hz => ?_
  by_cases hn : z ∈ a
  · exact hn
  · exfalso
    have hA := Qt a [] List.nodup_nil
    have h2 : (z :: Qp [] a).length ≤ (Qp [] b).length := Qn (List.nodup_cons.2 ⟨fun h => hn ((mA a z).1 h), hA⟩) fun y hy => by
      rcases List.mem_cons.1 hy with e | e
      · rw [e]; exact (mA b z).2 hz
      · exact (mA b y).2 (Vu.1 h y ((mA a y).1 e))
    rw [List.length_cons] at h2
    unfold Jd at hc; omega
def ZJ (a b : List Int) : Bool := a.any (fun z => decide (z ∈ b))
theorem GN {q a b : List Int} {k : Int} (hk : k ∈ q) (hq : ∀ x, x ∈ q ↔ x ∈ a) (h : k ∈ b) : ZJ a b = true := by
  unfold ZJ; rw [List.any_eq_true]; exact ⟨k, (hq k).1 hk, decide_eq_true h⟩
theorem GO {q p a b : List Int} (hp : p.Perm q) (hq : ∀ x, x ∈ q ↔ x ∈ a) (h : ∀ z ∈ p, z ∉ b) : ZJ a b = false := by
  cases e : ZJ a b
  · rfl
  · unfold ZJ at e; rw [List.any_eq_true] at e
    obtain ⟨z, h1, h2⟩ := e
    exact absurd (of_decide_eq_true h2) (h z (hp.mem_iff.2 ((hq z).2 h1)))
theorem Ve (a b : List Int) : ZJ a b = ZJ b a := by
  have h : ∀ a b : List Int, ZJ a b = true → ZJ b a = true := fun a b e => by
    unfold ZJ at e ⊢; rw [List.any_eq_true] at e ⊢
    obtain ⟨z, h1, h2⟩ := e
    exact ⟨z, of_decide_eq_true h2, decide_eq_true h1⟩
  cases e : ZJ a b
  · cases e2 : ZJ b a
    · rfl
    · rw [h b a e2] at e; exact e.symm
  · exact (h a b e).symm
theorem vc {Q : Int → Prop} {p : List Int} {k : Int} (h : ∀ z ∈ p, Q z) (hk : Q k) : ∀ z ∈ p ++ [k], Q z := by
  intro z hz
  rcases List.mem_append.1 hz with h9 | h9
  · exact h z h9
  · rw [List.mem_singleton.1 h9]; exact hk
theorem Vg {P : Program} {a : Act} {w : World} {n : Nat} {ds : List Deferred} {l : List (Nat × Value)} {ops : Array Oper} {Q : Exit → Act → World → Prop} {rest : List Oper} {f : Operand} {aa : Array Operand} {args : List Value} {ats : Array TypeId} {ty : TypeId} {pos : String} {af : Array Edge} {g : Fn} {cap : Array Value} (E : Env a n ds l) (hx : Jy l f = some (.func g #[] cap)) (ha : VS l aa.toList = some args)
    (k : ∀ a, Env a n (⟨.fn g cap, args.toArray⟩ :: ds) l → WL none P ops Q rest a w) : WL none P ops Q (⟨none, .defer ⟨.value f, aa, ats⟩, ty, pos, af, none⟩ :: rest) a w := by
  refine vq Y ⟨fun _ _ => trivial, ?_⟩
  have e4 : aa.map a.eval = args.toArray := by rw [← E.evals ha, ← Array.toList_map, Array.toArray_toList]
  have hr : (execOp a.eval ⟨none, .defer ⟨.value f, aa, ats⟩, ty, pos, af, none⟩).run P w = .ok (.defer ⟨.fn g cap, args.toArray⟩) w := by
    simp [execOp, resolve, E.eval hx, Deferred.ofValue, e4]
  rw [show (Fw none).round = none from rfl, Oper.semAt_none]
  rw [hr]
  refine k _ ⟨E.size, ?_, E.get⟩
  show (⟨.fn g cap, args.toArray⟩ :: a.defers : List Deferred) = _
  rw [E.dfr]
section
open Go.RwLone Go.Conc.Locks
variable {P : Program} {L : RwLink}
theorem Vz {f : FuncId} {fn : Func} {c : Code} (hf : P.funcs[f]? = some fn) (hname : (fn.name == "runtime.NumGoroutine") = false) (hb : fn.body = some c) (args : Array Value) (w : World) : (callFunc f args).run P w = .ok (.enter f args) w :=
  Go.MuLone.run_callFunc_enter hf hname hb args w
set_option maxRecDepth 100000 in
set_option maxHeartbeats 3200000 in
theorem jL (R : RwRLib P L) {w : World} {p : Nat} {rc : Int} {x0 x2 : Value} (c0 : w.cell? ⟨p, 0, none⟩ = some x0) (c2 : w.cell? ⟨p, 2, none⟩ = some x2)
    (hc : w.cell? ⟨p, 4, none⟩ = some (.int .i32 rc)) (hz : w.frozen? ⟨p, 4, none⟩ = false) (hge : ¬ Go.RowKit.wrap32 (rc + -1) < 0) :
    CallsDIn (Fw none) 0 P L.runlock #[.pointer (some ⟨p, 0, none⟩)] .returning w (fun e u' w' => u' = .returning ∧ (e = .returned (.tuple #[]) ∧ w' = w.setCell ⟨p, 4, none⟩ (.int .i32 (Go.RowKit.wrap32 (rc + -1))))) := by
  have C := R.core
  have b1 := disable C; have b2 := enable C; have b3 := raceRead C; have b4 := releaseMerge C
  have d1 := C.runUnderlying_tRW; have d2 := C.sizeOf_tRW; have d3 := C.isAgg_tRW; have d4 := C.zeroValue_tRW
  have e1 := C.runUnderlying_tAI32; have e2 := C.sizeOf_tAI32; have e3 := C.isAgg_tAI32; have e4 := C.zeroValue_tAI32
  have f1 := C.runUnderlying_tPRW; have f2 := C.sizeOf_tPRW; have f3 := C.isAgg_tPRW; have f4 := C.zeroValue_tPRW
  have g1 := C.runUnderlying_tPAI32; have g2 := C.sizeOf_tPAI32; have g3 := C.isAgg_tPAI32; have g4 := C.zeroValue_tPAI32
  have i1 := C.runUnderlying_tPU32; have i2 := C.sizeOf_tPU32; have i3 := C.isAgg_tPU32; have i4 := C.zeroValue_tPU32
  have j1 := C.runUnderlying_tANoCopy; have j2 := C.sizeOf_tANoCopy; have j3 := C.isAgg_tANoCopy; have j4 := C.zeroValue_tANoCopy
  have k1 := C.runUnderlying_tU32; have k2 := C.sizeOf_tU32; have k3 := C.isAgg_tU32; have k4 := C.zeroValue_tU32
  have l1 := C.runUnderlying_tMutex; have l2 := C.sizeOf_tMutex; have l3 := C.isAgg_tMutex; have l4 := C.zeroValue_tMutex
  have m1 := C.runUnderlying_tPMutex; have m2 := C.sizeOf_tPMutex; have m3 := C.isAgg_tPMutex; have m4 := C.zeroValue_tPMutex
  have n1 := C.runUnderlying_tPI32; have n2 := C.sizeOf_tPI32; have n3 := C.isAgg_tPI32; have n4 := C.zeroValue_tPI32
  have o1 := C.runUnderlying_tUP; have o2 := C.sizeOf_tUP; have o3 := C.isAgg_tUP; have o4 := C.zeroValue_tUP
  have q1 := C.runUnderlying_t21; have q2 := C.sizeOf_t21; have q3 := C.isAgg_t21; have q4 := C.zeroValue_t21
  have v0 := run_convert_to_unsafe (P := P) (src := L.tPMutex) (dst := L.tUP) C.underlying_tPMutex C.underlying_tUP C.room_tMutex c0
  have v2 := run_convert_to_unsafe (P := P) (src := L.tPU32) (dst := L.tUP) C.underlying_tPU32 C.underlying_tUP C.room_tU32 c2
  have hin := fun args w => Vz (P := P) C.f_i32add (by kernel_rfl) rfl args w
  refine callsDIn_of_wp R.f_runlock Y trivial ?_
  show Code.wpIn Fence.wide 0 P _ _ _ _
  rw [wpIn_wide]
  simp only [nt_runlock L, List.size_toArray, List.length_cons, List.length_nil, Nat.reduceAdd, Nat.reduceSub, Array.replicate_succ,
     Array.replicate_zero, List.push_toArray, List.append_toArray, List.nil_append, List.cons_append]
  simp only [runlockFn]
  go_wp2
  refine (i32add_any C ⟨p, 4, none⟩ rc (-1) _ hc hz).mono ?_
  rintro e w' ⟨rfl, rfl⟩
  go_wp2
  go_end0
  exact ⟨Y, Y⟩
theorem GF {fn : Func} {tmps : Array Value} {R : Ending → World → Prop} {w : World} {v : Value} (h : (results fn tmps).run P w = .ok v w) (hR : R (.returned v) w) : LeavesInM (Fw none) 0 P fn tmps R [] .returning w := ⟨v, h, hR⟩
theorem YY (K : RwRLib P L) {fn : Func} {tmps : Array Value} {R : Ending → World → Prop} {ds : List Deferred} {w : World} {M : Hp} {H : List Qm} {p : Nat} {T : TypeId} {n : Int} {q : Value} (h0 : 0 ≤ n) (h1 : n ≤ 1000) (S : St w M (LK p T (n + 1) q :: H))
    (k : ∀ w', St w' M (LK p T n q :: H) → LeavesInM (Fw none) 0 P fn tmps R ds .returning w') : LeavesInM (Fw none) 0 P fn tmps R (⟨.fn (.func L.runlock) #[], #[.pointer (some ⟨p, 0, none⟩)]⟩ :: ds) .returning w := by
  have S1 : St w M (Qh p (.cells (vk (n + 1) q).toArray T) :: H) := S
  have hw : Go.RowKit.wrap32 (n + 1 + -1) = n := by simp [Go.RowKit.wrap32]; omega
  have hc := Vz (P := P) K.f_runlock (by kernel_rfl) rfl
  refine ⟨by simp, .inr ⟨by simp [Fw, Fence.wide], .func L.runlock, #[], L.runlock, #[.pointer (some ⟨p, 0, none⟩)], rfl, by simp [invoke, hc], fun _ _ => trivial, (jL K (cellL S1 rfl) (cellL S1 rfl) (cellL S1 rfl) (js S1) (by rw [hw]; omega)).mono ?_⟩⟩
  rintro _ _ _ ⟨rfl, rfl, rfl⟩
  refine k _ ?_
  rw [hw]
  exact St.setF (f := 4) (.int .i32 n) S1 (by simp [vk, lko])
end
section
variable {P : Program} {a : Act} {w : World} {n : Nat} {ds : List Deferred} {l : List (Nat × Value)} {fn : Func} {R : Ending → World → Prop}
theorem F_retL0 (E : Env a n ds l) (h : fn.results = #[]) (k : (∀ w, (results fn a.tmps).run P w = .ok (.tuple #[]) w) → LeavesInM (Fw none) 0 P fn a.tmps R ds .returning w) : Vj P fn R .ret a w := by
  show LeavesInM _ _ _ _ _ _ a.defers .returning w
  rw [E.dfr]; exact k fun w => results_none h _ _ _
theorem jz {t : Tmp} {v : Value} (E : Env a n ds l) (h : fn.results = #[.tmp t]) (hv : Sl.look l t = some v) (k : (∀ w, (results fn a.tmps).run P w = .ok v w) → LeavesInM (Fw none) 0 P fn a.tmps R ds .returning w) : Vj P fn R .ret a w := by
  show LeavesInM _ _ _ _ _ _ a.defers .returning w
  rw [E.dfr]; exact k fun w => by rw [results_tmp h, E.getD' hv]
theorem vy {t t' : Tmp} {v v' : Value} (E : Env a n ds l) (h : fn.results = #[.tmp t, .tmp t']) (hv : Sl.look l t = some v) (hv' : Sl.look l t' = some v') (k : (∀ w, (results fn a.tmps).run P w = .ok (.tuple #[v, v']) w) → LeavesInM (Fw none) 0 P fn a.tmps R ds .returning w) : Vj P fn R .ret a w := by
  show LeavesInM _ _ _ _ _ _ a.defers .returning w
  rw [E.dfr]; exact k fun w => by rw [results_tmp2 h, E.getD' hv, E.getD' hv']
end
def zk (a b : List Int) : List Bool := [QT a b && QT b a, QT a b, decide (Jd a < Jd b) && QT a b, QT b a, decide (Jd b < Jd a) && QT b a, ZJ a b]
theorem relL_len (a b : List Int) : (zk a b).length = 6 := rfl
theorem proper (a b : List Int) : (decide (Jd a < Jd b) && QT a b) = (QT a b && !QT b a) := by
  cases h : QT a b
  · simp
  · simp only [Bool.and_true, Bool.true_and]
    cases h2 : QT b a
    · have h3 := qQ h
      have h4 : Jd a ≠ Jd b := fun e => by rw [WH h e] at h2; cases h2
      simp; omega
    · have h3 := qQ h2; simp; omega
theorem relW (a b : List Int) : zk a b = [QT a b && QT b a, QT a b, QT a b && !QT b a, QT b a, QT b a && !QT a b, ZJ a b] := by
  unfold zk; rw [proper a b, proper b a]
theorem suL_set (c : List Int) : suL c = Qw c := WI (Qt c [] List.nodup_nil) fun z => by simp [JP]
section
variable {r : Option Nat} {P : Program} {Q : Exit → Act → World → Prop} {a : Act} {w : World}
  {n : Nat} {ds : List Deferred} {l : List (Nat × Value)} {d : Nat} {ty t kt et : TypeId} {pos : String} {af : Array Edge} {gd : Option (Nat × Bool)} {x y : Operand}
  {next : Act → World → Prop} {M : Hp} {H : List Qm} {zv : Value} {b i : Nat} {k : Int} {D : List Int} {cur : Option (Int × Value)}
theorem Ge {q : List Int} (E : Env a n ds l) (S : St w M (qn b i (Sl.encS q) D cur :: H)) (hd : Nat.blt d n = true) (hx : Jy l x = some (.pointer (some ⟨i, 0, none⟩)))
    (k0 : ∀ a, Env a n ds ((d, .tuple #[.bool false]) :: l) → (∀ z ∈ q, z ∈ D) → St w M (Qv b q :: H) → next a w)
    (k1 : ∀ a w' k, Env a n ds ((d, .tuple #[.bool true, .int .i64 k, .agg #[]]) :: l) → k ∈ q → k ∉ D → St w' M (qn b i (Sl.encS q) (D ++ [k]) (some (k, .agg #[])) :: H) → next a w') :
    (⟨some d, .next x false, ty, pos, af, gd⟩ : Oper).wpIn (Fw r) 0 P a w next Q := by
  refine X_nextW E S hd hx (fun a E h S => k0 a E (fun z hz => h (z, .agg #[]) (List.mem_map_of_mem (f := fun x : Int => (x, Value.agg #[])) hz)) S) fun a w' k v E h1 h2 S => ?_
  obtain ⟨u, hu, e⟩ := List.mem_map.1 h1
  simp only [Prod.mk.injEq] at e
  obtain ⟨e1, e2⟩ := e
  subst e1; subst e2
  exact k1 a w' u E hu h2 S
theorem VK {q : List Int} (E : Env a n ds l) (S : St w M (qn b i (Sl.encS q) D cur :: H)) (T : Vh P t kt et zv) (hx : Jy l x = some (.map (some b))) (hy : Jy l y = some (.int .i64 k))
    (kk : ∀ a w', Env a n ds l → St w' M (qn b i (Sl.encS (q.filter fun q_ => decide (q_ ≠ k))) D none :: H) → next a w') : (⟨none, .call ⟨.builtin .delete, #[x, y], #[t, kt]⟩, ty, pos, af, gd⟩ : Oper).wpIn (Fw r) 0 P a w next Q :=
  yP E S T hx hy fun a w' E S => kk a w' E (by rw [zW] at S; exact S)
end
theorem lendH {w : World} {M : Hp} {H : List Qm} {p : Qm} (s : St w M (p :: H)) : ∃ M' g, Hp.le M M' ∧ (∀ b o, g b = some o → M' b = some o) ∧ p g ∧ St w M' H ∧ ∀ w' M2 H', Hp.le M' M2 → St w' M2 H' → ∃ M3, Hp.le M M3 ∧ St w' M3 (p :: H') := by
  obtain ⟨h, ⟨g, h2, d, rfl, hp, hH⟩, dM, aq, ag⟩ := s
  have ⟨dg, dh⟩ := Hp.disj_union_left.1 dM
  refine ⟨⟨Hp.union g M.mem, M.env⟩, g, ⟨Y, fun b o e => Hp.le_union_right dg b o e⟩, fun b o e => Hp.le_union_left g M.mem b o e, hp, ⟨h2, hH, Hp.disj_union_right.2 ⟨d.symm, dh⟩, fun b o e => aq b o (Hp.le_union_right d b o e), ag.1, fun b o e => ?_⟩, ?_⟩
  · have e' : Hp.union g M.mem b = some o := e
    unfold Hp.union at e'
    cases hg : g b with
    | some o' => rw [hg] at e'; cases e'; exact aq b o (Hp.le_union_left g h2 b o hg)
    | none => rw [hg] at e'; exact ag.2 b o e'
  · rintro w' M2 H' hM ⟨h', hH', d', aq', ag'⟩
    have hgM : ∀ b o, g b = some o → M2 b = some o := fun b o e => hM.2 b o (Hp.le_union_left g M.mem b o e)
    have hMM : ∀ b o, M b = some o → M2 b = some o := fun b o e => hM.2 b o (Hp.le_union_right dg b o e)
    refine ⟨⟨M.mem, M2.env⟩, ⟨hM.1, fun b o e => e⟩, Hp.union g h', ⟨g, h', fun b => ?_, Y, hp, hH'⟩, fun b => ?_, fun b o e => ?_, ag'.1, fun b o e => ag'.2 b o (hMM b o e)⟩
    · cases hg : g b with
      | none => exact .inl rfl
      | some o => rcases d' b with e | e
                  · exact .inr e
                  · have := hgM b o hg; exact absurd (this.symm.trans e) (by simp)
    · show Hp.union g h' b = none ∨ M.mem b = none
      rcases dg b with e | e
      · cases hM0 : M.mem b with
        | none => exact .inr rfl
        | some o => left; unfold Hp.union; rw [e]; rcases d' b with e2 | e2
                    · exact e2
                    · have := hMM b o hM0; exact absurd (this.symm.trans e2) (by simp)
      · exact .inr e
    · unfold Hp.union at e
      cases hg : g b with
      | some o' => rw [hg] at e; cases e; exact ag'.2 b o (hgM b o hg)
      | none => rw [hg] at e; exact aq' b o e
def InvV (P : Program) (iv : Value) (nm : String) (args : List Value) (w : World) (R : Value → World → Prop) : Prop :=
  ∃ g rv, UQ P iv nm g rv w ∧ (∀ args w, (callFunc g args).run P w = .ok (.enter g args) w) ∧ Yd P (.func (.func g) #[] #[]) (rv :: args) w R
theorem InvV.mono {P : Program} {iv : Value} {nm : String} {args : List Value} {w : World} {R R' : Value → World → Prop} (h : InvV P iv nm args w R) (hr : ∀ v w', R v w' → R' v w') : InvV P iv nm args w R' := by
  obtain ⟨g, rv, h1, h2, h3⟩ := h
  exact ⟨g, rv, h1, h2, h3.mono hr⟩
def QD (P : Program) (iv : Value) (nm : String) (M : Hp) (args : List Value) (p : List Qm) (q : Value → Hp → List Qm → Prop) : Prop :=
  ∀ w M1 H, Hp.le M M1 → St w M1 (p ++ H) → InvV P iv nm args w (fun v w' => ∃ M2 C, Hp.le M1 M2 ∧ q v M2 C ∧ St w' M2 (C ++ H))
section
variable {P : Program} {a : Act} {w : World} {n : Nat} {ds : List Deferred} {l : List (Nat × Value)} {d : Nat} {ty : TypeId} {pos : String} {af : Array Edge} {gd : Option (Nat × Bool)} {M : Hp} {H : List Qm} {r : Option Nat} {next : Act → World → Prop} {Q : Exit → Act → World → Prop}
theorem ZU {ats : Array TypeId} {f : Operand} {aa : Array Operand} {iv : Value} {nm : String} {args : List Value} {p : List Qm} {q : Value → Hp → List Qm → Prop} {M0 : Hp}
  (E : Env a n ds l) (S : St w M (p ++ H)) (hd : Nat.blt d n = true) (hf : Jy l f = some iv) (ha : VS l aa.toList = some args) (C : QD P iv nm M0 args p q) (hM : Hp.le M0 M)
  (k : ∀ a v w' M' C, Hp.le M M' → q v M' C → St w' M' (C ++ H) → Env a n ds ((d, v) :: l) → next a w') : (⟨some d, .call ⟨.invoke f nm, aa, ats⟩, ty, pos, af, gd⟩ : Oper).wpIn (Fw r) 0 P a w next Q := by
  obtain ⟨g, rv, h1, h2, h3⟩ := C w M H hM S
  exact jt E hd hf ha h1 h2 h3 fun a v w' ⟨M', C', h1, h2, h3⟩ E => k a v w' M' C' h1 h2 h3 E
end
theorem QD.mono {P : Program} {iv : Value} {nm : String} {M : Hp} {args : List Value} {p : List Qm} {q q' : Value → Hp → List Qm → Prop} (h : QD P iv nm M args p q) (hq : ∀ v M2 C, q v M2 C → q' v M2 C) : QD P iv nm M args p q' :=
  fun w M1 H hM S => (h w M1 H hM S).mono fun v w' ⟨M2, C, h1, h2, h3⟩ => ⟨M2, C, h1, hq v M2 C h2, h3⟩
theorem QD.of_sp {P : Program} {T : TypeId} {u : Value} {nm : String} {M : Hp} {args : List Value} {p : List Qm} {q : Value → Hp → List Qm → Prop} {g : FuncId} (hm : ∀ w, UQ P (.iface T u) nm g u w) (hg : ∀ args w, (callFunc g args).run P w = .ok (.enter g args) w)
    (C : Sp P (.func (.func g) #[] #[]) M (u :: args) p q) : QD P (.iface T u) nm M args p q :=
  fun w M1 H hM S => ⟨g, u, hm w, hg, C w M1 H hM S⟩
def qX (T : TypeId) (u : Value) (l : List Int) : Qm := fun h => ∃ (b m : Nat) (q : List Int), (u = .pointer (some ⟨b, 0, none⟩) ∧ q.Nodup ∧ ∀ x, x ∈ q ↔ x ∈ l) ∧ YH [Qh b (.cells #[.map (some m)] T), Qv m q] h
theorem SetU_eq {T : TypeId} {u : Value} {l l' : List Int} (h : ∀ x, x ∈ l ↔ x ∈ l') : qX T u l = qX T u l' := by
  funext g; apply propext
  constructor <;> rintro ⟨b, m, q, ⟨h1, h2, h3⟩, h4⟩
  · exact ⟨b, m, q, ⟨h1, h2, fun x => (h3 x).trans (h x)⟩, h4⟩
  · exact ⟨b, m, q, ⟨h1, h2, fun x => (h3 x).trans (h x).symm⟩, h4⟩
theorem openU {w : World} {M : Hp} {H : List Qm} {T : TypeId} {u : Value} {l : List Int} (S : St w M (qX T u l :: H)) :
    ∃ (b m : Nat) (q : List Int), u = .pointer (some ⟨b, 0, none⟩) ∧ q.Nodup ∧ (∀ x, x ∈ q ↔ x ∈ l) ∧ St w M (Qh b (.cells #[.map (some m)] T) :: Qv m q :: H) := by
  obtain ⟨b, S⟩ := S.ex
  obtain ⟨m, S⟩ := S.ex
  obtain ⟨q, S⟩ := S.ex
  obtain ⟨⟨h1, h2, h3⟩, S⟩ := S.pure_
  exact ⟨b, m, q, h1, h2, h3, jG S⟩
theorem qN {w : World} {M : Hp} {H : List Qm} {T : TypeId} {b m : Nat} {q l : List Int} (hn : q.Nodup) (hq : ∀ x, x ∈ q ↔ x ∈ l) (S : St w M (Qh b (.cells #[.map (some m)] T) :: Qv m q :: H)) : St w M (qX T (.pointer (some ⟨b, 0, none⟩)) l :: H) :=
  (zN (A := [Qh b (.cells #[.map (some m)] T), Qv m q]) S).imp fun _ h => ⟨b, m, q, ⟨rfl, hn, hq⟩, h⟩
theorem qX.rd {T : TypeId} {u : Value} {l : List Int} {g : Hq} {M : Hp} (h : qX T u l g) (hM : ∀ b o, g b = some o → M b = some o) : JH T M u l := by
  obtain ⟨b, m, q, ⟨h1, h2, h3⟩, g1, g2, d, e, hb, g3, g4, d', e', ⟨o, ⟨es, clock, ho, he⟩, hm⟩, h0⟩ := h
  have h0' : g4 = Hp.emp := h0
  subst h0'; subst ho
  have hb' : g1 = Hp.one b (.cells #[.map (some m)] T) := hb
  subst hb'; subst hm; subst e'; subst e
  refine ⟨b, .map (some m), q, h1, hM _ _ (Hp.le_union_left _ _ _ _ (by simp [Hp.one])), ⟨m, es, clock, Y, hM _ _ (Hp.le_union_right d _ _ ?_), he⟩, h2, h3⟩
  rw [Hp.union_emp]; simp [Hp.one]
theorem Yf {A B : List Qm} (h : A.Perm B) : YH A = YH B := funext fun _ => propext ⟨qt h, qt h.symm⟩
theorem WY {w : World} {M : Hp} {p : Qm} {A H : List Qm} (s : St w M (YH (p :: A) :: H)) : St w M (p :: YH A :: H) :=
  s.of_sat fun _ hh => Vd (H := A ++ H) (H' := YH A :: H) (fun _ hg => Vb.1 hg) (Vb.2 hh)
theorem VC {w : World} {M : Hp} {p : Qm} {A H : List Qm} (s : St w M (p :: YH A :: H)) : St w M (YH (p :: A) :: H) :=
  s.of_sat fun _ hh => (Vb (A := p :: A)).1 (Vd (H := YH A :: H) (H' := A ++ H) (fun _ hg => Vb.2 hg) hh)
theorem UZ {w : World} {M : Hp} {H : List Qm} (s : St w M H) : St w M (YH [] :: H) := zN (A := []) s
structure SK where
  (tu ts um ss e : TypeId)
abbrev RG := Nat × Value × List Int
def Zx (K : SK) (safe : Bool) (x : RG) : Value := if safe then .iface K.ts (.pointer (some ⟨x.1, 0, none⟩)) else .iface K.tu x.2.1
def Zc (K : SK) (safe : Bool) (x : RG) : Qm := if safe then LK x.1 K.ss 0 x.2.1 else YH []
def VI (K : SK) (x : RG) : Qm := qX K.um x.2.1 x.2.2
def QK (K : SK) (safe : Bool) (v : Value) (t : List RG) : Qm := YH [Jk K.e 1 v t.length (t.map (Zx K safe)), YH (t.map (Zc K safe)), YH (t.map (VI K))]
def YO (K : SK) (safe : Bool) (x : RG) : Qm := YH [Zc K safe x, VI K x]
def RG.w (x : RG) (l : List Int) : RG := (x.1, x.2.1, l)
theorem WN {α : Type} : ∀ {t : List α} {i : Nat} {x : α}, t[i]? = some x → t.Perm (x :: t.eraseIdx i)
  | [], i, x, h => by simp at h
  | a :: t, 0, x, h => by simp at h; subst h; exact List.Perm.refl _
  | a :: t, i + 1, x, h => by
    have ih := WN (t := t) (i := i) (x := x) (by simpa using h)
    rw [List.eraseIdx_cons_succ]
    exact (ih.cons a).trans (List.Perm.swap ..)
theorem qy {α : Type} : ∀ {t : List α} {i : Nat} {y : α}, i < t.length → (t.set i y).Perm (y :: t.eraseIdx i)
  | [], i, y, h => by simp at h
  | a :: t, 0, y, h => List.Perm.refl _
  | a :: t, i + 1, y, h => by
    have ih := qy (t := t) (i := i) (y := y) (by simpa using h)
    rw [List.eraseIdx_cons_succ, List.set_cons_succ]
    exact (ih.cons a).trans (List.Perm.swap ..)
theorem yb {α : Type} {t : List α} {i : Nat} {x : α} (h : t[i]? = some x) : i < t.length := (List.getElem?_eq_some_iff.1 h).1
section
variable {w : World} {M : Hp} {H : List Qm} {K : SK} {safe : Bool} {v : Value} {t : List RG} {i j : Nat} {x y : RG}
theorem qz (S : St w M (QK K safe v t :: H)) : St w M (Jk K.e 1 v t.length (t.map (Zx K safe)) :: YH (t.map (Zc K safe)) :: YH (t.map (VI K)) :: H) := jG S
theorem qO (S : St w M (Jk K.e 1 v t.length (t.map (Zx K safe)) :: YH (t.map (Zc K safe)) :: YH (t.map (VI K)) :: H)) : St w M (QK K safe v t :: H) := zN (A := [_, _, _]) S
theorem jo {α β : Type} (f : α → β) {t : List α} {i : Nat} {x y : α} (h : t[i]? = some x) (e : f y = f x) : (t.set i y).map f = t.map f := by
  rw [List.map_set, e]
  refine List.ext_getElem? fun j => ?_
  rw [List.getElem?_set]
  split
  · rename_i hij; subst hij; split
    · rw [List.getElem?_map, h]; rfl
    · rename_i h2; exact absurd (by simpa using yb h) h2
  · rfl
theorem vB {l l' : List Int} (h : ∀ z, z ∈ l ↔ z ∈ l') : QK K safe v (t.set i (x.w l)) = QK K safe v (t.set i (x.w l')) := by
  have e1 : (t.set i (x.w l)).map (Zx K safe) = (t.set i (x.w l')).map (Zx K safe) := by rw [List.map_set, List.map_set]; rfl
  have e2 : (t.set i (x.w l)).map (Zc K safe) = (t.set i (x.w l')).map (Zc K safe) := by rw [List.map_set, List.map_set]; rfl
  have e3 : (t.set i (x.w l)).map (VI K) = (t.set i (x.w l')).map (VI K) := by
    rw [List.map_set, List.map_set]
    exact congrArg (fun p => (t.map (VI K)).set i p) (SetU_eq h)
  unfold QK
  rw [e1, e2, e3, List.length_set, List.length_set]
theorem regs_at (hx : t[i]? = some x) (S : St w M (QK K safe v t :: H)) : ∃ R : Qm, St w M (Zc K safe x :: VI K x :: R :: H) ∧
    ∀ w' M' H' x', Zx K safe x' = Zx K safe x → St w' M' (Zc K safe x' :: VI K x' :: R :: H') → St w' M' (QK K safe v (t.set i x') :: H') := by
  have hp := WN hx
  refine ⟨YH [Jk K.e 1 v t.length (t.map (Zx K safe)), YH ((t.eraseIdx i).map (Zc K safe)), YH ((t.eraseIdx i).map (VI K))], ?_, ?_⟩
  · have s1 := qz S
    rw [Yf (hp.map (Zc K safe)), Yf (hp.map (VI K))] at s1
    have s2 := WY s1.front1
    have s3 := WY s2.front3
    exact St.under2 (s3.front1.front3.front4.front3.front4) fun _ hh => (Vb (A := [_, _, _])).1 hh
  · intro w' M' H' x' he s
    have s0 : St w' M' (Zc K safe x' :: VI K x' :: Jk K.e 1 v t.length (t.map (Zx K safe)) :: YH ((t.eraseIdx i).map (Zc K safe)) :: YH ((t.eraseIdx i).map (VI K)) :: H') := St.under2 s fun _ hh => (Vb (A := [_, _, _])).2 hh
    have hs := qy (y := x') (yb hx)
    refine qO ?_
    rw [Yf (hs.map (Zc K safe)), Yf (hs.map (VI K)), jo (Zx K safe) hx he, List.length_set]
    have s1 : St w' M' (YH ((x' :: t.eraseIdx i).map (VI K)) :: Zc K safe x' :: Jk K.e 1 v t.length (t.map (Zx K safe)) :: YH ((t.eraseIdx i).map (Zc K safe)) :: H') := VC (s0.front4.front2)
    have s2 : St w' M' (YH ((x' :: t.eraseIdx i).map (Zc K safe)) :: YH ((x' :: t.eraseIdx i).map (VI K)) :: Jk K.e 1 v t.length (t.map (Zx K safe)) :: H') := VC (s1.front3.front2)
    exact s2.front2
end
theorem sat_mem {A : List Qm} {p : Qm} {g : Hq} (hp : p ∈ A) (h : sat A g) : ∃ g1, p g1 ∧ ∀ b o, g1 b = some o → g b = some o := by
  induction A generalizing g with
  | nil => cases hp
  | cons q A ih =>
    obtain ⟨g1, g2, d, e, h1, h2⟩ := h
    subst e
    rcases List.mem_cons.1 hp with e | hp
    · subst e; exact ⟨g1, h1, fun b o hb => Hp.le_union_left g1 g2 b o hb⟩
    · obtain ⟨g3, h3, h4⟩ := ih hp h2
      exact ⟨g3, h3, fun b o hb => Hp.le_union_right d b o (h4 b o hb)⟩
section
variable {w : World} {M : Hp} {H : List Qm} {K : SK} {safe : Bool} {v : Value} {t : List RG} {i j : Nat} {x y : RG}
theorem zM (S : St w M (QK K safe v t :: H)) : ∃ M', Hp.le M M' ∧ (∀ (i : Nat) (x : RG), t[i]? = some x → JH K.um M' x.2.1 x.2.2) ∧ St w M' (Jk K.e 1 v t.length (t.map (Zx K safe)) :: YH (t.map (Zc K safe)) :: H) ∧
    ∀ w' M2 H', Hp.le M' M2 → St w' M2 (Jk K.e 1 v t.length (t.map (Zx K safe)) :: YH (t.map (Zc K safe)) :: H') → ∃ M3, Hp.le M M3 ∧ St w' M3 (QK K safe v t :: H') := by
  have s1 := (qz S).front2
  obtain ⟨M', g, h1, h2, h3, s2, back⟩ := lendH s1
  refine ⟨M', h1, fun i x hx => ?_, s2, fun w' M2 H' hM s => ?_⟩
  · obtain ⟨g1, h4, h5⟩ := sat_mem (p := VI K x) (List.mem_map_of_mem (f := VI K) (List.mem_of_getElem? hx)) h3
    exact qX.rd h4 fun b o hb => h2 b o (h5 b o hb)
  · obtain ⟨M3, h6, s3⟩ := back w' M2 _ hM s
    exact ⟨M3, h6, qO (s3.front2.front2)⟩
theorem qi (hx : t[i]? = some x) (S : St w M (YH (t.map (Zc K safe)) :: H)) : St w M (Zc K safe x :: YH ((t.eraseIdx i).map (Zc K safe)) :: H) := by
  rw [Yf ((WN hx).map (Zc K safe))] at S; exact WY S
theorem Gy (hx : t[i]? = some x) (S : St w M (Zc K safe x :: YH ((t.eraseIdx i).map (Zc K safe)) :: H)) : St w M (YH (t.map (Zc K safe)) :: H) := by
  rw [Yf ((WN hx).map (Zc K safe))]; exact VC S
end
theorem QD.conv {P : Program} {iv : Value} {nm : String} {M : Hp} {args : List Value} {p p' : List Qm} {q q' : Value → Hp → List Qm → Prop} (h : QD P iv nm M args p q) (hp : ∀ w M H, St w M (p' ++ H) → St w M (p ++ H)) (hq : ∀ v M2 C, q v M2 C → ∃ C', q' v M2 C' ∧ ∀ w M H, St w M (C ++ H) → St w M (C' ++ H)) : QD P iv nm M args p' q' :=
  fun w M1 H hM S => (h w M1 H hM (hp _ _ _ S)).mono fun v w' ⟨M2, C, h1, h2, h3⟩ => let ⟨C', h4, h5⟩ := hq v M2 C h2; ⟨M2, C', h1, h4, h5 _ _ _ h3⟩
theorem QD.frame {P : Program} {iv : Value} {nm : String} {M : Hp} {args : List Value} {F : List Qm} {Φ : Value → List Qm → Prop} (h : QD P iv nm M args [] (fun r _ C => Φ r C)) : QD P iv nm M args F (fun r _ C => ∃ D, C = F ++ D ∧ Φ r D) :=
  fun w M1 H hM S => (h w M1 (F ++ H) hM S).mono fun v w' ⟨M2, C, h1, h2, h3⟩ => ⟨M2, F ++ C, h1, ⟨C, rfl, h2⟩, h3.perm (by rw [← List.append_assoc]; exact List.perm_append_comm.append_right H)⟩
section
variable {P : Program} {K : SK} {safe : Bool} {v : Value} {t : List RG} {i j : Nat} {x y : RG} {M : Hp} {iv : Value} {nm : String} {args : List Value}
theorem YS {Φ : Value → List Int → List Qm → Prop} (hx : t[i]? = some x) (C : QD P iv nm M args [Zc K safe x, VI K x] (fun r _ C' => ∃ l' D, C' = Zc K safe x :: VI K (x.w l') :: D ∧ Φ r l' D)) :
    QD P iv nm M args [QK K safe v t] (fun r _ C' => ∃ l' D, C' = QK K safe v (t.set i (x.w l')) :: D ∧ Φ r l' D) := by
  intro w M1 H hM S
  obtain ⟨R, S1, back⟩ := regs_at hx S
  refine (C w M1 (R :: H) hM S1).mono fun r w' ⟨M2, C', h1, ⟨l', D, h3, h4⟩, h5⟩ => ⟨M2, _, h1, ⟨l', D, Y, h4⟩, ?_⟩
  subst h3
  have s1 : St w' M2 (Zc K safe x :: VI K (x.w l') :: (D ++ R :: H)) := h5
  have s2 : St w' M2 (Zc K safe x :: VI K (x.w l') :: R :: (D ++ H)) := s1.perm ((List.perm_middle.cons _).cons _)
  exact back _ _ _ (x.w l') Y s2
theorem YT {Φ Ψ : Value → List Int → List Qm → Prop} (h : QD P iv nm M args [QK K safe v t] (fun r _ C' => ∃ l' D, C' = QK K safe v (t.set i (x.w l')) :: D ∧ Φ r l' D)) (hΦ : ∀ r l' D, Φ r l' D → ∃ L, (∀ z, z ∈ l' ↔ z ∈ L) ∧ Ψ r L D) :
    QD P iv nm M args [QK K safe v t] (fun r _ C' => ∃ L D, C' = QK K safe v (t.set i (x.w L)) :: D ∧ Ψ r L D) := by
  refine h.mono fun r M2 C ⟨l', D, h1, h2⟩ => ?_
  obtain ⟨L, h3, h4⟩ := hΦ r l' D h2
  exact ⟨L, D, by rw [h1, vB (x := x) h3], h4⟩
theorem qv {Φ : Value → List Qm → Prop} {F : List Qm} (hx : t[i]? = some x) (C : ∀ M', Hp.le M M' → JH K.um M' x.2.1 x.2.2 → QD P iv nm M' args (Zc K safe x :: F) (fun r _ C' => ∃ D, C' = Zc K safe x :: D ∧ Φ r D)) :
    QD P iv nm M args (QK K safe v t :: F) (fun r _ C' => ∃ D, C' = QK K safe v t :: D ∧ Φ r D) := by
  intro w M1 H hM S
  obtain ⟨M', h1, hr, s, back⟩ := zM (H := F ++ H) S
  have s1 := (qi hx s.front1)
  have s1' : St w M' ((Zc K safe x :: F) ++ (YH ((t.eraseIdx i).map (Zc K safe)) :: Jk K.e 1 v t.length (t.map (Zx K safe)) :: H)) := by
    refine s1.perm (List.Perm.cons _ ?_)
    exact ((List.perm_middle (l₁ := F) (a := YH ((t.eraseIdx i).map (Zc K safe))) (l₂ := Jk K.e 1 v t.length (t.map (Zx K safe)) :: H)).trans (List.perm_middle.cons _)).symm
  refine (C M' (hM.trans h1) (hr i x hx) w M' _ lerf s1').mono fun r w' ⟨M2, C', h2, ⟨D, h3, h4⟩, h5⟩ => ?_
  subst h3
  have s2 : St w' M2 (Zc K safe x :: YH ((t.eraseIdx i).map (Zc K safe)) :: Jk K.e 1 v t.length (t.map (Zx K safe)) :: (D ++ H)) := by
    refine (show St w' M2 (Zc K safe x :: (D ++ YH ((t.eraseIdx i).map (Zc K safe)) :: Jk K.e 1 v t.length (t.map (Zx K safe)) :: H)) from h5).perm (List.Perm.cons _ ?_)
    exact List.perm_middle.trans (List.perm_middle.cons _)
  obtain ⟨M3, h6, s3⟩ := back w' M2 (D ++ H) h2 ((Gy hx s2).front1)
  exact ⟨M3, _, h6, ⟨D, Y, h4⟩, s3⟩
theorem Yx {Φ : Value → List Qm → Prop} (hx : t[i]? = some x) (C : ∀ M', Hp.le M M' → JH K.um M' x.2.1 x.2.2 → QD P iv nm M' args [Zc K safe x] (fun r _ C' => ∃ D, C' = Zc K safe x :: D ∧ Φ r D)) :
    QD P iv nm M args [QK K safe v t] (fun r _ C' => ∃ D, C' = QK K safe v t :: D ∧ Φ r D) := qv (F := []) hx C
theorem ZX {Φ : Value → List Qm → Prop} (hx : t[i]? = some x) (hy : t[j]? = some y)
    (C1 : ∀ M', Hp.le M M' → JH K.um M' x.2.1 x.2.2 → JH K.um M' y.2.1 y.2.2 → QD P iv nm M' args [Zc K safe x, Zc K safe y] (fun r _ C' => ∃ D, C' = Zc K safe x :: Zc K safe y :: D ∧ Φ r D))
    (C2 : y = x → ∀ M', Hp.le M M' → JH K.um M' x.2.1 x.2.2 → QD P iv nm M' args [Zc K safe x] (fun r _ C' => ∃ D, C' = Zc K safe x :: D ∧ Φ r D)) :
    QD P iv nm M args [QK K safe v t] (fun r _ C' => ∃ D, C' = QK K safe v t :: D ∧ Φ r D) := by
  by_cases hij : i = j
  · subst hij; rw [hx] at hy; cases hy
    exact Yx hx (C2 Y)
  intro w M1 H hM S
  obtain ⟨M', h1, hr, s, back⟩ := zM S
  have s1 := (qi hx s.front1)
  have hy' : ∃ j' : Nat, (t.eraseIdx i)[j']? = some y := by
    by_cases h : j < i
    · exact ⟨j, by rw [List.getElem?_eraseIdx_of_lt h]; exact hy⟩
    · refine ⟨j - 1, ?_⟩
      rw [List.getElem?_eraseIdx_of_ge (by omega), Nat.sub_add_cancel (by omega)]; exact hy
  obtain ⟨j', hy'⟩ := hy'
  have s2 := (qi hy' s1.front1).front2
  refine (C1 M' (hM.trans h1) (hr i x hx) (hr j y hy) w M' _ lerf s2).mono fun r w' ⟨M2, C', h2, ⟨D, h3, h4⟩, h5⟩ => ?_
  subst h3
  generalize hG : YH (((t.eraseIdx i).eraseIdx j').map (Zc K safe)) = G at h5
  have s3 : St w' M2 (Zc K safe x :: Zc K safe y :: G :: Jk K.e 1 v t.length (t.map (Zx K safe)) :: (D ++ H)) := by
    refine (show St w' M2 (Zc K safe x :: Zc K safe y :: (D ++ G :: Jk K.e 1 v t.length (t.map (Zx K safe)) :: H)) from h5).perm (List.Perm.cons _ (List.Perm.cons _ ?_))
    exact List.perm_middle.trans (List.perm_middle.cons _)
  subst hG
  have s4 : St w' M2 (Zc K safe x :: YH ((t.eraseIdx i).map (Zc K safe)) :: Jk K.e 1 v t.length (t.map (Zx K safe)) :: (D ++ H)) := (Gy hy' (s3.front1.front2.front1)).front1
  obtain ⟨M3, h6, s5⟩ := back w' M2 (D ++ H) h2 ((Gy hx s4).front1)
  exact ⟨M3, _, h6, ⟨D, Y, h4⟩, s5⟩
end
def zf (P : Program) (fv : Value) (M : Hp) (J : List Int → Qm) : Prop := fv.oneCell' = true ∧ ∀ p x, p.length ≤ 1000000000 → Sp P fv M [.int .i64 x] [J p] (fun r _ C' => r = .bool false ∧ C' = [J (p ++ [x])])
theorem zf.le {P : Program} {fv : Value} {M M' : Hp} {J : List Int → Qm} (h : zf P fv M J) (hM : Hp.le M M') : zf P fv M' J := ⟨h.1, fun p x hp => (h.2 p x hp).le hM⟩
theorem addS_ne {l : List Int} {x : Int} : (((l.length : Nat) : Int) ≠ (((Zr l x).length : Nat) : Int)) ↔ x ∉ l := by
  unfold Zr; split
  · rename_i h; simp [h]
  · rename_i h; simp [h]; omega
theorem ym : ∀ (p s : List Int), s.length ≤ (Qp s p).length ∧ (Qp s p).length ≤ s.length + p.length
  | [], s => ⟨Nat.le_refl _, Nat.le_refl _⟩
  | x :: p, s => by
    have ih := ym p (Zr s x)
    have h : s.length ≤ (Zr s x).length ∧ (Zr s x).length ≤ s.length + 1 := by unfold Zr; split <;> simp
    rw [List.length_cons]
    show s.length ≤ (Qp (Zr s x) p).length ∧ (Qp (Zr s x) p).length ≤ _
    omega
theorem vO (p s : List Int) (k : Nat) : (Qp s (p.take k)).length ≤ s.length + p.length := by
  have h := (ym (p.take k) s).2
  rw [List.length_take] at h; omega
theorem YK (l p : List Int) (x : Int) : (l.filter (fun z => decide (z ∉ p))).filter (fun q_ => decide (q_ ≠ x)) = l.filter (fun z => decide (z ∉ p ++ [x])) := by
  rw [List.filter_filter]
  refine congrArg (fun f => l.filter f) (funext fun z => ?_)
  by_cases h1 : z ∈ p <;> by_cases h2 : z = x <;> simp [h1, h2]
theorem vg {l m : List Int} {k : Nat} {x : Int} (h : m[k]? = some x) : (l.filter (fun z => decide (z ∉ m.take k))).filter (fun q_ => decide (q_ ≠ x)) = l.filter (fun z => decide (z ∉ m.take (k + 1))) := by
  rw [YK, List.take_add_one, h]; rfl
theorem YU (l : List Int) : l.filter (fun z => decide (z ∉ ([] : List Int))) = l := by simp
theorem vn {l p : List Int} (h : ∀ z ∈ l.filter (fun z => decide (z ∉ p)), z ∈ p) : ∀ z ∈ l, z ∈ p := fun z hz => by
  by_cases h1 : z ∈ p
  · exact h1
  · exact h z (List.mem_filter.2 ⟨hz, by simpa using h1⟩)
theorem cl_empty {l p : List Int} (h : ∀ z ∈ l.filter (fun z => decide (z ∉ p)), z ∈ p) : l.filter (fun z => decide (z ∉ p)) = [] := by
  rw [List.filter_eq_nil_iff]; intro z hz; simp; exact vn h z hz
theorem Gq {l p : List Int} {n : Nat} (hn : l.Nodup) (h : ∀ z ∈ l.filter (fun z => decide (z ∉ p)), z ∈ p) (h2 : p.length ≤ min n l.length) : p.length = min n l.length := by
  have := Qn hn (vn h); omega
theorem qg {l p : List Int} {k : Int} (hp : p.Nodup) (hk : k ∉ p) : (p ++ [k]).Nodup := Yn hp hk
theorem jh {l p : List Int} {k : Int} (hp : ∀ z ∈ p, z ∈ l) (hk : k ∈ l.filter (fun z => decide (z ∉ p))) : ∀ z ∈ p ++ [k], z ∈ l := fun z hz => by
  rcases List.mem_append.1 hz with h | h
  · exact hp z h
  · rw [List.mem_singleton.1 h]; exact (List.mem_filter.1 hk).1
theorem jS {l p : List Int} {k : Int} (hl : l.Nodup) (hp : p.Nodup) (hs : ∀ z ∈ p, z ∈ l) (hk : k ∈ l.filter (fun z => decide (z ∉ p))) : p.length < l.length := by
  have h1 := Qn (qg (l := l) hp (k := k) (by have := (List.mem_filter.1 hk).2; simpa using this)) (jh hs hk)
  rw [List.length_append, List.length_singleton] at h1; omega
theorem sub_f1 {l c : List Int} {k : Nat} {x : Int} (h : l[k]? = some x) (hx : x ∉ c) : QT l c = false := by
  cases e : QT l c
  · rfl
  · exact absurd (Vu.1 e x (List.mem_of_getElem? h)) hx
theorem vb {l c : List Int} {k : Nat} (h : ∀ z ∈ l.take k, z ∈ c) (hk : l.length ≤ k) : QT l c = true := by
  rw [List.take_of_length_le hk] at h; exact Vu.2 h
theorem any_t1 {l c : List Int} {k : Nat} {x : Int} (h : l[k]? = some x) (hx : x ∈ c) : ZJ l c = true := by
  unfold ZJ; rw [List.any_eq_true]; exact ⟨x, List.mem_of_getElem? h, decide_eq_true hx⟩
theorem yl {l c : List Int} {k : Nat} (h : ∀ z ∈ l.take k, z ∉ c) (hk : l.length ≤ k) : ZJ l c = false := by
  rw [List.take_of_length_le hk] at h; unfold ZJ; rw [List.any_eq_false]; intro x hx; simp; exact h x hx
section
open Go.RwLone Go.Conc.Locks
variable {P : Program} {L : RwLink}
set_option maxRecDepth 100000 in
set_option maxHeartbeats 3200000 in
theorem jE (R : RwWLib P L) {w : World} {p : Nat} {x2 x3 : Value} (c0 : w.cell? ⟨p, 0, none⟩ = some (.int .i32 1)) (c2 : w.cell? ⟨p, 2, none⟩ = some x2) (c3 : w.cell? ⟨p, 3, none⟩ = some x3)
    (hc : w.cell? ⟨p, 4, none⟩ = some (.int .i32 (-1073741824))) (z0 : w.frozen? ⟨p, 0, none⟩ = false) (hz : w.frozen? ⟨p, 4, none⟩ = false) :
    CallsDIn (Fw none) 0 P L.wunlock #[.pointer (some ⟨p, 0, none⟩)] .returning w (fun e u' w' => u' = .returning ∧ (e = .returned (.tuple #[]) ∧ w' = (w.setCell ⟨p, 4, none⟩ (.int .i32 0)).setCell ⟨p, 0, none⟩ (.int .i32 0))) := by
  have C := R.core
  have b1 := disable C; have b2 := enable C; have b3 := raceRead C; have b4 := releaseMerge C; have b5 := release R
  have d1 := C.runUnderlying_tRW; have d2 := C.sizeOf_tRW; have d3 := C.isAgg_tRW; have d4 := C.zeroValue_tRW
  have e1 := C.runUnderlying_tAI32; have e2 := C.sizeOf_tAI32; have e3 := C.isAgg_tAI32; have e4 := C.zeroValue_tAI32
  have f1 := C.runUnderlying_tPRW; have f2 := C.sizeOf_tPRW; have f3 := C.isAgg_tPRW; have f4 := C.zeroValue_tPRW
  have g1 := C.runUnderlying_tPAI32; have g2 := C.sizeOf_tPAI32; have g3 := C.isAgg_tPAI32; have g4 := C.zeroValue_tPAI32
  have i1 := C.runUnderlying_tPU32; have i2 := C.sizeOf_tPU32; have i3 := C.isAgg_tPU32; have i4 := C.zeroValue_tPU32
  have j1 := C.runUnderlying_tANoCopy; have j2 := C.sizeOf_tANoCopy; have j3 := C.isAgg_tANoCopy; have j4 := C.zeroValue_tANoCopy
  have k1 := C.runUnderlying_tU32; have k2 := C.sizeOf_tU32; have k3 := C.isAgg_tU32; have k4 := C.zeroValue_tU32
  have l1 := C.runUnderlying_tMutex; have l2 := C.sizeOf_tMutex; have l3 := C.isAgg_tMutex; have l4 := C.zeroValue_tMutex
  have m1 := C.runUnderlying_tPMutex; have m2 := C.sizeOf_tPMutex; have m3 := C.isAgg_tPMutex; have m4 := C.zeroValue_tPMutex
  have n1 := C.runUnderlying_tPI32; have n2 := C.sizeOf_tPI32; have n3 := C.isAgg_tPI32; have n4 := C.zeroValue_tPI32
  have o1 := C.runUnderlying_tUP; have o2 := C.sizeOf_tUP; have o3 := C.isAgg_tUP; have o4 := C.zeroValue_tUP
  have q1 := C.runUnderlying_t21; have q2 := C.sizeOf_t21; have q3 := C.isAgg_t21; have q4 := C.zeroValue_t21
  have r1 := R.runUnderlying_t3; have r2 := R.sizeOf_t3; have r3 := R.isAgg_t3; have r4 := R.zeroValue_t3; have r5 := R.underlying_t3; have r6 := C.underlying_t21
  have v0 := run_convert_to_unsafe (P := P) (src := L.tPMutex) (dst := L.tUP) C.underlying_tPMutex C.underlying_tUP C.room_tMutex c0
  have v2 := run_convert_to_unsafe (P := P) (src := L.tPU32) (dst := L.tUP) C.underlying_tPU32 C.underlying_tUP C.room_tU32 c2
  have v3 := run_convert_to_unsafe (P := P) (src := L.tPU32) (dst := L.tUP) C.underlying_tPU32 C.underlying_tUP C.room_tU32 c3
  have hin1 := fun args w => Vz (P := P) R.mu.f_unlock (by kernel_rfl) rfl args w
  have hin2 := fun args w => Vz (P := P) C.f_i32add (by kernel_rfl) rfl args w
  refine callsDIn_of_wp R.f_wunlock Y trivial ?_
  show Code.wpIn Fence.wide 0 P _ _ _ _
  rw [wpIn_wide]
  simp only [nt_wunlock L, List.size_toArray, List.length_cons, List.length_nil, Nat.reduceAdd, Nat.reduceSub, Array.replicate_succ,
     Array.replicate_zero, List.push_toArray, List.append_toArray, List.nil_append, List.cons_append]
  simp only [wunlockFn]
  go_wp2
  refine (i32add_any C ⟨p, 4, none⟩ (-1073741824) 1073741824 _ hc hz).mono ?_
  rintro e w' ⟨rfl, rfl⟩
  simp only [up30]
  go_wp2
  refine wp_loop_once ?_
  go_wp2
  refine (Go.MuLone.unlock_held R.mu ⟨p, 0, none⟩ _ ((World.cell?_setCell_other _ ⟨p, 4, none⟩ ⟨p, 0, none⟩ _ (by simp)).trans c0) (by simp [z0])).mono ?_
  rintro e w' ⟨rfl, rfl⟩
  go_wp2
  go_end0
  exact ⟨Y, Y⟩
theorem zc (K : RwWLib P L) {fn : Func} {tmps : Array Value} {R : Ending → World → Prop} {ds : List Deferred} {w : World} {M : Hp} {H : List Qm} {p : Nat} {T : TypeId} {q : Value} (S : St w M (yt p T q :: H))
    (k : ∀ w', St w' M (LK p T 0 q :: H) → LeavesInM (Fw none) 0 P fn tmps R ds .returning w') : LeavesInM (Fw none) 0 P fn tmps R (⟨.fn (.func L.wunlock) #[], #[.pointer (some ⟨p, 0, none⟩)]⟩ :: ds) .returning w := by
  have S1 : St w M (Qh p (.cells (lko 1 (-1073741824) q).toArray T) :: H) := S
  have hc := Vz (P := P) K.f_wunlock (by kernel_rfl) rfl
  refine ⟨by simp, .inr ⟨by simp [Fw, Fence.wide], .func L.wunlock, #[], L.wunlock, #[.pointer (some ⟨p, 0, none⟩)], rfl, by simp [invoke, hc], fun _ _ => trivial, (jE K (cellL S1 rfl) (cellL S1 rfl) (cellL S1 rfl) (cellL S1 rfl) (js S1) (js S1)).mono ?_⟩⟩
  rintro _ _ _ ⟨rfl, rfl, rfl⟩
  refine k _ ?_
  exact St.setF (f := 0) (.int .i32 0) (St.setF (f := 4) (.int .i32 0) S1 (by simp [vk, lko])) (by simp [vk, lko])
end
theorem JT {P : Program} {fv : Value} {M : Hp} {args : List Value} {p : List Qm} {q q' : Value → Hp → List Qm → Prop} (h : Sp P fv M args p q) (hq : ∀ v M2 C, q v M2 C → q' v M2 C) : Sp P fv M args p q' :=
  fun w M1 H hM S => (h w M1 H hM S).mono fun v w' ⟨M2, C, h1, h2, h3⟩ => ⟨M2, C, h1, hq v M2 C h2, h3⟩
theorem QD.of_pu {P : Program} {T : TypeId} {u : Value} {nm : String} {M : Hp} {args : List Value} {q : Value → Hp → Prop} {g : FuncId} (hm : ∀ w, UQ P (.iface T u) nm g u w) (hg : ∀ args w, (callFunc g args).run P w = .ok (.enter g args) w)
    (C : Pu P (.func (.func g) #[] #[]) M (u :: args) q) : QD P (.iface T u) nm M args [] (fun r M2 C => q r M2 ∧ C = []) :=
  fun w M1 H hM S => ⟨g, u, hm w, hg, (C w M1 H hM S).mono fun v w' ⟨M2, h1, h2, h3⟩ => ⟨M2, [], h1, ⟨h2, rfl⟩, h3⟩⟩
section
variable {P : Program} {K : SK} {v : Value} {x y : RG} {M : Hp} {nm : String} {args : List Value} {k : FuncId}
theorem WO {Φ : Value → List Int → List Qm → Prop} (hm : ∀ p w, UQ P (.iface K.tu p) nm k p w) (hk : ∀ args w, (callFunc k args).run P w = .ok (.enter k args) w)
    (C : ∀ b m q, q.Nodup → (∀ z, z ∈ q ↔ z ∈ x.2.2) → Sp P (.func (.func k) #[] #[]) M (.pointer (some ⟨b, 0, none⟩) :: args) [Qh b (.cells #[.map (some m)] K.um), Qv m q]
      (fun r _ C' => ∃ l' D, C' = Qh b (.cells #[.map (some m)] K.um) :: Qv m l' :: D ∧ l'.Nodup ∧ Φ r l' D)) :
    QD P (Zx K false x) nm M args [Zc K false x, VI K x] (fun r _ C' => ∃ l' D, C' = Zc K false x :: VI K (x.w l') :: D ∧ Φ r l' D) := by
  intro w M1 H hM S
  obtain ⟨b, m, q, hu, hn, hq, S1⟩ := openU (show St w M1 (Zc K false x :: qX K.um x.2.1 x.2.2 :: H) from S).drop
  refine ⟨k, x.2.1, hm _ _, hk, ?_⟩
  rw [hu]
  refine (C b m q hn hq w M1 H hM S1).mono fun r w' ⟨M2, C', h1, ⟨l', D, h2, h3, h4⟩, h5⟩ => ⟨M2, _, h1, ⟨l', D, Y, h4⟩, ?_⟩
  subst h2
  have s := qN h3 (fun z => Iff.rfl) (show St w' M2 (Qh b (.cells #[.map (some m)] K.um) :: Qv m l' :: (D ++ H)) from h5)
  rw [← hu] at s
  exact UZ s
theorem qF {Φ : Value → List Int → List Qm → Prop} (hm : ∀ b v w, w.cell? ⟨b, 0, none⟩ = some v → UQ P (.iface K.tu (.pointer (some ⟨b, 0, none⟩))) nm k v w) (hk : ∀ args w, (callFunc k args).run P w = .ok (.enter k args) w)
    (C : ∀ m q, q.Nodup → (∀ z, z ∈ q ↔ z ∈ x.2.2) → Sp P (.func (.func k) #[] #[]) M (.map (some m) :: args) [Qv m q] (fun r _ C' => ∃ l' D, C' = Qv m l' :: D ∧ l'.Nodup ∧ Φ r l' D)) :
    QD P (Zx K false x) nm M args [Zc K false x, VI K x] (fun r _ C' => ∃ l' D, C' = Zc K false x :: VI K (x.w l') :: D ∧ Φ r l' D) := by
  intro w M1 H hM S
  obtain ⟨b, m, q, hu, hn, hq, S1⟩ := openU (show St w M1 (Zc K false x :: qX K.um x.2.1 x.2.2 :: H) from S).drop
  have hc : w.cell? ⟨b, 0, none⟩ = some (.map (some m)) := JV S1.get
  refine ⟨k, .map (some m), ?_, hk, ?_⟩
  · show UQ P (.iface K.tu x.2.1) nm k _ w
    rw [hu]; exact hm b _ w hc
  refine (C m q hn hq w M1 (Qh b (.cells #[.map (some m)] K.um) :: H) hM S1.swap).mono fun r w' ⟨M2, C', h1, ⟨l', D, h2, h3, h4⟩, h5⟩ => ⟨M2, _, h1, ⟨l', D, Y, h4⟩, ?_⟩
  subst h2
  have s0 : St w' M2 (Qh b (.cells #[.map (some m)] K.um) :: Qv m l' :: (D ++ H)) :=
    (show St w' M2 (Qv m l' :: (D ++ Qh b (.cells #[.map (some m)] K.um) :: H)) from h5).perm ((List.perm_middle.cons _).trans (List.Perm.swap ..))
  have s := qN h3 (fun z => Iff.rfl) s0
  rw [← hu] at s
  exact UZ s
theorem yG {Φ : Value → List Int → List Qm → Prop} (hm : ∀ p w, UQ P (.iface K.ts p) nm k p w) (hk : ∀ args w, (callFunc k args).run P w = .ok (.enter k args) w)
    (C : ∀ b m q, q.Nodup → (∀ z, z ∈ q ↔ z ∈ x.2.2) → Sp P (.func (.func k) #[] #[]) M (.pointer (some ⟨x.1, 0, none⟩) :: args) [LK x.1 K.ss 0 (.pointer (some ⟨b, 0, none⟩)), Qh b (.cells #[.map (some m)] K.um), Qv m q]
      (fun r _ C' => ∃ l' D, C' = LK x.1 K.ss 0 (.pointer (some ⟨b, 0, none⟩)) :: Qh b (.cells #[.map (some m)] K.um) :: Qv m l' :: D ∧ l'.Nodup ∧ Φ r l' D)) :
    QD P (Zx K true x) nm M args [Zc K true x, VI K x] (fun r _ C' => ∃ l' D, C' = Zc K true x :: VI K (x.w l') :: D ∧ Φ r l' D) := by
  intro w M1 H hM S
  obtain ⟨b, m, q, hu, hn, hq, S1⟩ := openU (show St w M1 (Zc K true x :: qX K.um x.2.1 x.2.2 :: H) from S).swap
  have S2 : St w M1 (LK x.1 K.ss 0 x.2.1 :: Qh b (.cells #[.map (some m)] K.um) :: Qv m q :: H) := S1.front2
  rw [hu] at S2
  refine ⟨k, .pointer (some ⟨x.1, 0, none⟩), hm _ _, hk, ?_⟩
  refine (C b m q hn hq w M1 H hM S2).mono fun r w' ⟨M2, C', h1, ⟨l', D, h2, h3, h4⟩, h5⟩ => ⟨M2, _, h1, ⟨l', D, Y, h4⟩, ?_⟩
  subst h2
  have s := qN h3 (fun z => Iff.rfl) (show St w' M2 (LK x.1 K.ss 0 (.pointer (some ⟨b, 0, none⟩)) :: Qh b (.cells #[.map (some m)] K.um) :: Qv m l' :: (D ++ H)) from h5).front2.front2
  rw [← hu] at s
  exact s.swap
end
def zo (l : List Int) : List (Int × Bool) := l.foldl (fun m x => Yq m x true) []
theorem mkB_snoc (l : List Int) (x : Int) : zo (l ++ [x]) = Yq (zo l) x true := by simp [zo]
theorem WQ {l : List Int} {k : Nat} {x : Int} (h : l[k]? = some x) : Yq (zo (l.take k)) x true = zo (l.take (k + 1)) := by rw [List.take_add_one, h]; exact (mkB_snoc _ _).symm
theorem mkB_put (m : List (Int × Bool)) (x : Int) : (∀ z, z ∈ (Yq m x true).map Prod.fst ↔ z ∈ m.map Prod.fst ∨ z = x) ∧ (Yq m x true).length ≤ m.length + 1 := by
  have e := Gp m x true
  have e2 := congrArg List.length e
  rw [List.length_map] at e2
  refine ⟨fun z => ?_, ?_⟩
  · rw [e]; split
    · rename_i hx
      constructor
      · exact .inl
      · rintro (h1 | h1)
        · exact h1
        · subst h1; exact hx
    · rw [List.mem_append, List.mem_singleton]
  · rw [e2]; split
    · rw [List.length_map]; omega
    · rw [List.length_append, List.length_map, List.length_singleton]; omega
theorem mkB_go : ∀ (l : List Int) (m : List (Int × Bool)), (∀ z, z ∈ (l.foldl (fun m x => Yq m x true) m).map Prod.fst ↔ z ∈ m.map Prod.fst ∨ z ∈ l) ∧ (l.foldl (fun m x => Yq m x true) m).length ≤ m.length + l.length
  | [], m => ⟨fun z => by simp, by simp⟩
  | x :: l, m => by
    have ih := mkB_go l (Yq m x true)
    have h := mkB_put m x
    refine ⟨fun z => ?_, ?_⟩
    · rw [List.foldl_cons, ih.1, h.1, List.mem_cons, or_assoc]
    · rw [List.foldl_cons, List.length_cons]; omega
theorem WR (l : List Int) : (∀ z, z ∈ (zo l).map Prod.fst ↔ z ∈ l) ∧ (zo l).length ≤ l.length := by
  have h := mkB_go l []
  have h2 := h.2
  rw [List.length_nil, Nat.zero_add] at h2
  exact ⟨fun z => (h.1 z).trans (by simp), h2⟩
theorem qe {P : Program} {fv : Value} {M : Hp} {args : List Value} {p : List Qm} {q q' : Value → Hp → List Qm → Prop} (h : Sp P fv M args p q) (hq : ∀ v M2 C, q v M2 C → ∃ C', q' v M2 C' ∧ ∀ w M H, St w M (C ++ H) → St w M (C' ++ H)) : Sp P fv M args p q' :=
  fun w M1 H hM S => (h w M1 H hM S).mono fun v w' ⟨M2, C, h1, h2, h3⟩ => let ⟨C', h4, h5⟩ := hq v M2 C h2; ⟨M2, C', h1, h4, h5 _ _ _ h3⟩
section
variable {w : World} {M : Hp} {H : List Qm} {K : SK} {b m p : Nat} {l L : List Int}
theorem yH (hn : l.Nodup) (hq : ∀ z, z ∈ l ↔ z ∈ L) (S : St w M (Qh b (.cells #[.map (some m)] K.um) :: Qv m l :: H)) : St w M (YO K false (0, .pointer (some ⟨b, 0, none⟩), L) :: H) :=
  zN (A := [Zc K false (0, .pointer (some ⟨b, 0, none⟩), L), VI K (0, .pointer (some ⟨b, 0, none⟩), L)]) (UZ (qN hn hq S))
theorem jl (hn : l.Nodup) (hq : ∀ z, z ∈ l ↔ z ∈ L) (S : St w M (LK p K.ss 0 (.pointer (some ⟨b, 0, none⟩)) :: Qh b (.cells #[.map (some m)] K.um) :: Qv m l :: H)) : St w M (YO K true (p, .pointer (some ⟨b, 0, none⟩), L) :: H) :=
  zN (A := [Zc K true (p, .pointer (some ⟨b, 0, none⟩), L), VI K (p, .pointer (some ⟨b, 0, none⟩), L)]) ((qN hn hq (S.front2.front2)).swap)
end
theorem ZM {P : Program} {iv : Value} {nm : String} {M : Hp} {args : List Value} {F : List Qm} {q : Value → Hp → List Qm → Prop} {Φ : Value → List Qm → Prop} (h : QD P iv nm M args [] q) (hq : ∀ r M2 C, q r M2 C → Φ r C) : QD P iv nm M args F (fun r _ C' => ∃ D, C' = F ++ D ∧ Φ r D) :=
  QD.frame (h.mono hq)
theorem QD.of_spS {P : Program} {iv rv : Value} {nm : String} {M : Hp} {args : List Value} {p : List Qm} {q : Value → Hp → List Qm → Prop} {g : FuncId} (hm : ∀ w M1 H, Hp.le M M1 → St w M1 H → UQ P iv nm g rv w) (hg : ∀ args w, (callFunc g args).run P w = .ok (.enter g args) w)
    (C : Sp P (.func (.func g) #[] #[]) M (rv :: args) p q) : QD P iv nm M args p q :=
  fun w M1 H hM S => ⟨g, rv, hm w M1 _ hM S, hg, C w M1 H hM S⟩
section
variable {P : Program} {K : SK} {iv : Value} {nm : String} {M : Hp} {args : List Value} {L : List Int} {c1 c2 : Qm}
theorem jk (h : QD P iv nm M args [] (fun r _ C' => ∃ b m l, C' = [Qh b (.cells #[.map (some m)] K.um), Qv m l] ∧ r = .iface K.tu (.pointer (some ⟨b, 0, none⟩)) ∧ l.Nodup ∧ ∀ z, z ∈ l ↔ z ∈ L)) :
    QD P iv nm M args [] (fun r _ C' => ∃ x : RG, r = Zx K false x ∧ x.2.2 = L ∧ C' = [YO K false x]) :=
  h.conv (fun _ _ _ s => s) fun r M2 C ⟨b, m, l, h1, h2, h3, h4⟩ => ⟨_, ⟨(0, .pointer (some ⟨b, 0, none⟩), L), h2, rfl, rfl⟩, fun w M H s => by subst h1; exact yH h3 h4 s⟩
theorem vj (h : QD P iv nm M args [c1, c2] (fun r _ C' => ∃ p b m l, C' = [c1, c2, LK p K.ss 0 (.pointer (some ⟨b, 0, none⟩)), Qh b (.cells #[.map (some m)] K.um), Qv m l] ∧ r = .iface K.ts (.pointer (some ⟨p, 0, none⟩)) ∧ l.Nodup ∧ ∀ z, z ∈ l ↔ z ∈ L)) :
    QD P iv nm M args [c1, c2] (fun r _ C' => ∃ D, C' = c1 :: c2 :: D ∧ ∃ x : RG, r = Zx K true x ∧ x.2.2 = L ∧ D = [YO K true x]) :=
  h.conv (fun _ _ _ s => s) fun r M2 C ⟨p, b, m, l, h1, h2, h3, h4⟩ => ⟨_, ⟨_, rfl, (p, .pointer (some ⟨b, 0, none⟩), L), h2, rfl, rfl⟩, fun w M H s => by
    subst h1
    exact (jl h3 h4 (show St w M (c1 :: c2 :: LK p K.ss 0 (.pointer (some ⟨b, 0, none⟩)) :: Qh b (.cells #[.map (some m)] K.um) :: Qv m l :: H) from s).front4.front4.front4).front2.front2⟩
theorem jZ (h : QD P iv nm M args [c1] (fun r _ C' => ∃ p b m l, C' = [c1, LK p K.ss 0 (.pointer (some ⟨b, 0, none⟩)), Qh b (.cells #[.map (some m)] K.um), Qv m l] ∧ r = .iface K.ts (.pointer (some ⟨p, 0, none⟩)) ∧ l.Nodup ∧ ∀ z, z ∈ l ↔ z ∈ L)) :
    QD P iv nm M args [c1] (fun r _ C' => ∃ D, C' = c1 :: D ∧ ∃ x : RG, r = Zx K true x ∧ x.2.2 = L ∧ D = [YO K true x]) :=
  h.conv (fun _ _ _ s => s) fun r M2 C ⟨p, b, m, l, h1, h2, h3, h4⟩ => ⟨_, ⟨_, rfl, (p, .pointer (some ⟨b, 0, none⟩), L), h2, rfl, rfl⟩, fun w M H s => by
    subst h1
    exact (jl h3 h4 (show St w M (c1 :: LK p K.ss 0 (.pointer (some ⟨b, 0, none⟩)) :: Qh b (.cells #[.map (some m)] K.um) :: Qv m l :: H) from s).front3.front3.front3).front1⟩
end
def Ji (a b : List Int) : List Int := (Qw a).filter (fun z => decide (z ∉ b))
def ZD (a b : List Int) : List Int := Ji a (Ji a b)
def Ur (a b : List Int) : List Int := Qw (Ji a b ++ Ji b a)
theorem Zm {a b : List Int} {z : Int} : z ∈ Ji a b ↔ z ∈ a ∧ z ∉ b := by unfold Ji; rw [List.mem_filter, (Zu a).2.1, decide_eq_true_eq]
theorem UW {a b : List Int} {z : Int} : z ∈ ZD a b ↔ z ∈ a ∧ z ∈ b := by
  unfold ZD; rw [Zm, Zm]
  by_cases h1 : z ∈ a <;> by_cases h2 : z ∈ b <;> simp [h1, h2]
theorem JU {a : List Int} {z : Int} : z ∈ Qw a ↔ z ∈ a := (Zu a).2.1 z
theorem qh {a b : List Int} {z : Int} : z ∈ Ur a b ↔ (z ∈ a ∧ z ∉ b) ∨ (z ∈ b ∧ z ∉ a) := by unfold Ur; rw [JU, List.mem_append, Zm, Zm]
theorem vd {q c : List Int} (hn : q.Nodup) (h : ∀ z, z ∈ q ↔ z ∈ c) : q.length = (Qw c).length :=
  Nat.le_antisymm (Qn hn fun z hz => JU.2 ((h z).1 hz)) (Qn (Zu c).1.nodup fun z hz => (h z).2 (JU.1 hz))
theorem pop_eq {q c : List Int} {k : Int} {b : Bool} (hq : ∀ z, z ∈ q ↔ z ∈ c) (h : if b = true then k ∈ q else (k = 0 ∧ q = [])) : if b = true then k ∈ c else (k = 0 ∧ ∀ z, z ∉ c) := by
  cases b
  · simp at h ⊢
    obtain ⟨h1, h2⟩ := h
    exact ⟨h1, fun z hz => by have := (hq z).2 hz; rw [h2] at this; cases this⟩
  · simp at h ⊢; exact (hq k).1 h
abbrev KS : SK := ⟨116, 114, 145, 144, 55⟩
section
variable {w : World} {M : Hp} {H : List Qm} {K : SK} {safe : Bool} {v : Value} {t : List RG} {k : Nat} {x : RG}
theorem jj (K : SK) (safe : Bool) (x : RG) : (Zx K safe x).oneCell' = true := by unfold Zx; split <;> rfl
theorem ptrR (S : St w M (QK K safe v t :: H)) (hk : k < t.length) : ∃ p, Zj v k 1 p := (qz S).ptrC hk
theorem Gc {p : Addr} (S : St w M (QK K safe v t :: H)) (hp : Zj v k 1 p) (hx : t[k]? = some x) : w.cell? p = some (Zx K safe x) := (qz S).cellC hp (by rw [List.getElem?_map, hx]; rfl)
theorem lenR (S : St w M (QK K safe v t :: H)) : ∃ A c, v = .slice A t.length c ∧ t.length ≤ c := (qz S).lenC
theorem putR {x' : RG} (hk : k < t.length) (S : St w M (Jk K.e 1 v t.length ((t.map (Zx K safe)).set k (Zx K safe x')) :: YH (t.map (Zc K safe)) :: YH (t.map (VI K)) :: YO K safe x' :: H)) : St w M (QK K safe v (t.set k x') :: H) := by
  have hx : t[k]? = some t[k] := List.getElem?_eq_getElem hk
  have s1 := (qi hx S.front1).drop
  have s2 : St w M (Zc K safe x' :: VI K x' :: YH ((t.eraseIdx k).map (Zc K safe)) :: Jk K.e 1 v t.length ((t.map (Zx K safe)).set k (Zx K safe x')) :: YH (t.map (VI K)) :: H) := jG (A := [Zc K safe x', VI K x']) s1.front3
  have s3 : St w M (YH ((x' :: t.eraseIdx k).map (Zc K safe)) :: VI K x' :: Jk K.e 1 v t.length ((t.map (Zx K safe)).set k (Zx K safe x')) :: YH (t.map (VI K)) :: H) := VC (s2.front2.front1)
  have s4 := s3.front3
  rw [Yf ((WN hx).map (VI K))] at s4
  have s5 := (WY s4).drop
  have s6 : St w M (YH ((x' :: t.eraseIdx k).map (VI K)) :: YH ((x' :: t.eraseIdx k).map (Zc K safe)) :: Jk K.e 1 v t.length ((t.map (Zx K safe)).set k (Zx K safe x')) :: H) := VC s5.front2
  have hs := qy (y := x') hk
  refine qO ?_
  rw [Yf (hs.map (Zc K safe)), Yf (hs.map (VI K)), List.map_set, List.length_set]
  exact s6.front1.front2
end
theorem VD {P : Program} {a : Act} {w : World} {n : Nat} {ds : List Deferred} {l : List (Nat × Value)} {ty t0 : TypeId} {pos : String} {af : Array Edge} {gd : Option (Nat × Bool)} {xo yo : Operand} {M : Hp} {H : List Qm} {r : Option Nat} {next : Act → World → Prop} {Q : Exit → Act → World → Prop}
    {K : SK} {safe : Bool} {v : Value} {t : List RG} {k : Nat} {x' : RG} {p : Addr} (E : Env a n ds l) (S : St w M (QK K safe v t :: YO K safe x' :: H)) (hx : Jy l xo = some (.pointer (some p))) (hy : Jy l yo = some (Zx K safe x'))
    (hs : (sizeOf t0).run P w = .ok 1 w) (hp : Zj v k 1 p) (hk : k < t.length)
    (kk : ∀ a w', Env a n ds l → St w' M (QK K safe v (t.set k x') :: H) → next a w') : (⟨none, .store t0 xo yo, ty, pos, af, gd⟩ : Oper).wpIn (Fw r) 0 P a w next Q :=
  Zs E (qz S) hx hy hs (jj K safe x') hp fun a w' E s => kk a w' E (putR hk s)
def Zw (t : List RG) : List (List Int) := t.map (fun x => x.2.2)
theorem JL (t : List RG) (i : Nat) (x : RG) : Zw (t.set i x) = (Zw t).set i x.2.2 := List.map_set ..
theorem Jc {t : List RG} {i : Nat} {x : RG} (h : t[i]? = some x) : (Zw t).getD i [] = x.2.2 := by unfold Zw; rw [List.getD_eq_getElem?_getD, List.getElem?_map, h]; rfl
def Jg (n : Int) : Nat := (n % 8).toNat
def QM (d : Int) (i k : Nat) (x : Int) (l a b : List Int) (ls ls' : List (List Int)) (is : Bool) (n : Int) (al : List Int) : Prop :=
  if d = 0 then ls' = ls.set k (Qw l) ∧ is = false ∧ n = 0 ∧ al = []
  else if d = 1 then ls' = ls.set i (Qw (a ++ [x])) ∧ is = decide (x ∉ a) ∧ n = 0 ∧ al = []
  else if d = 2 then ls' = ls.set i (Qw (a ++ l)) ∧ is = false ∧ n = ((Qw (a ++ l)).length : Nat) - ((Jd a : Nat) : Int) ∧ al = []
  else if d = 3 then ls' = ls.set i (Ji a [x]) ∧ is = false ∧ n = 0 ∧ al = []
  else if d = 4 then ls' = ls.set i (Ji a l) ∧ is = false ∧ n = 0 ∧ al = []
  else if d = 5 then ls' = ls.set i [] ∧ is = false ∧ n = 0 ∧ al = []
  else if d = 6 then ls' = ls.set k (Qw a) ∧ is = false ∧ n = 0 ∧ al = []
  else if d = 7 then ls' = ls.set k (Qw (a ++ b)) ∧ is = false ∧ n = 0 ∧ al = []
  else if d = 8 then ls' = ls.set k (ZD a b) ∧ is = false ∧ n = 0 ∧ al = []
  else if d = 9 then ls' = ls.set k (Ji a b) ∧ is = false ∧ n = 0 ∧ al = []
  else if d = 10 then ls' = ls.set k (Ur a b) ∧ is = false ∧ n = 0 ∧ al = []
  else if d = 11 then ls' = ls ∧ is = (QT a b && QT b a) ∧ n = 0 ∧ al = []
  else if d = 12 then ls' = ls ∧ is = QT a b ∧ n = 0 ∧ al = []
  else if d = 13 then ls' = ls ∧ is = (decide (Jd a < Jd b) && QT a b) ∧ n = 0 ∧ al = []
  else if d = 14 then ls' = ls ∧ is = QT b a ∧ n = 0 ∧ al = []
  else if d = 15 then ls' = ls ∧ is = (decide (Jd b < Jd a) && QT b a) ∧ n = 0 ∧ al = []
  else if d = 16 then ls' = ls ∧ is = ZJ a b ∧ n = 0 ∧ al = []
  else if d = 17 then ls' = ls ∧ is = QT l a ∧ n = 0 ∧ al = []
  else if d = 18 then ls' = ls ∧ is = ZJ l a ∧ n = 0 ∧ al = []
  else if d = 19 then ls' = ls ∧ is = decide (x ∈ a) ∧ n = 0 ∧ al = []
  else if d = 20 then ls' = ls ∧ is = false ∧ n = ((Jd a : Nat) : Int) ∧ al = []
  else if d = 21 then ls' = ls ∧ is = decide (((Jd a : Nat) : Int) = 0) ∧ n = 0 ∧ al = []
  else if d = 22 then ls' = ls ∧ is = false ∧ n = 0 ∧ al = Qw a
  else if d = 23 then ls' = ls ∧ is = false ∧ n = 0 ∧ al = Qw a
  else if d = 24 then ls' = ls.set i (Ji a (if is = true then [n] else [])) ∧ (if is = true then n ∈ a else (n = 0 ∧ ∀ z, z ∉ a)) ∧ al = []
  else if d = 25 then ls' = ls.set i (Ji a al) ∧ is = false ∧ n = ((al.length : Nat) : Int) ∧ al.length = min x.toNat (Jd a) ∧ Qw al = al ∧ ∀ z ∈ al, z ∈ a
  else if d = 26 then ls' = ls.set k (Qw l) ∧ is = false ∧ n = 0 ∧ al = []
  else ls' = ls ∧ is = false ∧ n = 0 ∧ al = []
def JA (b : Nat) (tA e : TypeId) (p : List Int) : Qm := fun h => ∃ v : Value, YH [Qh b (.cells #[.bool false, .int .i64 0, v] tA), Zi e v p] h
theorem mkJA {w : World} {M : Hp} {H : List Qm} {b : Nat} {tA e : TypeId} {v : Value} {p : List Int} (S : St w M (Qh b (.cells #[.bool false, .int .i64 0, v] tA) :: Zi e v p :: H)) : St w M (JA b tA e p :: H) :=
  (zN (A := [_, _]) S).imp fun _ h => ⟨v, h⟩
theorem openJA {w : World} {M : Hp} {H : List Qm} {b : Nat} {tA e : TypeId} {p : List Int} (S : St w M (JA b tA e p :: H)) : ∃ v, St w M (Qh b (.cells #[.bool false, .int .i64 0, v] tA) :: Zi e v p :: H) := by
  obtain ⟨v, S⟩ := S.ex
  exact ⟨v, jG S⟩
theorem JB {P : Program} {a : Act} {w : World} {n : Nat} {ds : List Deferred} {l : List (Nat × Value)} {d : Nat} {ty t : TypeId} {pos : String} {af : Array Edge} {gd : Option (Nat × Bool)} {x : Operand} {b : Nat} {e : TypeId} {fr : Nat × Nat} {cs : List Value} (E : Env a n ds l) (hx : Jy l x = some (.pointer (some ⟨b, 0, none⟩))) (hg : (isAgg t).run P w = .ok true w) (hs : (sizeOf t).run P w = .ok cs.length w)
    (hc : w.heap[b]? = some (.cells cs.toArray e fr)) : (execOp a.eval ⟨some d, .load t x, ty, pos, af, gd⟩).run P w = .ok (.value (.agg cs.toArray)) w :=
  jw E hx hg hs fun j u hj => by
    have : (Addr.add ⟨b, 0, none⟩ j) = ⟨b, j, none⟩ := by simp [Addr.add]; exact fun h => h.symm
    rw [this]; simp [World.cell?, hc, hj]
theorem jJ {a p q : List Int} (h : ∀ z, z ∈ p ↔ z ∈ q) : Ji a p = Ji a q := by
  unfold Ji
  refine congrArg (fun f => (Qw a).filter f) (funext fun z => ?_)
  by_cases hz : z ∈ p
  · simp [hz, (h z).1 hz]
  · have h2 : z ∉ q := fun h2 => hz ((h z).2 h2)
    simp [hz, h2]
theorem jI {p : List Int} (z : Int) : z ∈ Vm p ↔ z ∈ p := (zJ p).mem_iff
theorem setI_srt {p : List Int} (hn : p.Nodup) : Qw (Vm p) = Vm p := by
  rw [WI hn fun z => Iff.rfl]
  exact ve fun z => JU
theorem Zf {d : Int} {i k : Nat} {x : Int} {l a b p : List Int} {ls : List (List Int)} (hd : d = 25) (hn : p.Nodup) (hs : ∀ z ∈ p, z ∈ a) (hl : p.length = min x.toNat (Jd a)) :
    QM d i k x l a b ls (ls.set i (Ji a p)) false ((p.length : Nat) : Int) (Vm p) := by
  subst hd
  simp only [QM, Int.reduceEq, ↓reduceIte]
  refine ⟨by rw [jJ (p := Vm p) (q := p) jI], trivial, by rw [Ye], by rw [Ye]; exact hl, setI_srt hn, fun z hz => hs z ((jI z).1 hz)⟩
theorem Zg {d : Int} {i k : Nat} {x : Int} {l a b p : List Int} {ls : List (List Int)} (hd : d = 23) (hn : p.Nodup) (hm : ∀ z, z ∈ p ↔ z ∈ a) : QM d i k x l a b ls ls false 0 (Vm p) := by
  subst hd
  simp only [QM, Int.reduceEq, ↓reduceIte]
  exact ⟨trivial, trivial, trivial, WI hn hm⟩
abbrev UK := Int × Int × Int × Int × Int × List Int
abbrev Gk := Bool × Int × List Int
def yq : Hp → List Value → UK → Prop := fun M cs x => ∃ v, cs = [.int .i64 x.1, .int .i64 x.2.1, .int .i64 x.2.2.1, .int .i64 x.2.2.2.1, .int .i64 x.2.2.2.2.1, v] ∧ Zh M v x.2.2.2.2.2
def yX : Hp → List Value → Gk → Prop := fun M cs x => ∃ v, cs = [.bool x.1, .int .i64 x.2.1, v] ∧ Zh M v x.2.2
theorem JF : UM yq := fun _ _ _ _ hM ⟨v, e, h⟩ => ⟨v, e, h.le hM⟩
theorem Js : UM yX := fun _ _ _ _ hM ⟨v, e, h⟩ => ⟨v, e, h.le hM⟩
theorem one_RSS : ROne yq := by
  rintro M cs x ⟨v, rfl, h⟩ u hu
  simp only [List.mem_cons, List.not_mem_nil, or_false] at hu
  rcases hu with rfl | rfl | rfl | rfl | rfl | rfl
  all_goals first | rfl | exact Zh.one h
theorem vh : ROne yX := by
  rintro M cs x ⟨v, rfl, h⟩ u hu
  simp only [List.mem_cons, List.not_mem_nil, or_false] at hu
  rcases hu with rfl | rfl | rfl
  all_goals first | rfl | exact Zh.one h
theorem RdSS.at {M : Hp} {v : Value} {l : List UK} {k : Nat} {e : UK} (h : JN 6 yq M v l) (he : l[k]? = some e) : ∃ p u, Zj v k 6 p ∧ VP M p [.int .i64 e.1, .int .i64 e.2.1, .int .i64 e.2.2.1, .int .i64 e.2.2.2.1, .int .i64 e.2.2.2.2.1, u] ∧ Zh M u e.2.2.2.2.2 := by
  obtain ⟨p, cs, h1, h2, ⟨u, h3, h5⟩, h4⟩ := JN.at h he
  subst h3; exact ⟨p, u, h1, h4, h5⟩
theorem RdAN.at {M : Hp} {v : Value} {l : List Gk} {k : Nat} {e : Gk} (h : JN 3 yX M v l) (he : l[k]? = some e) : ∃ p u, Zj v k 3 p ∧ VP M p [.bool e.1, .int .i64 e.2.1, u] ∧ Zh M u e.2.2 := by
  obtain ⟨p, cs, h1, h2, ⟨u, h3, h5⟩, h4⟩ := JN.at h he
  subst h3; exact ⟨p, u, h1, h4, h5⟩
section
variable {w : World} {M : Hp} {H : List Qm} {K : SK} {safe : Bool} {v : Value} {t : List RG} {x' : RG}
theorem nilRegs (K : SK) (safe : Bool) (S : St w M H) : St w M (QK K safe (.slice none 0 0) [] :: H) := by
  have s := (S.ownNil (e := K.e) (sz := 1))
  exact qO (t := []) ((UZ (UZ s)).front2)
theorem snocR {v' : Value} (S : St w M (Jk K.e 1 v' (t.length + 1) (t.map (Zx K safe) ++ [Zx K safe x']) :: YH (t.map (Zc K safe)) :: YH (t.map (VI K)) :: YO K safe x' :: H)) : St w M (QK K safe v' (t ++ [x']) :: H) := by
  have s1 : St w M (Zc K safe x' :: VI K x' :: Jk K.e 1 v' (t.length + 1) (t.map (Zx K safe) ++ [Zx K safe x']) :: YH (t.map (Zc K safe)) :: YH (t.map (VI K)) :: H) := jG (A := [Zc K safe x', VI K x']) S.front3
  have hp := (List.perm_append_singleton x' t)
  refine qO ?_
  rw [Yf (hp.map (Zc K safe)), Yf (hp.map (VI K)), List.map_append, List.length_append]
  have s2 : St w M (YH ((x' :: t).map (VI K)) :: Zc K safe x' :: Jk K.e 1 v' (t.length + 1) (t.map (Zx K safe) ++ [Zx K safe x']) :: YH (t.map (Zc K safe)) :: H) := VC (s1.front4.front2)
  have s3 : St w M (YH ((x' :: t).map (Zc K safe)) :: YH ((x' :: t).map (VI K)) :: Jk K.e 1 v' (t.length + 1) (t.map (Zx K safe) ++ [Zx K safe x']) :: H) := VC (s2.front3.front2)
  exact s3.front2
end
theorem yQ {P : Program} {a : Act} {w : World} {n : Nat} {ds : List Deferred} {l : List (Nat × Value)} {d : Nat} {ty t0 : TypeId} {pos : String} {af : Array Edge} {gd : Option (Nat × Bool)} {x y : Operand} {M : Hp} {H : List Qm} {r : Option Nat} {next : Act → World → Prop} {Q : Exit → Act → World → Prop}
    {K : SK} {safe : Bool} {v sv zv : Value} {t : List RG} {x' : RG} {e' : TypeId} {by_ : Nat} (E : Env a n ds l) (S : St w M (Jk e' 1 sv 1 [Zx K safe x'] :: YO K safe x' :: QK K safe v t :: H)) (hd : Nat.blt d n = true) (hx : Jy l x = some v) (hy : Jy l y = some sv) (T : Gj P t0 K.e 1 by_ zv)
    (hb : (t.length + 1) * by_ ≤ 140737488355328) (h63 : t.length + 1 ≤ 2 ^ 44)
    (kk : ∀ a w' v', Env a n ds ((d, v') :: l) → St w' M (QK K safe v' (t ++ [x']) :: H) → next a w') : (⟨some d, .call ⟨.builtin .append, #[x, y], #[t0, t0]⟩, ty, pos, af, gd⟩ : Oper).wpIn (Fw r) 0 P a w next Q := by
  have s1 := (qz S.front2).front3.drop
  refine Gf E s1 hd hx hy T (Src.own S) (by simp) (by intro u hu; simp at hu; rw [hu]; exact jj _ _ _) hb h63 fun a w' v' E s => kk a w' v' E (snocR s)
inductive VG : List UK → List Gk → List (List Int) → Prop
  | nil : VG [] [] (List.replicate 8 [])
  | snoc {l : List UK} {an : List Gk} {ls ls' : List (List Int)} {s : UK} {a : Gk} : VG l an ls → QM s.1 (Jg s.2.1) (Jg s.2.2.2.1) s.2.2.2.2.1 s.2.2.2.2.2 (ls.getD (Jg s.2.1) []) (ls.getD (Jg s.2.2.1) []) ls ls' a.1 a.2.1 a.2.2 → VG (l ++ [s]) (an ++ [a]) ls'
def Wk (l : List UK) : List Int := (l.map fun s => s.2.2.2.2.1 :: s.2.2.2.2.2).flatten
theorem Gl (l : List UK) (s : UK) : Wk (l ++ [s]) = Wk l ++ (s.2.2.2.2.1 :: s.2.2.2.2.2) := by simp [Wk]
def Canon (U : List Int) (ls : List (List Int)) : Prop := ∀ c ∈ ls, Qw c = c ∧ ∀ z ∈ c, z ∈ U
theorem vz (c : List Int) : Qw (Qw c) = Qw c := ve fun _ => JU
theorem setI_dif (a b : List Int) : Qw (Ji a b) = Ji a b := by
  have hs := Zu (Ji a b)
  have ha : YL (Ji a b) := List.Pairwise.sublist List.filter_sublist (Zu a).1
  exact UV hs.1.le ha.le ((List.perm_ext_iff_of_nodup hs.1.nodup ha.nodup).2 fun z => hs.2.1 z)
theorem GC {U : List Int} {ls : List (List Int)} {i : Nat} {c : List Int} (h : Canon U ls) (h1 : Qw c = c) (h2 : ∀ z ∈ c, z ∈ U) : Canon U (ls.set i c) := fun d hd => by
  rcases List.mem_or_eq_of_mem_set hd with h3 | h3
  · exact h d h3
  · rw [h3]; exact ⟨h1, h2⟩
theorem Wc {U : List Int} {ls : List (List Int)} (h : Canon U ls) (i : Nat) : Qw (ls.getD i []) = ls.getD i [] ∧ ∀ z ∈ ls.getD i [], z ∈ U := by
  rw [List.getD_eq_getElem?_getD]
  cases e : ls[i]? with
  | none => exact ⟨rfl, fun z hz => by cases hz⟩
  | some c => exact h c (List.mem_of_getElem? e)
theorem yN {U U' : List Int} {ls : List (List Int)} (h : Canon U ls) (hU : ∀ z ∈ U, z ∈ U') : Canon U' ls := fun c hc => ⟨(h c hc).1, fun z hz => hU z ((h c hc).2 z hz)⟩
set_option maxRecDepth 10000 in
theorem zI {d : Int} {i k : Nat} {x : Int} {l a b : List Int} {ls ls' : List (List Int)} {is : Bool} {n : Int} {al : List Int} {C : Prop} (h : QM d i k x l a b ls ls' is n al)
    (c0 : ls' = ls.set k (Qw l) ∧ is = false ∧ n = 0 ∧ al = [] → C) (c1 : ls' = ls.set i (Qw (a ++ [x])) ∧ is = decide (x ∉ a) ∧ n = 0 ∧ al = [] → C) (c2 : ls' = ls.set i (Qw (a ++ l)) ∧ is = false ∧ n = ((Qw (a ++ l)).length : Nat) - ((Jd a : Nat) : Int) ∧ al = [] → C) (c3 : ls' = ls.set i (Ji a [x]) ∧ is = false ∧ n = 0 ∧ al = [] → C) (c4 : ls' = ls.set i (Ji a l) ∧ is = false ∧ n = 0 ∧ al = [] → C) (c5 : ls' = ls.set i [] ∧ is = false ∧ n = 0 ∧ al = [] → C) (c6 : ls' = ls.set k (Qw a) ∧ is = false ∧ n = 0 ∧ al = [] → C) (c7 : ls' = ls.set k (Qw (a ++ b)) ∧ is = false ∧ n = 0 ∧ al = [] → C) (c8 : ls' = ls.set k (ZD a b) ∧ is = false ∧ n = 0 ∧ al = [] → C) (c9 : ls' = ls.set k (Ji a b) ∧ is = false ∧ n = 0 ∧ al = [] → C) (c10 : ls' = ls.set k (Ur a b) ∧ is = false ∧ n = 0 ∧ al = [] → C) (c11 : ls' = ls ∧ is = (QT a b && QT b a) ∧ n = 0 ∧ al = [] → C) (c12 : ls' = ls ∧ is = QT a b ∧ n = 0 ∧ al = [] → C) (c13 : ls' = ls ∧ is = (decide (Jd a < Jd b) && QT a b) ∧ n = 0 ∧ al = [] → C) (c14 : ls' = ls ∧ is = QT b a ∧ n = 0 ∧ al = [] → C) (c15 : ls' = ls ∧ is = (decide (Jd b < Jd a) && QT b a) ∧ n = 0 ∧ al = [] → C) (c16 : ls' = ls ∧ is = ZJ a b ∧ n = 0 ∧ al = [] → C) (c17 : ls' = ls ∧ is = QT l a ∧ n = 0 ∧ al = [] → C) (c18 : ls' = ls ∧ is = ZJ l a ∧ n = 0 ∧ al = [] → C) (c19 : ls' = ls ∧ is = decide (x ∈ a) ∧ n = 0 ∧ al = [] → C) (c20 : ls' = ls ∧ is = false ∧ n = ((Jd a : Nat) : Int) ∧ al = [] → C) (c21 : ls' = ls ∧ is = decide (((Jd a : Nat) : Int) = 0) ∧ n = 0 ∧ al = [] → C) (c22 : ls' = ls ∧ is = false ∧ n = 0 ∧ al = Qw a → C) (c23 : ls' = ls ∧ is = false ∧ n = 0 ∧ al = Qw a → C) (c24 : ls' = ls.set i (Ji a (if is = true then [n] else [])) ∧ (if is = true then n ∈ a else (n = 0 ∧ ∀ z, z ∉ a)) ∧ al = [] → C) (c25 : (ls' = ls.set i (Ji a al) ∧ is = false ∧ n = ((al.length : Nat) : Int) ∧ al.length = min x.toNat (Jd a) ∧ Qw al = al ∧ ∀ z ∈ al, z ∈ a) → C) (c26 : ls' = ls.set k (Qw l) ∧ is = false ∧ n = 0 ∧ al = [] → C) (c : ls' = ls ∧ is = false ∧ n = 0 ∧ al = [] → C) : C := by
  unfold QM at h
  by_cases e0 : d = 0
  · rw [if_pos e0] at h; exact c0 h
  rw [if_neg e0] at h
  by_cases e1 : d = 1
  · rw [if_pos e1] at h; exact c1 h
  rw [if_neg e1] at h
  by_cases e2 : d = 2
  · rw [if_pos e2] at h; exact c2 h
  rw [if_neg e2] at h
  by_cases e3 : d = 3
  · rw [if_pos e3] at h; exact c3 h
  rw [if_neg e3] at h
  by_cases e4 : d = 4
  · rw [if_pos e4] at h; exact c4 h
  rw [if_neg e4] at h
  by_cases e5 : d = 5
  · rw [if_pos e5] at h; exact c5 h
  rw [if_neg e5] at h
  by_cases e6 : d = 6
  · rw [if_pos e6] at h; exact c6 h
  rw [if_neg e6] at h
  by_cases e7 : d = 7
  · rw [if_pos e7] at h; exact c7 h
  rw [if_neg e7] at h
  by_cases e8 : d = 8
  · rw [if_pos e8] at h; exact c8 h
  rw [if_neg e8] at h
  by_cases e9 : d = 9
  · rw [if_pos e9] at h; exact c9 h
  rw [if_neg e9] at h
  by_cases e10 : d = 10
  · rw [if_pos e10] at h; exact c10 h
  rw [if_neg e10] at h
  by_cases e11 : d = 11
  · rw [if_pos e11] at h; exact c11 h
  rw [if_neg e11] at h
  by_cases e12 : d = 12
  · rw [if_pos e12] at h; exact c12 h
  rw [if_neg e12] at h
  by_cases e13 : d = 13
  · rw [if_pos e13] at h; exact c13 h
  rw [if_neg e13] at h
  by_cases e14 : d = 14
  · rw [if_pos e14] at h; exact c14 h
  rw [if_neg e14] at h
  by_cases e15 : d = 15
  · rw [if_pos e15] at h; exact c15 h
  rw [if_neg e15] at h
  by_cases e16 : d = 16
  · rw [if_pos e16] at h; exact c16 h
  rw [if_neg e16] at h
  by_cases e17 : d = 17
  · rw [if_pos e17] at h; exact c17 h
  rw [if_neg e17] at h
  by_cases e18 : d = 18
  · rw [if_pos e18] at h; exact c18 h
  rw [if_neg e18] at h
  by_cases e19 : d = 19
  · rw [if_pos e19] at h; exact c19 h
  rw [if_neg e19] at h
  by_cases e20 : d = 20
  · rw [if_pos e20] at h; exact c20 h
  rw [if_neg e20] at h
  by_cases e21 : d = 21
  · rw [if_pos e21] at h; exact c21 h
  rw [if_neg e21] at h
  by_cases e22 : d = 22
  · rw [if_pos e22] at h; exact c22 h
  rw [if_neg e22] at h
  by_cases e23 : d = 23
  · rw [if_pos e23] at h; exact c23 h
  rw [if_neg e23] at h
  by_cases e24 : d = 24
  · rw [if_pos e24] at h; exact c24 h
  rw [if_neg e24] at h
  by_cases e25 : d = 25
  · rw [if_pos e25] at h; exact c25 h
  rw [if_neg e25] at h
  by_cases e26 : d = 26
  · rw [if_pos e26] at h; exact c26 h
  rw [if_neg e26] at h
  exact c h
theorem qs {d : Int} {i k : Nat} {x : Int} {l a b U : List Int} {ls ls' : List (List Int)} {is : Bool} {n : Int} {al : List Int} (h : QM d i k x l a b ls ls' is n al) (hc : Canon U ls) (ha : ∀ z ∈ a, z ∈ U) (hb : ∀ z ∈ b, z ∈ U) (hx : x ∈ U) (hl : ∀ z ∈ l, z ∈ U) : Canon U ls' := by
  have S1 : ∀ {i : Nat} {c : List Int}, (∀ z ∈ c, z ∈ U) → Canon U (ls.set i (Qw c)) := fun h2 => GC hc (vz _) fun z hz => h2 z (JU.1 hz)
  have S2 : ∀ {i : Nat} {c d : List Int}, (∀ z ∈ c, z ∈ U) → Canon U (ls.set i (Ji c d)) := fun h2 => GC hc (setI_dif _ _) fun z hz => h2 z (Zm.1 hz).1
  refine zI h ?_ ?_ ?_ ?_ ?_ ?_ ?_ ?_ ?_ ?_ ?_ ?_ ?_ ?_ ?_ ?_ ?_ ?_ ?_ ?_ ?_ ?_ ?_ ?_ ?_ ?_ ?_ ?_
  · rintro ⟨rfl, _⟩; exact S1 hl
  · rintro ⟨rfl, _⟩; exact S1 (fun z hz => by rcases List.mem_append.1 hz with h | h; exact ha z h; rw [List.mem_singleton.1 h]; exact hx)
  · rintro ⟨rfl, _⟩; exact S1 (fun z hz => by rcases List.mem_append.1 hz with h | h; exact ha z h; exact hl z h)
  · rintro ⟨rfl, _⟩; exact S2 ha
  · rintro ⟨rfl, _⟩; exact S2 ha
  · rintro ⟨rfl, _⟩; exact GC hc rfl fun z hz => by cases hz
  · rintro ⟨rfl, _⟩; exact S1 ha
  · rintro ⟨rfl, _⟩; exact S1 (fun z hz => by rcases List.mem_append.1 hz with h | h; exact ha z h; exact hb z h)
  · rintro ⟨rfl, _⟩; exact S2 ha
  · rintro ⟨rfl, _⟩; exact S2 ha
  · rintro ⟨rfl, _⟩; exact S1 (fun z hz => by rcases List.mem_append.1 hz with h | h; exact ha z (Zm.1 h).1; exact hb z (Zm.1 h).1)
  · rintro ⟨rfl, _⟩; exact hc
  · rintro ⟨rfl, _⟩; exact hc
  · rintro ⟨rfl, _⟩; exact hc
  · rintro ⟨rfl, _⟩; exact hc
  · rintro ⟨rfl, _⟩; exact hc
  · rintro ⟨rfl, _⟩; exact hc
  · rintro ⟨rfl, _⟩; exact hc
  · rintro ⟨rfl, _⟩; exact hc
  · rintro ⟨rfl, _⟩; exact hc
  · rintro ⟨rfl, _⟩; exact hc
  · rintro ⟨rfl, _⟩; exact hc
  · rintro ⟨rfl, _⟩; exact hc
  · rintro ⟨rfl, _⟩; exact hc
  · rintro ⟨rfl, _⟩; exact S2 ha
  · rintro ⟨rfl, _⟩; exact S2 ha
  · rintro ⟨rfl, _⟩; exact S1 hl
  · rintro ⟨rfl, _⟩; exact hc
theorem ZE {d : Int} {i k : Nat} {x : Int} {l a b : List Int} {ls ls' : List (List Int)} {is : Bool} {n : Int} {al : List Int} (h : QM d i k x l a b ls ls' is n al) : ls'.length = ls.length := by
  refine zI h ?_ ?_ ?_ ?_ ?_ ?_ ?_ ?_ ?_ ?_ ?_ ?_ ?_ ?_ ?_ ?_ ?_ ?_ ?_ ?_ ?_ ?_ ?_ ?_ ?_ ?_ ?_ ?_
  all_goals (rintro ⟨rfl, _⟩; simp)
theorem Yv {l : List UK} {an : List Gk} {ls : List (List Int)} (h : VG l an ls) : Canon (Wk l) ls ∧ ls.length = 8 ∧ an.length = l.length := by
  induction h with
  | nil => exact ⟨fun c hc => by rw [List.eq_of_mem_replicate hc]; exact ⟨rfl, fun z hz => by cases hz⟩, by simp, rfl⟩
  | @snoc l an ls ls' s a h hs ih =>
    obtain ⟨h1, h2, h3⟩ := ih
    have hU : ∀ z ∈ Wk l, z ∈ Wk (l ++ [s]) := fun z hz => by rw [Gl]; exact List.mem_append_left _ hz
    have hc := yN h1 hU
    refine ⟨qs hs hc (Wc hc _).2 (Wc hc _).2 ?_ ?_, by rw [ZE hs, h2], by simp [h3]⟩
    · rw [Gl]; simp
    · intro z hz; rw [Gl]; simp [hz]
theorem zX {U : List Int} {ls : List (List Int)} (h : Canon U ls) {c : List Int} (hc : c ∈ ls) : c.length ≤ U.length := by
  have := (h c hc).1
  refine Qn ?_ (h c hc).2
  rw [← this]; exact (Zu c).1.nodup
theorem jF {l : List UK} {B : Nat} (h : ∀ s ∈ l, s.2.2.2.2.2.length ≤ B) : (Wk l).length ≤ l.length * (B + 1) := by
  induction l with
  | nil => simp [Wk]
  | cons s l ih =>
    have h1 := ih fun s hs => h s (List.mem_cons_of_mem _ hs)
    have h2 := h s (List.mem_cons_self ..)
    have e : Wk (s :: l) = (s.2.2.2.2.1 :: s.2.2.2.2.2) ++ Wk l := by simp [Wk]
    rw [e, List.length_append, List.length_cons, List.length_cons, Nat.add_mul]; omega
theorem lsT_mem {t : List RG} {i : Nat} {y : RG} (h : t[i]? = some y) : y.2.2 ∈ Zw t := by
  unfold Zw; exact List.mem_map_of_mem (f := fun x : RG => x.2.2) (List.mem_of_getElem? h)
theorem jV {l : List UK} {k : Nat} {an : List Gk} {t : List RG} (h : VG (l.take k) an (Zw t)) (h1 : l.length ≤ 1000) (h2 : ∀ s ∈ l, s.2.2.2.2.2.length ≤ 1000) (i : Nat) (y : RG) (hy : t[i]? = some y) : y.2.2.length ≤ 1000000000 := by
  have h3 := zX (Yv h).1 (lsT_mem hy)
  have h4 := jF (l := l.take k) (B := 1000) fun s hs => h2 s (List.mem_of_mem_take hs)
  rw [List.length_take] at h4
  have h5 : min k l.length * (1000 + 1) ≤ 1000 * 1001 := Nat.mul_le_mul (by omega) (Nat.le_refl _)
  omega
theorem lsT_new {t : List RG} (h1 : t.length = 8) (h2 : ∀ y ∈ t, y.2.2 = []) : Zw t = List.replicate 8 [] := by
  unfold Zw; rw [← h1]
  exact List.eq_replicate_iff.2 ⟨by simp, fun c hc => by obtain ⟨y, hy, rfl⟩ := List.mem_map.1 hc; exact h2 y hy⟩
theorem vH {l : List UK} {k : Nat} {s : UK} {an : List Gk} {t t' : List RG} {is : Bool} {n : Int} {al : List Int} (h : l[k]? = some s) (hp : VG (l.take k) an (Zw t))
    (hs : QM s.1 (Jg s.2.1) (Jg s.2.2.2.1) s.2.2.2.2.1 s.2.2.2.2.2 ((Zw t).getD (Jg s.2.1) []) ((Zw t).getD (Jg s.2.2.1) []) (Zw t) (Zw t') is n al) : VG (l.take (k + 1)) (an ++ [(is, n, al)]) (Zw t') := by
  rw [List.take_add_one, h]; exact VG.snoc hp hs
theorem zU {U : List Int} {t : List RG} {m : Nat} {x : RG} (hc : Canon U (Zw t)) (hx : t[m]? = some x) : (Zw t).take m ++ [Qw x.2.2] = (Zw t).take (m + 1) := by
  have h1 : (Zw t)[m]? = some x.2.2 := by unfold Zw; rw [List.getElem?_map, hx]; rfl
  rw [List.take_add_one, h1, (hc _ (List.mem_of_getElem? h1)).1]; rfl
def zj : List UK → List (List Int) → List Gk → List (List Int) → Prop
  | [], ls, an, ls' => an = [] ∧ ls' = ls
  | s :: l, ls, an, ls' => ∃ a ls1 an', an = a :: an' ∧ QM s.1 (Jg s.2.1) (Jg s.2.2.2.1) s.2.2.2.2.1 s.2.2.2.2.2 (ls.getD (Jg s.2.1) []) (ls.getD (Jg s.2.2.1) []) ls ls1 a.1 a.2.1 a.2.2 ∧ zj l ls1 an' ls'
theorem zL : ∀ {l : List UK} {ls ls1 ls2 : List (List Int)} {an : List Gk} {s : UK} {a : Gk}, zj l ls an ls1 → QM s.1 (Jg s.2.1) (Jg s.2.2.2.1) s.2.2.2.2.1 s.2.2.2.2.2 (ls1.getD (Jg s.2.1) []) (ls1.getD (Jg s.2.2.1) []) ls1 ls2 a.1 a.2.1 a.2.2 → zj (l ++ [s]) ls (an ++ [a]) ls2
  | [], ls, ls1, ls2, an, s, a, h, hs => by obtain ⟨rfl, rfl⟩ := h; exact ⟨a, ls2, [], rfl, hs, rfl, rfl⟩
  | s0 :: l, ls, ls1, ls2, an, s, a, h, hs => by
    obtain ⟨a0, l1, an', rfl, h1, h2⟩ := h
    exact ⟨a0, l1, an' ++ [a], Y, h1, zL h2 hs⟩
theorem jT {l : List UK} {an : List Gk} {ls : List (List Int)} (h : VG l an ls) : zj l (List.replicate 8 []) an ls := by
  induction h with
  | nil => exact ⟨rfl, rfl⟩
  | snoc h hs ih => exact zL ih hs
theorem jU {an : List Gk} {ls : List (List Int)} (h : VG [(1, 0, 0, 0, 5, [])] an ls) : an = [(true, 0, [])] ∧ ls = [[5], [], [], [], [], [], [], []] := by
  obtain ⟨a, l1, an', rfl, h1, rfl, rfl⟩ := jT h
  simp only [QM, Int.reduceEq, ↓reduceIte] at h1
  obtain ⟨rfl, e1, e2, e3⟩ := h1
  refine ⟨?_, by decide⟩
  obtain ⟨a1, a2, a3⟩ := a
  simp only at e1 e2 e3
  subst e1; subst e2; subst e3
  decide
theorem tkA {α : Type} {Q : α → Prop} {l : List α} {k : Nat} {x : α} (h : l[k]? = some x) (hp : ∀ s ∈ l.take k, Q s) (hx : Q x) : ∀ s ∈ l.take (k + 1), Q s := fun s hs => by
  rw [List.take_add_one, h] at hs
  rcases List.mem_append.1 hs with h1 | h1
  · exact hp s h1
  · simp at h1; rw [h1]; exact hx
theorem tkE {α : Type} {Q : α → Prop} {l : List α} {k : Nat} (hp : ∀ s ∈ l.take k, Q s) (hk : l.length ≤ k) : ∀ s ∈ l, Q s := by rwa [List.take_of_length_le hk] at hp
theorem nd {p : Prop} [Decidable p] (h : (!decide p) = false) : p := by simpa using h
theorem ji {an : List Gk} {x : Gk} (h : an = [(true, 0, [])]) (hx : an[0]? = some x) : (!x.1) = false := by
  subst h; cases hx; rfl
section
variable {H : Type} {enc : TypeId × Value → H} {P : Program} {W : World} {α β γ δ ε ζ : Type}
theorem zn {t t0 t1 t2 t3 t4 t5 : TypeId} {o0 o1 o2 o3 o4 o5 n0 n1 n2 n3 n4 n5 N : Nat} {fs : Array Field} {R0 : Hp → List Value → α → Prop} {R1 : Hp → List Value → β → Prop} {R2 : Hp → List Value → γ → Prop} {R3 : Hp → List Value → δ → Prop} {R4 : Hp → List Value → ε → Prop} {R5 : Hp → List Value → ζ → Prop}
    (ht : P.underlying t = some (.struct fs)) (hfs : fs.toList.map (fun f => (f.type, f.offset)) = [(t0, o0), (t1, o1), (t2, o2), (t3, o3), (t4, o4), (t5, o5)])
    (h0 : P.cellsOf t0 = n0) (h1 : P.cellsOf t1 = n1) (h2 : P.cellsOf t2 = n2) (h3 : P.cellsOf t3 = n3) (h4 : P.cellsOf t4 = n4) (h5 : P.cellsOf t5 = n5) (hc : P.cellsOf t = N)
    (O0 : YA enc P W t0 R0) (O1 : YA enc P W t1 R1) (O2 : YA enc P W t2 R2) (O3 : YA enc P W t3 R3) (O4 : YA enc P W t4 R4) (O5 : YA enc P W t5 R5) :
    YA enc P W t (fun M cs (x : α × β × γ × δ × ε × ζ) => cs.length = N ∧ R0 M ((cs.drop o0).take n0) x.1 ∧ R1 M ((cs.drop o1).take n1) x.2.1 ∧ R2 M ((cs.drop o2).take n2) x.2.2.1 ∧ R3 M ((cs.drop o3).take n3) x.2.2.2.1 ∧ R4 M ((cs.drop o4).take n4) x.2.2.2.2.1 ∧ R5 M ((cs.drop o5).take n5) x.2.2.2.2.2) := by
  intro n cs x h hw
  obtain ⟨xs, n, rfl, rfl, hl, hxl, hi⟩ := DataW.trod_struct ht h
  have hl3 : fs.toList.length = 6 := by simpa using congrArg List.length hfs
  obtain ⟨f0, f1, f2, f3, f4, f5, hf⟩ : ∃ f0 f1 f2 f3 f4 f5, fs = #[f0, f1, f2, f3, f4, f5] := by
    match fs, hl3 with
    | ⟨[f0, f1, f2, f3, f4, f5]⟩, _ => exact ⟨f0, f1, f2, f3, f4, f5, rfl⟩
  subst hf
  simp at hfs
  obtain ⟨⟨rfl, e0⟩, ⟨rfl, e1⟩, ⟨rfl, e2⟩, ⟨rfl, e3⟩, ⟨rfl, e4⟩, rfl, e5⟩ := hfs
  rw [hc] at hl
  match xs, hxl with
  | [x0, x1, x2, x3, x4, x5], _ =>
  have g0 := hi 0 f0 rfl
  have g1 := hi 1 f1 rfl
  have g2 := hi 2 f2 rfl
  have g3 := hi 3 f3 rfl
  have g4 := hi 4 f4 rfl
  have g5 := hi 5 f5 rfl
  rw [e0, h0] at g0; rw [e1, h1] at g1; rw [e2, h2] at g2; rw [e3, h3] at g3; rw [e4, h4] at g4; rw [e5, h5] at g5
  simp only [DataW.weights, ht] at hw
  obtain ⟨y0, r0⟩ := O0 n _ x0 g0 fun k hk => hw k (DataW.weights_mem_each (j := 0) rfl rfl k hk)
  obtain ⟨y1, r1⟩ := O1 n _ x1 g1 fun k hk => hw k (DataW.weights_mem_each (j := 1) rfl rfl k hk)
  obtain ⟨y2, r2⟩ := O2 n _ x2 g2 fun k hk => hw k (DataW.weights_mem_each (j := 2) rfl rfl k hk)
  obtain ⟨y3, r3⟩ := O3 n _ x3 g3 fun k hk => hw k (DataW.weights_mem_each (j := 3) rfl rfl k hk)
  obtain ⟨y4, r4⟩ := O4 n _ x4 g4 fun k hk => hw k (DataW.weights_mem_each (j := 4) rfl rfl k hk)
  obtain ⟨y5, r5⟩ := O5 n _ x5 g5 fun k hk => hw k (DataW.weights_mem_each (j := 5) rfl rfl k hk)
  exact ⟨(y0, y1, y2, y3, y4, y5), hl, r0, r1, r2, r3, r4, r5⟩
end
theorem ssW {M : Hp} {v : Value} {l : List (Int × Int × Int × Int × Int × List Int)}
    (h : JN 6 (fun M cs (x : Int × Int × Int × Int × Int × List Int) => cs.length = 6 ∧ Gg M ((cs.drop 0).take 1) x.1 ∧ Gg M ((cs.drop 1).take 1) x.2.1 ∧ Gg M ((cs.drop 2).take 1) x.2.2.1 ∧ Gg M ((cs.drop 3).take 1) x.2.2.2.1 ∧ Gg M ((cs.drop 4).take 1) x.2.2.2.2.1 ∧ vv 1 Gg M ((cs.drop 5).take 1) x.2.2.2.2.2) M v l) :
    ∃ l', JN 6 yq M v l' ∧ ∀ y ∈ l', True := by
  refine h.rel (R' := yq) (fun _ => True) fun cs x ⟨hl, h0, h1, h2, h3, h4, h5⟩ => ?_
  match cs, hl with
  | [a0, a1, a2, a3, a4, a5], _ =>
  obtain ⟨u, hu, h5⟩ := h5
  obtain ⟨l', h6, _⟩ := h5.intW
  simp only [List.drop_succ_cons, List.drop_zero, List.take_succ_cons, List.take_zero, List.cons.injEq, and_true, Gg] at h0 h1 h2 h3 h4 hu
  refine ⟨(x.1, x.2.1, x.2.2.1, x.2.2.2.1, x.2.2.2.2.1, l'), ⟨u, ?_, h6⟩, trivial⟩
  rw [h0.1, h1.1, h2.1, h3.1, h4.1, hu]
abbrev LLst := List (List Int)
abbrev RLi : Hp → List Value → List Int → Prop := vv 1 Wn
theorem RowsRL.get {M : Hp} {l : List (List Int)} {xs : List Value} {k : Nat} {x : List Int} (h : JX RLi 1 M l xs) (hx : l[k]? = some x) : ∃ u, xs[k]? = some u ∧ Zh M u x := by
  obtain ⟨v, e, hv⟩ := h.2.2 k x hx
  refine ⟨v, ?_, hv⟩
  have e1 : ((xs.drop (k * 1)).take 1)[0]? = some v := by rw [e]; rfl
  rw [List.getElem?_take_of_lt (by decide), List.getElem?_drop, Nat.mul_one, Nat.add_zero] at e1
  exact e1
theorem RowsRL.set {M : Hp} {l : List (List Int)} {xs : List Value} {k : Nat} {x : List Int} {u : Value} (h : JX RLi 1 M l xs) (hu : Zh M u x) : JX RLi 1 M (l.set k x) (xs.set k u) := by
  refine ⟨?_, ?_, ?_⟩
  · have := h.1; simpa using this
  · intro y hy
    rcases List.mem_or_eq_of_mem_set hy with h1 | h1
    · exact h.2.1 y h1
    · subst h1; exact Zh.one hu
  · intro i y hy
    by_cases hik : k = i
    · subst hik
      have hl : k < l.length := by have := (List.getElem?_eq_some_iff.1 hy).1; simpa using this
      rw [List.getElem?_set_self hl] at hy
      cases hy
      refine ⟨u, ?_, hu⟩
      have hx : k < xs.length := by rw [h.1]; omega
      rw [Nat.mul_one]
      have e : (xs.set k u).drop k = u :: xs.drop (k + 1) := by
        have hx' : k < (xs.set k u).length := by rw [List.length_set]; exact hx
        rw [List.drop_eq_getElem_cons hx', List.getElem_set_self, List.drop_set_of_lt (Nat.lt_succ_self k)]
      rw [e]; rfl
    · rw [List.getElem?_set_ne hik] at hy
      obtain ⟨v, e, hv⟩ := h.2.2 i y hy
      refine ⟨v, ?_, hv⟩
      have hi : i < xs.length := by have := (List.getElem?_eq_some_iff.1 hy).1; rw [h.1]; omega
      rw [Nat.mul_one] at e ⊢
      rw [List.drop_eq_getElem_cons hi] at e
      have hi' : i < (xs.set k u).length := by rw [List.length_set]; exact hi
      rw [List.drop_eq_getElem_cons hi', List.getElem_set_ne hik]
      exact (show [xs[i]] = [v] from e)
theorem JK {b n k : Nat} (h : k < n) : Zj (.slice (some ⟨b, 0, none⟩) n n) k 1 (Addr.add ⟨b, 0, none⟩ (k * 1)) := ⟨_, _, _, rfl, h, rfl⟩
theorem Ud {M : Hp} {l : List (List Int)} {xs : List Value} {k : Nat} (h : JX RLi 1 M l xs) (hk : k < l.length) : ∃ u, xs[k]? = some u ∧ Zh M u (l.getD k []) :=
  RowsRL.get h (by rw [List.getD_eq_getElem?_getD, List.getElem?_eq_getElem hk]; rfl)
theorem arr_new {w : World} {M : Hp} {H : List Qm} {n b tA : Nat} {cs : Array Value} (S : St w M (Qh b (.cells cs tA) :: H)) (hn : n ≤ 1000) (hc : cs.toList = List.replicate n (.slice none 0 0)) :
    ∃ xs, JX RLi 1 M (List.replicate n ([] : List Int)) xs ∧ St w M (Jk tA 1 (.slice (some ⟨b, 0, none⟩) n n) (List.replicate n ([] : List Int)).length xs :: H) := by
  have hl : cs.toList.length = n := by rw [hc, List.length_replicate]
  refine ⟨cs.toList, ⟨?_, ?_, ?_⟩, ?_⟩
  · rw [hl, List.length_replicate, Nat.mul_one]
  · intro u hu; rw [hc] at hu; rw [(List.mem_replicate.1 hu).2]; rfl
  · intro i x hx
    rw [List.getElem?_replicate] at hx
    split at hx
    · rename_i hi
      cases hx
      refine ⟨.slice none 0 0, ?_, JN.nil _⟩
      rw [hc, List.drop_replicate, List.take_replicate, Nat.mul_one, show min 1 (n - i) = 1 by omega]; rfl
    · cases hx
  · rw [List.length_replicate]
    exact S.ownOf (by rw [hl, Nat.mul_one]) (Nat.le_refl _) (by unfold Go.maxLen; omega) (by rw [Nat.mul_one, ← hl]; simp) (by rw [Nat.mul_one, ← hl, List.take_length])
theorem VF {P : Program} {a : Act} {w : World} {n : Nat} {ds : List Deferred} {l : List (Nat × Value)} {d : Nat} {ty t el : TypeId} {pos : String} {af : Array Edge} {gd : Option (Nat × Bool)} {x y : Operand} {i : Int}
    {ad : Addr} {m k sz : Nat} (E : Env a n ds l) (hx : Jy l x = some (.pointer (some ad))) (hy : Jy l y = some (.int .i64 i)) (ht : P.underlying t = some (.array m el)) (hs : (sizeOf el).run P w = .ok sz w) (hk : k < m) (hi : i = (k : Int)) :
    (execOp a.eval ⟨some d, .indexAddr t x y, ty, pos, af, gd⟩).run P w = .ok (.value (.pointer (some (ad.add (k * sz))))) w := by subst hi; exact R_idxA E hx hy ht hs hk
theorem zY {P : List Int → Prop} {t : List (List Int)} {k : Nat} (h : ∀ c ∈ t, P c) (hk : k < t.length) : P (t.getD k []) := by
  rw [List.getD_eq_getElem?_getD, List.getElem?_eq_getElem hk]; exact h _ (List.getElem_mem hk)
theorem arr_same {t : List (List Int)} {k : Nat} {x : List Int} (hk : k < t.length) : (t.set k x).getD k [] = x := by
  rw [List.getD_eq_getElem?_getD, List.getElem?_set_self hk]; rfl
theorem dif_nil {a b : List Int} : (Ji a b).length = 0 ↔ QT a b = true := by
  rw [Vu, List.length_eq_zero_iff]
  constructor
  · intro h z hz
    by_cases hb : z ∈ b
    · exact hb
    · have := Zm.2 ⟨hz, hb⟩; rw [h] at this; cases this
  · intro h
    refine List.eq_nil_iff_forall_not_mem.2 fun z hz => ?_
    exact (Zm.1 hz).2 (h z (Zm.1 hz).1)
theorem within (a b : List Int) : decide ((((Ji a b).length : Nat) : Int) = 0) = QT a b := by
  rw [Bool.eq_iff_iff, decide_eq_true_eq, ← dif_nil]; omega
theorem any_iff {a b : List Int} : ZJ a b = true ↔ ∃ z, z ∈ a ∧ z ∈ b := by unfold ZJ; rw [List.any_eq_true]; simp
theorem WX (a b : List Int) : decide (0 < (((ZD a b).length : Nat) : Int)) = ZJ a b := by
  rw [Bool.eq_iff_iff, decide_eq_true_eq, any_iff]
  constructor
  · intro h
    obtain ⟨z, hz⟩ := List.exists_mem_of_length_pos (show 0 < (ZD a b).length by omega)
    exact ⟨z, UW.1 hz⟩
  · rintro ⟨z, h1, h2⟩
    have := List.length_pos_of_mem (UW.2 ⟨h1, h2⟩); omega
theorem Uc {c : List Int} (h : Qw c = c) : Jd c = c.length := by
  have h1 := suL_card c
  rw [suL_set, h] at h1; exact h1.symm
section
variable {d : Int} {i k : Nat} {x : Int} {l a b : List Int} {ls ls' : List (List Int)} {is : Bool} {n : Int} {al : List Int}
theorem vo (h : QM d i k x l a b ls ls' is n al) (h1 : 11 ≤ d) (h2 : d ≤ 16) : ls' = ls ∧ (zk a b)[(d - 11).toNat]? = some is := by
  have hd : d = 11 ∨ d = 12 ∨ d = 13 ∨ d = 14 ∨ d = 15 ∨ d = 16 := by omega
  rcases hd with rfl | rfl | rfl | rfl | rfl | rfl <;> simp only [QM, Int.reduceEq, ↓reduceIte] at h <;> obtain ⟨rfl, rfl, _, _⟩ := h <;> exact ⟨rfl, rfl⟩
theorem ask_17 (h : QM d i k x l a b ls ls' is n al) (hd : d = 17) : ls' = ls ∧ is = QT l a := by subst hd; simp only [QM, Int.reduceEq, ↓reduceIte] at h; exact ⟨h.1, h.2.1⟩
theorem ask_18 (h : QM d i k x l a b ls ls' is n al) (hd : d = 18) : ls' = ls ∧ is = ZJ l a := by subst hd; simp only [QM, Int.reduceEq, ↓reduceIte] at h; exact ⟨h.1, h.2.1⟩
theorem ask_19 (h : QM d i k x l a b ls ls' is n al) (hd : d = 19) : ls' = ls ∧ is = decide (x ∈ a) := by subst hd; simp only [QM, Int.reduceEq, ↓reduceIte] at h; exact ⟨h.1, h.2.1⟩
theorem ask_20 (h : QM d i k x l a b ls ls' is n al) (hd : d = 20) (ha : Qw a = a) : ls' = ls ∧ n = ((a.length : Nat) : Int) := by subst hd; simp only [QM, Int.reduceEq, ↓reduceIte] at h; rw [← Uc ha]; exact ⟨h.1, h.2.2.1⟩
theorem ask_21 (h : QM d i k x l a b ls ls' is n al) (hd : d = 21) (ha : Qw a = a) : ls' = ls ∧ is = decide (((a.length : Nat) : Int) = 0) := by subst hd; simp only [QM, Int.reduceEq, ↓reduceIte] at h; rw [← Uc ha]; exact ⟨h.1, h.2.1⟩
theorem ask_22 (h : QM d i k x l a b ls ls' is n al) (h1 : 22 ≤ d) (h2 : d ≤ 23) (ha : Qw a = a) : ls' = ls ∧ al = a := by
  have hd : d = 22 ∨ d = 23 := by omega
  rcases hd with rfl | rfl <;> simp only [QM, Int.reduceEq, ↓reduceIte] at h <;> exact ⟨h.1, h.2.2.2.trans ha⟩
theorem yk (h : QM d i k x l a b ls ls' is n al) (h1 : 11 ≤ d) (h2 : d ≤ 23) : ls' = ls := by
  by_cases h3 : d ≤ 16
  · exact (vo h h1 h3).1
  · have hd : d = 17 ∨ d = 18 ∨ d = 19 ∨ d = 20 ∨ d = 21 ∨ d = 22 ∨ d = 23 := by omega
    rcases hd with rfl | rfl | rfl | rfl | rfl | rfl | rfl <;> simp only [QM, Int.reduceEq, ↓reduceIte] at h <;> exact h.1
theorem chg_0 (h : QM d i k x l a b ls ls' is n al) (hd : d = 0) : ls' = ls.set k (Qw l) := by subst hd; simp only [QM, Int.reduceEq, ↓reduceIte] at h; exact h.1
theorem chg_26 (h : QM d i k x l a b ls ls' is n al) (hd : d = 26) : ls' = ls.set k (Qw l) := by subst hd; simp only [QM, Int.reduceEq, ↓reduceIte] at h; exact h.1
theorem chg_1 (h : QM d i k x l a b ls ls' is n al) (hd : d = 1) : ls' = ls.set i (Qw (a ++ [x])) ∧ is = decide (x ∉ a) := by subst hd; simp only [QM, Int.reduceEq, ↓reduceIte] at h; exact ⟨h.1, h.2.1⟩
theorem chg_2 (h : QM d i k x l a b ls ls' is n al) (hd : d = 2) (ha : Qw a = a) : ls' = ls.set i (Qw (a ++ l)) ∧ n = (((Qw (a ++ l)).length : Nat) : Int) - ((a.length : Nat) : Int) := by subst hd; simp only [QM, Int.reduceEq, ↓reduceIte] at h; rw [← Uc ha]; exact ⟨h.1, h.2.2.1⟩
theorem chg_3 (h : QM d i k x l a b ls ls' is n al) (hd : d = 3) : ls' = ls.set i (Ji a [x]) := by subst hd; simp only [QM, Int.reduceEq, ↓reduceIte] at h; exact h.1
theorem chg_4 (h : QM d i k x l a b ls ls' is n al) (hd : d = 4) : ls' = ls.set i (Ji a l) := by subst hd; simp only [QM, Int.reduceEq, ↓reduceIte] at h; exact h.1
theorem chg_5 (h : QM d i k x l a b ls ls' is n al) (hd : d = 5) : ls' = ls.set i [] := by subst hd; simp only [QM, Int.reduceEq, ↓reduceIte] at h; exact h.1
theorem chg_6 (h : QM d i k x l a b ls ls' is n al) (hd : d = 6) : ls' = ls.set k (Qw a) := by subst hd; simp only [QM, Int.reduceEq, ↓reduceIte] at h; exact h.1
theorem chg_7 (h : QM d i k x l a b ls ls' is n al) (hd : d = 7) : ls' = ls.set k (Qw (a ++ b)) := by subst hd; simp only [QM, Int.reduceEq, ↓reduceIte] at h; exact h.1
theorem chg_8 (h : QM d i k x l a b ls ls' is n al) (hd : d = 8) : ls' = ls.set k (ZD a b) := by subst hd; simp only [QM, Int.reduceEq, ↓reduceIte] at h; exact h.1
theorem chg_9 (h : QM d i k x l a b ls ls' is n al) (hd : d = 9) : ls' = ls.set k (Ji a b) := by subst hd; simp only [QM, Int.reduceEq, ↓reduceIte] at h; exact h.1
theorem chg_10 (h : QM d i k x l a b ls ls' is n al) (hd : d = 10) : ls' = ls.set k (Ur a b) := by subst hd; simp only [QM, Int.reduceEq, ↓reduceIte] at h; exact h.1
theorem pop_24 (h : QM d i k x l a b ls ls' is n al) (hd : d = 24) : ls' = ls.set i (Ji a [n]) ∧ (is = true → n ∈ a) ∧ (is = false → n = 0 ∧ a = []) := by
  subst hd
  simp only [QM, Int.reduceEq, ↓reduceIte] at h
  obtain ⟨h1, h2, _⟩ := h
  cases is
  · simp only [Bool.false_eq_true, ↓reduceIte] at h1 h2
    have ha : a = [] := List.eq_nil_iff_forall_not_mem.2 h2.2
    subst ha
    refine ⟨by rw [h1]; rfl, (fun h => by cases h), fun _ => ⟨h2.1, rfl⟩⟩
  · simp only [↓reduceIte] at h1 h2
    exact ⟨h1, (fun _ => h2), fun h => by cases h⟩
theorem pop_25 (h : QM d i k x l a b ls ls' is n al) (hd : d = 25) (ha : Qw a = a) : ls' = ls.set i (Ji a al) ∧ n = ((al.length : Nat) : Int) ∧ al.length = min x.toNat a.length ∧ Qw al = al ∧ QT al a = true := by
  subst hd
  simp only [QM, Int.reduceEq, ↓reduceIte] at h
  rw [Uc ha] at h
  exact ⟨h.1, h.2.2.1, h.2.2.2.1, h.2.2.2.2.1, Vu.2 h.2.2.2.2.2⟩
theorem step_out (h : QM d i k x l a b ls ls' is n al) (h0 : ¬ (0 ≤ d ∧ d ≤ 26)) : ls' = ls := by
  unfold QM at h
  have e : ∀ c : Int, 0 ≤ c → c ≤ 26 → ¬ d = c := fun c h1 h2 e => h0 (by omega)
  iterate 27 rw [if_neg (e _ (by decide) (by decide))] at h
  exact h.1
end
theorem YD {l : List UK} {an : List Gk} {t ls : List (List Int)} {k : Nat} {s : UK} {a : Gk} (h : zj (l.drop k) t (an.drop k) ls) (hs : l[k]? = some s) (ha : an[k]? = some a) :
    ∃ t', QM s.1 (Jg s.2.1) (Jg s.2.2.2.1) s.2.2.2.2.1 s.2.2.2.2.2 (t.getD (Jg s.2.1) []) (t.getD (Jg s.2.2.1) []) t t' a.1 a.2.1 a.2.2 ∧ zj (l.drop (k + 1)) t' (an.drop (k + 1)) ls := by
  have hk := (List.getElem?_eq_some_iff.1 hs).1
  have hk' := (List.getElem?_eq_some_iff.1 ha).1
  rw [List.drop_eq_getElem_cons hk, List.drop_eq_getElem_cons hk'] at h
  rw [List.getElem?_eq_getElem hk, Option.some.injEq] at hs
  rw [List.getElem?_eq_getElem hk', Option.some.injEq] at ha
  rw [hs, ha] at h
  obtain ⟨a1, t1, an1, e, h1, h2⟩ := h
  obtain ⟨rfl, rfl⟩ := List.cons.inj e
  exact ⟨t1, h1, h2⟩
theorem run_end {t ls : List (List Int)} {l : List UK} {an : List Gk} {k : Nat} (h : zj (l.drop k) t (an.drop k) ls) (hk : l.length ≤ k) : ls = t := by
  rw [List.drop_eq_nil_of_le hk] at h; exact h.2
theorem ZF {l : List UK} {an : List Gk} {t ls : List (List Int)} {k : Nat} {s : UK} (h : zj (l.drop k) t (an.drop k) ls) (hs : l[k]? = some s) (hl : an.length = l.length) (h0 : ¬ (0 ≤ s.1 ∧ s.1 ≤ 26)) : zj (l.drop (k + 1)) t (an.drop (k + 1)) ls := by
  have hk := (List.getElem?_eq_some_iff.1 hs).1
  obtain ⟨t', hS, hR⟩ := YD h hs (List.getElem?_eq_getElem (show k < an.length by omega))
  rw [step_out hS h0] at hR; exact hR
theorem Zv {l : List UK} {t t' : List (List Int)} {k : Nat} {s : UK} {is : Bool} {n : Int} {al : List Int} (hc : Canon (Wk l) t) (hs : l[k]? = some s)
    (hS : QM s.1 (Jg s.2.1) (Jg s.2.2.2.1) s.2.2.2.2.1 s.2.2.2.2.2 (t.getD (Jg s.2.1) []) (t.getD (Jg s.2.2.1) []) t t' is n al) : Canon (Wk l) t' := by
  have hm : ∀ z ∈ s.2.2.2.2.1 :: s.2.2.2.2.2, z ∈ Wk l := fun z hz => List.mem_flatten.2 ⟨_, List.mem_map.2 ⟨s, List.mem_of_getElem? hs, rfl⟩, hz⟩
  exact qs hS hc (Wc hc _).2 (Wc hc _).2 (hm _ (List.mem_cons_self ..)) fun z hz => hm z (List.mem_cons_of_mem _ hz)
theorem canon_c {U : List Int} {t : List (List Int)} (hc : Canon U t) (hU : U.length ≤ 100000) : ∀ c ∈ t, Qw c = c ∧ c.length ≤ 100000 := fun c h => ⟨(hc c h).1, Nat.le_trans (zX hc h) hU⟩
theorem vN (U : List Int) : Canon U (List.replicate 8 []) := fun c h => by
  rw [(List.mem_replicate.1 h).2]; exact ⟨rfl, fun z hz => by cases hz⟩
theorem end_at {ls t : List (List Int)} {k : Nat} {x : List Int} (e : ls = t) (hx : ls[k]? = some x) : t.getD k [] = x := by
  subst e; rw [List.getD_eq_getElem?_getD, hx]; rfl
theorem yx {l : List UK} (h1 : l.length ≤ 200) (h2 : ∀ s ∈ l, s.2.2.2.2.2.length ≤ 100) : (Wk l).length ≤ 100000 := by
  have h := jF h2
  have h3 := Nat.mul_le_mul_right (100 + 1) h1
  omega
end Go.Proofs.YtlmpgefhnmfhpaaGreat.wFnSetScript
