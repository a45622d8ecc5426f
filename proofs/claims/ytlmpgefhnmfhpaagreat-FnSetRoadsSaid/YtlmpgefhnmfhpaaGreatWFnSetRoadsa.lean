/- Walks through the functions that laws.FnSetRoads reaches: what each computes; no conditions beyond what each theorem states. -/
import Derived.Test.YtlmpgefhnmfhpaaGreatProg
import Derived.Test.YtlmpgefhnmfhpaaGreatSlS
import Derived.Ground.SlgmProg
import Derived.Conc.RwLoneW
import Derived.KernelRfl
set_option linter.unusedVariables false
set_option linter.unusedSimpArgs false
namespace Go.Proofs.YtlmpgefhnmfhpaaGreat.wFnSetRoads
open Go Go.Sl
theorem Tryz.mixed : Tryz.prog.follows .mixedOrders = true := by kernel_rfl
theorem T22 : SlT Tryz.prog 22 3 1 8 (.int .i64 0) := ⟨Tryz.underlying22, ⟨Tryz.t3, by kernel_rfl, rfl, rfl, rfl⟩, rfl, by decide⟩
theorem T28 : SlT Tryz.prog 28 4 1 1 (.bool false) := ⟨Tryz.underlying28, ⟨Tryz.t4, by kernel_rfl, rfl, rfl, rfl⟩, rfl, by decide⟩
theorem T36 : SlT Tryz.prog 36 22 1 24 (.slice none 0 0) := ⟨Tryz.underlying36, ⟨Tryz.t22, by kernel_rfl, rfl, rfl, rfl⟩, rfl, by decide⟩
theorem T76 : SlT Tryz.prog 76 74 1 8 (.nilFunc) := ⟨Tryz.underlying76, ⟨Tryz.t74, by kernel_rfl, rfl, rfl, rfl⟩, rfl, by decide⟩
theorem MT102 : MapT Tryz.prog 102 3 104 (.agg #[]) := ⟨Tryz.underlying102, Tryz.underlying3, ⟨Tryz.t104, by kernel_rfl, rfl⟩⟩
theorem MT106 : MapT Tryz.prog 106 3 4 (.bool false) := ⟨Tryz.underlying106, Tryz.underlying3, ⟨Tryz.t4, by kernel_rfl, rfl⟩⟩
theorem MT145 : MapT Tryz.prog 145 3 104 (.agg #[]) := ⟨Tryz.underlying145, Tryz.underlying3, ⟨Tryz.t104, by kernel_rfl, rfl⟩⟩
theorem FB104__ (w : World) : (Instr.build 104 #[]).run Tryz.prog w = .ok (.agg #[]) w := run_build _ _ _ _ (by kernel_rfl)
theorem BLK144 (x : Option Addr) (w : World) : (Instr.build 144 #[(1, .pointer x)]).run Tryz.prog w = .ok (.agg #[.int .i32 0, .int .u32 0, .int .u32 0, .int .u32 0, .int .i32 0, .int .i32 0, .pointer x]) w := run_build _ _ _ _ (by kernel_rfl)
theorem FA144_0 (p : Addr) (w : World) : (Instr.fieldAt 144 (.pointer (some p)) 0).run Tryz.prog w = .ok (.pointer (some (p.add 0))) w := by kernel_rfl
theorem FA144_1 (p : Addr) (w : World) : (Instr.fieldAt 144 (.pointer (some p)) 1).run Tryz.prog w = .ok (.pointer (some (p.add 6))) w := by kernel_rfl
abbrev Tryz.muLink : Go.Conc.Locks.MuLink := { lock := 120, unlock := 129, ilock := 132, iunlock := 134, lockSlow := 136, unlockSlow := 137, disable := 119, enable := 123, acquire := 124, relMerge := 126, cas32 := 135, add32 := 133, tMutex := 137, tIMutex := 135, tPMutex := 157, tPIMutex := 168, tPI32 := 167, tUP := 156, tNoCopy := 133, tU32 := 130 }
theorem Tryz.muLib : Go.Conc.Locks.MuLib Tryz.prog Tryz.muLink :=
  ⟨Tryz.func120, Tryz.func129, Tryz.func132, Tryz.func134, Tryz.func119, Tryz.func123, Tryz.func124, Tryz.func126, Tryz.func135, Tryz.func133, Tryz.underlying135, Tryz.runUnderlying135, Tryz.sizeOf135, Tryz.isAgg135, Tryz.zeroValue135, Tryz.underlying137, Tryz.runUnderlying137, Tryz.sizeOf137, Tryz.isAgg137, Tryz.zeroValue137, Tryz.underlying157, Tryz.runUnderlying157, Tryz.sizeOf157, Tryz.isAgg157, Tryz.zeroValue157, Tryz.underlying168, Tryz.runUnderlying168, Tryz.sizeOf168, Tryz.isAgg168, Tryz.zeroValue168, Tryz.underlying167, Tryz.runUnderlying167, Tryz.sizeOf167, Tryz.isAgg167, Tryz.zeroValue167, Tryz.underlying156, Tryz.runUnderlying156, Tryz.sizeOf156, Tryz.isAgg156, Tryz.zeroValue156, Tryz.underlying133, Tryz.runUnderlying133, Tryz.sizeOf133, Tryz.isAgg133, Tryz.zeroValue133, Tryz.underlying21, Tryz.runUnderlying21, Tryz.sizeOf21, Tryz.isAgg21, Tryz.zeroValue21, (by kernel_rfl)⟩
abbrev Tryz.rwLink : Go.Conc.Locks.RwLink := { lock := 120, unlock := 129, ilock := 132, iunlock := 134, lockSlow := 136, unlockSlow := 137, disable := 119, enable := 123, acquire := 124, relMerge := 126, cas32 := 135, add32 := 133, tMutex := 137, tIMutex := 135, tPMutex := 157, tPIMutex := 168, tPI32 := 167, tUP := 156, tNoCopy := 133, tU32 := 130, rlock := 185, runlock := 186, wlock := 106, wunlock := 107, i32add := 121, raceRead := 118, release := 125, rUnlockSlow := 204, semacqR := 203, semacqW := 122, semrel := 128, sfatal := 127, tRW := 142, tPRW := 154, tAI32 := 140, tPAI32 := 165, tPU32 := 160, tANoCopy := 138 }
theorem Tryz.rwCore : Go.Conc.Locks.RwCore Tryz.prog Tryz.rwLink :=
  ⟨Tryz.func121, Tryz.func118, Tryz.func119, Tryz.func123, Tryz.func124, Tryz.func126, Tryz.func133, Tryz.underlying142, Tryz.runUnderlying142, Tryz.sizeOf142, Tryz.isAgg142, Tryz.zeroValue142, Tryz.underlying140, Tryz.runUnderlying140, Tryz.sizeOf140, Tryz.isAgg140, Tryz.zeroValue140, Tryz.underlying154, Tryz.runUnderlying154, Tryz.sizeOf154, Tryz.isAgg154, Tryz.zeroValue154, Tryz.underlying165, Tryz.runUnderlying165, Tryz.sizeOf165, Tryz.isAgg165, Tryz.zeroValue165, Tryz.underlying160, Tryz.runUnderlying160, Tryz.sizeOf160, Tryz.isAgg160, Tryz.zeroValue160, Tryz.underlying138, Tryz.runUnderlying138, Tryz.sizeOf138, Tryz.isAgg138, Tryz.zeroValue138, Tryz.underlying130, Tryz.runUnderlying130, Tryz.sizeOf130, Tryz.isAgg130, Tryz.zeroValue130, Tryz.underlying137, Tryz.runUnderlying137, Tryz.sizeOf137, Tryz.isAgg137, Tryz.zeroValue137, Tryz.underlying157, Tryz.runUnderlying157, Tryz.sizeOf157, Tryz.isAgg157, Tryz.zeroValue157, Tryz.underlying167, Tryz.runUnderlying167, Tryz.sizeOf167, Tryz.isAgg167, Tryz.zeroValue167, Tryz.underlying156, Tryz.runUnderlying156, Tryz.sizeOf156, Tryz.isAgg156, Tryz.zeroValue156, Tryz.underlying21, Tryz.runUnderlying21, Tryz.sizeOf21, Tryz.isAgg21, Tryz.zeroValue21, (by kernel_rfl), (by kernel_rfl)⟩
theorem Tryz.rwRLib : Go.Conc.Locks.RwRLib Tryz.prog Tryz.rwLink := ⟨Tryz.rwCore, Tryz.func185, Tryz.func186⟩
theorem Tryz.rwWLib : Go.Conc.Locks.RwWLib Tryz.prog Tryz.rwLink := ⟨Tryz.rwCore, Tryz.muLib, Tryz.func106, Tryz.func107, Tryz.func125, Tryz.underlying3, Tryz.runUnderlying3, Tryz.sizeOf3, Tryz.isAgg3, Tryz.zeroValue3⟩

theorem meth_114_Difference (p : Value) (w : World) : ∀ args : Array Value, (callMethod (.iface 114 p) "Difference" args).run Tryz.prog w = .ok (.enter 168 (#[p] ++ args)) w := fun args => by kernel_rfl
theorem meth_114_Intersect (p : Value) (w : World) : ∀ args : Array Value, (callMethod (.iface 114 p) "Intersect" args).run Tryz.prog w = .ok (.enter 171 (#[p] ++ args)) w := fun args => by kernel_rfl
theorem meth_114_SymmetricDifference (p : Value) (w : World) : ∀ args : Array Value, (callMethod (.iface 114 p) "SymmetricDifference" args).run Tryz.prog w = .ok (.enter 181 (#[p] ++ args)) w := fun args => by kernel_rfl
theorem meth_114_ToSlice (p : Value) (w : World) : ∀ args : Array Value, (callMethod (.iface 114 p) "ToSlice" args).run Tryz.prog w = .ok (.enter 182 (#[p] ++ args)) w := fun args => by kernel_rfl
theorem meth_114_Union (p : Value) (w : World) : ∀ args : Array Value, (callMethod (.iface 114 p) "Union" args).run Tryz.prog w = .ok (.enter 183 (#[p] ++ args)) w := fun args => by kernel_rfl
theorem meth_116_Cardinality (p : Value) (w : World) : ∀ args : Array Value, (callMethod (.iface 116 p) "Cardinality" args).run Tryz.prog w = .ok (.enter 205 (#[p] ++ args)) w := fun args => by kernel_rfl
theorem meth_116_Difference (p : Value) (w : World) : ∀ args : Array Value, (callMethod (.iface 116 p) "Difference" args).run Tryz.prog w = .ok (.enter 193 (#[p] ++ args)) w := fun args => by kernel_rfl
theorem meth_116_Intersect (p : Value) (w : World) : ∀ args : Array Value, (callMethod (.iface 116 p) "Intersect" args).run Tryz.prog w = .ok (.enter 195 (#[p] ++ args)) w := fun args => by kernel_rfl
theorem meth_116_SymmetricDifference (p : Value) (w : World) : ∀ args : Array Value, (callMethod (.iface 116 p) "SymmetricDifference" args).run Tryz.prog w = .ok (.enter 201 (#[p] ++ args)) w := fun args => by kernel_rfl
theorem meth0_116_ToSlice (p : Value) (w : World) : (method (Tryz.prog.types.size + Made.depth) 116 p "ToSlice").run Tryz.prog w = ((receiverAt 116 (.val p) false (some (("ToSlice".splitOn ".").getLastD "ToSlice"))) >>= fun v => pure (213, v)).run Tryz.prog w := by kernel_rfl
theorem meth_116_ToSlice {p v : Value} {b : Nat} {w : World} (e : p = .pointer (some ⟨b, 0, none⟩)) (hc : w.cell? ⟨b, 0, none⟩ = some v) : ∀ args : Array Value, (callMethod (.iface 116 p) "ToSlice" args).run Tryz.prog w = .ok (.enter 213 (#[v] ++ args)) w := by
  intro args
  subst e
  have hw : ∀ s w, (Builtin.ssaWrapNilChk_ #[116] 116 #[.pointer (some ⟨b, 0, none⟩), strVal "", strVal s]).run Tryz.prog w = .ok (.pointer (some ⟨b, 0, none⟩)) w := fun _ _ => rfl
  simp only [callMethod, Sem.run_bind, run_program, Result.andThen_ok]
  rw [meth0_116_ToSlice]
  simp [receiverAt, Place.get, hw, go_sem, hc, asAddr]
theorem meth0_116_Union (p : Value) (w : World) : (method (Tryz.prog.types.size + Made.depth) 116 p "Union").run Tryz.prog w = ((receiverAt 116 (.val p) false (some (("Union".splitOn ".").getLastD "Union"))) >>= fun v => pure (202, v)).run Tryz.prog w := by kernel_rfl
theorem meth_116_Union {p v : Value} {b : Nat} {w : World} (e : p = .pointer (some ⟨b, 0, none⟩)) (hc : w.cell? ⟨b, 0, none⟩ = some v) : ∀ args : Array Value, (callMethod (.iface 116 p) "Union" args).run Tryz.prog w = .ok (.enter 202 (#[v] ++ args)) w := by
  intro args
  subst e
  have hw : ∀ s w, (Builtin.ssaWrapNilChk_ #[116] 116 #[.pointer (some ⟨b, 0, none⟩), strVal "", strVal s]).run Tryz.prog w = .ok (.pointer (some ⟨b, 0, none⟩)) w := fun _ _ => rfl
  simp only [callMethod, Sem.run_bind, run_program, Result.andThen_ok]
  rw [meth0_116_Union]
  simp [receiverAt, Place.get, hw, go_sem, hc, asAddr]
def total (ll : List (List Int)) : Nat := (ll.map List.length).sum
theorem total_succ {ll : List (List Int)} {k : Nat} {x : List Int} (h : ll[k]? = some x) : total (ll.take (k + 1)) = total (ll.take k) + x.length := by
  simp [total, List.take_add_one, h]
theorem total_take_le (ll : List (List Int)) (k : Nat) : total (ll.take k) ≤ total ll := by
  unfold total
  conv => rhs; rw [← List.take_append_drop k ll]
  rw [List.map_append, List.sum_append]; omega
theorem flatten_len (ll : List (List Int)) : ll.flatten.length = total ll := by simp [total, List.length_flatten]
theorem flatten_succ {ll : List (List Int)} {k : Nat} {x : List Int} (h : ll[k]? = some x) : (ll.take (k + 1)).flatten = (ll.take k).flatten ++ x := by
  simp [List.take_add_one, h]
theorem flat_prefix {l : List (List Int)} {k : Nat} {xk p : List Int} {x : Int} (h : l[k]? = some xk) (hp : p ++ [x] <+: xk) : ((l.take k).flatten ++ p) ++ [x] <+: l.flatten := by
  have h1 : (l.take (k + 1)).flatten <+: l.flatten := by
    conv => rhs; rw [← List.take_append_drop (k + 1) l, List.flatten_append]
    exact List.prefix_append _ _
  rw [flatten_succ h] at h1
  rw [List.append_assoc]
  exact ((List.prefix_append_right_inj _).2 hp).trans h1
def filtI (f : Int → Int → Bool) : Nat → List Int → List Int
  | _, [] => []
  | i, x :: l => if f x i then x :: filtI f (i + 1) l else filtI f (i + 1) l
theorem filtI_append (f : Int → Int → Bool) : ∀ (a b : List Int) (i : Nat), filtI f i (a ++ b) = filtI f i a ++ filtI f (i + a.length) b
  | [], b, i => by simp [filtI]
  | x :: a, b, i => by
    simp only [List.cons_append, filtI, filtI_append f a b (i + 1), List.length_cons]
    rw [show i + 1 + a.length = i + (a.length + 1) by omega]
    split <;> rfl
def PF2T (P : Program) (fv : Value) (M : Hp) (f : Int → Int → Int × Bool) : Prop := fv.oneCell' = true ∧ ∀ x i : Int, Pu P fv M [.int .i64 x, .int .i64 i] (fun r _ => r = .tuple #[.int .i64 (f x i).1, .bool (f x i).2])
theorem PF2T.le {P : Program} {fv : Value} {M M' : Hp} {f : Int → Int → Int × Bool} (h : PF2T P fv M f) (hM : Hp.le M M') : PF2T P fv M' f := ⟨h.1, fun x i => (h.2 x i).le hM⟩
theorem filtI_prefix0 {f : Int → Int → Bool} {p l : List Int} (hp : p <+: l) : filtI f 0 p <+: filtI f 0 l := by
  obtain ⟨t, rfl⟩ := hp
  rw [filtI_append]; exact List.prefix_append _ _
theorem filtI_app1 (f : Int → Int → Bool) (a : List Int) (x : Int) : filtI f 0 (a ++ [x]) = filtI f 0 a ++ (if f x a.length then [x] else []) := by
  rw [filtI_append, Nat.zero_add]; rfl
theorem filtI_prefix {f : Int → Int → Bool} {p l : List Int} {x : Int} (hp : p ++ [x] <+: l) (hk : f x p.length = true) : filtI f 0 p ++ [x] <+: filtI f 0 l := by
  have h := filtI_prefix0 (f := f) hp
  rw [filtI_app1, if_pos hk] at h; exact h

def keyL (l : List Int) : List Int := l.foldl addS []
theorem keyL_succ {l : List Int} {k : Nat} {x : Int} (h : l[k]? = some x) : keyL (l.take (k + 1)) = addS (keyL (l.take k)) x := by rw [List.take_add_one, h]; simp [keyL]
theorem mem_foldl_addS (l : List Int) : ∀ (s : List Int) (x : Int), x ∈ l.foldl addS s ↔ x ∈ s ∨ x ∈ l := by
  induction l with
  | nil => intro s x; simp
  | cons a l ih => intro s x; rw [List.foldl_cons, ih, mem_addS]; simp [or_assoc]
theorem mem_keyL {l : List Int} {x : Int} : x ∈ keyL l ↔ x ∈ l := by unfold keyL; rw [mem_foldl_addS]; simp
theorem keyL_nodup (l : List Int) : (keyL l).Nodup := by
  unfold keyL
  suffices h : ∀ (l s : List Int), s.Nodup → (l.foldl addS s).Nodup from h l [] (by simp)
  intro l; induction l with
  | nil => intro s h; exact h
  | cons a l ih => intro s h; exact ih _ (addS_nodup h a)
theorem filter_succ {p : Int → Bool} {l : List Int} {k : Nat} {x : Int} (h : l[k]? = some x) : (l.take (k + 1)).filter p = (l.take k).filter p ++ (if p x then [x] else []) := by
  rw [List.take_add_one, h, List.filter_append]; simp only [Option.toList_some, List.filter_cons, List.filter_nil]
theorem filtI_flt (p : Int → Bool) : ∀ (l : List Int) (i : Nat), filtI (fun x _ => p x) i l = l.filter p
  | [], _ => rfl
  | x :: l, i => by simp only [filtI, List.filter_cons, filtI_flt p l]

theorem take_s {l : List Int} {k : Nat} {x : Int} (hx : l[k]? = some x) : l.take (k + 1) = l.take k ++ [x] ∧ (l.take k).length = k := by
  have hk := (List.getElem?_eq_some_iff.1 hx).1
  rw [List.take_add_one, hx]; exact ⟨rfl, by rw [List.length_take]; omega⟩
theorem foldl_inv {σ : Type} (f : σ → Int → σ) (Q : List Int → σ → Prop) (s0 : σ) (h0 : Q [] s0) (hs : ∀ p x, Q p (p.foldl f s0) → Q (p ++ [x]) (f (p.foldl f s0) x)) : ∀ (n : Nat) (l : List Int), l.length = n → Q l (l.foldl f s0)
  | 0, l, h => by have := List.eq_nil_of_length_eq_zero h; subst this; exact h0
  | n + 1, l, h => by
    obtain ⟨p, x, rfl⟩ : ∃ p x, l = p ++ [x] := ⟨l.dropLast, l.getLast (by intro e; subst e; simp at h), (List.dropLast_concat_getLast _).symm⟩
    have ih := foldl_inv f Q s0 h0 hs n p (by simpa using h)
    have e : (p ++ [x]).foldl f s0 = f (p.foldl f s0) x := by simp
    rw [e]; exact hs p x ih
theorem take_snoc {b : List Int} {i : Nat} {x : Int} (h : b[i]? = some x) : b.take (i + 1) = b.take i ++ [x] := by rw [List.take_add_one, h]; rfl
def SortedI (l : List Int) : Prop := l.Pairwise (· ≤ ·)
theorem sorted_eq : ∀ {a b : List Int}, SortedI a → SortedI b → a.Perm b → a = b
  | [], b, _, _, h => (List.nil_perm.1 h).symm ▸ rfl
  | x :: a, [], _, _, h => by simp at h
  | x :: a, y :: b, ha, hb, h => by
    unfold SortedI at ha hb
    rw [List.pairwise_cons] at ha hb
    have h1 : x ≤ y := by
      rcases List.mem_cons.1 (h.symm.subset (List.mem_cons_self ..)) with e | e
      · omega
      · exact ha.1 y e
    have h2 : y ≤ x := by
      rcases List.mem_cons.1 (h.subset (List.mem_cons_self ..)) with e | e
      · omega
      · exact hb.1 x e
    have e : x = y := by omega
    subst e
    rw [sorted_eq ha.2 hb.2 ((List.perm_cons x).1 h)]
/-! ## a set, as a rising list -/
def insU (x : Int) (l : List Int) : List Int := l.takeWhile (fun y => decide (y < x)) ++ (if x ∈ l then [] else [x]) ++ l.dropWhile (fun y => decide (y < x))
def setI (l : List Int) : List Int := l.foldl (fun s x => insU x s) []
def SortedU (l : List Int) : Prop := l.Pairwise (· < ·)
theorem setI_app (l : List Int) (x : Int) : setI (l ++ [x]) = insU x (setI l) := by simp [setI]
theorem setI_take {l : List Int} {k : Nat} {x : Int} (h : l[k]? = some x) : setI (l.take (k + 1)) = insU x (setI (l.take k)) := by rw [(take_s h).1, setI_app]
theorem insU_same {x : Int} {l : List Int} (h : x ∈ l) : insU x l = l := by
  unfold insU; rw [if_pos h, List.append_nil, List.takeWhile_append_dropWhile]
theorem insU_mem {x z : Int} {l : List Int} : z ∈ insU x l ↔ z = x ∨ z ∈ l := by
  by_cases h : x ∈ l
  · rw [insU_same h]; constructor
    · exact .inr
    · rintro (rfl | h2); exact h; exact h2
  · unfold insU; rw [if_neg h]
    have e : l = l.takeWhile (fun y => decide (y < x)) ++ l.dropWhile (fun y => decide (y < x)) := (List.takeWhile_append_dropWhile).symm
    conv => rhs; rw [e]
    simp only [List.mem_append, List.mem_singleton]
    constructor
    · rintro ((h1 | h1) | h1); exact .inr (.inl h1); exact .inl h1; exact .inr (.inr h1)
    · rintro (h1 | h1 | h1); exact .inl (.inr h1); exact .inl (.inl h1); exact .inr h1
theorem insU_len (x : Int) (l : List Int) : (insU x l).length ≤ l.length + 1 := by
  have := congrArg List.length (List.takeWhile_append_dropWhile (p := fun y => decide (y < x)) (l := l))
  rw [List.length_append] at this
  unfold insU; simp only [List.length_append]; split <;> simp <;> omega
theorem insU_sorted {x : Int} {l : List Int} (h : SortedU l) : SortedU (insU x l) := by
  by_cases hx : x ∈ l
  · rw [insU_same hx]; exact h
  · unfold insU; rw [if_neg hx]
    unfold SortedU at h ⊢
    induction l with
    | nil => simp
    | cons a l ih =>
      have hx2 : x ∉ l := fun e => hx (by simp [e])
      rw [List.pairwise_cons] at h
      by_cases ha : a < x
      · simp only [List.takeWhile_cons, List.dropWhile_cons, ha, decide_true, if_true, List.cons_append, List.pairwise_cons]
        refine ⟨fun y hy => ?_, ih h.2 hx2⟩
        have e : l.takeWhile (fun y => decide (y < x)) ++ l.dropWhile (fun y => decide (y < x)) = l := List.takeWhile_append_dropWhile
        simp only [List.mem_append, List.mem_singleton] at hy
        rcases hy with (hy | hy) | hy
        · exact h.1 y (by rw [← e]; exact List.mem_append_left _ hy)
        · omega
        · exact h.1 y (by rw [← e]; exact List.mem_append_right _ hy)
      · have hne : x ≠ a := fun e => hx (by simp [e])
        simp only [List.takeWhile_cons, List.dropWhile_cons, ha, decide_false, Bool.false_eq_true, if_false, List.nil_append, List.singleton_append, List.pairwise_cons]
        refine ⟨fun y hy => ?_, h.1, h.2⟩
        rcases List.mem_cons.1 hy with rfl | hy
        · omega
        · have := h.1 y hy; omega
theorem setI_spec (l : List Int) : SortedU (setI l) ∧ (∀ z, z ∈ setI l ↔ z ∈ l) ∧ (setI l).length ≤ l.length :=
  foldl_inv (fun s x => insU x s) (fun p s => SortedU s ∧ (∀ z, z ∈ s ↔ z ∈ p) ∧ s.length ≤ p.length) [] ⟨List.Pairwise.nil, fun z => Iff.rfl, Nat.le_refl _⟩ (fun p x h => ⟨insU_sorted h.1, fun z => by rw [insU_mem, h.2.1, List.mem_append, List.mem_singleton]; exact Or.comm, by have := insU_len x (p.foldl (fun s x => insU x s) []); simp; omega⟩) _ l rfl
theorem SortedU.nodup {l : List Int} (h : SortedU l) : l.Nodup := List.Pairwise.imp (fun h => by omega) h
theorem SortedU.le {l : List Int} (h : SortedU l) : SortedI l := List.Pairwise.imp (fun h => by omega) h
theorem setI_eq {a b : List Int} (h : ∀ z, z ∈ a ↔ z ∈ b) : setI a = setI b := by
  have ha := setI_spec a
  have hb := setI_spec b
  refine sorted_eq ha.1.le hb.1.le ((List.perm_ext_iff_of_nodup ha.1.nodup hb.1.nodup).2 fun z => ?_)
  rw [ha.2.1, hb.2.1, h]
theorem split_at {p : Int → Bool} {s : List Int} {j : Nat} (h : ∀ y ∈ s.take j, p y = true) (h2 : s.length ≤ j ∨ ∃ v, s[j]? = some v ∧ p v = false) : s.takeWhile p = s.take j ∧ s.dropWhile p = s.drop j := by
  induction s generalizing j with
  | nil => simp
  | cons a s ih =>
    cases j with
    | zero =>
      rcases h2 with h2 | ⟨v, hv, hn⟩
      · simp at h2
      · have : a = v := by simpa using hv
        subst this
        simp [List.takeWhile_cons, List.dropWhile_cons, hn]
    | succ j =>
      have ha : p a = true := h a (by simp)
      have := ih (j := j) (fun y hy => h y (by simp [hy])) (by
        rcases h2 with h2 | ⟨v, hv, hn⟩
        · left; simp at h2; omega
        · right; exact ⟨v, by simpa using hv, hn⟩)
      simp [List.takeWhile_cons, List.dropWhile_cons, ha, this.1, this.2]
theorem set_at {s : List Int} {x : Int} {j : Nat} (hs : SortedU s) (h : ∀ y ∈ s.take j, y < x) (h2 : s.length ≤ j ∨ ∃ v, s[j]? = some v ∧ ¬ v < x ∧ ¬ v = x) : s.take j ++ [x] ++ s.drop j = insU x s := by
  obtain ⟨e1, e2⟩ := split_at (p := fun y => decide (y < x)) (fun y hy => decide_eq_true (h y hy)) (by
    rcases h2 with h2 | ⟨v, hv, hn, _⟩
    · exact .inl h2
    · exact .inr ⟨v, hv, decide_eq_false hn⟩)
  have hx : x ∉ s := by
    intro hx
    rw [← List.take_append_drop j s, List.mem_append] at hx
    rcases hx with hx | hx
    · have := h x hx; omega
    · rcases h2 with h2 | ⟨v, hv, hn, hn2⟩
      · rw [List.drop_of_length_le h2] at hx; cases hx
      · have hj := (List.getElem?_eq_some_iff.1 hv).1
        have hd : s.drop j = v :: s.drop (j + 1) := by rw [List.drop_eq_getElem_cons hj, (List.getElem?_eq_some_iff.1 hv).2]
        rw [hd] at hx
        rcases List.mem_cons.1 hx with e | hx
        · exact hn2 e.symm
        · have hp : (s.drop j).Pairwise (· < ·) := List.Pairwise.sublist (List.drop_sublist _ _) hs
          rw [hd, List.pairwise_cons] at hp
          have := hp.1 x hx; omega
  unfold insU; rw [if_neg hx, e1, e2]
theorem set_bubble {s : List Int} {x : Int} {i : Nat} (hs : SortedU s) (hx : x ∉ s) (h : ∀ y ∈ s.drop i, x < y) (hi : i ≤ s.length) (h2 : i = 0 ∨ ∃ v, s[i - 1]? = some v ∧ ¬ x < v) : s.take i ++ [x] ++ s.drop i = insU x s := by
  refine set_at hs (fun y hy => ?_) ?_
  · rcases h2 with h2 | ⟨v, hv, hn⟩
    · subst h2; simp at hy
    · obtain ⟨m, hm⟩ := List.mem_iff_getElem?.1 hy
      have hm1 := (List.getElem?_eq_some_iff.1 hm).1
      rw [List.length_take] at hm1
      rw [List.getElem?_take_of_lt (by omega)] at hm
      have hy2 := (List.getElem?_eq_some_iff.1 hm).2
      have hv2 := (List.getElem?_eq_some_iff.1 hv).2
      have hyv : y ≤ v := by
        by_cases e : m = i - 1
        · subst e; rw [hy2] at hv2; omega
        · have := List.pairwise_iff_getElem.1 hs m (i - 1) (by omega) (by omega) (by omega)
          rw [hy2, hv2] at this; omega
      have : y ≠ x := fun e => hx (by rw [← e]; exact List.mem_of_getElem? hm)
      omega
  · by_cases hl : s.length ≤ i
    · exact .inl hl
    · right
      refine ⟨s[i], List.getElem?_eq_getElem (by omega), ?_⟩
      have := h s[i] (by rw [List.drop_eq_getElem_cons (by omega)]; exact List.mem_cons_self ..)
      exact ⟨by omega, by omega⟩
theorem filt_take {p : Int → Bool} {l : List Int} {k : Nat} {x : Int} (h : l[k]? = some x) : (l.take (k + 1)).filter p = (l.take k).filter p ++ (if p x then [x] else []) := by
  rw [(take_s h).1, List.filter_append]; cases hp : p x <;> simp [hp]
theorem bubble_step {s : List Int} {x v : Int} {i : Nat} (h0 : 0 < i) (hi : i ≤ s.length) (hv : s[i - 1]? = some v) : s.take (i - 1) ++ [x] ++ s.drop (i - 1) = ((s.take i ++ [x] ++ s.drop i).set i v).set (i - 1) x := by
  obtain ⟨m, rfl⟩ : ∃ m, i = m + 1 := ⟨i - 1, by omega⟩
  simp only [Nat.add_sub_cancel] at hv ⊢
  have hm := (List.getElem?_eq_some_iff.1 hv).1
  have e1 : s.take (m + 1) = s.take m ++ [v] := take_snoc hv
  have e2 : s.drop m = v :: s.drop (m + 1) := by rw [List.drop_eq_getElem_cons hm, (List.getElem?_eq_some_iff.1 hv).2]
  rw [e1, e2]
  have hl : (s.take m).length = m := by rw [List.length_take]; omega
  simp [List.set_append, hl]

theorem setI_take' {l : List Int} {k : Nat} {x : Int} (h : l[k]? = some x) : setI (l.take (k + 1)) = insU (l[k]?.getD 0) (setI (l.take k)) := by rw [setI_take h, h]; rfl
theorem bub_at {s : List Int} {x v : Int} {i : Nat} (hi : i ≤ s.length) (h : (s.take i ++ [x] ++ s.drop i)[i]? = some v) : v = x := by
  rw [List.append_assoc, List.getElem?_append_right (by rw [List.length_take]; omega), List.length_take, Nat.min_eq_left hi, Nat.sub_self] at h
  simpa using h.symm
theorem bub_left {s : List Int} {x v : Int} {i : Nat} (h0 : 0 < i) (hi : i ≤ s.length) (h : (s.take i ++ [x] ++ s.drop i)[i - 1]? = some v) : s[i - 1]? = some v := by
  rw [List.append_assoc, List.getElem?_append_left (by rw [List.length_take]; omega), List.getElem?_take_of_lt (by omega)] at h
  exact h
theorem drop_bub {s : List Int} {x v : Int} {i : Nat} (h : ∀ y ∈ s.drop i, x < y) (h0 : 0 < i) (hi : i ≤ s.length) (hv : s[i - 1]? = some v) (hlt : x < v) : ∀ y ∈ s.drop (i - 1), x < y := by
  obtain ⟨m, rfl⟩ : ∃ m, i = m + 1 := ⟨i - 1, by omega⟩
  simp only [Nat.add_sub_cancel] at hv ⊢
  have hm := (List.getElem?_eq_some_iff.1 hv).1
  rw [List.drop_eq_getElem_cons hm, (List.getElem?_eq_some_iff.1 hv).2]
  intro y hy
  rcases List.mem_cons.1 hy with rfl | hy
  · exact hlt
  · exact h y hy

instance (l : List Int) : Decidable (SortedI l) := inferInstanceAs (Decidable (l.Pairwise (· ≤ ·)))
theorem srtM_sorted (l : List Int) : SortedI (srtM l) := by
  have := List.pairwise_mergeSort (le := fun x y : Int => decide (x ≤ y)) (fun a b c h1 h2 => by simp at *; omega) (fun a b => by simp; omega) l
  exact List.Pairwise.imp (fun h => by simpa using h) this
theorem srtM_perm (l : List Int) : (srtM l).Perm l := List.mergeSort_perm ..
theorem srtM_perm_eq {a b : List Int} (h : a.Perm b) : srtM a = srtM b := sorted_eq (srtM_sorted a) (srtM_sorted b) ((srtM_perm a).trans (h.trans (srtM_perm b).symm))
theorem keyL_le' (l : List Int) : (keyL l).length ≤ l.length :=
  foldl_inv addS (fun p s => s.length ≤ p.length) [] (Nat.le_refl _) (fun p x h => by
    generalize p.foldl addS [] = s at h ⊢
    unfold addS; split
    · simp; omega
    · simp; omega) _ l rfl
theorem snocN {p : List Int} {k : Int} (h : p.Nodup) (hk : k ∉ p) : (p ++ [k]).Nodup :=
  List.nodup_append.2 ⟨h, by simp, fun a ha b hb => by simp at hb; subst hb; intro e; subst e; exact hk ha⟩
theorem snocS {p m : List Int} {k : Int} (h : ∀ z ∈ p, z ∈ m) (hk : k ∈ m) : ∀ z ∈ p ++ [k], z ∈ m := by
  intro z hz; rcases List.mem_append.1 hz with e | e
  · exact h z e
  · simp at e; rw [e]; exact hk

theorem keyL_snoc (l : List Int) (y : Int) : keyL (l ++ [y]) = addS (keyL l) y := by unfold keyL; rw [List.foldl_append]; rfl
theorem row_snoc {ll : List (List Int)} {k j : Nat} {x : List Int} {y : Int} (h : ll[k]? = some x) (hj : x[j]? = some y) : (ll.take k).flatten ++ (ll[k]?.getD []).take (j + 1) = ((ll.take k).flatten ++ (ll[k]?.getD []).take j) ++ [y] := by
  rw [h, List.append_assoc]; simp only [Option.getD_some]; rw [take_snoc hj]
theorem row_end {ll : List (List Int)} {k j : Nat} {x : List Int} (h : ll[k]? = some x) (hj : x.length ≤ j) : (ll.take (k + 1)).flatten = (ll.take k).flatten ++ (ll[k]?.getD []).take j := by
  rw [flatten_succ h, h]; simp only [Option.getD_some]; rw [List.take_of_length_le hj]
theorem keyU_le (ll : List (List Int)) (k j : Nat) : (keyL ((ll.take k).flatten ++ (ll[k]?.getD []).take j)).length ≤ total ll := by
  refine Nat.le_trans (keyL_le' _) ?_
  have h2 := total_take_le ll (k + 1)
  rw [List.length_append, flatten_len]
  cases h : ll[k]? with
  | none => have := total_take_le ll k; simp only [Option.getD_none, List.take_nil, List.length_nil]; omega
  | some x => rw [total_succ h] at h2; simp only [Option.getD_some, List.length_take]; omega
theorem keyF_le (ll : List (List Int)) (k : Nat) : (keyL (ll.take k).flatten).length ≤ total ll := by
  refine Nat.le_trans (keyL_le' _) ?_
  rw [flatten_len]; exact total_take_le ll k
/-! ## what lists have in common -/
theorem putK_has {β : Type} {k : Int} {v : β} : ∀ {L : List (Int × β)}, (L.map Prod.fst).Nodup → k ∈ L.map Prod.fst → putK L k v = L.map (fun p => if p.1 = k then (k, v) else p)
  | [], _, h => by cases h
  | p :: L, hn, h => by
    rw [List.map_cons, List.nodup_cons] at hn
    unfold putK
    by_cases hp : p.1 = k
    · have : ∀ q ∈ L, (fun q : Int × β => if q.1 = k then (k, v) else q) q = id q := fun q hq => by
        show (if q.1 = k then (k, v) else q) = q
        rw [if_neg]; intro e; exact hn.1 (by rw [hp, ← e]; exact List.mem_map_of_mem (f := Prod.fst) hq)
      rw [if_pos hp, List.map_cons, if_pos hp, List.map_congr_left this, List.map_id]
    · rw [if_neg hp, List.map_cons, if_neg hp, putK_has hn.2]
      rw [List.map_cons] at h
      rcases List.mem_cons.1 h with e | e
      · exact absurd e.symm hp
      · exact e
def bmap (S : List Int) (f : Int → Bool) : List (Int × Bool) := S.map fun y => (y, f y)
theorem bm_keys (S : List Int) (f : Int → Bool) : (bmap S f).map Prod.fst = S := by unfold bmap; rw [List.map_map]; simp [Function.comp_def]
theorem bm_len (S : List Int) (f : Int → Bool) : (bmap S f).length = S.length := List.length_map _
theorem bm_has (S : List Int) (f : Int → Bool) (x : Int) : hasK (bmap S f) x = decide (x ∈ S) := by unfold hasK; rw [bm_keys]
theorem bm_congr {S : List Int} {f g : Int → Bool} (h : ∀ y ∈ S, f y = g y) : bmap S f = bmap S g := List.map_congr_left fun y hy => by rw [h y hy]
theorem bm_put {S : List Int} {f : Int → Bool} {x : Int} {b : Bool} (hn : S.Nodup) (hx : x ∈ S) : putK (bmap S f) x b = bmap S (fun y => if y = x then b else f y) := by
  rw [putK_has (by rw [bm_keys]; exact hn) (by rw [bm_keys]; exact hx)]
  unfold bmap; rw [List.map_map]
  refine List.map_congr_left fun y hy => ?_
  show (if y = x then (x, b) else (y, f y)) = _
  by_cases e : y = x
  · subst e; simp
  · simp [e]
theorem bm_del (S : List Int) (f : Int → Bool) (x : Int) : delK (bmap S f) x = bmap (S.filter (fun y => decide (y ≠ x))) f := by
  unfold delK bmap; rw [List.filter_map]; rfl
theorem bm_add (l : List Int) (x : Int) : putK (bmap (keyL l) (fun _ => false)) x false = bmap (keyL (l ++ [x])) (fun _ => false) := by
  rw [keyL_snoc]; unfold addS
  by_cases h : x ∈ keyL l
  · rw [if_pos h, bm_put (keyL_nodup l) h]; exact bm_congr fun y _ => by simp
  · rw [if_neg h, putK_no (by rw [bm_keys]; exact h)]; unfold bmap; simp
def mkd (m : List Int) (y : Int) : Bool := decide (y ∈ m)
theorem mk_yes {S m : List Int} {x : Int} (hn : S.Nodup) (h : hasK (bmap S (mkd m)) x = true) : putK (bmap S (mkd m)) x true = bmap S (mkd (m ++ [x])) := by
  rw [bm_has, decide_eq_true_eq] at h
  rw [bm_put hn h]
  refine bm_congr fun y _ => ?_
  unfold mkd
  by_cases e : y = x <;> simp [e]
theorem mk_no {S m : List Int} {x : Int} (h : ¬ hasK (bmap S (mkd m)) x = true) : bmap S (mkd m) = bmap S (mkd (m ++ [x])) := by
  rw [bm_has, decide_eq_true_eq] at h
  refine bm_congr fun y hy => ?_
  have e : y ≠ x := fun e => h (by rw [← e]; exact hy)
  unfold mkd; simp [e]
theorem mk_start (S : List Int) : bmap S (mkd []) = bmap S (fun _ => false) := bm_congr fun y _ => by simp [mkd]
theorem fmap_congr {α β : Type} {f g : α → Option β} : ∀ {l : List α}, (∀ x ∈ l, f x = g x) → l.filterMap f = l.filterMap g
  | [], _ => rfl
  | x :: l, h => by rw [List.filterMap_cons, List.filterMap_cons, h x (List.mem_cons_self ..), fmap_congr fun y hy => h y (List.mem_cons_of_mem _ hy)]
def stepD (S : List Int) (f : Int → Bool) (D : List Int) : List (Int × Bool) := S.filterMap fun y => if y ∈ D then (if f y then some (y, false) else none) else some (y, f y)
theorem sd_start (S : List Int) (f : Int → Bool) : stepD S f [] = bmap S f := by unfold stepD bmap; simp
theorem sd_keys (S : List Int) (f : Int → Bool) (D : List Int) : (stepD S f D).map Prod.fst = S.filter (fun y => !decide (y ∈ D) || f y) := by
  unfold stepD
  induction S with
  | nil => rfl
  | cons y S ih =>
    rw [List.filterMap_cons, List.filter_cons]
    by_cases h : y ∈ D
    · by_cases h2 : f y = true
      · simp [h, h2, ih]
      · simp [h, h2, ih]
    · simp [h, ih]
theorem sd_nodup {S : List Int} (hn : S.Nodup) (f : Int → Bool) (D : List Int) : ((stepD S f D).map Prod.fst).Nodup := by rw [sd_keys]; exact hn.filter _
theorem sd_mem {S D : List Int} {f : Int → Bool} {k : Int} {u : Bool} (h : (k, u) ∈ stepD S f D) (hk : k ∉ D) : k ∈ S ∧ f k = u := by
  unfold stepD at h
  obtain ⟨y, hy, e⟩ := List.mem_filterMap.1 h
  by_cases hd : y ∈ D
  · rw [if_pos hd] at e
    split at e
    · cases e; exact absurd hd hk
    · cases e
  · rw [if_neg hd] at e; cases e; exact ⟨hy, rfl⟩
theorem sd_yes {S D : List Int} {f : Int → Bool} {k : Int} {u : Bool} (hn : S.Nodup) (h : (k, u) ∈ stepD S f D) (hk : k ∉ D) (hu : u = true) : putK (stepD S f D) k false = stepD S f (D ++ [k]) := by
  have hm := sd_mem h hk
  rw [putK_has (sd_nodup hn f D) (List.mem_map_of_mem (f := Prod.fst) h)]
  unfold stepD
  rw [List.map_filterMap]
  refine fmap_congr fun y hy => ?_
  by_cases hd : y ∈ D
  · have : y ≠ k := fun e => hk (by rw [← e]; exact hd)
    cases hf : f y <;> simp [hd, hf, this]
  · by_cases e : y = k
    · subst e; simp [hd, hm.2, hu]
    · simp [hd, e]
theorem sd_no {S D : List Int} {f : Int → Bool} {k : Int} {u : Bool} (h : (k, u) ∈ stepD S f D) (hk : k ∉ D) (hu : ¬ u = true) : delK (stepD S f D) k = stepD S f (D ++ [k]) := by
  have hm := sd_mem h hk
  have hf : f k = false := by rw [hm.2]; simpa using hu
  unfold stepD delK
  rw [List.filter_filterMap]
  refine fmap_congr fun y hy => ?_
  by_cases hd : y ∈ D
  · have : y ≠ k := fun e => hk (by rw [← e]; exact hd)
    cases hf : f y <;> simp [hd, hf, this]
  · by_cases e : y = k
    · subst e; simp [hd, hf]
    · simp [hd, e]
theorem sd_end {S D : List Int} {f : Int → Bool} (h : ∀ z ∈ stepD S f D, z.1 ∈ D) : stepD S f D = bmap (S.filter f) (fun _ => false) := by
  have h2 : ∀ y ∈ S, y ∈ D := fun y hy => by
    by_cases hd : y ∈ D
    · exact hd
    · exact h (y, f y) (List.mem_filterMap.2 ⟨y, hy, by rw [if_neg hd]⟩)
  unfold stepD bmap
  rw [← List.filterMap_eq_map, ← List.filterMap_eq_filter, List.filterMap_filterMap]
  refine fmap_congr fun y hy => ?_
  rw [if_pos (h2 y hy)]
  cases hf : f y <;> simp [Option.guard, hf]
def remI (f : Int → Int) (S p : List Int) : List Int := S.filter (fun y => !decide (y ∈ p.map f))
def iscI (f : Int → Int) : List Int → List Int → List Int
  | _, [] => []
  | S, x :: l => if f x ∈ S then x :: iscI f (S.filter (fun y => decide (y ≠ f x))) l else iscI f S l
theorem rem_cons (f : Int → Int) (S : List Int) (a : Int) (p : List Int) : remI f (S.filter (fun y => decide (y ≠ f a))) p = remI f S (a :: p) := by
  unfold remI; rw [List.filter_filter]
  refine List.filter_congr fun y _ => ?_
  by_cases e : y = f a <;> simp [e]
theorem rem_out {f : Int → Int} {S : List Int} {a : Int} (p : List Int) (h : ¬ f a ∈ S) : remI f S p = remI f S (a :: p) := by
  unfold remI
  refine List.filter_congr fun y hy => ?_
  have e : y ≠ f a := fun e => h (by rw [← e]; exact hy)
  simp [e]
theorem rem_snoc (f : Int → Int) (S p : List Int) (x : Int) : (remI f S p).filter (fun y => decide (y ≠ f x)) = remI f S (p ++ [x]) := by
  unfold remI; rw [List.filter_filter]
  refine List.filter_congr fun y _ => ?_
  by_cases e : y = f x <;> simp [e]
theorem rem_same {f : Int → Int} {S p : List Int} {x : Int} (h : ¬ f x ∈ remI f S p) : remI f S p = remI f S (p ++ [x]) := by
  rw [← rem_snoc, List.filter_eq_self.2]
  intro y hy
  have e : y ≠ f x := fun e => h (by rw [← e]; exact hy)
  simpa using e
theorem isc_snoc (f : Int → Int) (x : Int) : ∀ (p S : List Int), iscI f S (p ++ [x]) = iscI f S p ++ (if f x ∈ remI f S p then [x] else [])
  | [], S => by
    have : remI f S [] = S := by unfold remI; simp
    simp only [List.nil_append, iscI, this]
  | a :: p, S => by
    simp only [List.cons_append, iscI]
    by_cases h : f a ∈ S
    · rw [if_pos h, if_pos h, isc_snoc f x p, rem_cons, List.cons_append]
    · rw [if_neg h, if_neg h, isc_snoc f x p, rem_out p h]
theorem isc_yes {f : Int → Int} {x : Int} {p S : List Int} (h : hasK (bmap (remI f S p) (fun _ => false)) (f x) = true) : iscI f S p ++ [x] = iscI f S (p ++ [x]) := by
  rw [bm_has, decide_eq_true_eq] at h; rw [isc_snoc, if_pos h]
theorem isc_no {f : Int → Int} {x : Int} {p S : List Int} (h : ¬ hasK (bmap (remI f S p) (fun _ => false)) (f x) = true) : iscI f S p = iscI f S (p ++ [x]) := by
  rw [bm_has, decide_eq_true_eq] at h; rw [isc_snoc, if_neg h, List.append_nil]
theorem rs_yes (f : Int → Int) (S p : List Int) (x : Int) : delK (bmap (remI f S p) (fun _ => false)) (f x) = bmap (remI f S (p ++ [x])) (fun _ => false) := by rw [bm_del, rem_snoc]
theorem rs_no {f : Int → Int} {x : Int} {p S : List Int} (h : ¬ hasK (bmap (remI f S p) (fun _ => false)) (f x) = true) : bmap (remI f S p) (fun _ => false) = bmap (remI f S (p ++ [x])) (fun _ => false) := by
  rw [bm_has, decide_eq_true_eq] at h; rw [← rem_same h]
theorem rs_start (f : Int → Int) (S : List Int) : bmap S (fun _ => false) = bmap (remI f S []) (fun _ => false) := by unfold remI; rw [List.filter_eq_self.2 (by simp)]
theorem isc_pre (f : Int → Int) : ∀ (a b S : List Int), iscI f S a <+: iscI f S (a ++ b)
  | [], b, S => List.nil_prefix
  | x :: a, b, S => by
    simp only [List.cons_append, iscI]
    split
    · exact (List.prefix_cons_inj _).2 (isc_pre f a b _)
    · exact isc_pre f a b _
theorem isc_prefix {f : Int → Int} {p l S : List Int} (h : p <+: l) : iscI f S p <+: iscI f S l := by obtain ⟨t, rfl⟩ := h; exact isc_pre f _ _ _
theorem isc_len (f : Int → Int) : ∀ (l S : List Int), (iscI f S l).length ≤ l.length
  | [], S => Nat.le_refl _
  | x :: l, S => by
    simp only [iscI]; split
    · have := isc_len f l (S.filter (fun y => decide (y ≠ f x))); simp only [List.length_cons]; omega
    · have := isc_len f l S; simp only [List.length_cons]; omega
/-- the keys that the last list and the j ones ahead of it have in common -/
def sjI (f : Int → Int) (ll : List (List Int)) : Nat → List Int
  | 0 => keyL ((ll.getD (ll.length - 1) []).map f)
  | j + 1 => (sjI f ll j).filter (mkd ((ll.getD (ll.length - 2 - j) []).map f))
theorem sj_nodup (f : Int → Int) (ll : List (List Int)) : ∀ j, (sjI f ll j).Nodup
  | 0 => keyL_nodup _
  | j + 1 => (sj_nodup f ll j).filter _
theorem sj_empty {f : Int → Int} {ll : List (List Int)} {j : Nat} (h : sjI f ll j = []) : ∀ i, sjI f ll (j + i) = []
  | 0 => h
  | i + 1 => by show (sjI f ll (j + i)).filter _ = []; rw [sj_empty h i]; rfl
theorem sj_len (f : Int → Int) (ll : List (List Int)) : ∀ j, (sjI f ll j).length ≤ (ll.getD (ll.length - 1) []).length
  | 0 => by
    show (keyL _).length ≤ _
    have h : ∀ (l : List Int) (s : List Int), (l.foldl addS s).length ≤ s.length + l.length := by
      intro l
      induction l with
      | nil => intro s; simp
      | cons a l ih => intro s; rw [List.foldl_cons]; have := ih (addS s a); have h3 : (addS s a).length ≤ s.length + 1 := (by unfold addS; split <;> simp); simp only [List.length_cons]; omega
    have := h ((ll.getD (ll.length - 1) []).map f) []
    rw [List.length_map] at this
    unfold keyL; simpa using this
  | j + 1 => Nat.le_trans (List.length_filter_le _ _) (sj_len f ll j)
def meetF (f : Int → Int) (ll : List (List Int)) : List Int := iscI f (sjI f ll (ll.length - 2)) (ll.getD 0 [])
theorem meet_end {f : Int → Int} {ll : List (List Int)} {k : Nat} (h : k ≤ ll.length - 2) (h2 : k = ll.length - 2 ∨ sjI f ll k = []) (l : List Int) : iscI f (sjI f ll k) l = iscI f (sjI f ll (ll.length - 2)) l := by
  rcases h2 with h2 | h2
  · rw [h2]
  · have := sj_empty h2 (ll.length - 2 - k)
    rw [show k + (ll.length - 2 - k) = ll.length - 2 by omega] at this
    rw [h2, this]
theorem mem_sj {f : Int → Int} {ll : List (List Int)} {y : Int} : ∀ {j : Nat}, j + 2 ≤ ll.length ∨ j = 0 → (y ∈ sjI f ll j ↔ y ∈ (ll.getD (ll.length - 1) []).map f ∧ ∀ i, i < j → y ∈ (ll.getD (ll.length - 2 - i) []).map f)
  | 0, _ => by
    show y ∈ keyL _ ↔ _
    rw [mem_keyL]; exact ⟨fun h => ⟨h, fun i hi => by omega⟩, fun h => h.1⟩
  | j + 1, h => by
    show y ∈ (sjI f ll j).filter _ ↔ _
    rw [List.mem_filter, mem_sj (j := j) (by omega)]
    unfold mkd; rw [decide_eq_true_eq]
    constructor
    · rintro ⟨⟨h1, h2⟩, h3⟩
      refine ⟨h1, fun i hi => ?_⟩
      by_cases e : i = j
      · subst e; exact h3
      · exact h2 i (by omega)
    · rintro ⟨h1, h2⟩
      exact ⟨⟨h1, fun i hi => h2 i (by omega)⟩, h2 j (by omega)⟩
theorem mem_sjE {f : Int → Int} {ll : List (List Int)} {y : Int} (hl : 2 ≤ ll.length) : y ∈ sjI f ll (ll.length - 2) ↔ ∀ i, 1 ≤ i → i < ll.length → y ∈ (ll.getD i []).map f := by
  rw [mem_sj (by omega)]
  constructor
  · rintro ⟨h1, h2⟩ i h3 h4
    by_cases e : i = ll.length - 1
    · subst e; exact h1
    · have := h2 (ll.length - 2 - i) (by omega)
      rw [show ll.length - 2 - (ll.length - 2 - i) = i by omega] at this; exact this
  · intro h
    exact ⟨h _ (by omega) (by omega), fun i hi => h _ (by omega) (by omega)⟩
theorem isc_mem {f : Int → Int} : ∀ {l S : List Int}, (∀ x ∈ iscI f S l, x ∈ l ∧ f x ∈ S) ∧ ((iscI f S l).map f).Nodup ∧ (∀ x ∈ l, f x ∈ S → f x ∈ (iscI f S l).map f)
  | [], S => by simp [iscI]
  | a :: l, S => by
    simp only [iscI]
    by_cases h : f a ∈ S
    · rw [if_pos h]
      obtain ⟨h1, h2, h3⟩ := isc_mem (f := f) (l := l) (S := S.filter (fun y => decide (y ≠ f a)))
      refine ⟨fun x hx => ?_, ?_, fun x hx hs => ?_⟩
      · rcases List.mem_cons.1 hx with rfl | hx
        · exact ⟨List.mem_cons_self .., h⟩
        · exact ⟨List.mem_cons_of_mem _ (h1 x hx).1, (List.mem_filter.1 (h1 x hx).2).1⟩
      · rw [List.map_cons, List.nodup_cons]
        refine ⟨fun hm => ?_, h2⟩
        obtain ⟨x, hx, e⟩ := List.mem_map.1 hm
        have := (List.mem_filter.1 (h1 x hx).2).2
        rw [e] at this; simp at this
      · rw [List.map_cons]
        by_cases e : f x = f a
        · rw [e]; exact List.mem_cons_self ..
        · rcases List.mem_cons.1 hx with rfl | hx
          · exact absurd rfl e
          · exact List.mem_cons_of_mem _ (h3 x hx (List.mem_filter.2 ⟨hs, by simpa using e⟩))
    · rw [if_neg h]
      obtain ⟨h1, h2, h3⟩ := isc_mem (f := f) (l := l) (S := S)
      refine ⟨fun x hx => ⟨List.mem_cons_of_mem _ (h1 x hx).1, (h1 x hx).2⟩, h2, fun x hx hs => ?_⟩
      rcases List.mem_cons.1 hx with rfl | hx
      · exact absurd hs h
      · exact h3 x hx hs
theorem mem_meet {ll : List (List Int)} {x : Int} (h0 : 0 < ll.length) : x ∈ meetF (fun x => x) ll ↔ ∀ m ∈ ll, x ∈ m := by
  unfold meetF
  obtain ⟨h1, h2, h3⟩ := isc_mem (f := fun x => x) (l := ll.getD 0 []) (S := sjI (fun x => x) ll (ll.length - 2))
  have hd : ∀ i, i < ll.length → ll[i]? = some (ll.getD i []) := fun i hi => by rw [List.getD_eq_getElem?_getD, List.getElem?_eq_getElem hi]; rfl
  have hx : x ∈ iscI (fun x => x) (sjI (fun x => x) ll (ll.length - 2)) (ll.getD 0 []) ↔ x ∈ ll.getD 0 [] ∧ x ∈ sjI (fun x => x) ll (ll.length - 2) :=
    ⟨fun h => h1 x h, fun h => by have := h3 x h.1 h.2; simpa using this⟩
  rw [hx]
  by_cases hl : 2 ≤ ll.length
  · rw [mem_sjE hl]
    constructor
    · rintro ⟨ha, hb⟩ m hm
      obtain ⟨i, hi⟩ := List.getElem?_of_mem hm
      have hi2 := (List.getElem?_eq_some_iff.1 hi).1
      have e : m = ll.getD i [] := by have := hd i hi2; rw [hi] at this; exact Option.some.inj this
      by_cases hz : i = 0
      · subst hz; rw [e]; exact ha
      · have := hb i (by omega) hi2; rw [e]; simpa using this
    · intro h
      exact ⟨h _ (List.mem_of_getElem? (hd 0 h0)), fun i h5 h6 => by have := h _ (List.mem_of_getElem? (hd i h6)); simpa using this⟩
  · have e1 : ll.length = 1 := by omega
    obtain ⟨m0, rfl⟩ : ∃ m, ll = [m] := List.length_eq_one_iff.1 e1
    simp [sjI, mem_keyL]
theorem nodup_len : ∀ {D S : List Int}, D.Nodup → (∀ z ∈ D, z ∈ S) → D.length ≤ S.length
  | [], S, _, _ => Nat.zero_le _
  | x :: D, S, hn, h => by
    rw [List.nodup_cons] at hn
    have hx := List.perm_cons_erase (h x (List.mem_cons_self ..))
    have := nodup_len (S := S.erase x) hn.2 fun z hz => (List.mem_erase_of_ne (fun e => hn.1 (by rw [← e]; exact hz))).2 (h z (List.mem_cons_of_mem _ hz))
    have h2 := hx.length_eq
    simp only [List.length_cons] at h2 ⊢; omega
theorem told_lt {D S : List Int} {f : Int → Bool} {k : Int} {u : Bool} (hn : D.Nodup) (h : ∀ z ∈ D, z ∈ S) (hm : (k, u) ∈ stepD S f D) (hk : k ∉ D) : D.length < S.length := by
  have := nodup_len (D := D ++ [k]) (S := S) (List.nodup_append.2 ⟨hn, by simp, fun a ha b hb => by simp at hb; subst hb; intro e; subst e; exact hk ha⟩) fun z hz => by
    rcases List.mem_append.1 hz with e | e
    · exact h z e
    · simp at e; rw [e]; exact (sd_mem hm hk).1
  simp at this; omega
theorem told_sub {D S : List Int} {f : Int → Bool} {k : Int} {u : Bool} (h : ∀ z ∈ D, z ∈ S) (hm : (k, u) ∈ stepD S f D) (hk : k ∉ D) : ∀ z ∈ D ++ [k], z ∈ S := fun z hz => by
  rcases List.mem_append.1 hz with e | e
  · exact h z e
  · simp at e; rw [e]; exact (sd_mem hm hk).1
theorem told_nodup {D : List Int} {k : Int} (hn : D.Nodup) (hk : k ∉ D) : (D ++ [k]).Nodup :=
  List.nodup_append.2 ⟨hn, by simp, fun a ha b hb => by simp at hb; subst hb; intro e; subst e; exact hk ha⟩
theorem at_get {ll : List (List Int)} {i : Nat} {n : Nat} {x : List Int} (h : ll[i]? = some x) (e : i = n) : ll.getD n [] = x := by
  subst e; rw [List.getD_eq_getElem?_getD, h]; rfl
theorem getD_total (ll : List (List Int)) (i : Nat) (T : Nat) (h : ∀ x ∈ ll, x.length ≤ T) : (ll.getD i []).length ≤ T := by
  rw [List.getD_eq_getElem?_getD]
  cases e : ll[i]? with
  | none => simp
  | some x => exact h x (List.mem_of_getElem? e)
theorem meet_take {f : Int → Int} {ll : List (List Int)} {k : Nat} {X p : List Int} {x : Int} (h : k ≤ ll.length - 2) (h2 : k = ll.length - 2 ∨ sjI f ll k = []) (h0 : ll[0]? = some X) (hp : p ++ [x] <+: X)
    (hk : hasK (bmap (remI f (sjI f ll k) p) (fun _ => false)) (f x) = true) : iscI f (sjI f ll k) p ++ [x] <+: meetF f ll := by
  rw [isc_yes hk]
  have e : ll.getD 0 [] = X := at_get h0 rfl
  unfold meetF
  rw [e, ← meet_end h h2]
  exact isc_prefix hp
theorem meet_done {f : Int → Int} {ll : List (List Int)} {k : Nat} {X : List Int} (h : k ≤ ll.length - 2) (h2 : k = ll.length - 2 ∨ sjI f ll k = []) (h0 : ll[0]? = some X) : iscI f (sjI f ll k) X = meetF f ll := by
  have e : ll.getD 0 [] = X := at_get h0 rfl
  unfold meetF
  rw [e, ← meet_end h h2]
theorem bm_nil {S : List Int} {f : Int → Bool} (h : (bmap S f).length = 0) : S = [] := by rw [bm_len] at h; exact List.eq_nil_of_length_eq_zero h
theorem keyU_yes {a : List Int} {x : Int} (h : ¬ x ∈ keyL a) : keyL a ++ [x] = keyL (a ++ [x]) := by rw [keyL_snoc]; unfold addS; rw [if_neg h]
theorem keyU_no {a : List Int} {x : Int} (h : x ∈ keyL a) : keyL a = keyL (a ++ [x]) := by rw [keyL_snoc]; unfold addS; rw [if_pos h]
theorem addS_pre : ∀ (l s : List Int), s <+: l.foldl addS s
  | [], s => List.prefix_refl _
  | a :: l, s => by
    rw [List.foldl_cons]
    refine List.IsPrefix.trans ?_ (addS_pre l (addS s a))
    unfold addS; split
    · exact List.prefix_refl _
    · exact List.prefix_append _ _
theorem keyL_pre {a l : List Int} (h : a <+: l) : keyL a <+: keyL l := by
  obtain ⟨t, rfl⟩ := h
  unfold keyL; rw [List.foldl_append]; exact addS_pre _ _
theorem at_yes {S X : List Int} {ll : List (List Int)} {n m : Nat} {x : Int} (F : Int → Int) (hn : S.Nodup) (h : X[m]? = some x) (e : ll.getD n [] = X) (hk : hasK (bmap S (mkd (((ll.getD n []).take m).map F))) (F x) = true) :
    putK (bmap S (mkd (((ll.getD n []).take m).map F))) (F x) true = bmap S (mkd (((ll.getD n []).take (m + 1)).map F)) := by
  rw [e] at hk ⊢; rw [take_snoc h, List.map_append]; exact mk_yes hn hk
theorem at_no {S X : List Int} {ll : List (List Int)} {n m : Nat} {x : Int} (F : Int → Int) (h : X[m]? = some x) (e : ll.getD n [] = X) (hk : hasK (bmap S (mkd (((ll.getD n []).take m).map F))) (F x) = false) :
    bmap S (mkd (((ll.getD n []).take m).map F)) = bmap S (mkd (((ll.getD n []).take (m + 1)).map F)) := by
  rw [e] at hk ⊢; rw [take_snoc h, List.map_append]; exact mk_no (by rw [hk]; simp)
theorem sq_yes {S p : List Int} {x : Int} (F : Int → Int) (hn : S.Nodup) (hk : hasK (bmap S (mkd (p.map F))) (F x) = true) : putK (bmap S (mkd (p.map F))) (F x) true = bmap S (mkd ((p ++ [x]).map F)) := by
  rw [List.map_append]; exact mk_yes hn hk
theorem sq_no {S p : List Int} {x : Int} (F : Int → Int) (hk : hasK (bmap S (mkd (p.map F))) (F x) = false) : bmap S (mkd (p.map F)) = bmap S (mkd ((p ++ [x]).map F)) := by
  rw [List.map_append]; exact mk_no (by rw [hk]; simp)
theorem ad_new {X : List Int} {ll : List (List Int)} {n m : Nat} {x : Int} (F : Int → Int) (h : X[m]? = some x) (e : ll.getD n [] = X) :
    putK (bmap (keyL (((ll.getD n []).take m).map F)) (fun _ => false)) (F x) false = bmap (keyL (((ll.getD n []).take (m + 1)).map F)) (fun _ => false) := by
  rw [e, take_snoc h, List.map_append]; exact bm_add _ _
theorem ad_seq {p : List Int} {x : Int} (F : Int → Int) : putK (bmap (keyL (p.map F)) (fun _ => false)) (F x) false = bmap (keyL ((p ++ [x]).map F)) (fun _ => false) := by
  rw [List.map_append]; exact bm_add _ _
theorem rm_yes {S X : List Int} {ll : List (List Int)} {n m : Nat} {x : Int} (F : Int → Int) (h : X[m]? = some x) (e : ll.getD n [] = X) :
    delK (bmap (remI F S ((ll.getD n []).take m)) (fun _ => false)) (F x) = bmap (remI F S ((ll.getD n []).take (m + 1))) (fun _ => false) := by
  rw [e, take_snoc h]; exact rs_yes _ _ _ _
theorem rm_no {S X : List Int} {ll : List (List Int)} {n m : Nat} {x : Int} (F : Int → Int) (h : X[m]? = some x) (e : ll.getD n [] = X) (hk : hasK (bmap (remI F S ((ll.getD n []).take m)) (fun _ => false)) (F x) = false) :
    bmap (remI F S ((ll.getD n []).take m)) (fun _ => false) = bmap (remI F S ((ll.getD n []).take (m + 1))) (fun _ => false) := by
  rw [e] at hk ⊢; rw [take_snoc h]; exact rs_no (by rw [hk]; simp)
theorem is_yes {S X : List Int} {ll : List (List Int)} {n m : Nat} {x : Int} (F : Int → Int) (h : X[m]? = some x) (e : ll.getD n [] = X) (hk : hasK (bmap (remI F S ((ll.getD n []).take m)) (fun _ => false)) (F x) = true) :
    iscI F S ((ll.getD n []).take m) ++ [x] = iscI F S ((ll.getD n []).take (m + 1)) := by
  rw [e] at hk ⊢; rw [take_snoc h]; exact isc_yes hk
theorem is_no {S X : List Int} {ll : List (List Int)} {n m : Nat} {x : Int} (F : Int → Int) (h : X[m]? = some x) (e : ll.getD n [] = X) (hk : hasK (bmap (remI F S ((ll.getD n []).take m)) (fun _ => false)) (F x) = false) :
    iscI F S ((ll.getD n []).take m) = iscI F S ((ll.getD n []).take (m + 1)) := by
  rw [e] at hk ⊢; rw [take_snoc h]; exact isc_no (by rw [hk]; simp)
theorem rq_no {S p : List Int} {x : Int} (F : Int → Int) (hk : hasK (bmap (remI F S p) (fun _ => false)) (F x) = false) : bmap (remI F S p) (fun _ => false) = bmap (remI F S (p ++ [x])) (fun _ => false) := rs_no (by rw [hk]; simp)
theorem iq_no {S p : List Int} {x : Int} (F : Int → Int) (hk : hasK (bmap (remI F S p) (fun _ => false)) (F x) = false) : iscI F S p = iscI F S (p ++ [x]) := isc_no (by rw [hk]; simp)
theorem sd_nof {S D : List Int} {f : Int → Bool} {k : Int} {u : Bool} (h : (k, u) ∈ stepD S f D) (hk : k ∉ D) (hu : u = false) : delK (stepD S f D) k = stepD S f (D ++ [k]) := sd_no h hk (by rw [hu]; simp)
theorem keyU_yesB {a : List Int} {x : Int} (h : (!decide (x ∈ keyL a)) = true) : keyL a ++ [x] = keyL (a ++ [x]) := keyU_yes (by simpa using h)
theorem keyU_noB {a : List Int} {x : Int} (h : (!decide (x ∈ keyL a)) = false) : keyL a = keyL (a ++ [x]) := keyU_no (by simpa using h)
theorem meet_len (F : Int → Int) {ll : List (List Int)} {T : Nat} (h : ∀ x ∈ ll, x.length ≤ T) : (meetF F ll).length ≤ T := by
  unfold meetF; exact Nat.le_trans (isc_len _ _ _) (getD_total ll 0 T h)
def g0 (l : List Int) (i : Nat) : Int := (l[i]?).getD 0
def zb (f : Int → Int → Int) (m : Nat) (a b : List Int) (k : Nat) : List Int := (List.range m).map fun i => if i < k then f (g0 a i) (g0 b i) else 0
structure SlS where
  buf : List Int
  cnt : Nat
  skip : Nat
  out : List (List Int)
section
variable {n s : Nat} {p : List Int} {x : Int}
end
def PF2U (P : Program) (fv : Value) (M : Hp) (f : Int → Int → Int × Int) : Prop := fv.oneCell' = true ∧ ∀ x i : Int, Pu P fv M [.int .i64 x, .int .i64 i] (fun r _ => r = .tuple #[.int .i64 (f x i).1, .int .i64 (f x i).2])
theorem PF2U.le {P : Program} {fv : Value} {M M' : Hp} {f : Int → Int → Int × Int} (h : PF2U P fv M f) (hM : Hp.le M M') : PF2U P fv M' f := ⟨h.1, fun x i => (h.2 x i).le hM⟩
def PF1U (P : Program) (fv : Value) (M : Hp) (f : Int → Int × Int) : Prop := fv.oneCell' = true ∧ ∀ x : Int, Pu P fv M [.int .i64 x] (fun r _ => r = .tuple #[.int .i64 (f x).1, .int .i64 (f x).2])
theorem PF1U.le {P : Program} {fv : Value} {M M' : Hp} {f : Int → Int × Int} (h : PF1U P fv M f) (hM : Hp.le M M') : PF1U P fv M' f := ⟨h.1, fun x => (h.2 x).le hM⟩
def PF2V (P : Program) (fv : Value) (M : Hp) (f : Int → Int → Int × Int × Bool) : Prop := fv.oneCell' = true ∧ ∀ x i : Int, Pu P fv M [.int .i64 x, .int .i64 i] (fun r _ => r = .tuple #[.int .i64 (f x i).1, .int .i64 (f x i).2.1, .bool (f x i).2.2])
theorem PF2V.le {P : Program} {fv : Value} {M M' : Hp} {f : Int → Int → Int × Int × Bool} (h : PF2V P fv M f) (hM : Hp.le M M') : PF2V P fv M' f := ⟨h.1, fun x i => (h.2 x i).le hM⟩
def RMp : Hp → List Value → List (Int × Int) → Prop := fun M cs q => ∃ v, cs = [v] ∧ RdM M v (encE (Value.int .i64) q)
theorem RdMp.at {M : Hp} {v : Value} {l : List (List (Int × Int))} {k : Nat} {e : List (Int × Int)} (h : RdS 1 RMp M v l) (he : l[k]? = some e) : ∃ p u, IdxPtr v k 1 p ∧ cellM M p = some u ∧ RdM M u (encE (Value.int .i64) e) := by
  obtain ⟨p, u, h1, h2, ⟨v, h3, h4⟩⟩ := h.at1 he
  cases h3; exact ⟨p, u, h1, h2, h4⟩
theorem RdPP.at {M : Hp} {v : Value} {l : List (List (Int × Int))} {k : Nat} {e : List (Int × Int)} (h : RdS 1 (RSl 2 RP2) M v l) (he : l[k]? = some e) : ∃ p u, IdxPtr v k 1 p ∧ cellM M p = some u ∧ RdS 2 RP2 M u e := by
  obtain ⟨p, u, h1, h2, ⟨v, h3, h4⟩⟩ := h.at1 he
  cases h3; exact ⟨p, u, h1, h2, h4⟩
section
variable {r : Option Nat} {P : Program} {ops : Array Oper} {Q : Exit → Act → World → Prop} {C : Nat → World → Prop} {bf : Nat → List Nat} {E : List (Nat × Nat)}
end
section
variable {r : Option Nat} {P : Program} {ops : Array Oper} {Q : Exit → Act → World → Prop} {E : List (Nat × Nat)}
end
theorem srt_setB {q L : List Int} (hn : q.Nodup) (h : ∀ z, z ∈ q ↔ z ∈ L) : srtM q = setI L := by
  have hs := setI_spec L
  exact sorted_eq (srtM_sorted q) hs.1.le ((srtM_perm q).trans ((List.perm_ext_iff_of_nodup hn hs.1.nodup).2 fun z => by rw [h, hs.2.1]))
def PFAB (P : Program) (fv : Value) (M : Hp) (f : Int × Int → Bool) : Prop := fv.oneCell' = true ∧ ∀ x y : Int, ((-9223372036854775808 ≤ x ∧ x ≤ 9223372036854775807) ∧ (-9223372036854775808 ≤ y ∧ y ≤ 9223372036854775807)) → Pu P fv M [.agg #[.int .i64 x, .int .i64 y]] (fun r _ => r = .bool (f (x, y)))
theorem PFAB.le {P : Program} {fv : Value} {M M' : Hp} {f : Int × Int → Bool} (h : PFAB P fv M f) (hM : Hp.le M M') : PFAB P fv M' f := ⟨h.1, fun x y g => (h.2 x y g).le hM⟩
def RA2 : Hp → List Value → List (Int × Int) × List (Int × Int) → Prop := fun M cs x => ∃ u v, cs = [u, v] ∧ RdS 2 RP2 M u x.1 ∧ RdS 2 RP2 M v x.2
theorem RdA2.at {M : Hp} {v : Value} {l : List (List (Int × Int) × List (Int × Int))} {k : Nat} {e : List (Int × Int) × List (Int × Int)} (h : RdS 2 RA2 M v l) (he : l[k]? = some e) : ∃ p u1 u2, IdxPtr v k 2 p ∧ cellsM M p [u1, u2] ∧ RdS 2 RP2 M u1 e.1 ∧ RdS 2 RP2 M u2 e.2 := by
  obtain ⟨p, cs, h1, h2, ⟨u1, u2, h3, h5, h6⟩, h4⟩ := RdS.at h he
  subst h3; exact ⟨p, u1, u2, h1, h4, h5, h6⟩
section
variable {r : Option Nat} {P : Program} {Q : Exit → Act → World → Prop} {a : Act} {w : World} {n : Nat} {ds : List Deferred} {l : List (Nat × Value)} {d : Nat} {ty t el : TypeId} {pos : String} {af : Array Edge} {gd : Option (Nat × Bool)} {x y : Operand} {next : Act → World → Prop} {M : Hp} {H : List HProp} {by_ : Nat}
end
abbrev MLE := List (Int × Value × List Int)
/-- a key with a frozen list -/
def RG2 : Hp → List Value → Int × List Int → Prop := fun M cs x => ∃ v, cs = [.int .i64 x.1, v] ∧ RdI M v x.2
theorem RdG2.at {M : Hp} {v : Value} {l : List (Int × List Int)} {k : Nat} {e : Int × List Int} (h : RdS 2 RG2 M v l) (he : l[k]? = some e) : ∃ p u, IdxPtr v k 2 p ∧ cellsM M p [.int .i64 e.1, u] ∧ RdI M u e.2 := by
  obtain ⟨p, cs, h1, h2, ⟨u, h3, h5⟩, h4⟩ := RdS.at h he
  subst h3; exact ⟨p, u, h1, h4, h5⟩
/-- a frozen map of frozen lists -/
def RdML (M : Hp) (v : Value) (q : List (Int × List Int)) : Prop := ∃ t : MLE, t.map (fun x => (x.1, x.2.2)) = q ∧ RdM M v (encE Prod.fst t) ∧ ∀ x ∈ t, RdI M x.2.1 x.2.2
theorem RdML.le {M M' : Hp} {v : Value} {q : List (Int × List Int)} (h : RdML M v q) (hM : Hp.le M M') : RdML M' v q := by
  obtain ⟨t, h1, h2, h3⟩ := h; exact ⟨t, h1, h2.le hM, fun x hx => (h3 x hx).le hM⟩
theorem RdML.one' {M : Hp} {v : Value} {q : List (Int × List Int)} (h : RdML M v q) : v.oneCell' = true := by obtain ⟨_, _, h, _⟩ := h; exact h.one'
theorem RdML.nodup {M : Hp} {v : Value} {q : List (Int × List Int)} (h : RdML M v q) : (q.map Prod.fst).Nodup := by
  obtain ⟨t, h1, h2, _⟩ := h
  have := h2.nodup
  rw [keys_encE] at this
  rw [← h1, List.map_map]; exact this
section
variable {r : Option Nat} {P : Program} {Q : Exit → Act → World → Prop} {a : Act} {w : World}
  {n : Nat} {ds : List Deferred} {l : List (Nat × Value)} {ty t : TypeId} {pos : String} {af : Array Edge} {gd : Option (Nat × Bool)} {x y : Operand}
  {next : Act → World → Prop} {M : Hp} {H : List HProp}
/-- a field of a struct's block -/
theorem cell_blkf {b f : Nat} {cs : Array Value} {v : Value} {e : TypeId} {fr : Nat × Nat} (S : w.heap[b]? = some (.cells cs e fr)) (hv : cs[f]? = some v) : w.cell? ⟨b, f, none⟩ = some v := by simp [World.cell?, S, hv]
end
section
variable {r : Option Nat} {P : Program} {Q : Exit → Act → World → Prop} {a : Act} {w : World}
  {n : Nat} {ds : List Deferred} {l : List (Nat × Value)} {d : Nat} {ty t el : TypeId} {pos : String} {af : Array Edge} {gd : Option (Nat × Bool)} {x y : Operand}
  {next : Act → World → Prop} {M : Hp} {H : List HProp} {v : Value} {by_ : Nat} {zv : Value}
end
/-! ### functions that panic, and a function that recovers -/
section
variable {P : Program}
/-- a call that panics with a value held as an interface -/
def CallP (P : Program) (fv : Value) (args : List Value) (w : World) (R : Value → World → Prop) : Prop :=
  ∀ (r : Option Nat) (o : Oper) (c : Call) (f : Operand) (a : Act) (next : Act → World → Prop) (Q : Exit → Act → World → Prop), o.op = .call c → c.callee = .value f → a.eval f = fv →
    c.args.toList.map a.eval = args → (∀ t u w', R (.iface t u) w' → Q (.panic [{ v := .iface t u, recovered := false }]) a w') → o.wpIn (Fw r) 0 P a w next Q
def PEnd (R : Value → World → Prop) : Ending → World → Prop := fun e w' => ∃ t u, e = .panicked [{ v := .iface t u, recovered := false }] ∧ R (.iface t u) w'
theorem CallP.func {g : FuncId} {first cap : Array Value} {args : List Value} {w : World} {R : Value → World → Prop}
    (hc : ∀ args w, (callFunc g args).run P w = .ok (.enter g args) w)
    (h : Calls P g (first.toList ++ args ++ cap.toList).toArray w (PEnd R)) : CallP P (.func (.func g) first cap) args w R := by
  intro r o c f a next Q h1 h2 h3 h4 h5
  refine ⟨fun _ _ => trivial, ?_⟩
  rw [semAt_nodefer (by rw [h1]; rfl)]
  have e4 : c.args.map a.eval = args.toArray := by rw [← h4, ← Array.toList_map, Array.toArray_toList]
  have : (execOp a.eval o).run P w = .ok (.enter g (first ++ args.toArray ++ cap)) w := by
    simp only [execOp, h1, resolve, h2, h3, e4, Deferred.ofValue]
    simp [invoke, hc]
  rw [this]
  refine ⟨fun h => by simp [Fw_depth] at h, ?_⟩
  rw [callsIn_Fw, show first ++ args.toArray ++ cap = (first.toList ++ args ++ cap.toList).toArray by simp]
  exact h.mono fun e w' ⟨t, u, he, hR⟩ => by subst he; exact h5 t u w' hR
/-- from the frozen memory M on: a call panics; what is owned stays -/
def PuP (P : Program) (fv : Value) (M : Hp) (args : List Value) : Prop :=
  ∀ w M1 H, Hp.le M M1 → St w M1 H → CallP P fv args w (fun _ w' => ∃ M2, Hp.le M1 M2 ∧ St w' M2 H)
theorem PuP.le {fv : Value} {M M' : Hp} {args : List Value} (h : PuP P fv M args) (hM : Hp.le M M') : PuP P fv M' args := fun w M1 H h1 => h w M1 H (hM.trans h1)
/-- a function without arguments that panics -/
def PF0P (P : Program) (fv : Value) (M : Hp) : Prop := fv.oneCell' = true ∧ PuP P fv M []
theorem PF0P.le {fv : Value} {M M' : Hp} (h : PF0P P fv M) (hM : Hp.le M M') : PF0P P fv M' := ⟨h.1, h.2.le hM⟩
variable {Q : Exit → Act → World → Prop} {a : Act} {w : World} {n : Nat} {ds : List Deferred} {l : List (Nat × Value)} {fn : Func} {R : Ending → World → Prop} {M : Hp} {H : List HProp} {next : Act → World → Prop} {r : Option Nat}
end
section
variable {P : Program} {a : Act} {w : World} {n : Nat} {ds : List Deferred} {l : List (Nat × Value)} {d : Nat} {ty t t' el : TypeId} {pos : String} {af : Array Edge} {gd : Option (Nat × Bool)} {x y : Operand} {v : Value} {l' : List Int}
end
/-! floats: the ceiling of a quotient of small whole numbers is a small whole number -/
section
open Ieee
end
section
variable {P : Program} {a : Act} {w : World} {n : Nat} {ds : List Deferred} {l : List (Nat × Value)} {d : Nat} {ty t t' : TypeId} {pos : String} {af : Array Edge} {gd : Option (Nat × Bool)} {x y : Operand} {κ : IntKind} {i : Int}
end
/-! texts: values .string (bs l) with l a list of bytes -/
def bs (l : List UInt8) : ByteArray := ⟨l.toArray⟩
def RTx : Hp → List Value → List UInt8 → Prop := fun _ cs x => cs = [.string (bs x)]
theorem RdTx.at {M : Hp} {v : Value} {l : List (List UInt8)} {k : Nat} {e : List UInt8} (h : RdS 1 RTx M v l) (he : l[k]? = some e) : ∃ p, IdxPtr v k 1 p ∧ cellM M p = some (.string (bs e)) := by
  obtain ⟨p, cs, h1, h2, h3, h4⟩ := RdS.at h he
  have h5 : cs = [.string (bs e)] := h3
  subst h5
  exact ⟨p, h1, h4 0 _ rfl⟩
section
variable {P : Program} {a : Act} {w : World} {n : Nat} {ds : List Deferred} {l : List (Nat × Value)} {d : Nat} {ty t t' : TypeId} {pos : String} {af : Array Edge} {gd : Option (Nat × Bool)} {x y z : Operand} {κ κ' : IntKind} {s s' : List UInt8} {i j : Int} {lo up : Nat}
end
section
variable {r : Option Nat} {P : Program} {Q : Exit → Act → World → Prop} {a : Act} {w : World}
  {n : Nat} {ds : List Deferred} {l : List (Nat × Value)} {d : Nat} {ty t : TypeId} {pos : String} {af : Array Edge} {gd : Option (Nat × Bool)} {x : Operand}
  {next : Act → World → Prop} {M : Hp} {H : List HProp} {s : List UInt8}
end
/-! calls of methods of interface values -/
section
variable {P : Program} {a : Act} {w : World} {n : Nat} {ds : List Deferred} {l : List (Nat × Value)} {d : Nat} {ty : TypeId} {pos : String} {af : Array Edge} {gd : Option (Nat × Bool)} {x y : Operand} {M : Hp} {H : List HProp} {r : Option Nat} {next : Act → World → Prop} {Q : Exit → Act → World → Prop}
/-- the method called NAME of an interface value goes to g, which takes rv first -/
def MethV (P : Program) (iv : Value) (name : String) (g : FuncId) (rv : Value) (w : World) : Prop :=
  ∀ args : Array Value, (callMethod iv name args).run P w = .ok (.enter g (#[rv] ++ args)) w
theorem X_callI {ats : Array TypeId} {f : Operand} {aa : Array Operand} {iv rv : Value} {g : FuncId} {nm : String} {args : List Value} {R : Value → World → Prop}
  (E : Env a n ds l) (hd : Nat.blt d n = true) (hf : opv l f = some iv) (ha : opvs l aa.toList = some args) (hm : MethV P iv nm g rv w) (hg : ∀ args w, (callFunc g args).run P w = .ok (.enter g args) w)
  (C : CallV P (.func (.func g) #[] #[]) (rv :: args) w R)
  (k : ∀ a v w', R v w' → Env a n ds ((d, v) :: l) → next a w') : (⟨some d, .call ⟨.invoke f nm, aa, ats⟩, ty, pos, af, gd⟩ : Oper).wpIn (Fw r) 0 P a w next Q := by
  have h := C r ⟨some d, .call ⟨.value (.const (.func (.func g) #[] #[])), ((rv :: args).map Operand.const).toArray, ats⟩, ty, pos, af, gd⟩ _ (.const (.func (.func g) #[] #[])) a next Q rfl rfl rfl
    (by simp [List.map_map, Function.comp_def, Act.eval]) (fun v w' hR => k _ v w' hR (E.put (by simpa using hd) v))
  refine ⟨fun _ _ => trivial, ?_⟩
  have h2 := h.2
  rw [semAt_nodefer (by rfl)] at h2 ⊢
  have e1 : (execOp a.eval ⟨some d, .call ⟨.value (.const (.func (.func g) #[] #[])), ((rv :: args).map Operand.const).toArray, ats⟩, ty, pos, af, gd⟩).run P w = .ok (.enter g (#[rv] ++ args.toArray)) w := by
    simp [execOp, resolve, Act.eval, Deferred.ofValue, invoke, hg, Function.comp_def]
  have e2 : (execOp a.eval ⟨some d, .call ⟨.invoke f nm, aa, ats⟩, ty, pos, af, gd⟩).run P w = .ok (.enter g (#[rv] ++ args.toArray)) w := by
    have e4 : aa.map a.eval = args.toArray := by rw [← E.evals ha, ← Array.toList_map, Array.toArray_toList]
    have h3 := hm args.toArray
    simp only [execOp, resolve, E.eval hf, e4]
    simp [invoke, h3]
  rw [e1] at h2
  rw [e2]
  exact h2
theorem X_puI {ats : Array TypeId} {f : Operand} {aa : Array Operand} {iv rv : Value} {g : FuncId} {nm : String} {args : List Value} {q : Value → Hp → Prop} {M0 : Hp}
  (E : Env a n ds l) (S : St w M H) (hd : Nat.blt d n = true) (hf : opv l f = some iv) (ha : opvs l aa.toList = some args) (hm : MethV P iv nm g rv w) (hg : ∀ args w, (callFunc g args).run P w = .ok (.enter g args) w)
  (C : Pu P (.func (.func g) #[] #[]) M0 (rv :: args) q) (hM : Hp.le M0 M)
  (k : ∀ a v w' M', Hp.le M M' → q v M' → St w' M' H → Env a n ds ((d, v) :: l) → next a w') : (⟨some d, .call ⟨.invoke f nm, aa, ats⟩, ty, pos, af, gd⟩ : Oper).wpIn (Fw r) 0 P a w next Q :=
  X_callI E hd hf ha hm hg (C w M H hM S) fun a v w' ⟨M', h1, h2, h3⟩ E => k a v w' M' h1 h2 h3 E
theorem X_spI {ats : Array TypeId} {f : Operand} {aa : Array Operand} {iv rv : Value} {g : FuncId} {nm : String} {args : List Value} {p : List HProp} {q : Value → Hp → List HProp → Prop} {M0 : Hp}
  (E : Env a n ds l) (S : St w M (p ++ H)) (hd : Nat.blt d n = true) (hf : opv l f = some iv) (ha : opvs l aa.toList = some args) (hm : MethV P iv nm g rv w) (hg : ∀ args w, (callFunc g args).run P w = .ok (.enter g args) w)
  (C : Sp P (.func (.func g) #[] #[]) M0 (rv :: args) p q) (hM : Hp.le M0 M)
  (k : ∀ a v w' M' C, Hp.le M M' → q v M' C → St w' M' (C ++ H) → Env a n ds ((d, v) :: l) → next a w') : (⟨some d, .call ⟨.invoke f nm, aa, ats⟩, ty, pos, af, gd⟩ : Oper).wpIn (Fw r) 0 P a w next Q :=
  X_callI E hd hf ha hm hg (C w M H hM S) fun a v w' ⟨M', C', h1, h2, h3⟩ E => k a v w' M' C' h1 h2 h3 E
/-- an interface value of a concrete type, asked for that type -/
theorem R_assert {T T' : TypeId} {v : Value} {u : TypeDesc} (E : Env a n ds l) (hx : opv l x = some (.iface T v)) (hu : P.underlying T = some u) (hi : ∀ z, u ≠ .interface z) :
    (execOp a.eval ⟨some d, .typeAssert x T' T false, ty, pos, af, gd⟩).run P w = .ok (.value v) w := by
  cases u <;> first | (exact absurd rfl (hi _)) | (simp [execOp, E.eval hx, Instr.typeAssert, run_underlying hu])
theorem R_ifaceP {T : TypeId} {v : Value} {e : TypeId} (E : Env a n ds l) (hx : opv l x = some v) (hu : P.underlying T = some (.pointer e)) :
    (execOp a.eval ⟨some d, .makeInterface T x, ty, pos, af, gd⟩).run P w = .ok (.value (.iface T v)) w := by
  simp [execOp, E.eval hx, Instr.makeInterface, run_underlying hu]
end
/-! sets behind pointers: a pointer to a cell that holds a map with the keys q; c: a list with the same members -/
def RdSU (T : TypeId) (M : Hp) (v : Value) (c : List Int) : Prop := ∃ b m q, v = .pointer (some ⟨b, 0, none⟩) ∧ M b = some (.cells #[m] T) ∧ RdM M m (Sl.encS q) ∧ q.Nodup ∧ ∀ x, x ∈ q ↔ x ∈ c
theorem RdSU.le {T : TypeId} {M M' : Hp} {v : Value} {c : List Int} (h : RdSU T M v c) (hM : Hp.le M M') : RdSU T M' v c := by
  obtain ⟨b, m, q, e, hb, hm, hn, hq⟩ := h
  exact ⟨b, m, q, e, hM.2 _ _ hb, hm.le hM, hn, hq⟩
theorem RdSU.eq {T : TypeId} {M : Hp} {v : Value} {c c' : List Int} (h : RdSU T M v c) (e : ∀ x, x ∈ c ↔ x ∈ c') : RdSU T M v c' := by
  obtain ⟨b, m, q, e1, hb, hm, hn, hq⟩ := h
  exact ⟨b, m, q, e1, hb, hm, hn, fun x => (hq x).trans (e x)⟩
def addsL (s p : List Int) : List Int := p.foldl addS s
theorem addsL_snoc (s p : List Int) (x : Int) : addsL s (p ++ [x]) = addS (addsL s p) x := by simp [addsL]
theorem mem_addsL : ∀ (p s : List Int) (x : Int), x ∈ addsL s p ↔ x ∈ s ∨ x ∈ p
  | [], s, x => by simp [addsL]
  | y :: p, s, x => by
    show x ∈ addsL (addS s y) p ↔ _
    rw [mem_addsL p (addS s y) x, mem_addS, List.mem_cons]
    constructor
    · rintro ((h | h) | h)
      · exact .inl h
      · exact .inr (.inl h)
      · exact .inr (.inr h)
    · rintro (h | h | h)
      · exact .inl (.inl h)
      · exact .inl (.inr h)
      · exact .inr h
theorem addsL_nodup : ∀ (p s : List Int), s.Nodup → (addsL s p).Nodup
  | [], _, h => h
  | y :: p, s, h => addsL_nodup p (addS s y) (addS_nodup h y)
section
variable {P : Program} {a : Act} {w : World} {n : Nat} {ds : List Deferred} {l : List (Nat × Value)} {d : Nat} {ty : TypeId} {pos : String} {af : Array Edge} {gd : Option (Nat × Bool)} {x : Operand}
theorem R_nilCheck {ad : Addr} {v : Value} (E : Env a n ds l) (hx : opv l x = some v) (e : v = .pointer (some ad)) :
    (execOp a.eval ⟨some d, .nilCheck x, ty, pos, af, gd⟩).run P w = .ok (.value v) w := by
  subst e
  simp [execOp, E.eval hx]
end
def card (c : List Int) : Nat := (addsL [] c).length
theorem card_eq {q c : List Int} (hn : q.Nodup) (h : ∀ x, x ∈ q ↔ x ∈ c) : q.length = card c := by
  have h2 := addsL_nodup c [] (by simp)
  have h3 : ∀ x, x ∈ addsL [] c ↔ x ∈ c := fun x => by simp [mem_addsL]
  exact Nat.le_antisymm (nodup_len hn fun z hz => (h3 z).2 ((h z).1 hz)) (nodup_len h2 fun z hz => (h z).2 ((h3 z).1 hz))
theorem card_le (c : List Int) : card c ≤ c.length := nodup_len (addsL_nodup c [] (by simp)) fun z hz => by simpa [mem_addsL] using hz
def suL (c : List Int) : List Int := srtM (addsL [] c)
theorem suL_of {l c : List Int} (hn : l.Nodup) (h : ∀ x, x ∈ l ↔ x ∈ c) : suL c = srtM l :=
  srtM_perm_eq ((List.perm_ext_iff_of_nodup (addsL_nodup c [] List.nodup_nil) hn).2 fun x => by rw [h x]; simp [mem_addsL])
theorem suL_len (c : List Int) : (suL c).length ≤ c.length := by
  unfold suL; rw [srtM_len]; exact card_le c
/-! sync.RWMutex as the first six cells of a block of seven -/
section
open Go.RwLone Go.Conc.Locks Go.MuLone
variable {P : Program} {L : RwLink}
theorem St.setF {w : World} {M : Hp} {H : List HProp} {b f : Nat} {cs : List Value} {T : TypeId} (u : Value) (S : St w M (blk b (.cells cs.toArray T) :: H)) (hf : f < cs.length) :
    St (w.setCell ⟨b, f, none⟩ u) M (blk b (.cells (cs.set f u).toArray T) :: H) := by
  have hg := S.get
  refine S.set (o' := .cells (cs.set f u).toArray T) ?_ ?_
  · simp only [World.setCell]; rw [Array.getElem?_modify, if_pos rfl, hg]; simp
  · intro c hc x hx
    simp only [World.setCell]; rw [Array.getElem?_modify, if_neg (Ne.symm hc)]; exact hx
def lkc (n : Int) (q : Value) : List Value := [.int .i32 0, .int .u32 0, .int .u32 0, .int .u32 0, .int .i32 n, .int .i32 0, q]
def lko (m n : Int) (q : Value) : List Value := [.int .i32 m, .int .u32 0, .int .u32 0, .int .u32 0, .int .i32 n, .int .i32 0, q]
/-- a lock of n readers beside q -/
def LK (p : Nat) (T : TypeId) (n : Int) (q : Value) : HProp := blk p (.cells (lkc n q).toArray T)
def LKw (p : Nat) (T : TypeId) (q : Value) : HProp := blk p (.cells (lko 1 (-1073741824) q).toArray T)
theorem cellL {w : World} {M : Hp} {H : List HProp} {p f : Nat} {T : TypeId} {cs : List Value} {v : Value} (S : St w M (blk p (.cells cs.toArray T) :: H)) (h : cs[f]? = some v) : w.cell? ⟨p, f, none⟩ = some v := by
  have hg := S.get
  simp [World.cell?, hg, h]
theorem frzL {w : World} {M : Hp} {H : List HProp} {p f : Nat} {T : TypeId} {cs : List Value} (S : St w M (blk p (.cells cs.toArray T) :: H)) : w.frozen? ⟨p, f, none⟩ = false := by
  have hg := S.get
  simp [World.frozen?, hg]
theorem rlock_sp (R : RwRLib P L) {M : Hp} {p : Nat} {T : TypeId} {n : Int} {q : Value} (h0 : 0 ≤ n) (h1 : n ≤ 1000) :
    Sp P (.func (.func L.rlock) #[] #[]) M [.pointer (some ⟨p, 0, none⟩)] [LK p T n q] (fun v M' C' => v = .tuple #[] ∧ C' = [LK p T (n + 1) q]) := by
  intro w M1 H hM S
  have S1 : St w M1 (blk p (.cells (lkc n q).toArray T) :: H) := S
  have hw : Go.RowKit.wrap32 (n + 1) = n + 1 := by simp [Go.RowKit.wrap32]; omega
  refine CallV.func (fun args w => run_callFunc_enter R.f_rlock (by kernel_rfl) rfl args w) ?_
  refine (rlock_open R p 0 n (.int .i32 0) (.int .u32 0) w (cellL S1 rfl) (cellL S1 rfl) (cellL S1 rfl) (frzL S1) (by rw [hw]; omega)).mono ?_
  rintro e w' ⟨rfl, rfl⟩
  refine ⟨_, rfl, M1, _, Hp.le.refl _, ⟨rfl, rfl⟩, ?_⟩
  rw [hw]
  exact St.setF (f := 4) (.int .i32 (n + 1)) S1 (by simp [lkc, lko])
theorem runlock_sp (R : RwRLib P L) {M : Hp} {p : Nat} {T : TypeId} {n : Int} {q : Value} (h0 : 0 ≤ n) (h1 : n ≤ 1000) :
    Sp P (.func (.func L.runlock) #[] #[]) M [.pointer (some ⟨p, 0, none⟩)] [LK p T (n + 1) q] (fun v M' C' => v = .tuple #[] ∧ C' = [LK p T n q]) := by
  intro w M1 H hM S
  have S1 : St w M1 (blk p (.cells (lkc (n + 1) q).toArray T) :: H) := S
  have hw : Go.RowKit.wrap32 (n + 1 + -1) = n := by simp [Go.RowKit.wrap32]; omega
  refine CallV.func (fun args w => run_callFunc_enter R.f_runlock (by kernel_rfl) rfl args w) ?_
  refine (runlock_held R p 0 (n + 1) (.int .i32 0) (.int .u32 0) w (cellL S1 rfl) (cellL S1 rfl) (cellL S1 rfl) (frzL S1) (by rw [hw]; omega)).mono ?_
  rintro e w' ⟨rfl, rfl⟩
  refine ⟨_, rfl, M1, _, Hp.le.refl _, ⟨rfl, rfl⟩, ?_⟩
  rw [hw]
  exact St.setF (f := 4) (.int .i32 n) S1 (by simp [lkc, lko])
theorem wlock_sp (R : RwWLib P L) {M : Hp} {p : Nat} {T : TypeId} {q : Value} :
    Sp P (.func (.func L.wlock) #[] #[]) M [.pointer (some ⟨p, 0, none⟩)] [LK p T 0 q] (fun v M' C' => v = .tuple #[] ∧ C' = [LKw p T q]) := by
  intro w M1 H hM S
  have S1 : St w M1 (blk p (.cells (lkc 0 q).toArray T) :: H) := S
  refine CallV.func (fun args w => run_callFunc_enter R.f_wlock (by kernel_rfl) rfl args w) ?_
  refine (wlock_free R p 0 (.int .u32 0) (.int .u32 0) w (cellL S1 rfl) (cellL S1 rfl) (cellL S1 rfl) (cellL S1 rfl) (frzL S1) (frzL S1)).mono ?_
  rintro e w' ⟨rfl, rfl⟩
  refine ⟨_, rfl, M1, _, Hp.le.refl _, ⟨rfl, rfl⟩, ?_⟩
  exact St.setF (f := 4) (.int .i32 (-1073741824)) (St.setF (f := 0) (.int .i32 1) S1 (by simp [lkc, lko])) (by simp [lkc, lko])
theorem wunlock_sp (R : RwWLib P L) {M : Hp} {p : Nat} {T : TypeId} {q : Value} :
    Sp P (.func (.func L.wunlock) #[] #[]) M [.pointer (some ⟨p, 0, none⟩)] [LKw p T q] (fun v M' C' => v = .tuple #[] ∧ C' = [LK p T 0 q]) := by
  intro w M1 H hM S
  have S1 : St w M1 (blk p (.cells (lko 1 (-1073741824) q).toArray T) :: H) := S
  refine CallV.func (fun args w => run_callFunc_enter R.f_wunlock (by kernel_rfl) rfl args w) ?_
  refine (wunlock_held R p 0 (.int .u32 0) (.int .u32 0) w (cellL S1 rfl) (cellL S1 rfl) (cellL S1 rfl) (cellL S1 rfl) (frzL S1) (frzL S1)).mono ?_
  rintro e w' ⟨rfl, rfl⟩
  refine ⟨_, rfl, M1, _, Hp.le.refl _, ⟨rfl, rfl⟩, ?_⟩
  exact St.setF (f := 0) (.int .i32 0) (St.setF (f := 4) (.int .i32 0) S1 (by simp [lkc, lko])) (by simp [lkc, lko])
end
theorem suL_card (c : List Int) : (suL c).length = card c := by unfold suL card; rw [srtM_len]
def sub' (a b : List Int) : Bool := a.all (fun z => decide (z ∈ b))
def any' (a b : List Int) : Bool := a.any (fun z => decide (z ∈ b))
/-! deferred unlocks of a sync.RWMutex: the bodies walked once more, inside the fence that the engine asks for -/
section
open Go.RwLone Go.Conc.Locks
variable {P : Program} {L : RwLink}
end
section
variable {P : Program} {a : Act} {w : World} {n : Nat} {ds : List Deferred} {l : List (Nat × Value)} {fn : Func} {R : Ending → World → Prop}
end
/-- how two sets stand to each other: equal, below, properly below, above, properly above, with a common member -/
def relL (a b : List Int) : List Bool := [sub' a b && sub' b a, sub' a b, decide (card a < card b) && sub' a b, sub' b a, decide (card b < card a) && sub' b a, any' a b]
theorem relL_len (a b : List Int) : (relL a b).length = 6 := rfl
theorem suL_set (c : List Int) : suL c = setI c := srt_setB (addsL_nodup c [] List.nodup_nil) fun z => by simp [mem_addsL]
theorem ft_yes {p : Int → Bool} {l : List Int} {k : Nat} {x : Int} (h : l[k]? = some x) (hp : p x = true) : (l.take k).filter p ++ [x] = (l.take (k + 1)).filter p := by rw [filt_take h, if_pos hp]
theorem ft_no {p : Int → Bool} {l : List Int} {k : Nat} {x : Int} (h : l[k]? = some x) (hp : p x = false) : (l.take k).filter p = (l.take (k + 1)).filter p := by rw [filt_take h, hp]; simp
/-- a set that holds what a part of the union holds, as a rising list -/
theorem road {a b c : List Int} {p : Int → Bool} {k : Nat} (hk : (setI (a ++ b)).length ≤ k) (h : ∀ z, z ∈ c ↔ (z ∈ a ∨ z ∈ b) ∧ p z = true) : setI c = ((setI (a ++ b)).take k).filter p := by
  rw [List.take_of_length_le hk]
  have hs := setI_spec (a ++ b)
  have hc := setI_spec c
  have hf : SortedU ((setI (a ++ b)).filter p) := List.Pairwise.sublist List.filter_sublist hs.1
  refine sorted_eq hc.1.le hf.le ((List.perm_ext_iff_of_nodup hc.1.nodup hf.nodup).2 fun z => ?_)
  rw [hc.2.1, List.mem_filter, hs.2.1, List.mem_append, h]
theorem road2 {a b c : List Int} {p q : Int → Bool} {k : Nat} (hk : (setI (a ++ b)).length ≤ k) (h : ∀ z, z ∈ c ↔ (z ∈ a ∨ z ∈ b) ∧ (p z = true ∨ q z = true)) : setI c = setI (((setI (a ++ b)).take k).filter p ++ ((setI (a ++ b)).take k).filter q) := by
  rw [List.take_of_length_le hk]
  have hs := setI_spec (a ++ b)
  refine setI_eq fun z => ?_
  rw [List.mem_append, List.mem_filter, List.mem_filter, hs.2.1, List.mem_append, h]
  constructor
  · rintro ⟨h1, h2 | h2⟩
    · exact .inl ⟨h1, h2⟩
    · exact .inr ⟨h1, h2⟩
  · rintro (⟨h1, h2⟩ | ⟨h1, h2⟩)
    · exact ⟨h1, .inl h2⟩
    · exact ⟨h1, .inr h2⟩
theorem mem_meet2 {a b : List Int} {x : Int} : x ∈ meetF (fun x => x) [a, b] ↔ x ∈ a ∧ x ∈ b := by
  rw [mem_meet (by simp)]; simp

end Go.Proofs.YtlmpgefhnmfhpaaGreat.wFnSetRoads
