/- Walks through the functions that laws.FnSetRelations reaches: what each computes; no conditions beyond what each theorem states. -/
import Derived.Test.YtlmpgefhnmfhpaaGreatProg
import Derived.Test.YtlmpgefhnmfhpaaGreatSlS
import Derived.Ground.SlgmProg
import Derived.Conc.RwLoneW
import Derived.KernelRfl
set_option linter.unusedVariables false
set_option linter.unusedSimpArgs false
namespace Go.Proofs.YtlmpgefhnmfhpaaGreat.wFnSetRelations
open Go Go.Sl
theorem Tryz.mixed : Tryz.prog.follows .mixedOrders = true := by kernel_rfl
theorem T22 : SlT Tryz.prog 22 3 1 8 (.int .i64 0) := ⟨Tryz.underlying22, ⟨Tryz.t3, by kernel_rfl, rfl, rfl, rfl⟩, rfl, by decide⟩
theorem T28 : SlT Tryz.prog 28 4 1 1 (.bool false) := ⟨Tryz.underlying28, ⟨Tryz.t4, by kernel_rfl, rfl, rfl, rfl⟩, rfl, by decide⟩
theorem T36 : SlT Tryz.prog 36 22 1 24 (.slice none 0 0) := ⟨Tryz.underlying36, ⟨Tryz.t22, by kernel_rfl, rfl, rfl, rfl⟩, rfl, by decide⟩
theorem MT145 : MapT Tryz.prog 145 3 104 (.agg #[]) := ⟨Tryz.underlying145, Tryz.underlying3, ⟨Tryz.t104, by kernel_rfl, rfl⟩⟩
theorem FB104__ (w : World) : (Instr.build 104 #[]).run Tryz.prog w = .ok (.agg #[]) w := run_build _ _ _ _ (by kernel_rfl)
theorem BLK144 (x : Option Addr) (w : World) : (Instr.build 144 #[(1, .pointer x)]).run Tryz.prog w = .ok (.agg #[.int .i32 0, .int .u32 0, .int .u32 0, .int .u32 0, .int .i32 0, .int .i32 0, .pointer x]) w := run_build _ _ _ _ (by kernel_rfl)
theorem FA144_0 (p : Addr) (w : World) : (Instr.fieldAt 144 (.pointer (some p)) 0).run Tryz.prog w = .ok (.pointer (some (p.add 0))) w := by kernel_rfl
theorem FA144_1 (p : Addr) (w : World) : (Instr.fieldAt 144 (.pointer (some p)) 1).run Tryz.prog w = .ok (.pointer (some (p.add 6))) w := by kernel_rfl
abbrev Tryz.muLink : Go.Conc.Locks.MuLink := { lock := 120, unlock := 129, ilock := 132, iunlock := 134, lockSlow := 136, unlockSlow := 137, disable := 119, enable := 123, acquire := 124, relMerge := 126, cas32 := 135, add32 := 133, tMutex := 137, tIMutex := 135, tPMutex := 157, tPIMutex := 168, tPI32 := 167, tUP := 156, tNoCopy := 133, tU32 := 130 }
theorem Tryz.muLib : Go.Conc.Locks.MuLib Tryz.prog Tryz.muLink :=
  ⟨Tryz.func120, Tryz.func129, Tryz.func132, Tryz.func134, Tryz.func119, Tryz.func123, Tryz.func124, Tryz.func126, Tryz.func135, Tryz.func133, Tryz.underlying135, Tryz.runUnderlying135, Tryz.sizeOf135, Tryz.isAgg135, Tryz.zeroValue135, Tryz.underlying137, Tryz.runUnderlying137, Tryz.sizeOf137, Tryz.isAgg137, Tryz.zeroValue137, Tryz.underlying157, Tryz.runUnderlying157, Tryz.sizeOf157, Tryz.isAgg157, Tryz.zeroValue157, Tryz.underlying168, Tryz.runUnderlying168, Tryz.sizeOf168, Tryz.isAgg168, Tryz.zeroValue168, Tryz.underlying167, Tryz.runUnderlying167, Tryz.sizeOf167, Tryz.isAgg167, Tryz.zeroValue167, Tryz.underlying156, Tryz.runUnderlying156, Tryz.sizeOf156, Tryz.isAgg156, Tryz.zeroValue156, Tryz.underlying133, Tryz.runUnderlying133, Tryz.sizeOf133, Tryz.isAgg133, Tryz.zeroValue133, Tryz.underlying21, Tryz.runUnderlying21, Tryz.sizeOf21, Tryz.isAgg21, Tryz.zeroValue21, (by kernel_rfl)⟩
abbrev Tryz.rwLink : Go.Conc.Locks.RwLink := { lock := 120, unlock := 129, ilock := 132, iunlock := 134, lockSlow := 136, unlockSlow := 137, disable := 119, enable := 123, acquire := 124, relMerge := 126, cas32 := 135, add32 := 133, tMutex := 137, tIMutex := 135, tPMutex := 157, tPIMutex := 168, tPI32 := 167, tUP := 156, tNoCopy := 133, tU32 := 130, rlock := 185, runlock := 186, wlock := 106, wunlock := 107, i32add := 121, raceRead := 118, release := 125, rUnlockSlow := 204, semacqR := 203, semacqW := 122, semrel := 128, sfatal := 127, tRW := 142, tPRW := 154, tAI32 := 140, tPAI32 := 165, tPU32 := 160, tANoCopy := 138 }
theorem Tryz.rwCore : Go.Conc.Locks.RwCore Tryz.prog Tryz.rwLink :=
  ⟨Tryz.func121, Tryz.func118, Tryz.func119, Tryz.func123, Tryz.func124, Tryz.func126, Tryz.func133, Tryz.underlying142, Tryz.runUnderlying142, Tryz.sizeOf142, Tryz.isAgg142, Tryz.zeroValue142, Tryz.underlying140, Tryz.runUnderlying140, Tryz.sizeOf140, Tryz.isAgg140, Tryz.zeroValue140, Tryz.underlying154, Tryz.runUnderlying154, Tryz.sizeOf154, Tryz.isAgg154, Tryz.zeroValue154, Tryz.underlying165, Tryz.runUnderlying165, Tryz.sizeOf165, Tryz.isAgg165, Tryz.zeroValue165, Tryz.underlying160, Tryz.runUnderlying160, Tryz.sizeOf160, Tryz.isAgg160, Tryz.zeroValue160, Tryz.underlying138, Tryz.runUnderlying138, Tryz.sizeOf138, Tryz.isAgg138, Tryz.zeroValue138, Tryz.underlying130, Tryz.runUnderlying130, Tryz.sizeOf130, Tryz.isAgg130, Tryz.zeroValue130, Tryz.underlying137, Tryz.runUnderlying137, Tryz.sizeOf137, Tryz.isAgg137, Tryz.zeroValue137, Tryz.underlying157, Tryz.runUnderlying157, Tryz.sizeOf157, Tryz.isAgg157, Tryz.zeroValue157, Tryz.underlying167, Tryz.runUnderlying167, Tryz.sizeOf167, Tryz.isAgg167, Tryz.zeroValue167, Tryz.underlying156, Tryz.runUnderlying156, Tryz.sizeOf156, Tryz.isAgg156, Tryz.zeroValue156, Tryz.underlying21, Tryz.runUnderlying21, Tryz.sizeOf21, Tryz.isAgg21, Tryz.zeroValue21, (by kernel_rfl), (by kernel_rfl)⟩
theorem Tryz.rwRLib : Go.Conc.Locks.RwRLib Tryz.prog Tryz.rwLink := ⟨Tryz.rwCore, Tryz.func185, Tryz.func186⟩
theorem Tryz.rwWLib : Go.Conc.Locks.RwWLib Tryz.prog Tryz.rwLink := ⟨Tryz.rwCore, Tryz.muLib, Tryz.func106, Tryz.func107, Tryz.func125, Tryz.underlying3, Tryz.runUnderlying3, Tryz.sizeOf3, Tryz.isAgg3, Tryz.zeroValue3⟩

theorem meth_114_ContainsAnyElement (p : Value) (w : World) : ∀ args : Array Value, (callMethod (.iface 114 p) "ContainsAnyElement" args).run Tryz.prog w = .ok (.enter 166 (#[p] ++ args)) w := fun args => by kernel_rfl
theorem meth_114_Difference (p : Value) (w : World) : ∀ args : Array Value, (callMethod (.iface 114 p) "Difference" args).run Tryz.prog w = .ok (.enter 168 (#[p] ++ args)) w := fun args => by kernel_rfl
theorem meth_114_Equal (p : Value) (w : World) : ∀ args : Array Value, (callMethod (.iface 114 p) "Equal" args).run Tryz.prog w = .ok (.enter 170 (#[p] ++ args)) w := fun args => by kernel_rfl
theorem meth_114_Intersect (p : Value) (w : World) : ∀ args : Array Value, (callMethod (.iface 114 p) "Intersect" args).run Tryz.prog w = .ok (.enter 171 (#[p] ++ args)) w := fun args => by kernel_rfl
theorem meth_114_IsProperSubset (p : Value) (w : World) : ∀ args : Array Value, (callMethod (.iface 114 p) "IsProperSubset" args).run Tryz.prog w = .ok (.enter 173 (#[p] ++ args)) w := fun args => by kernel_rfl
theorem meth_114_IsProperSuperset (p : Value) (w : World) : ∀ args : Array Value, (callMethod (.iface 114 p) "IsProperSuperset" args).run Tryz.prog w = .ok (.enter 174 (#[p] ++ args)) w := fun args => by kernel_rfl
theorem meth_114_IsSubset (p : Value) (w : World) : ∀ args : Array Value, (callMethod (.iface 114 p) "IsSubset" args).run Tryz.prog w = .ok (.enter 175 (#[p] ++ args)) w := fun args => by kernel_rfl
theorem meth_114_IsSuperset (p : Value) (w : World) : ∀ args : Array Value, (callMethod (.iface 114 p) "IsSuperset" args).run Tryz.prog w = .ok (.enter 176 (#[p] ++ args)) w := fun args => by kernel_rfl
theorem meth_114_ToSlice (p : Value) (w : World) : ∀ args : Array Value, (callMethod (.iface 114 p) "ToSlice" args).run Tryz.prog w = .ok (.enter 182 (#[p] ++ args)) w := fun args => by kernel_rfl
theorem meth_116_Cardinality (p : Value) (w : World) : ∀ args : Array Value, (callMethod (.iface 116 p) "Cardinality" args).run Tryz.prog w = .ok (.enter 205 (#[p] ++ args)) w := fun args => by kernel_rfl
theorem meth_116_ContainsAnyElement (p : Value) (w : World) : ∀ args : Array Value, (callMethod (.iface 116 p) "ContainsAnyElement" args).run Tryz.prog w = .ok (.enter 191 (#[p] ++ args)) w := fun args => by kernel_rfl
theorem meth_116_Difference (p : Value) (w : World) : ∀ args : Array Value, (callMethod (.iface 116 p) "Difference" args).run Tryz.prog w = .ok (.enter 193 (#[p] ++ args)) w := fun args => by kernel_rfl
theorem meth_116_Equal (p : Value) (w : World) : ∀ args : Array Value, (callMethod (.iface 116 p) "Equal" args).run Tryz.prog w = .ok (.enter 194 (#[p] ++ args)) w := fun args => by kernel_rfl
theorem meth_116_Intersect (p : Value) (w : World) : ∀ args : Array Value, (callMethod (.iface 116 p) "Intersect" args).run Tryz.prog w = .ok (.enter 195 (#[p] ++ args)) w := fun args => by kernel_rfl
theorem meth_116_IsProperSubset (p : Value) (w : World) : ∀ args : Array Value, (callMethod (.iface 116 p) "IsProperSubset" args).run Tryz.prog w = .ok (.enter 196 (#[p] ++ args)) w := fun args => by kernel_rfl
theorem meth_116_IsProperSuperset (p : Value) (w : World) : ∀ args : Array Value, (callMethod (.iface 116 p) "IsProperSuperset" args).run Tryz.prog w = .ok (.enter 210 (#[p] ++ args)) w := fun args => by kernel_rfl
theorem meth_116_IsSubset (p : Value) (w : World) : ∀ args : Array Value, (callMethod (.iface 116 p) "IsSubset" args).run Tryz.prog w = .ok (.enter 197 (#[p] ++ args)) w := fun args => by kernel_rfl
theorem meth_116_IsSuperset (p : Value) (w : World) : ∀ args : Array Value, (callMethod (.iface 116 p) "IsSuperset" args).run Tryz.prog w = .ok (.enter 211 (#[p] ++ args)) w := fun args => by kernel_rfl
theorem meth0_116_ToSlice (p : Value) (w : World) : (method (Tryz.prog.types.size + Made.depth) 116 p "ToSlice").run Tryz.prog w = ((receiverAt 116 (.val p) false (some (("ToSlice".splitOn ".").getLastD "ToSlice"))) >>= fun v => pure (213, v)).run Tryz.prog w := by kernel_rfl
theorem meth_116_ToSlice {p v : Value} {b : Nat} {w : World} (e : p = .pointer (some ⟨b, 0, none⟩)) (hc : w.cell? ⟨b, 0, none⟩ = some v) : ∀ args : Array Value, (callMethod (.iface 116 p) "ToSlice" args).run Tryz.prog w = .ok (.enter 213 (#[v] ++ args)) w := by
  intro args
  subst e
  have hw : ∀ s w, (Builtin.ssaWrapNilChk_ #[116] 116 #[.pointer (some ⟨b, 0, none⟩), strVal "", strVal s]).run Tryz.prog w = .ok (.pointer (some ⟨b, 0, none⟩)) w := fun _ _ => rfl
  simp only [callMethod, Sem.run_bind, run_program, Result.andThen_ok]
  rw [meth0_116_ToSlice]
  simp [receiverAt, Place.get, hw, go_sem, hc, asAddr]
def PF2T (P : Program) (fv : Value) (M : Hp) (f : Int → Int → Int × Bool) : Prop := fv.oneCell' = true ∧ ∀ x i : Int, Pu P fv M [.int .i64 x, .int .i64 i] (fun r _ => r = .tuple #[.int .i64 (f x i).1, .bool (f x i).2])
theorem PF2T.le {P : Program} {fv : Value} {M M' : Hp} {f : Int → Int → Int × Bool} (h : PF2T P fv M f) (hM : Hp.le M M') : PF2T P fv M' f := ⟨h.1, fun x i => (h.2 x i).le hM⟩
theorem take_s {l : List Int} {k : Nat} {x : Int} (hx : l[k]? = some x) : l.take (k + 1) = l.take k ++ [x] ∧ (l.take k).length = k := by
  have hk := (List.getElem?_eq_some_iff.1 hx).1
  rw [List.take_add_one, hx]; exact ⟨rfl, by rw [List.length_take]; omega⟩
theorem foldl_inv {σ : Type} (f : σ → Int → σ) (Q : List Int → σ → Prop) (s0 : σ) (h0 : Q [] s0) (hs : ∀ p x, Q p (p.foldl f s0) → Q (p ++ [x]) (f (p.foldl f s0) x)) : ∀ (n : Nat) (l : List Int), l.length = n → Q l (l.foldl f s0)
  | 0, l, h => by have := List.eq_nil_of_length_eq_zero h; subst this; exact h0
  | n + 1, l, h => by
    obtain ⟨p, x, rfl⟩ : ∃ p x, l = p ++ [x] := ⟨l.dropLast, l.getLast (by intro e; subst e; simp at h), (List.dropLast_concat_getLast _).symm⟩
    have ih := foldl_inv f Q s0 h0 hs n p (by simpa using h)
    have e : (p ++ [x]).foldl f s0 = f (p.foldl f s0) x := by simp
    rw [e]; exact hs p x ih
theorem take_snoc {b : List Int} {i : Nat} {x : Int} (h : b[i]? = some x) : b.take (i + 1) = b.take i ++ [x] := by rw [List.take_add_one, h]; rfl
def SortedI (l : List Int) : Prop := l.Pairwise (· ≤ ·)
theorem sorted_eq : ∀ {a b : List Int}, SortedI a → SortedI b → a.Perm b → a = b
  | [], b, _, _, h => (List.nil_perm.1 h).symm ▸ rfl
  | x :: a, [], _, _, h => by simp at h
  | x :: a, y :: b, ha, hb, h => by
    unfold SortedI at ha hb
    rw [List.pairwise_cons] at ha hb
    have h1 : x ≤ y := by
      rcases List.mem_cons.1 (h.symm.subset (List.mem_cons_self ..)) with e | e
      · omega
      · exact ha.1 y e
    have h2 : y ≤ x := by
      rcases List.mem_cons.1 (h.subset (List.mem_cons_self ..)) with e | e
      · omega
      · exact hb.1 x e
    have e : x = y := by omega
    subst e
    rw [sorted_eq ha.2 hb.2 ((List.perm_cons x).1 h)]
/-! ## a set, as a rising list -/
def insU (x : Int) (l : List Int) : List Int := l.takeWhile (fun y => decide (y < x)) ++ (if x ∈ l then [] else [x]) ++ l.dropWhile (fun y => decide (y < x))
def setI (l : List Int) : List Int := l.foldl (fun s x => insU x s) []
def SortedU (l : List Int) : Prop := l.Pairwise (· < ·)
theorem setI_app (l : List Int) (x : Int) : setI (l ++ [x]) = insU x (setI l) := by simp [setI]
theorem setI_take {l : List Int} {k : Nat} {x : Int} (h : l[k]? = some x) : setI (l.take (k + 1)) = insU x (setI (l.take k)) := by rw [(take_s h).1, setI_app]
theorem insU_same {x : Int} {l : List Int} (h : x ∈ l) : insU x l = l := by
  unfold insU; rw [if_pos h, List.append_nil, List.takeWhile_append_dropWhile]
theorem insU_mem {x z : Int} {l : List Int} : z ∈ insU x l ↔ z = x ∨ z ∈ l := by
  by_cases h : x ∈ l
  · rw [insU_same h]; constructor
    · exact .inr
    · rintro (rfl | h2); exact h; exact h2
  · unfold insU; rw [if_neg h]
    have e : l = l.takeWhile (fun y => decide (y < x)) ++ l.dropWhile (fun y => decide (y < x)) := (List.takeWhile_append_dropWhile).symm
    conv => rhs; rw [e]
    simp only [List.mem_append, List.mem_singleton]
    constructor
    · rintro ((h1 | h1) | h1); exact .inr (.inl h1); exact .inl h1; exact .inr (.inr h1)
    · rintro (h1 | h1 | h1); exact .inl (.inr h1); exact .inl (.inl h1); exact .inr h1
theorem insU_len (x : Int) (l : List Int) : (insU x l).length ≤ l.length + 1 := by
  have := congrArg List.length (List.takeWhile_append_dropWhile (p := fun y => decide (y < x)) (l := l))
  rw [List.length_append] at this
  unfold insU; simp only [List.length_append]; split <;> simp <;> omega
theorem insU_sorted {x : Int} {l : List Int} (h : SortedU l) : SortedU (insU x l) := by
  by_cases hx : x ∈ l
  · rw [insU_same hx]; exact h
  · unfold insU; rw [if_neg hx]
    unfold SortedU at h ⊢
    induction l with
    | nil => simp
    | cons a l ih =>
      have hx2 : x ∉ l := fun e => hx (by simp [e])
      rw [List.pairwise_cons] at h
      by_cases ha : a < x
      · simp only [List.takeWhile_cons, List.dropWhile_cons, ha, decide_true, if_true, List.cons_append, List.pairwise_cons]
        refine ⟨fun y hy => ?_, ih h.2 hx2⟩
        have e : l.takeWhile (fun y => decide (y < x)) ++ l.dropWhile (fun y => decide (y < x)) = l := List.takeWhile_append_dropWhile
        simp only [List.mem_append, List.mem_singleton] at hy
        rcases hy with (hy | hy) | hy
        · exact h.1 y (by rw [← e]; exact List.mem_append_left _ hy)
        · omega
        · exact h.1 y (by rw [← e]; exact List.mem_append_right _ hy)
      · have hne : x ≠ a := fun e => hx (by simp [e])
        simp only [List.takeWhile_cons, List.dropWhile_cons, ha, decide_false, Bool.false_eq_true, if_false, List.nil_append, List.singleton_append, List.pairwise_cons]
        refine ⟨fun y hy => ?_, h.1, h.2⟩
        rcases List.mem_cons.1 hy with rfl | hy
        · omega
        · have := h.1 y hy; omega
theorem setI_spec (l : List Int) : SortedU (setI l) ∧ (∀ z, z ∈ setI l ↔ z ∈ l) ∧ (setI l).length ≤ l.length :=
  foldl_inv (fun s x => insU x s) (fun p s => SortedU s ∧ (∀ z, z ∈ s ↔ z ∈ p) ∧ s.length ≤ p.length) [] ⟨List.Pairwise.nil, fun z => Iff.rfl, Nat.le_refl _⟩ (fun p x h => ⟨insU_sorted h.1, fun z => by rw [insU_mem, h.2.1, List.mem_append, List.mem_singleton]; exact Or.comm, by have := insU_len x (p.foldl (fun s x => insU x s) []); simp; omega⟩) _ l rfl
theorem SortedU.nodup {l : List Int} (h : SortedU l) : l.Nodup := List.Pairwise.imp (fun h => by omega) h
theorem SortedU.le {l : List Int} (h : SortedU l) : SortedI l := List.Pairwise.imp (fun h => by omega) h
theorem setI_eq {a b : List Int} (h : ∀ z, z ∈ a ↔ z ∈ b) : setI a = setI b := by
  have ha := setI_spec a
  have hb := setI_spec b
  refine sorted_eq ha.1.le hb.1.le ((List.perm_ext_iff_of_nodup ha.1.nodup hb.1.nodup).2 fun z => ?_)
  rw [ha.2.1, hb.2.1, h]
theorem split_at {p : Int → Bool} {s : List Int} {j : Nat} (h : ∀ y ∈ s.take j, p y = true) (h2 : s.length ≤ j ∨ ∃ v, s[j]? = some v ∧ p v = false) : s.takeWhile p = s.take j ∧ s.dropWhile p = s.drop j := by
  induction s generalizing j with
  | nil => simp
  | cons a s ih =>
    cases j with
    | zero =>
      rcases h2 with h2 | ⟨v, hv, hn⟩
      · simp at h2
      · have : a = v := by simpa using hv
        subst this
        simp [List.takeWhile_cons, List.dropWhile_cons, hn]
    | succ j =>
      have ha : p a = true := h a (by simp)
      have := ih (j := j) (fun y hy => h y (by simp [hy])) (by
        rcases h2 with h2 | ⟨v, hv, hn⟩
        · left; simp at h2; omega
        · right; exact ⟨v, by simpa using hv, hn⟩)
      simp [List.takeWhile_cons, List.dropWhile_cons, ha, this.1, this.2]
theorem set_at {s : List Int} {x : Int} {j : Nat} (hs : SortedU s) (h : ∀ y ∈ s.take j, y < x) (h2 : s.length ≤ j ∨ ∃ v, s[j]? = some v ∧ ¬ v < x ∧ ¬ v = x) : s.take j ++ [x] ++ s.drop j = insU x s := by
  obtain ⟨e1, e2⟩ := split_at (p := fun y => decide (y < x)) (fun y hy => decide_eq_true (h y hy)) (by
    rcases h2 with h2 | ⟨v, hv, hn, _⟩
    · exact .inl h2
    · exact .inr ⟨v, hv, decide_eq_false hn⟩)
  have hx : x ∉ s := by
    intro hx
    rw [← List.take_append_drop j s, List.mem_append] at hx
    rcases hx with hx | hx
    · have := h x hx; omega
    · rcases h2 with h2 | ⟨v, hv, hn, hn2⟩
      · rw [List.drop_of_length_le h2] at hx; cases hx
      · have hj := (List.getElem?_eq_some_iff.1 hv).1
        have hd : s.drop j = v :: s.drop (j + 1) := by rw [List.drop_eq_getElem_cons hj, (List.getElem?_eq_some_iff.1 hv).2]
        rw [hd] at hx
        rcases List.mem_cons.1 hx with e | hx
        · exact hn2 e.symm
        · have hp : (s.drop j).Pairwise (· < ·) := List.Pairwise.sublist (List.drop_sublist _ _) hs
          rw [hd, List.pairwise_cons] at hp
          have := hp.1 x hx; omega
  unfold insU; rw [if_neg hx, e1, e2]
theorem set_bubble {s : List Int} {x : Int} {i : Nat} (hs : SortedU s) (hx : x ∉ s) (h : ∀ y ∈ s.drop i, x < y) (hi : i ≤ s.length) (h2 : i = 0 ∨ ∃ v, s[i - 1]? = some v ∧ ¬ x < v) : s.take i ++ [x] ++ s.drop i = insU x s := by
  refine set_at hs (fun y hy => ?_) ?_
  · rcases h2 with h2 | ⟨v, hv, hn⟩
    · subst h2; simp at hy
    · obtain ⟨m, hm⟩ := List.mem_iff_getElem?.1 hy
      have hm1 := (List.getElem?_eq_some_iff.1 hm).1
      rw [List.length_take] at hm1
      rw [List.getElem?_take_of_lt (by omega)] at hm
      have hy2 := (List.getElem?_eq_some_iff.1 hm).2
      have hv2 := (List.getElem?_eq_some_iff.1 hv).2
      have hyv : y ≤ v := by
        by_cases e : m = i - 1
        · subst e; rw [hy2] at hv2; omega
        · have := List.pairwise_iff_getElem.1 hs m (i - 1) (by omega) (by omega) (by omega)
          rw [hy2, hv2] at this; omega
      have : y ≠ x := fun e => hx (by rw [← e]; exact List.mem_of_getElem? hm)
      omega
  · by_cases hl : s.length ≤ i
    · exact .inl hl
    · right
      refine ⟨s[i], List.getElem?_eq_getElem (by omega), ?_⟩
      have := h s[i] (by rw [List.drop_eq_getElem_cons (by omega)]; exact List.mem_cons_self ..)
      exact ⟨by omega, by omega⟩
theorem bubble_step {s : List Int} {x v : Int} {i : Nat} (h0 : 0 < i) (hi : i ≤ s.length) (hv : s[i - 1]? = some v) : s.take (i - 1) ++ [x] ++ s.drop (i - 1) = ((s.take i ++ [x] ++ s.drop i).set i v).set (i - 1) x := by
  obtain ⟨m, rfl⟩ : ∃ m, i = m + 1 := ⟨i - 1, by omega⟩
  simp only [Nat.add_sub_cancel] at hv ⊢
  have hm := (List.getElem?_eq_some_iff.1 hv).1
  have e1 : s.take (m + 1) = s.take m ++ [v] := take_snoc hv
  have e2 : s.drop m = v :: s.drop (m + 1) := by rw [List.drop_eq_getElem_cons hm, (List.getElem?_eq_some_iff.1 hv).2]
  rw [e1, e2]
  have hl : (s.take m).length = m := by rw [List.length_take]; omega
  simp [List.set_append, hl]

theorem setI_take' {l : List Int} {k : Nat} {x : Int} (h : l[k]? = some x) : setI (l.take (k + 1)) = insU (l[k]?.getD 0) (setI (l.take k)) := by rw [setI_take h, h]; rfl
theorem bub_at {s : List Int} {x v : Int} {i : Nat} (hi : i ≤ s.length) (h : (s.take i ++ [x] ++ s.drop i)[i]? = some v) : v = x := by
  rw [List.append_assoc, List.getElem?_append_right (by rw [List.length_take]; omega), List.length_take, Nat.min_eq_left hi, Nat.sub_self] at h
  simpa using h.symm
theorem bub_left {s : List Int} {x v : Int} {i : Nat} (h0 : 0 < i) (hi : i ≤ s.length) (h : (s.take i ++ [x] ++ s.drop i)[i - 1]? = some v) : s[i - 1]? = some v := by
  rw [List.append_assoc, List.getElem?_append_left (by rw [List.length_take]; omega), List.getElem?_take_of_lt (by omega)] at h
  exact h
theorem drop_bub {s : List Int} {x v : Int} {i : Nat} (h : ∀ y ∈ s.drop i, x < y) (h0 : 0 < i) (hi : i ≤ s.length) (hv : s[i - 1]? = some v) (hlt : x < v) : ∀ y ∈ s.drop (i - 1), x < y := by
  obtain ⟨m, rfl⟩ : ∃ m, i = m + 1 := ⟨i - 1, by omega⟩
  simp only [Nat.add_sub_cancel] at hv ⊢
  have hm := (List.getElem?_eq_some_iff.1 hv).1
  rw [List.drop_eq_getElem_cons hm, (List.getElem?_eq_some_iff.1 hv).2]
  intro y hy
  rcases List.mem_cons.1 hy with rfl | hy
  · exact hlt
  · exact h y hy

instance (l : List Int) : Decidable (SortedI l) := inferInstanceAs (Decidable (l.Pairwise (· ≤ ·)))
theorem srtM_sorted (l : List Int) : SortedI (srtM l) := by
  have := List.pairwise_mergeSort (le := fun x y : Int => decide (x ≤ y)) (fun a b c h1 h2 => by simp at *; omega) (fun a b => by simp; omega) l
  exact List.Pairwise.imp (fun h => by simpa using h) this
theorem srtM_perm (l : List Int) : (srtM l).Perm l := List.mergeSort_perm ..
theorem srtM_perm_eq {a b : List Int} (h : a.Perm b) : srtM a = srtM b := sorted_eq (srtM_sorted a) (srtM_sorted b) ((srtM_perm a).trans (h.trans (srtM_perm b).symm))
theorem snocN {p : List Int} {k : Int} (h : p.Nodup) (hk : k ∉ p) : (p ++ [k]).Nodup :=
  List.nodup_append.2 ⟨h, by simp, fun a ha b hb => by simp at hb; subst hb; intro e; subst e; exact hk ha⟩
theorem snocS {p m : List Int} {k : Int} (h : ∀ z ∈ p, z ∈ m) (hk : k ∈ m) : ∀ z ∈ p ++ [k], z ∈ m := by
  intro z hz; rcases List.mem_append.1 hz with e | e
  · exact h z e
  · simp at e; rw [e]; exact hk

theorem nodup_len : ∀ {D S : List Int}, D.Nodup → (∀ z ∈ D, z ∈ S) → D.length ≤ S.length
  | [], S, _, _ => Nat.zero_le _
  | x :: D, S, hn, h => by
    rw [List.nodup_cons] at hn
    have hx := List.perm_cons_erase (h x (List.mem_cons_self ..))
    have := nodup_len (S := S.erase x) hn.2 fun z hz => (List.mem_erase_of_ne (fun e => hn.1 (by rw [← e]; exact hz))).2 (h z (List.mem_cons_of_mem _ hz))
    have h2 := hx.length_eq
    simp only [List.length_cons] at h2 ⊢; omega
section
variable {n s : Nat} {p : List Int} {x : Int}
end
def PF2U (P : Program) (fv : Value) (M : Hp) (f : Int → Int → Int × Int) : Prop := fv.oneCell' = true ∧ ∀ x i : Int, Pu P fv M [.int .i64 x, .int .i64 i] (fun r _ => r = .tuple #[.int .i64 (f x i).1, .int .i64 (f x i).2])
theorem PF2U.le {P : Program} {fv : Value} {M M' : Hp} {f : Int → Int → Int × Int} (h : PF2U P fv M f) (hM : Hp.le M M') : PF2U P fv M' f := ⟨h.1, fun x i => (h.2 x i).le hM⟩
def PF1U (P : Program) (fv : Value) (M : Hp) (f : Int → Int × Int) : Prop := fv.oneCell' = true ∧ ∀ x : Int, Pu P fv M [.int .i64 x] (fun r _ => r = .tuple #[.int .i64 (f x).1, .int .i64 (f x).2])
theorem PF1U.le {P : Program} {fv : Value} {M M' : Hp} {f : Int → Int × Int} (h : PF1U P fv M f) (hM : Hp.le M M') : PF1U P fv M' f := ⟨h.1, fun x => (h.2 x).le hM⟩
def PF2V (P : Program) (fv : Value) (M : Hp) (f : Int → Int → Int × Int × Bool) : Prop := fv.oneCell' = true ∧ ∀ x i : Int, Pu P fv M [.int .i64 x, .int .i64 i] (fun r _ => r = .tuple #[.int .i64 (f x i).1, .int .i64 (f x i).2.1, .bool (f x i).2.2])
theorem PF2V.le {P : Program} {fv : Value} {M M' : Hp} {f : Int → Int → Int × Int × Bool} (h : PF2V P fv M f) (hM : Hp.le M M') : PF2V P fv M' f := ⟨h.1, fun x i => (h.2 x i).le hM⟩
def RMp : Hp → List Value → List (Int × Int) → Prop := fun M cs q => ∃ v, cs = [v] ∧ RdM M v (encE (Value.int .i64) q)
theorem RdMp.at {M : Hp} {v : Value} {l : List (List (Int × Int))} {k : Nat} {e : List (Int × Int)} (h : RdS 1 RMp M v l) (he : l[k]? = some e) : ∃ p u, IdxPtr v k 1 p ∧ cellM M p = some u ∧ RdM M u (encE (Value.int .i64) e) := by
  obtain ⟨p, u, h1, h2, ⟨v, h3, h4⟩⟩ := h.at1 he
  cases h3; exact ⟨p, u, h1, h2, h4⟩
theorem RdPP.at {M : Hp} {v : Value} {l : List (List (Int × Int))} {k : Nat} {e : List (Int × Int)} (h : RdS 1 (RSl 2 RP2) M v l) (he : l[k]? = some e) : ∃ p u, IdxPtr v k 1 p ∧ cellM M p = some u ∧ RdS 2 RP2 M u e := by
  obtain ⟨p, u, h1, h2, ⟨v, h3, h4⟩⟩ := h.at1 he
  cases h3; exact ⟨p, u, h1, h2, h4⟩
section
variable {r : Option Nat} {P : Program} {ops : Array Oper} {Q : Exit → Act → World → Prop} {C : Nat → World → Prop} {bf : Nat → List Nat} {E : List (Nat × Nat)}
end
section
variable {r : Option Nat} {P : Program} {ops : Array Oper} {Q : Exit → Act → World → Prop} {E : List (Nat × Nat)}
end
theorem srt_setB {q L : List Int} (hn : q.Nodup) (h : ∀ z, z ∈ q ↔ z ∈ L) : srtM q = setI L := by
  have hs := setI_spec L
  exact sorted_eq (srtM_sorted q) hs.1.le ((srtM_perm q).trans ((List.perm_ext_iff_of_nodup hn hs.1.nodup).2 fun z => by rw [h, hs.2.1]))
def PFAB (P : Program) (fv : Value) (M : Hp) (f : Int × Int → Bool) : Prop := fv.oneCell' = true ∧ ∀ x y : Int, ((-9223372036854775808 ≤ x ∧ x ≤ 9223372036854775807) ∧ (-9223372036854775808 ≤ y ∧ y ≤ 9223372036854775807)) → Pu P fv M [.agg #[.int .i64 x, .int .i64 y]] (fun r _ => r = .bool (f (x, y)))
theorem PFAB.le {P : Program} {fv : Value} {M M' : Hp} {f : Int × Int → Bool} (h : PFAB P fv M f) (hM : Hp.le M M') : PFAB P fv M' f := ⟨h.1, fun x y g => (h.2 x y g).le hM⟩
def RA2 : Hp → List Value → List (Int × Int) × List (Int × Int) → Prop := fun M cs x => ∃ u v, cs = [u, v] ∧ RdS 2 RP2 M u x.1 ∧ RdS 2 RP2 M v x.2
theorem RdA2.at {M : Hp} {v : Value} {l : List (List (Int × Int) × List (Int × Int))} {k : Nat} {e : List (Int × Int) × List (Int × Int)} (h : RdS 2 RA2 M v l) (he : l[k]? = some e) : ∃ p u1 u2, IdxPtr v k 2 p ∧ cellsM M p [u1, u2] ∧ RdS 2 RP2 M u1 e.1 ∧ RdS 2 RP2 M u2 e.2 := by
  obtain ⟨p, cs, h1, h2, ⟨u1, u2, h3, h5, h6⟩, h4⟩ := RdS.at h he
  subst h3; exact ⟨p, u1, u2, h1, h4, h5, h6⟩
section
variable {r : Option Nat} {P : Program} {Q : Exit → Act → World → Prop} {a : Act} {w : World} {n : Nat} {ds : List Deferred} {l : List (Nat × Value)} {d : Nat} {ty t el : TypeId} {pos : String} {af : Array Edge} {gd : Option (Nat × Bool)} {x y : Operand} {next : Act → World → Prop} {M : Hp} {H : List HProp} {by_ : Nat}
end
abbrev MLE := List (Int × Value × List Int)
/-- a key with a frozen list -/
def RG2 : Hp → List Value → Int × List Int → Prop := fun M cs x => ∃ v, cs = [.int .i64 x.1, v] ∧ RdI M v x.2
theorem RdG2.at {M : Hp} {v : Value} {l : List (Int × List Int)} {k : Nat} {e : Int × List Int} (h : RdS 2 RG2 M v l) (he : l[k]? = some e) : ∃ p u, IdxPtr v k 2 p ∧ cellsM M p [.int .i64 e.1, u] ∧ RdI M u e.2 := by
  obtain ⟨p, cs, h1, h2, ⟨u, h3, h5⟩, h4⟩ := RdS.at h he
  subst h3; exact ⟨p, u, h1, h4, h5⟩
/-- a frozen map of frozen lists -/
def RdML (M : Hp) (v : Value) (q : List (Int × List Int)) : Prop := ∃ t : MLE, t.map (fun x => (x.1, x.2.2)) = q ∧ RdM M v (encE Prod.fst t) ∧ ∀ x ∈ t, RdI M x.2.1 x.2.2
theorem RdML.le {M M' : Hp} {v : Value} {q : List (Int × List Int)} (h : RdML M v q) (hM : Hp.le M M') : RdML M' v q := by
  obtain ⟨t, h1, h2, h3⟩ := h; exact ⟨t, h1, h2.le hM, fun x hx => (h3 x hx).le hM⟩
theorem RdML.one' {M : Hp} {v : Value} {q : List (Int × List Int)} (h : RdML M v q) : v.oneCell' = true := by obtain ⟨_, _, h, _⟩ := h; exact h.one'
theorem RdML.nodup {M : Hp} {v : Value} {q : List (Int × List Int)} (h : RdML M v q) : (q.map Prod.fst).Nodup := by
  obtain ⟨t, h1, h2, _⟩ := h
  have := h2.nodup
  rw [keys_encE] at this
  rw [← h1, List.map_map]; exact this
section
variable {r : Option Nat} {P : Program} {Q : Exit → Act → World → Prop} {a : Act} {w : World}
  {n : Nat} {ds : List Deferred} {l : List (Nat × Value)} {ty t : TypeId} {pos : String} {af : Array Edge} {gd : Option (Nat × Bool)} {x y : Operand}
  {next : Act → World → Prop} {M : Hp} {H : List HProp}
/-- a field of a struct's block -/
theorem cell_blkf {b f : Nat} {cs : Array Value} {v : Value} {e : TypeId} {fr : Nat × Nat} (S : w.heap[b]? = some (.cells cs e fr)) (hv : cs[f]? = some v) : w.cell? ⟨b, f, none⟩ = some v := by simp [World.cell?, S, hv]
end
section
variable {r : Option Nat} {P : Program} {Q : Exit → Act → World → Prop} {a : Act} {w : World}
  {n : Nat} {ds : List Deferred} {l : List (Nat × Value)} {d : Nat} {ty t el : TypeId} {pos : String} {af : Array Edge} {gd : Option (Nat × Bool)} {x y : Operand}
  {next : Act → World → Prop} {M : Hp} {H : List HProp} {v : Value} {by_ : Nat} {zv : Value}
end
/-! ### functions that panic, and a function that recovers -/
section
variable {P : Program}
/-- a call that panics with a value held as an interface -/
def CallP (P : Program) (fv : Value) (args : List Value) (w : World) (R : Value → World → Prop) : Prop :=
  ∀ (r : Option Nat) (o : Oper) (c : Call) (f : Operand) (a : Act) (next : Act → World → Prop) (Q : Exit → Act → World → Prop), o.op = .call c → c.callee = .value f → a.eval f = fv →
    c.args.toList.map a.eval = args → (∀ t u w', R (.iface t u) w' → Q (.panic [{ v := .iface t u, recovered := false }]) a w') → o.wpIn (Fw r) 0 P a w next Q
def PEnd (R : Value → World → Prop) : Ending → World → Prop := fun e w' => ∃ t u, e = .panicked [{ v := .iface t u, recovered := false }] ∧ R (.iface t u) w'
theorem CallP.func {g : FuncId} {first cap : Array Value} {args : List Value} {w : World} {R : Value → World → Prop}
    (hc : ∀ args w, (callFunc g args).run P w = .ok (.enter g args) w)
    (h : Calls P g (first.toList ++ args ++ cap.toList).toArray w (PEnd R)) : CallP P (.func (.func g) first cap) args w R := by
  intro r o c f a next Q h1 h2 h3 h4 h5
  refine ⟨fun _ _ => trivial, ?_⟩
  rw [semAt_nodefer (by rw [h1]; rfl)]
  have e4 : c.args.map a.eval = args.toArray := by rw [← h4, ← Array.toList_map, Array.toArray_toList]
  have : (execOp a.eval o).run P w = .ok (.enter g (first ++ args.toArray ++ cap)) w := by
    simp only [execOp, h1, resolve, h2, h3, e4, Deferred.ofValue]
    simp [invoke, hc]
  rw [this]
  refine ⟨fun h => by simp [Fw_depth] at h, ?_⟩
  rw [callsIn_Fw, show first ++ args.toArray ++ cap = (first.toList ++ args ++ cap.toList).toArray by simp]
  exact h.mono fun e w' ⟨t, u, he, hR⟩ => by subst he; exact h5 t u w' hR
/-- from the frozen memory M on: a call panics; what is owned stays -/
def PuP (P : Program) (fv : Value) (M : Hp) (args : List Value) : Prop :=
  ∀ w M1 H, Hp.le M M1 → St w M1 H → CallP P fv args w (fun _ w' => ∃ M2, Hp.le M1 M2 ∧ St w' M2 H)
theorem PuP.le {fv : Value} {M M' : Hp} {args : List Value} (h : PuP P fv M args) (hM : Hp.le M M') : PuP P fv M' args := fun w M1 H h1 => h w M1 H (hM.trans h1)
/-- a function without arguments that panics -/
def PF0P (P : Program) (fv : Value) (M : Hp) : Prop := fv.oneCell' = true ∧ PuP P fv M []
theorem PF0P.le {fv : Value} {M M' : Hp} (h : PF0P P fv M) (hM : Hp.le M M') : PF0P P fv M' := ⟨h.1, h.2.le hM⟩
variable {Q : Exit → Act → World → Prop} {a : Act} {w : World} {n : Nat} {ds : List Deferred} {l : List (Nat × Value)} {fn : Func} {R : Ending → World → Prop} {M : Hp} {H : List HProp} {next : Act → World → Prop} {r : Option Nat}
end
section
variable {P : Program} {a : Act} {w : World} {n : Nat} {ds : List Deferred} {l : List (Nat × Value)} {d : Nat} {ty t t' el : TypeId} {pos : String} {af : Array Edge} {gd : Option (Nat × Bool)} {x y : Operand} {v : Value} {l' : List Int}
end
/-! floats: the ceiling of a quotient of small whole numbers is a small whole number -/
section
open Ieee
end
section
variable {P : Program} {a : Act} {w : World} {n : Nat} {ds : List Deferred} {l : List (Nat × Value)} {d : Nat} {ty t t' : TypeId} {pos : String} {af : Array Edge} {gd : Option (Nat × Bool)} {x y : Operand} {κ : IntKind} {i : Int}
end
/-! texts: values .string (bs l) with l a list of bytes -/
def bs (l : List UInt8) : ByteArray := ⟨l.toArray⟩
def RTx : Hp → List Value → List UInt8 → Prop := fun _ cs x => cs = [.string (bs x)]
theorem RdTx.at {M : Hp} {v : Value} {l : List (List UInt8)} {k : Nat} {e : List UInt8} (h : RdS 1 RTx M v l) (he : l[k]? = some e) : ∃ p, IdxPtr v k 1 p ∧ cellM M p = some (.string (bs e)) := by
  obtain ⟨p, cs, h1, h2, h3, h4⟩ := RdS.at h he
  have h5 : cs = [.string (bs e)] := h3
  subst h5
  exact ⟨p, h1, h4 0 _ rfl⟩
section
variable {P : Program} {a : Act} {w : World} {n : Nat} {ds : List Deferred} {l : List (Nat × Value)} {d : Nat} {ty t t' : TypeId} {pos : String} {af : Array Edge} {gd : Option (Nat × Bool)} {x y z : Operand} {κ κ' : IntKind} {s s' : List UInt8} {i j : Int} {lo up : Nat}
end
section
variable {r : Option Nat} {P : Program} {Q : Exit → Act → World → Prop} {a : Act} {w : World}
  {n : Nat} {ds : List Deferred} {l : List (Nat × Value)} {d : Nat} {ty t : TypeId} {pos : String} {af : Array Edge} {gd : Option (Nat × Bool)} {x : Operand}
  {next : Act → World → Prop} {M : Hp} {H : List HProp} {s : List UInt8}
end
/-! calls of methods of interface values -/
section
variable {P : Program} {a : Act} {w : World} {n : Nat} {ds : List Deferred} {l : List (Nat × Value)} {d : Nat} {ty : TypeId} {pos : String} {af : Array Edge} {gd : Option (Nat × Bool)} {x y : Operand} {M : Hp} {H : List HProp} {r : Option Nat} {next : Act → World → Prop} {Q : Exit → Act → World → Prop}
/-- the method called NAME of an interface value goes to g, which takes rv first -/
def MethV (P : Program) (iv : Value) (name : String) (g : FuncId) (rv : Value) (w : World) : Prop :=
  ∀ args : Array Value, (callMethod iv name args).run P w = .ok (.enter g (#[rv] ++ args)) w
theorem X_callI {ats : Array TypeId} {f : Operand} {aa : Array Operand} {iv rv : Value} {g : FuncId} {nm : String} {args : List Value} {R : Value → World → Prop}
  (E : Env a n ds l) (hd : Nat.blt d n = true) (hf : opv l f = some iv) (ha : opvs l aa.toList = some args) (hm : MethV P iv nm g rv w) (hg : ∀ args w, (callFunc g args).run P w = .ok (.enter g args) w)
  (C : CallV P (.func (.func g) #[] #[]) (rv :: args) w R)
  (k : ∀ a v w', R v w' → Env a n ds ((d, v) :: l) → next a w') : (⟨some d, .call ⟨.invoke f nm, aa, ats⟩, ty, pos, af, gd⟩ : Oper).wpIn (Fw r) 0 P a w next Q := by
  have h := C r ⟨some d, .call ⟨.value (.const (.func (.func g) #[] #[])), ((rv :: args).map Operand.const).toArray, ats⟩, ty, pos, af, gd⟩ _ (.const (.func (.func g) #[] #[])) a next Q rfl rfl rfl
    (by simp [List.map_map, Function.comp_def, Act.eval]) (fun v w' hR => k _ v w' hR (E.put (by simpa using hd) v))
  refine ⟨fun _ _ => trivial, ?_⟩
  have h2 := h.2
  rw [semAt_nodefer (by rfl)] at h2 ⊢
  have e1 : (execOp a.eval ⟨some d, .call ⟨.value (.const (.func (.func g) #[] #[])), ((rv :: args).map Operand.const).toArray, ats⟩, ty, pos, af, gd⟩).run P w = .ok (.enter g (#[rv] ++ args.toArray)) w := by
    simp [execOp, resolve, Act.eval, Deferred.ofValue, invoke, hg, Function.comp_def]
  have e2 : (execOp a.eval ⟨some d, .call ⟨.invoke f nm, aa, ats⟩, ty, pos, af, gd⟩).run P w = .ok (.enter g (#[rv] ++ args.toArray)) w := by
    have e4 : aa.map a.eval = args.toArray := by rw [← E.evals ha, ← Array.toList_map, Array.toArray_toList]
    have h3 := hm args.toArray
    simp only [execOp, resolve, E.eval hf, e4]
    simp [invoke, h3]
  rw [e1] at h2
  rw [e2]
  exact h2
theorem X_puI {ats : Array TypeId} {f : Operand} {aa : Array Operand} {iv rv : Value} {g : FuncId} {nm : String} {args : List Value} {q : Value → Hp → Prop} {M0 : Hp}
  (E : Env a n ds l) (S : St w M H) (hd : Nat.blt d n = true) (hf : opv l f = some iv) (ha : opvs l aa.toList = some args) (hm : MethV P iv nm g rv w) (hg : ∀ args w, (callFunc g args).run P w = .ok (.enter g args) w)
  (C : Pu P (.func (.func g) #[] #[]) M0 (rv :: args) q) (hM : Hp.le M0 M)
  (k : ∀ a v w' M', Hp.le M M' → q v M' → St w' M' H → Env a n ds ((d, v) :: l) → next a w') : (⟨some d, .call ⟨.invoke f nm, aa, ats⟩, ty, pos, af, gd⟩ : Oper).wpIn (Fw r) 0 P a w next Q :=
  X_callI E hd hf ha hm hg (C w M H hM S) fun a v w' ⟨M', h1, h2, h3⟩ E => k a v w' M' h1 h2 h3 E
theorem X_spI {ats : Array TypeId} {f : Operand} {aa : Array Operand} {iv rv : Value} {g : FuncId} {nm : String} {args : List Value} {p : List HProp} {q : Value → Hp → List HProp → Prop} {M0 : Hp}
  (E : Env a n ds l) (S : St w M (p ++ H)) (hd : Nat.blt d n = true) (hf : opv l f = some iv) (ha : opvs l aa.toList = some args) (hm : MethV P iv nm g rv w) (hg : ∀ args w, (callFunc g args).run P w = .ok (.enter g args) w)
  (C : Sp P (.func (.func g) #[] #[]) M0 (rv :: args) p q) (hM : Hp.le M0 M)
  (k : ∀ a v w' M' C, Hp.le M M' → q v M' C → St w' M' (C ++ H) → Env a n ds ((d, v) :: l) → next a w') : (⟨some d, .call ⟨.invoke f nm, aa, ats⟩, ty, pos, af, gd⟩ : Oper).wpIn (Fw r) 0 P a w next Q :=
  X_callI E hd hf ha hm hg (C w M H hM S) fun a v w' ⟨M', C', h1, h2, h3⟩ E => k a v w' M' C' h1 h2 h3 E
/-- an interface value of a concrete type, asked for that type -/
theorem R_assert {T T' : TypeId} {v : Value} {u : TypeDesc} (E : Env a n ds l) (hx : opv l x = some (.iface T v)) (hu : P.underlying T = some u) (hi : ∀ z, u ≠ .interface z) :
    (execOp a.eval ⟨some d, .typeAssert x T' T false, ty, pos, af, gd⟩).run P w = .ok (.value v) w := by
  cases u <;> first | (exact absurd rfl (hi _)) | (simp [execOp, E.eval hx, Instr.typeAssert, run_underlying hu])
theorem R_ifaceP {T : TypeId} {v : Value} {e : TypeId} (E : Env a n ds l) (hx : opv l x = some v) (hu : P.underlying T = some (.pointer e)) :
    (execOp a.eval ⟨some d, .makeInterface T x, ty, pos, af, gd⟩).run P w = .ok (.value (.iface T v)) w := by
  simp [execOp, E.eval hx, Instr.makeInterface, run_underlying hu]
end
/-! sets behind pointers: a pointer to a cell that holds a map with the keys q; c: a list with the same members -/
def RdSU (T : TypeId) (M : Hp) (v : Value) (c : List Int) : Prop := ∃ b m q, v = .pointer (some ⟨b, 0, none⟩) ∧ M b = some (.cells #[m] T) ∧ RdM M m (Sl.encS q) ∧ q.Nodup ∧ ∀ x, x ∈ q ↔ x ∈ c
theorem RdSU.le {T : TypeId} {M M' : Hp} {v : Value} {c : List Int} (h : RdSU T M v c) (hM : Hp.le M M') : RdSU T M' v c := by
  obtain ⟨b, m, q, e, hb, hm, hn, hq⟩ := h
  exact ⟨b, m, q, e, hM.2 _ _ hb, hm.le hM, hn, hq⟩
def addsL (s p : List Int) : List Int := p.foldl addS s
theorem addsL_snoc (s p : List Int) (x : Int) : addsL s (p ++ [x]) = addS (addsL s p) x := by simp [addsL]
theorem mem_addsL : ∀ (p s : List Int) (x : Int), x ∈ addsL s p ↔ x ∈ s ∨ x ∈ p
  | [], s, x => by simp [addsL]
  | y :: p, s, x => by
    show x ∈ addsL (addS s y) p ↔ _
    rw [mem_addsL p (addS s y) x, mem_addS, List.mem_cons]
    constructor
    · rintro ((h | h) | h)
      · exact .inl h
      · exact .inr (.inl h)
      · exact .inr (.inr h)
    · rintro (h | h | h)
      · exact .inl (.inl h)
      · exact .inl (.inr h)
      · exact .inr h
theorem addsL_nodup : ∀ (p s : List Int), s.Nodup → (addsL s p).Nodup
  | [], _, h => h
  | y :: p, s, h => addsL_nodup p (addS s y) (addS_nodup h y)
section
variable {P : Program} {a : Act} {w : World} {n : Nat} {ds : List Deferred} {l : List (Nat × Value)} {d : Nat} {ty : TypeId} {pos : String} {af : Array Edge} {gd : Option (Nat × Bool)} {x : Operand}
theorem R_nilCheck {ad : Addr} {v : Value} (E : Env a n ds l) (hx : opv l x = some v) (e : v = .pointer (some ad)) :
    (execOp a.eval ⟨some d, .nilCheck x, ty, pos, af, gd⟩).run P w = .ok (.value v) w := by
  subst e
  simp [execOp, E.eval hx]
end
def card (c : List Int) : Nat := (addsL [] c).length
theorem card_eq {q c : List Int} (hn : q.Nodup) (h : ∀ x, x ∈ q ↔ x ∈ c) : q.length = card c := by
  have h2 := addsL_nodup c [] (by simp)
  have h3 : ∀ x, x ∈ addsL [] c ↔ x ∈ c := fun x => by simp [mem_addsL]
  exact Nat.le_antisymm (nodup_len hn fun z hz => (h3 z).2 ((h z).1 hz)) (nodup_len h2 fun z hz => (h z).2 ((h3 z).1 hz))
theorem card_le (c : List Int) : card c ≤ c.length := nodup_len (addsL_nodup c [] (by simp)) fun z hz => by simpa [mem_addsL] using hz
def suL (c : List Int) : List Int := srtM (addsL [] c)
theorem suL_of {l c : List Int} (hn : l.Nodup) (h : ∀ x, x ∈ l ↔ x ∈ c) : suL c = srtM l :=
  srtM_perm_eq ((List.perm_ext_iff_of_nodup (addsL_nodup c [] List.nodup_nil) hn).2 fun x => by rw [h x]; simp [mem_addsL])
theorem suL_len (c : List Int) : (suL c).length ≤ c.length := by
  unfold suL; rw [srtM_len]; exact card_le c
/-! sync.RWMutex as the first six cells of a block of seven -/
section
open Go.RwLone Go.Conc.Locks Go.MuLone
variable {P : Program} {L : RwLink}
theorem St.setF {w : World} {M : Hp} {H : List HProp} {b f : Nat} {cs : List Value} {T : TypeId} (u : Value) (S : St w M (blk b (.cells cs.toArray T) :: H)) (hf : f < cs.length) :
    St (w.setCell ⟨b, f, none⟩ u) M (blk b (.cells (cs.set f u).toArray T) :: H) := by
  have hg := S.get
  refine S.set (o' := .cells (cs.set f u).toArray T) ?_ ?_
  · simp only [World.setCell]; rw [Array.getElem?_modify, if_pos rfl, hg]; simp
  · intro c hc x hx
    simp only [World.setCell]; rw [Array.getElem?_modify, if_neg (Ne.symm hc)]; exact hx
def lkc (n : Int) (q : Value) : List Value := [.int .i32 0, .int .u32 0, .int .u32 0, .int .u32 0, .int .i32 n, .int .i32 0, q]
def lko (m n : Int) (q : Value) : List Value := [.int .i32 m, .int .u32 0, .int .u32 0, .int .u32 0, .int .i32 n, .int .i32 0, q]
/-- a lock of n readers beside q -/
def LK (p : Nat) (T : TypeId) (n : Int) (q : Value) : HProp := blk p (.cells (lkc n q).toArray T)
def LKw (p : Nat) (T : TypeId) (q : Value) : HProp := blk p (.cells (lko 1 (-1073741824) q).toArray T)
theorem cellL {w : World} {M : Hp} {H : List HProp} {p f : Nat} {T : TypeId} {cs : List Value} {v : Value} (S : St w M (blk p (.cells cs.toArray T) :: H)) (h : cs[f]? = some v) : w.cell? ⟨p, f, none⟩ = some v := by
  have hg := S.get
  simp [World.cell?, hg, h]
theorem frzL {w : World} {M : Hp} {H : List HProp} {p f : Nat} {T : TypeId} {cs : List Value} (S : St w M (blk p (.cells cs.toArray T) :: H)) : w.frozen? ⟨p, f, none⟩ = false := by
  have hg := S.get
  simp [World.frozen?, hg]
theorem rlock_sp (R : RwRLib P L) {M : Hp} {p : Nat} {T : TypeId} {n : Int} {q : Value} (h0 : 0 ≤ n) (h1 : n ≤ 1000) :
    Sp P (.func (.func L.rlock) #[] #[]) M [.pointer (some ⟨p, 0, none⟩)] [LK p T n q] (fun v M' C' => v = .tuple #[] ∧ C' = [LK p T (n + 1) q]) := by
  intro w M1 H hM S
  have S1 : St w M1 (blk p (.cells (lkc n q).toArray T) :: H) := S
  have hw : Go.RowKit.wrap32 (n + 1) = n + 1 := by simp [Go.RowKit.wrap32]; omega
  refine CallV.func (fun args w => run_callFunc_enter R.f_rlock (by kernel_rfl) rfl args w) ?_
  refine (rlock_open R p 0 n (.int .i32 0) (.int .u32 0) w (cellL S1 rfl) (cellL S1 rfl) (cellL S1 rfl) (frzL S1) (by rw [hw]; omega)).mono ?_
  rintro e w' ⟨rfl, rfl⟩
  refine ⟨_, rfl, M1, _, Hp.le.refl _, ⟨rfl, rfl⟩, ?_⟩
  rw [hw]
  exact St.setF (f := 4) (.int .i32 (n + 1)) S1 (by simp [lkc, lko])
theorem runlock_sp (R : RwRLib P L) {M : Hp} {p : Nat} {T : TypeId} {n : Int} {q : Value} (h0 : 0 ≤ n) (h1 : n ≤ 1000) :
    Sp P (.func (.func L.runlock) #[] #[]) M [.pointer (some ⟨p, 0, none⟩)] [LK p T (n + 1) q] (fun v M' C' => v = .tuple #[] ∧ C' = [LK p T n q]) := by
  intro w M1 H hM S
  have S1 : St w M1 (blk p (.cells (lkc (n + 1) q).toArray T) :: H) := S
  have hw : Go.RowKit.wrap32 (n + 1 + -1) = n := by simp [Go.RowKit.wrap32]; omega
  refine CallV.func (fun args w => run_callFunc_enter R.f_runlock (by kernel_rfl) rfl args w) ?_
  refine (runlock_held R p 0 (n + 1) (.int .i32 0) (.int .u32 0) w (cellL S1 rfl) (cellL S1 rfl) (cellL S1 rfl) (frzL S1) (by rw [hw]; omega)).mono ?_
  rintro e w' ⟨rfl, rfl⟩
  refine ⟨_, rfl, M1, _, Hp.le.refl _, ⟨rfl, rfl⟩, ?_⟩
  rw [hw]
  exact St.setF (f := 4) (.int .i32 n) S1 (by simp [lkc, lko])
theorem wlock_sp (R : RwWLib P L) {M : Hp} {p : Nat} {T : TypeId} {q : Value} :
    Sp P (.func (.func L.wlock) #[] #[]) M [.pointer (some ⟨p, 0, none⟩)] [LK p T 0 q] (fun v M' C' => v = .tuple #[] ∧ C' = [LKw p T q]) := by
  intro w M1 H hM S
  have S1 : St w M1 (blk p (.cells (lkc 0 q).toArray T) :: H) := S
  refine CallV.func (fun args w => run_callFunc_enter R.f_wlock (by kernel_rfl) rfl args w) ?_
  refine (wlock_free R p 0 (.int .u32 0) (.int .u32 0) w (cellL S1 rfl) (cellL S1 rfl) (cellL S1 rfl) (cellL S1 rfl) (frzL S1) (frzL S1)).mono ?_
  rintro e w' ⟨rfl, rfl⟩
  refine ⟨_, rfl, M1, _, Hp.le.refl _, ⟨rfl, rfl⟩, ?_⟩
  exact St.setF (f := 4) (.int .i32 (-1073741824)) (St.setF (f := 0) (.int .i32 1) S1 (by simp [lkc, lko])) (by simp [lkc, lko])
theorem wunlock_sp (R : RwWLib P L) {M : Hp} {p : Nat} {T : TypeId} {q : Value} :
    Sp P (.func (.func L.wunlock) #[] #[]) M [.pointer (some ⟨p, 0, none⟩)] [LKw p T q] (fun v M' C' => v = .tuple #[] ∧ C' = [LK p T 0 q]) := by
  intro w M1 H hM S
  have S1 : St w M1 (blk p (.cells (lko 1 (-1073741824) q).toArray T) :: H) := S
  refine CallV.func (fun args w => run_callFunc_enter R.f_wunlock (by kernel_rfl) rfl args w) ?_
  refine (wunlock_held R p 0 (.int .u32 0) (.int .u32 0) w (cellL S1 rfl) (cellL S1 rfl) (cellL S1 rfl) (cellL S1 rfl) (frzL S1) (frzL S1)).mono ?_
  rintro e w' ⟨rfl, rfl⟩
  refine ⟨_, rfl, M1, _, Hp.le.refl _, ⟨rfl, rfl⟩, ?_⟩
  exact St.setF (f := 0) (.int .i32 0) (St.setF (f := 4) (.int .i32 0) S1 (by simp [lkc, lko])) (by simp [lkc, lko])
end
theorem mem_suL {c : List Int} {x : Int} : x ∈ suL c ↔ x ∈ c := by
  unfold suL; rw [(srtM_perm _).mem_iff, mem_addsL]; simp
def sub' (a b : List Int) : Bool := a.all (fun z => decide (z ∈ b))
theorem sub_iff {a b : List Int} : sub' a b = true ↔ ∀ z ∈ a, z ∈ b := by unfold sub'; rw [List.all_eq_true]; simp
theorem sub_t {q p a b : List Int} (hp : p.Perm q) (hq : ∀ x, x ∈ q ↔ x ∈ a) (h : ∀ z ∈ p, z ∈ b) : sub' a b = true :=
  sub_iff.2 fun z hz => h z (hp.mem_iff.2 ((hq z).2 hz))
theorem sub_f {q a b : List Int} {k : Int} (hk : k ∈ q) (hq : ∀ x, x ∈ q ↔ x ∈ a) (h : k ∉ b) : sub' a b = false := by
  cases e : sub' a b
  · rfl
  · exact absurd (sub_iff.1 e k ((hq k).1 hk)) h
theorem card_sub {a b : List Int} (h : sub' a b = true) : card a ≤ card b := by
  have mA : ∀ c : List Int, ∀ x, x ∈ addsL [] c ↔ x ∈ c := fun c x => by simp [mem_addsL]
  exact nodup_len (addsL_nodup a [] List.nodup_nil) fun z hz => (mA b z).2 (sub_iff.1 h z ((mA a z).1 hz))
theorem sub_card {a b : List Int} (h : card b < card a) : sub' a b = false := by
  cases e : sub' a b
  · rfl
  · have := card_sub e; omega
theorem sub_back {a b : List Int} (h : sub' a b = true) (hc : card a = card b) : sub' b a = true := by
  have mA : ∀ c : List Int, ∀ x, x ∈ addsL [] c ↔ x ∈ c := fun c x => by simp [mem_addsL]
  refine sub_iff.2 fun z hz => ?_
  by_cases hn : z ∈ a
  · exact hn
  · exfalso
    have hA := addsL_nodup a [] List.nodup_nil
    have h2 : (z :: addsL [] a).length ≤ (addsL [] b).length := nodup_len (List.nodup_cons.2 ⟨fun h => hn ((mA a z).1 h), hA⟩) fun y hy => by
      rcases List.mem_cons.1 hy with e | e
      · rw [e]; exact (mA b z).2 hz
      · exact (mA b y).2 (sub_iff.1 h y ((mA a y).1 e))
    rw [List.length_cons] at h2
    unfold card at hc; omega
def any' (a b : List Int) : Bool := a.any (fun z => decide (z ∈ b))
theorem any_t {q a b : List Int} {k : Int} (hk : k ∈ q) (hq : ∀ x, x ∈ q ↔ x ∈ a) (h : k ∈ b) : any' a b = true := by
  unfold any'; rw [List.any_eq_true]; exact ⟨k, (hq k).1 hk, decide_eq_true h⟩
theorem any_f {q p a b : List Int} (hp : p.Perm q) (hq : ∀ x, x ∈ q ↔ x ∈ a) (h : ∀ z ∈ p, z ∉ b) : any' a b = false := by
  cases e : any' a b
  · rfl
  · unfold any' at e; rw [List.any_eq_true] at e
    obtain ⟨z, h1, h2⟩ := e
    exact absurd (of_decide_eq_true h2) (h z (hp.mem_iff.2 ((hq z).2 h1)))
theorem any_comm (a b : List Int) : any' a b = any' b a := by
  have h : ∀ a b : List Int, any' a b = true → any' b a = true := fun a b e => by
    unfold any' at e ⊢; rw [List.any_eq_true] at e ⊢
    obtain ⟨z, h1, h2⟩ := e
    exact ⟨z, of_decide_eq_true h2, decide_eq_true h1⟩
  cases e : any' a b
  · cases e2 : any' b a
    · rfl
    · rw [h b a e2] at e; exact e.symm
  · exact (h a b e).symm
theorem snocP {Q : Int → Prop} {p : List Int} {k : Int} (h : ∀ z ∈ p, Q z) (hk : Q k) : ∀ z ∈ p ++ [k], Q z := by
  intro z hz
  rcases List.mem_append.1 hz with h9 | h9
  · exact h z h9
  · rw [List.mem_singleton.1 h9]; exact hk
theorem S_deferA {P : Program} {a : Act} {w : World} {n : Nat} {ds : List Deferred} {l : List (Nat × Value)} {ops : Array Oper} {Q : Exit → Act → World → Prop} {rest : List Oper} {f : Operand} {aa : Array Operand} {args : List Value} {ats : Array TypeId} {ty : TypeId} {pos : String} {af : Array Edge} {g : Fn} {cap : Array Value} (E : Env a n ds l) (hx : opv l f = some (.func g #[] cap)) (ha : opvs l aa.toList = some args)
    (k : ∀ a, Env a n (⟨.fn g cap, args.toArray⟩ :: ds) l → WL none P ops Q rest a w) : WL none P ops Q (⟨none, .defer ⟨.value f, aa, ats⟩, ty, pos, af, none⟩ :: rest) a w := by
  refine WL_op rfl ⟨fun _ _ => trivial, ?_⟩
  have e4 : aa.map a.eval = args.toArray := by rw [← E.evals ha, ← Array.toList_map, Array.toArray_toList]
  have hr : (execOp a.eval ⟨none, .defer ⟨.value f, aa, ats⟩, ty, pos, af, none⟩).run P w = .ok (.defer ⟨.fn g cap, args.toArray⟩) w := by
    simp [execOp, resolve, E.eval hx, Deferred.ofValue, e4]
  rw [show (Fw none).round = none from rfl, Oper.semAt_none]
  rw [hr]
  refine k _ ⟨E.size, ?_, E.get⟩
  show (⟨.fn g cap, args.toArray⟩ :: a.defers : List Deferred) = _
  rw [E.dfr]
/-! deferred unlocks of a sync.RWMutex: the bodies walked once more, inside the fence that the engine asks for -/
section
open Go.RwLone Go.Conc.Locks
variable {P : Program} {L : RwLink}
theorem run_enterF {f : FuncId} {fn : Func} {c : Code} (hf : P.funcs[f]? = some fn) (hname : (fn.name == "runtime.NumGoroutine") = false) (hb : fn.body = some c) (args : Array Value) (w : World) : (callFunc f args).run P w = .ok (.enter f args) w :=
  Go.MuLone.run_callFunc_enter hf hname hb args w
set_option maxRecDepth 100000 in
set_option maxHeartbeats 3200000 in
theorem runlock_din (R : RwRLib P L) {w : World} {p : Nat} {rc : Int} {x0 x2 : Value} (c0 : w.cell? ⟨p, 0, none⟩ = some x0) (c2 : w.cell? ⟨p, 2, none⟩ = some x2)
    (hc : w.cell? ⟨p, 4, none⟩ = some (.int .i32 rc)) (hz : w.frozen? ⟨p, 4, none⟩ = false) (hge : ¬ Go.RowKit.wrap32 (rc + -1) < 0) :
    CallsDIn (Fw none) 0 P L.runlock #[.pointer (some ⟨p, 0, none⟩)] .returning w (fun e u' w' => u' = .returning ∧ (e = .returned (.tuple #[]) ∧ w' = w.setCell ⟨p, 4, none⟩ (.int .i32 (Go.RowKit.wrap32 (rc + -1))))) := by
  have C := R.core
  have b1 := disable C; have b2 := enable C; have b3 := raceRead C; have b4 := releaseMerge C
  have d1 := C.runUnderlying_tRW; have d2 := C.sizeOf_tRW; have d3 := C.isAgg_tRW; have d4 := C.zeroValue_tRW
  have e1 := C.runUnderlying_tAI32; have e2 := C.sizeOf_tAI32; have e3 := C.isAgg_tAI32; have e4 := C.zeroValue_tAI32
  have f1 := C.runUnderlying_tPRW; have f2 := C.sizeOf_tPRW; have f3 := C.isAgg_tPRW; have f4 := C.zeroValue_tPRW
  have g1 := C.runUnderlying_tPAI32; have g2 := C.sizeOf_tPAI32; have g3 := C.isAgg_tPAI32; have g4 := C.zeroValue_tPAI32
  have i1 := C.runUnderlying_tPU32; have i2 := C.sizeOf_tPU32; have i3 := C.isAgg_tPU32; have i4 := C.zeroValue_tPU32
  have j1 := C.runUnderlying_tANoCopy; have j2 := C.sizeOf_tANoCopy; have j3 := C.isAgg_tANoCopy; have j4 := C.zeroValue_tANoCopy
  have k1 := C.runUnderlying_tU32; have k2 := C.sizeOf_tU32; have k3 := C.isAgg_tU32; have k4 := C.zeroValue_tU32
  have l1 := C.runUnderlying_tMutex; have l2 := C.sizeOf_tMutex; have l3 := C.isAgg_tMutex; have l4 := C.zeroValue_tMutex
  have m1 := C.runUnderlying_tPMutex; have m2 := C.sizeOf_tPMutex; have m3 := C.isAgg_tPMutex; have m4 := C.zeroValue_tPMutex
  have n1 := C.runUnderlying_tPI32; have n2 := C.sizeOf_tPI32; have n3 := C.isAgg_tPI32; have n4 := C.zeroValue_tPI32
  have o1 := C.runUnderlying_tUP; have o2 := C.sizeOf_tUP; have o3 := C.isAgg_tUP; have o4 := C.zeroValue_tUP
  have q1 := C.runUnderlying_t21; have q2 := C.sizeOf_t21; have q3 := C.isAgg_t21; have q4 := C.zeroValue_t21
  have v0 := run_convert_to_unsafe (P := P) (src := L.tPMutex) (dst := L.tUP) C.underlying_tPMutex C.underlying_tUP C.room_tMutex c0
  have v2 := run_convert_to_unsafe (P := P) (src := L.tPU32) (dst := L.tUP) C.underlying_tPU32 C.underlying_tUP C.room_tU32 c2
  have hin := fun args w => run_enterF (P := P) C.f_i32add (by kernel_rfl) rfl args w
  refine callsDIn_of_wp R.f_runlock rfl trivial ?_
  show Code.wpIn Fence.wide 0 P _ _ _ _
  rw [wpIn_wide]
  simp only [nt_runlock L, List.size_toArray, List.length_cons, List.length_nil, Nat.reduceAdd, Nat.reduceSub, Array.replicate_succ,
     Array.replicate_zero, List.push_toArray, List.append_toArray, List.nil_append, List.cons_append]
  simp only [runlockFn]
  go_wp2
  refine (i32add_any C ⟨p, 4, none⟩ rc (-1) _ hc hz).mono ?_
  rintro e w' ⟨rfl, rfl⟩
  go_wp2
  go_end0
  exact ⟨rfl, rfl⟩
theorem LV_nil {fn : Func} {tmps : Array Value} {R : Ending → World → Prop} {w : World} {v : Value} (h : (results fn tmps).run P w = .ok v w) (hR : R (.returned v) w) : LeavesInM (Fw none) 0 P fn tmps R [] .returning w := ⟨v, h, hR⟩
theorem LV_runlock (K : RwRLib P L) {fn : Func} {tmps : Array Value} {R : Ending → World → Prop} {ds : List Deferred} {w : World} {M : Hp} {H : List HProp} {p : Nat} {T : TypeId} {n : Int} {q : Value} (h0 : 0 ≤ n) (h1 : n ≤ 1000) (S : St w M (LK p T (n + 1) q :: H))
    (k : ∀ w', St w' M (LK p T n q :: H) → LeavesInM (Fw none) 0 P fn tmps R ds .returning w') : LeavesInM (Fw none) 0 P fn tmps R (⟨.fn (.func L.runlock) #[], #[.pointer (some ⟨p, 0, none⟩)]⟩ :: ds) .returning w := by
  have S1 : St w M (blk p (.cells (lkc (n + 1) q).toArray T) :: H) := S
  have hw : Go.RowKit.wrap32 (n + 1 + -1) = n := by simp [Go.RowKit.wrap32]; omega
  have hc := run_enterF (P := P) K.f_runlock (by kernel_rfl) rfl
  refine ⟨by simp, .inr ⟨by simp [Fw, Fence.wide], .func L.runlock, #[], L.runlock, #[.pointer (some ⟨p, 0, none⟩)], rfl, by simp [invoke, hc], fun _ _ => trivial, (runlock_din K (cellL S1 rfl) (cellL S1 rfl) (cellL S1 rfl) (frzL S1) (by rw [hw]; omega)).mono ?_⟩⟩
  rintro _ _ _ ⟨rfl, rfl, rfl⟩
  refine k _ ?_
  rw [hw]
  exact St.setF (f := 4) (.int .i32 n) S1 (by simp [lkc, lko])
end
section
variable {P : Program} {a : Act} {w : World} {n : Nat} {ds : List Deferred} {l : List (Nat × Value)} {fn : Func} {R : Ending → World → Prop}
theorem F_retL1 {t : Tmp} {v : Value} (E : Env a n ds l) (h : fn.results = #[.tmp t]) (hv : Sl.look l t = some v) (k : (∀ w, (results fn a.tmps).run P w = .ok v w) → LeavesInM (Fw none) 0 P fn a.tmps R ds .returning w) : FPost P fn R .ret a w := by
  show LeavesInM _ _ _ _ _ _ a.defers .returning w
  rw [E.dfr]; exact k fun w => by rw [results_tmp h, E.getD' hv]
end
/-- how two sets stand to each other: equal, below, properly below, above, properly above, with a common member -/
def relL (a b : List Int) : List Bool := [sub' a b && sub' b a, sub' a b, decide (card a < card b) && sub' a b, sub' b a, decide (card b < card a) && sub' b a, any' a b]
theorem relL_len (a b : List Int) : (relL a b).length = 6 := rfl
theorem sub_take {l m : List Int} {k : Nat} {x : Int} (h : l[k]? = some x) : sub' (l.take (k + 1)) m = (sub' (l.take k) m && decide (x ∈ m)) := by
  unfold sub'; rw [List.take_add_one, h]; simp
theorem any_take {l m : List Int} {k : Nat} {x : Int} (h : l[k]? = some x) : any' (l.take (k + 1)) m = (any' (l.take k) m || decide (x ∈ m)) := by
  unfold any'; rw [List.take_add_one, h]; simp
/-- properly below: by numbers as by members -/
theorem proper (a b : List Int) : (decide (card a < card b) && sub' a b) = (sub' a b && !sub' b a) := by
  cases h : sub' a b
  · simp
  · simp only [Bool.and_true, Bool.true_and]
    cases h2 : sub' b a
    · have h3 := card_sub h
      have h4 : card a ≠ card b := fun e => by rw [sub_back h e] at h2; cases h2
      simp; omega
    · have h3 := card_sub h2; simp; omega
theorem relW (a b : List Int) : relL a b = [sub' a b && sub' b a, sub' a b, sub' a b && !sub' b a, sub' b a, sub' b a && !sub' a b, any' a b] := by
  unfold relL; rw [proper a b, proper b a]
theorem suL_set (c : List Int) : suL c = setI c := srt_setB (addsL_nodup c [] List.nodup_nil) fun z => by simp [mem_addsL]
theorem rel1 (a b : List Int) : sub' a b = decide (suL (a.filter (fun z => decide (z ∈ b))) = setI a) := by
  rw [suL_set]
  cases h : sub' a b
  · refine (decide_eq_false fun e => ?_).symm
    have : sub' a b = true := sub_iff.2 fun z hz => by
      have h1 : z ∈ setI (a.filter (fun z => decide (z ∈ b))) := by rw [e]; exact ((setI_spec a).2.1 z).2 hz
      have h2 := ((setI_spec _).2.1 z).1 h1
      rw [List.mem_filter, decide_eq_true_eq] at h2; exact h2.2
    rw [this] at h; cases h
  · refine (decide_eq_true ?_).symm
    refine setI_eq fun z => ?_
    rw [List.mem_filter, decide_eq_true_eq]
    exact ⟨fun h1 => h1.1, fun h1 => ⟨h1, sub_iff.1 h z h1⟩⟩
theorem suL_nil {c : List Int} : (suL c).length = 0 ↔ ∀ z, z ∉ c := by
  rw [List.length_eq_zero_iff]
  constructor
  · intro h z hz
    have := (mem_suL (c := c) (x := z)).2 hz
    rw [h] at this; cases this
  · intro h
    cases e : suL c with
    | nil => rfl
    | cons x l => exact absurd ((mem_suL (c := c) (x := x)).1 (by rw [e]; exact List.mem_cons_self ..)) (h x)
theorem rel2 (a b : List Int) : sub' a b = decide ((suL (a.filter (fun z => decide (z ∉ b)))).length = 0) := by
  cases h : sub' a b
  · refine (decide_eq_false fun e => ?_).symm
    have : sub' a b = true := sub_iff.2 fun z hz => by
      have h1 := suL_nil.1 e z
      rw [List.mem_filter, decide_eq_true_eq] at h1
      exact Decidable.not_not.1 fun h2 => h1 ⟨hz, h2⟩
    rw [this] at h; cases h
  · refine (decide_eq_true (suL_nil.2 fun z hz => ?_)).symm
    rw [List.mem_filter, decide_eq_true_eq] at hz
    exact hz.2 (sub_iff.1 h z hz.1)
theorem rel5 (a b : List Int) : any' a b = decide (0 < (suL (a.filter (fun z => decide (z ∈ b)))).length) := by
  by_cases e : (suL (a.filter (fun z => decide (z ∈ b)))).length = 0
  · rw [decide_eq_false (by omega)]
    have h := suL_nil.1 e
    unfold any'; rw [List.any_eq_false]
    intro x hx h2
    exact h x (List.mem_filter.2 ⟨hx, h2⟩)
  · rw [decide_eq_true (by omega)]
    have h : ¬ ∀ z, z ∉ a.filter (fun z => decide (z ∈ b)) := fun h => e (suL_nil.2 h)
    rw [Classical.not_forall] at h
    obtain ⟨z, hz⟩ := h
    have hz := List.mem_filter.1 (Classical.not_not.1 hz)
    unfold any'; rw [List.any_eq_true]; exact ⟨z, hz.1, hz.2⟩
theorem rel_ne {a b : List Int} {W : List Bool} {i : Nat} {x y : Bool} (hx : (relL a b)[i]? = some x) (hy : W[i]? = some y) (hW : W = relL a b) : (!(x == y)) = false := by
  subst hW; rw [hx] at hy; cases hy; simp
theorem rel_1 {a b : List Int} {x : Bool} (hx : (relL a b)[1]? = some x) : (x == decide (suL (a.filter (fun z => decide (z ∈ b))) = setI a)) = true := by
  have e : sub' a b = x := Option.some.inj hx
  rw [← rel1, e]; simp
theorem rel_2 {a b : List Int} {x : Bool} (hx : (relL a b)[1]? = some x) : (x == decide ((((suL (a.filter (fun z => decide (z ∉ b)))).length : Nat) : Int) = 0)) = true := by
  have e : sub' a b = x := Option.some.inj hx
  have h : (decide ((((suL (a.filter (fun z => decide (z ∉ b)))).length : Nat) : Int) = 0)) = decide ((suL (a.filter (fun z => decide (z ∉ b)))).length = 0) := decide_eq_decide.2 (by omega)
  rw [h, ← rel2, e]; simp
theorem rel_5 {a b : List Int} {x : Bool} (hx : (relL a b)[5]? = some x) : (x == decide (0 < (((suL (a.filter (fun z => decide (z ∈ b)))).length : Nat) : Int))) = true := by
  have e : any' a b = x := Option.some.inj hx
  have h : (decide (0 < (((suL (a.filter (fun z => decide (z ∈ b)))).length : Nat) : Int))) = decide (0 < (suL (a.filter (fun z => decide (z ∈ b)))).length) := decide_eq_decide.2 (by omega)
  rw [h, ← rel5, e]; simp
theorem rel_0 {x : Bool} (hx : (relL [1] [1])[0]? = some x) : (!x) = false := by
  have e : (relL [1] [1])[0]? = some true := by decide
  rw [e] at hx; cases hx; rfl

end Go.Proofs.YtlmpgefhnmfhpaaGreat.wFnSetRelations
