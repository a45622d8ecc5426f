/- Walks through the functions that laws.FnSortedness reaches: what each computes; no conditions beyond what each theorem states. -/
import Derived.Test.YtpncgdecfhfjmaaProg
import Derived.Test.YtpncgdecfhfjmaaSlS
import Derived.Ground.SlgmProg
set_option linter.unusedVariables false
set_option linter.unusedSimpArgs false
namespace Go.Proofs.Ytpncgdecfhfjmaa.wFnSortedness
open Go Go.Sl
theorem Try.mixed : Try.prog.follows .mixedOrders = true := by kernel_rfl
theorem T22 : SlT Try.prog 22 3 1 8 (.int .i64 0) := ⟨Try.underlying22, ⟨Try.t3, by kernel_rfl, rfl, rfl, rfl⟩, rfl, by decide⟩
theorem T54 : SlT Try.prog 54 22 1 24 (.slice none 0 0) := ⟨Try.underlying54, ⟨Try.t22, by kernel_rfl, rfl, rfl, rfl⟩, rfl, by decide⟩
theorem MT93 : MapT Try.prog 93 3 98 (.agg #[]) := ⟨Try.underlying93, Try.underlying3, ⟨Try.t98, by kernel_rfl, rfl⟩⟩
theorem FB24__ (w : World) : (Instr.build 24 #[]).run Try.prog w = .ok (.agg #[(.int .i64 0), (.int .i64 0)]) w := run_build _ _ _ _ (by kernel_rfl)
theorem FB37_0_i (x0 : Int) (w : World) : (Instr.build 37 #[(0, (.int .i64 x0))]).run Try.prog w = .ok (.agg #[(.int .i64 x0), (.int .i64 0)]) w := run_build _ _ _ _ (by kernel_rfl)
theorem FB98__ (w : World) : (Instr.build 98 #[]).run Try.prog w = .ok (.agg #[]) w := run_build _ _ _ _ (by kernel_rfl)
theorem FA24_0 (p : Addr) (w : World) : (Instr.fieldAt 24 (.pointer (some p)) 0).run Try.prog w = .ok (.pointer (some (p.add 0))) w := by kernel_rfl
theorem FA24_1 (p : Addr) (w : World) : (Instr.fieldAt 24 (.pointer (some p)) 1).run Try.prog w = .ok (.pointer (some (p.add 1))) w := by kernel_rfl
theorem FA37_0 (p : Addr) (w : World) : (Instr.fieldAt 37 (.pointer (some p)) 0).run Try.prog w = .ok (.pointer (some (p.add 0))) w := by kernel_rfl
theorem FA37_1 (p : Addr) (w : World) : (Instr.fieldAt 37 (.pointer (some p)) 1).run Try.prog w = .ok (.pointer (some (p.add 1))) w := by kernel_rfl
theorem set_fill {p q : List Int} {n : Nat} {y : Int} (h : p.length < n) (hq : q = p ++ [y]) : (p ++ List.replicate (n - p.length) (0 : Int)).set p.length y = q ++ List.replicate (n - q.length) (0 : Int) := by
  subst hq
  rw [List.set_append_right _ _ (Nat.le_refl _), Nat.sub_self]
  obtain ⟨m, hm⟩ : ∃ m, n - p.length = m + 1 := ⟨n - p.length - 1, by omega⟩
  rw [hm, List.replicate_succ, List.set_cons_zero]
  simp; omega

theorem tmod_emod (a b : Int) (hb : b ≠ 0) : (Int.tmod a b = a % b ∨ Int.tmod a b = a % b - b.natAbs) ∧ 0 ≤ a % b ∧ a % b < b.natAbs := by
  refine ⟨?_, Int.emod_nonneg _ hb, ?_⟩
  · rw [Int.tmod_eq_emod]; split <;> simp
  · have := Int.emod_lt a hb; omega
theorem getLastD_append1 (l : List Int) (x : Int) : (l ++ [x]).getLastD 0 = x := by rw [List.getLastD_eq_getLast?, List.getLast?_append]; rfl
def w64 (x : Int) : Int := IntKind.i64.wrap x
def keyAt (k n x i : Int) : Int :=
  if k = 0 then w64 (x + n) else if k = 1 then w64 (x * n) else if k = 2 then (if n = 0 then x else x % n) else if k = 3 then n else if k = 4 then i else x
theorem w64_in {x : Int} (h : -9223372036854775808 ≤ x ∧ x ≤ 9223372036854775807) : w64 x = x := wrap_in h
def mapI (f : Int → Int → Int) : Nat → List Int → List Int
  | _, [] => []
  | i, x :: l => f x i :: mapI f (i + 1) l
theorem mapI_len (f : Int → Int → Int) : ∀ (l : List Int) (i : Nat), (mapI f i l).length = l.length
  | [], i => rfl
  | x :: l, i => by simp [mapI, mapI_len f l (i + 1)]
theorem mapI_append (f : Int → Int → Int) : ∀ (a b : List Int) (i : Nat), mapI f i (a ++ b) = mapI f i a ++ mapI f (i + a.length) b
  | [], b, i => by simp [mapI]
  | x :: a, b, i => by
    simp only [List.cons_append, mapI, mapI_append f a b (i + 1), List.length_cons]
    rw [show i + 1 + a.length = i + (a.length + 1) by omega]
theorem mapI_succ {f : Int → Int → Int} {l : List Int} {k : Nat} {x : Int} (h : l[k]? = some x) : mapI f 0 (l.take (k + 1)) = mapI f 0 (l.take k) ++ [f x k] := by
  have hk := (List.getElem?_eq_some_iff.1 h).1
  rw [List.take_add_one, h, mapI_append]
  simp only [Option.toList_some, mapI, List.length_take, Nat.zero_add, Nat.min_eq_left (Nat.le_of_lt hk)]

theorem modA (x n : Int) (hn : 0 < n) : (0 ≤ x % n ∧ x % n < n) ∧ (((-x) % n = 0 ∧ x % n = 0) ∨ (0 < (-x) % n ∧ x % n = n - (-x) % n)) := by
  have h1 := Int.emod_nonneg x (show n ≠ 0 by omega)
  have h2 := Int.emod_lt_of_pos x hn
  refine ⟨⟨h1, h2⟩, ?_⟩
  have h3 := Int.emod_nonneg (-x) (show n ≠ 0 by omega)
  have h4 := Int.emod_lt_of_pos (-x) hn
  have h5 : (x % n + (-x) % n) % n = 0 := by rw [← Int.add_emod, Int.add_right_neg, Int.zero_emod]
  have h6 : n ∣ (x % n + (-x) % n) := Int.dvd_of_emod_eq_zero h5
  obtain ⟨q, hq⟩ := h6
  have h7 : q = 0 ∨ q = 1 := by
    have hq0 : 0 ≤ q := by
      refine Int.not_lt.1 fun hlt => ?_
      have : n * q < 0 := Int.mul_neg_of_pos_of_neg hn hlt
      omega
    have hq2 : q < 2 := by
      refine Int.not_le.1 fun hle => ?_
      have : n * 2 ≤ n * q := Int.mul_le_mul_of_nonneg_left hle (by omega)
      omega
    omega
  rcases h7 with rfl | rfl
  · left; omega
  · by_cases h8 : (-x) % n = 0
    · omega
    · right; omega

theorem mapI_map {f : Int → Int → Int} {g : Int → Int} (h : ∀ x i, f x i = g x) : ∀ (l : List Int) (i : Nat), mapI f i l = l.map g
  | [], i => rfl
  | x :: l, i => by unfold mapI; rw [h, mapI_map h l (i + 1)]; rfl
theorem keyAt_free {k n : Int} (h : ¬ k = 4) (x i : Int) : keyAt k n x i = keyAt k n x 0 := by unfold keyAt; simp [h]

def PF2T (P : Program) (fv : Value) (M : Hp) (f : Int → Int → Int × Bool) : Prop := fv.oneCell' = true ∧ ∀ x i : Int, Pu P fv M [.int .i64 x, .int .i64 i] (fun r _ => r = .tuple #[.int .i64 (f x i).1, .bool (f x i).2])
theorem PF2T.le {P : Program} {fv : Value} {M M' : Hp} {f : Int → Int → Int × Bool} (h : PF2T P fv M f) (hM : Hp.le M M') : PF2T P fv M' f := ⟨h.1, fun x i => (h.2 x i).le hM⟩
def keyL (l : List Int) : List Int := l.foldl addS []
theorem keyL_succ {l : List Int} {k : Nat} {x : Int} (h : l[k]? = some x) : keyL (l.take (k + 1)) = addS (keyL (l.take k)) x := by rw [List.take_add_one, h]; simp [keyL]
theorem take_all {P : Int → Prop} {l : List Int} {k : Nat} {y : Int} (h : ∀ x ∈ l.take k, P x) (hy : l[k]? = some y) (hp : P y) : ∀ x ∈ l.take (k + 1), P x := by
  intro x hx; rw [List.take_add_one, hy, List.mem_append] at hx
  rcases hx with hx | hx
  · exact h x hx
  · simp at hx; rw [hx]; exact hp
theorem take_s {l : List Int} {k : Nat} {x : Int} (hx : l[k]? = some x) : l.take (k + 1) = l.take k ++ [x] ∧ (l.take k).length = k := by
  have hk := (List.getElem?_eq_some_iff.1 hx).1
  rw [List.take_add_one, hx]; exact ⟨rfl, by rw [List.length_take]; omega⟩
theorem map_take_s {l : List Int} {k : Nat} {x : Int} (f : Int → Int) (hx : l[k]? = some x) : (l.take (k + 1)).map f = (l.take k).map f ++ [f x] := by
  rw [(take_s hx).1]; simp
theorem isE_app {p : List Int} {x : Int} (h : ¬ p = []) : p.isEmpty = (p ++ [x]).isEmpty := by cases p; exact absurd rfl h; rfl
theorem isE_app2 {p : List Int} {x : Int} (h : p.isEmpty = false) : p.isEmpty = (p ++ [x]).isEmpty := by cases p; exact absurd h (by simp); rfl
theorem key5 (n : Int) : (fun x : Int => keyAt 5 n x 0) = fun x => x := by funext x; simp [keyAt]
theorem map_key5 (n : Int) (l : List Int) : l.map (fun x : Int => keyAt 5 n x 0) = l := by rw [key5]; simp

theorem foldl_inv {σ : Type} (f : σ → Int → σ) (Q : List Int → σ → Prop) (s0 : σ) (h0 : Q [] s0) (hs : ∀ p x, Q p (p.foldl f s0) → Q (p ++ [x]) (f (p.foldl f s0) x)) : ∀ (n : Nat) (l : List Int), l.length = n → Q l (l.foldl f s0)
  | 0, l, h => by have := List.eq_nil_of_length_eq_zero h; subst this; exact h0
  | n + 1, l, h => by
    obtain ⟨p, x, rfl⟩ : ∃ p x, l = p ++ [x] := ⟨l.dropLast, l.getLast (by intro e; subst e; simp at h), (List.dropLast_concat_getLast _).symm⟩
    have ih := foldl_inv f Q s0 h0 hs n p (by simpa using h)
    have e : (p ++ [x]).foldl f s0 = f (p.foldl f s0) x := by simp
    rw [e]; exact hs p x ih
theorem take_snoc {b : List Int} {i : Nat} {x : Int} (h : b[i]? = some x) : b.take (i + 1) = b.take i ++ [x] := by rw [List.take_add_one, h]; rfl
/-! ## a list sorted by insertions -/
def insI (x : Int) (l : List Int) : List Int := l.takeWhile (fun y => decide (y ≤ x)) ++ x :: l.dropWhile (fun y => decide (y ≤ x))
def sortI (l : List Int) : List Int := l.foldl (fun s x => insI x s) []
theorem insI_len (x : Int) (l : List Int) : (insI x l).length = l.length + 1 := by
  have := congrArg List.length (List.takeWhile_append_dropWhile (p := fun y => decide (y ≤ x)) (l := l))
  rw [List.length_append] at this
  unfold insI; simp only [List.length_append, List.length_cons]; omega
theorem insI_perm (x : Int) (l : List Int) : (insI x l).Perm (x :: l) := by
  unfold insI
  refine List.perm_middle.trans ?_
  rw [List.takeWhile_append_dropWhile]
theorem sortI_app (l : List Int) (x : Int) : sortI (l ++ [x]) = insI x (sortI l) := by simp [sortI]
theorem sortI_len (l : List Int) : (sortI l).length = l.length :=
  foldl_inv (fun s x => insI x s) (fun p s => s.length = p.length) [] rfl (fun p x h => by rw [insI_len, h]; simp) _ l rfl
theorem sortI_perm (l : List Int) : (sortI l).Perm l :=
  foldl_inv (fun s x => insI x s) (fun p s => s.Perm p) [] (List.Perm.refl _) (fun p x h => (insI_perm x _).trans ((h.cons x).trans (List.perm_append_singleton x p).symm)) _ l rfl
theorem ins_at {s : List Int} {x : Int} {j : Nat} (hj : j ≤ s.length) (h : ∀ y ∈ s.take j, y ≤ x) (h2 : s.length ≤ j ∨ ∃ v, s[j]? = some v ∧ ¬ v ≤ x) : s.take j ++ [x] ++ s.drop j = insI x s := by
  have e1 : s.takeWhile (fun y => decide (y ≤ x)) = s.take j ∧ s.dropWhile (fun y => decide (y ≤ x)) = s.drop j := by
    clear hj
    induction s generalizing j with
    | nil => simp
    | cons a s ih =>
      cases j with
      | zero =>
        rcases h2 with h2 | ⟨v, hv, hn⟩
        · simp at h2
        · have : a = v := by simpa using hv
          subst this
          simp [List.takeWhile_cons, List.dropWhile_cons, hn]
      | succ j =>
        have ha : a ≤ x := h a (by simp)
        have := ih (j := j) (fun y hy => h y (by simp [hy])) (by
          rcases h2 with h2 | ⟨v, hv, hn⟩
          · left; simp at h2; omega
          · right; exact ⟨v, by simpa using hv, hn⟩)
        simp [List.takeWhile_cons, List.dropWhile_cons, ha, this.1, this.2]
  unfold insI; rw [e1.1, e1.2]; simp
def SortedI (l : List Int) : Prop := l.Pairwise (· ≤ ·)
theorem insI_sorted {x : Int} {l : List Int} (h : SortedI l) : SortedI (insI x l) := by
  unfold SortedI at h ⊢
  induction l with
  | nil => simp [insI]
  | cons a l ih =>
    rw [List.pairwise_cons] at h
    by_cases ha : a ≤ x
    · have e : insI x (a :: l) = a :: insI x l := by unfold insI; simp [List.takeWhile_cons, List.dropWhile_cons, ha]
      rw [e, List.pairwise_cons]
      refine ⟨fun y hy => ?_, ih h.2⟩
      rcases List.mem_cons.1 ((insI_perm x l).subset hy) with rfl | hy
      · exact ha
      · exact h.1 y hy
    · have e : insI x (a :: l) = x :: a :: l := by unfold insI; simp [List.takeWhile_cons, List.dropWhile_cons, ha]
      rw [e, List.pairwise_cons, List.pairwise_cons]
      refine ⟨fun y hy => ?_, h⟩
      rcases List.mem_cons.1 hy with rfl | hy
      · omega
      · have := h.1 y hy; omega
theorem sortI_sorted (l : List Int) : SortedI (sortI l) :=
  foldl_inv (fun s x => insI x s) (fun _ s => SortedI s) [] List.Pairwise.nil (fun p x h => insI_sorted h) _ l rfl
theorem sorted_eq : ∀ {a b : List Int}, SortedI a → SortedI b → a.Perm b → a = b
  | [], b, _, _, h => (List.nil_perm.1 h).symm ▸ rfl
  | x :: a, [], _, _, h => by simp at h
  | x :: a, y :: b, ha, hb, h => by
    unfold SortedI at ha hb
    rw [List.pairwise_cons] at ha hb
    have h1 : x ≤ y := by
      rcases List.mem_cons.1 (h.symm.subset (List.mem_cons_self ..)) with e | e
      · omega
      · exact ha.1 y e
    have h2 : y ≤ x := by
      rcases List.mem_cons.1 (h.subset (List.mem_cons_self ..)) with e | e
      · omega
      · exact hb.1 x e
    have e : x = y := by omega
    subst e
    rw [sorted_eq ha.2 hb.2 ((List.perm_cons x).1 h)]
theorem sortI_take {l : List Int} {k : Nat} {x : Int} (h : l[k]? = some x) : sortI (l.take (k + 1)) = insI x (sortI (l.take k)) := by rw [(take_s h).1, sortI_app]

theorem key0_map {l : List Int} (h : ∀ x ∈ l, -9223372036854775808 ≤ x ∧ x ≤ 9223372036854775807) : l.map (fun x => keyAt 0 0 x 0) = l := by
  have : ∀ x ∈ l, (fun x => keyAt 0 0 x 0) x = id x := fun x hx => by simp only [keyAt, if_true, Int.add_zero]; exact w64_in (h x hx)
  rw [List.map_congr_left this]; simp
def SortedU (l : List Int) : Prop := l.Pairwise (· < ·)
theorem SortedU.le {l : List Int} (h : SortedU l) : SortedI l := List.Pairwise.imp (fun h => by omega) h
instance (l : List Int) : Decidable (SortedI l) := inferInstanceAs (Decidable (l.Pairwise (· ≤ ·)))
theorem asc_step {l : List Int} {k : Nat} {a b : Int} (h : SortedI (l.take (k + 1))) (ha : l[k]? = some a) (hb : l[k + 1]? = some b) (hab : a ≤ b) : SortedI (l.take (k + 1 + 1)) := by
  have e1 : l.take (k + 1) = l.take k ++ [a] := take_snoc ha
  have e2 : l.take (k + 1 + 1) = l.take (k + 1) ++ [b] := take_snoc hb
  unfold SortedI at h ⊢
  rw [e2, List.pairwise_append]
  refine ⟨h, by simp, fun y hy z hz => ?_⟩
  simp at hz; subst hz
  rw [e1] at h hy
  rw [List.pairwise_append] at h
  rcases List.mem_append.1 hy with hy | hy
  · have := h.2.2 y hy a (by simp); omega
  · simp at hy; omega
theorem asc_no {l : List Int} {k : Nat} {a b : Int} (ha : l[k]? = some a) (hb : l[k + 1]? = some b) (hab : ¬ a ≤ b) : ¬ SortedI l := by
  intro h
  obtain ⟨h1, e1⟩ := List.getElem?_eq_some_iff.1 ha
  obtain ⟨h2, e2⟩ := List.getElem?_eq_some_iff.1 hb
  have := List.pairwise_iff_getElem.1 h k (k + 1) h1 h2 (by omega)
  rw [e1, e2] at this; exact hab this
theorem asc_one {l : List Int} {k : Nat} (h : k ≤ 1) : SortedI (l.take k) := by
  match k, h with
  | 0, _ => simp [SortedI]
  | 1, _ => cases l <;> simp [SortedI]
theorem asc_all {l : List Int} {k : Nat} (h : SortedI (l.take k)) (hk : l.length ≤ k) : SortedI l := by rwa [List.take_of_length_le hk] at h
theorem asc_snoc {p : List Int} {x : Int} (h : SortedI p) (hx : p = [] ∨ p.getLastD 0 ≤ x) : SortedI (p ++ [x]) := by
  unfold SortedI at h ⊢
  rw [List.pairwise_append]
  refine ⟨h, by simp, fun y hy z hz => ?_⟩
  simp at hz; subst hz
  rcases hx with hx | hx
  · subst hx; cases hy
  · obtain ⟨q, a, rfl⟩ : ∃ q a, p = q ++ [a] := ⟨p.dropLast, p.getLast (by intro e; subst e; cases hy), (List.dropLast_concat_getLast _).symm⟩
    rw [getLastD_append1] at hx
    rw [List.pairwise_append] at h
    rcases List.mem_append.1 hy with hy | hy
    · have := h.2.2 y hy a (by simp); omega
    · simp at hy; omega
theorem asc_bad {p l : List Int} {x : Int} (h : p ++ [x] <+: l) (hne : ¬ p = []) (hx : ¬ p.getLastD 0 ≤ x) : ¬ SortedI l := by
  obtain ⟨r, rfl⟩ := h
  obtain ⟨q, a, rfl⟩ : ∃ q a, p = q ++ [a] := ⟨p.dropLast, p.getLast hne, (List.dropLast_concat_getLast _).symm⟩
  rw [getLastD_append1] at hx
  intro h2
  unfold SortedI at h2
  rw [List.pairwise_append, List.pairwise_append] at h2
  exact hx (h2.1.2.2 a (by simp) x (by simp))
theorem srtM_sorted (l : List Int) : SortedI (srtM l) := by
  have := List.pairwise_mergeSort (le := fun x y : Int => decide (x ≤ y)) (fun a b c h1 h2 => by simp at *; omega) (fun a b => by simp; omega) l
  exact List.Pairwise.imp (fun h => by simpa using h) this
theorem srtM_perm (l : List Int) : (srtM l).Perm l := List.mergeSort_perm ..
theorem srtM_perm_eq {a b : List Int} (h : a.Perm b) : srtM a = srtM b := sorted_eq (srtM_sorted a) (srtM_sorted b) ((srtM_perm a).trans (h.trans (srtM_perm b).symm))
theorem sortI_asc (l : List Int) : decide (l = sortI l) = decide (SortedI l) := by
  rw [decide_eq_decide]
  constructor
  · intro h; rw [h]; exact sortI_sorted l
  · intro h; exact sorted_eq h (sortI_sorted l) (sortI_perm l).symm

theorem map_at {f : Int → Int} {l : List Int} {k : Nat} {x : Int} (h : l[k]? = some x) : (l.map f)[k]? = some (f x) := by rw [List.getElem?_map, h]; rfl
theorem map_pre {f : Int → Int} {p l : List Int} {x : Int} (h : p ++ [x] <+: l) : p.map f ++ [f x] <+: l.map f := by have := h.map f; simpa using this

theorem keyL_le' (l : List Int) : (keyL l).length ≤ l.length :=
  foldl_inv addS (fun p s => s.length ≤ p.length) [] (Nat.le_refl _) (fun p x h => by
    generalize p.foldl addS [] = s at h ⊢
    unfold addS; split
    · simp; omega
    · simp; omega) _ l rfl
theorem asc_iff {l : List Int} {k : Nat} {a b : Int} (h : SortedI (l.take (k + 1))) (ha : l[k]? = some a) (hb : l[k + 1]? = some b) : decide (a ≤ b) = decide (SortedI (l.take (k + 1 + 1))) := by
  rw [decide_eq_decide]
  have e2 : l.take (k + 1 + 1) = l.take (k + 1) ++ [b] := take_snoc hb
  constructor
  · exact asc_step h ha hb
  · intro h2
    by_cases c : a ≤ b
    · exact c
    · have hl := (List.getElem?_eq_some_iff.1 hb).1
      exact absurd h2 (asc_no (k := k) (a := a) (b := b) (by rw [List.getElem?_take_of_lt (by omega)]; exact ha) (by rw [List.getElem?_take_of_lt (by omega)]; exact hb) c)
theorem asc_stay {l : List Int} {k : Nat} {b : Int} (h : ¬ SortedI (l.take (k + 1))) (hk : k + 1 < l.length) : false = decide (SortedI (l.take (k + 1 + 1))) := by
  refine (decide_eq_false fun h2 => h ?_).symm
  have e2 : l.take (k + 1 + 1) = l.take (k + 1) ++ [l[k + 1]] := take_snoc (List.getElem?_eq_getElem hk)
  unfold SortedI at h2 ⊢
  rw [e2, List.pairwise_append] at h2
  exact h2.1

theorem snocN {p : List Int} {k : Int} (h : p.Nodup) (hk : k ∉ p) : (p ++ [k]).Nodup :=
  List.nodup_append.2 ⟨h, by simp, fun a ha b hb => by simp at hb; subst hb; intro e; subst e; exact hk ha⟩
theorem snocS {p m : List Int} {k : Int} (h : ∀ z ∈ p, z ∈ m) (hk : k ∈ m) : ∀ z ∈ p ++ [k], z ∈ m := by
  intro z hz; rcases List.mem_append.1 hz with e | e
  · exact h z e
  · simp at e; rw [e]; exact hk

set_option maxRecDepth 100000 in
set_option maxHeartbeats 4000000 in
theorem lo_IsSorted {M : Hp} {v0 : Value} {l0 : List Int} (h0 : RdI M v0 l0) :
    Pu Try.prog (.func (.func 84) #[] #[]) M [v0] (fun r M' => r = .bool (decide (SortedI l0))) := by
  refine Pu_enter Try.func84 rfl Try.ntmps84 rfl Try.call84 ?_
  intro a w M1 H hM1 S E
  replace h0 := h0.le hM1
  have b0 := h0.bound
  refine WP_seq ?_
  refine WP_region ?_
  refine S_v E rfl (R_assign E rfl) rfl ?_
  clear E a; intro a E
  refine WL_nil ?_
  refine T_n ?_
  refine WP_seq ?_
  refine WP_seq ?_
  refine WP_region ?_
  refine S_v E rfl (R_assign E rfl) rfl ?_
  clear E a; intro a E
  refine WL_nil ?_
  refine T_n ?_
  refine WP_block ?_
  refine WP_loop (γ := Nat) (fun (k : Nat) a w => ∃ (M_1 : Hp), Hp.le M1 M_1 ∧ St w M_1 (H) ∧ Env a 20 [] [(0, v0), (3, .int .i64 ((k + 1 : Nat) : Int))] ∧ (k ≤ l0.length) ∧ (SortedI (l0.take (k + 1)))) (fun k => l0.length - k) 0 ⟨M1, Hp.le.refl _, S, E.keep ⟨rfl, look_nat (i := 1) rfl (by (rfl)), trivial⟩, (by omega), (by exact asc_one (by omega))⟩ ?_
  try clear E
  try clear S
  try clear a
  try clear w
  rintro k a w ⟨M_1, hM_1, S, E, hL0_0, hL0_1⟩
  replace h0 := h0.le hM_1
  refine WP_seq ?_
  refine WP_seq ?_
  refine WP_region ?_
  refine S_v E rfl (R_move E rfl) rfl ?_
  clear E a; intro a E
  refine S_v E rfl (R_move E rfl) rfl ?_
  clear E a; intro a E
  refine S_v E rfl (R_lenV E rfl T22 h0.len) rfl ?_
  clear E a; intro a E
  refine S_v E rfl (R_lss E rfl rfl) rfl ?_
  clear E a; intro a E
  refine WL_nil ?_
  refine T_n ?_
  refine WP_cond E rfl (fun hc_2 => ?_) (fun hc_2 => ?_)
  · replace hc_2 := of_decide_eq_true hc_2
    refine WP_skip ?_
    refine T_n ?_
    refine WP_seq ?_
    refine WP_block ?_
    refine WP_seq ?_
    replace S := S.mono_heap (w' := World.drew _) rfl
    refine WP_drawn (C := fun x w => agree M_1 w) (bf := (fun i => [])) [0, 1, 2, 3, 4, 5, 6, 7, 8, 9] [0, 1, 2, 3, 4, 5, 6, 7, 8, 9] Try.mixed (by kernel_rfl) (fun x hq => S.imm) ?_
    refine D_v E rfl rfl rfl (fun w hC => (R_move E rfl)) ?_
    clear E a; intro a E
    refine D_v E rfl rfl rfl (fun w hC => (R_move E rfl)) ?_
    clear E a; intro a E
    refine D_v E rfl rfl rfl (fun w hC => (R_subx (m := ((k + 1 - 1 : Nat) : Int)) E rfl rfl (by omega) (by omega))) ?_
    clear E a; intro a E
    obtain ⟨x_3, hx_3⟩ : ∃ x, (l0)[k + 1 - 1]? = some x := ⟨_, List.getElem?_eq_getElem (by first | omega | (simp; done) | (simp; omega) | (simp_all; omega))⟩
    obtain ⟨p_4, hp_4, qp_4⟩ := h0.at hx_3
    refine D_v E rfl rfl rfl (fun w hC => (R_idx E rfl rfl T22 hp_4 rfl)) ?_
    clear E a; intro a E
    refine D_v E rfl rfl rfl (fun w hC => (R_loadM E rfl Try.isAgg3 hC qp_4)) ?_
    clear E a; intro a E
    refine D_v E rfl rfl rfl (fun w hC => (R_move E rfl)) ?_
    clear E a; intro a E
    refine D_v E rfl rfl rfl (fun w hC => (R_move E rfl)) ?_
    clear E a; intro a E
    obtain ⟨x_5, hx_5⟩ : ∃ x, (l0)[k + 1]? = some x := ⟨_, List.getElem?_eq_getElem (by first | omega | (simp; done) | (simp; omega) | (simp_all; omega))⟩
    obtain ⟨p_6, hp_6, qp_6⟩ := h0.at hx_5
    refine D_v E rfl rfl rfl (fun w hC => (R_idx E rfl rfl T22 hp_6 rfl)) ?_
    clear E a; intro a E
    refine D_v E rfl rfl rfl (fun w hC => (R_loadM E rfl Try.isAgg3 hC qp_6)) ?_
    clear E a; intro a E
    refine D_v E rfl rfl rfl (fun w hC => (R_gtr E rfl rfl)) ?_
    clear E a; intro a E
    refine D_end (NoP_n ?_)
    refine T_n ?_
    refine WP_cond E rfl (fun hc_7 => ?_) (fun hc_7 => ?_)
    · replace hc_7 := of_decide_eq_true hc_7
      refine WP_seq ?_
      refine WP_region ?_
      refine S_v E rfl (R_assign E rfl) rfl ?_
      clear E a; intro a E
      refine WL_nil ?_
      refine T_n ?_
      refine WP_ret ?_
      refine B_r ?_
      refine T_r ?_
      refine T_r ?_
      refine B_r ?_
      refine T_r ?_
      exact F_ret1 E Try.results84 rfl ⟨_, rfl, M_1, hM_1, (bF (by (exact asc_no (k := k) (by assumption) (by assumption) (by omega)))), S⟩
    · replace hc_7 := of_decide_eq_false hc_7
      refine WP_skip ?_
      refine B_n ?_
      refine T_n ?_
      refine WP_region ?_
      refine S_v E rfl (R_move E rfl) rfl ?_
      clear E a; intro a E
      refine S_v E rfl (R_addx (m := ((k + 1 + 1 : Nat) : Int)) E rfl rfl (by omega) (by omega)) rfl ?_
      clear E a; intro a E
      refine S_v E rfl (R_assign E rfl) rfl ?_
      clear E a; intro a E
      refine WL_nil ?_
      refine T_n ?_
      exact ⟨k + 1, ⟨M_1, hM_1, S, E.keep ⟨rfl, look_nat (i := k + 1 + 1) rfl (by (rfl)), trivial⟩, (by omega), (by exact asc_step (k := k) hL0_1 (by assumption) (by assumption) (by omega))⟩, by omega⟩
  · replace hc_2 := of_decide_eq_false hc_2
    refine WP_exit ?_
    refine T_x ?_
    refine T_x ?_
    refine B_x ?_
    refine T_n ?_
    refine WP_seq ?_
    refine WP_region ?_
    refine S_v E rfl (R_assign E rfl) rfl ?_
    clear E a; intro a E
    refine WL_nil ?_
    refine T_n ?_
    refine WP_ret ?_
    exact F_ret1 E Try.results84 rfl ⟨_, rfl, M_1, hM_1, (bT (by (exact asc_all hL0_1 (by omega)))), S⟩

set_option maxRecDepth 100000 in
set_option maxHeartbeats 4000000 in
theorem impl_IsSorted {M : Hp} {v0 : Value} {l0 : List Int} (h0 : RdI M v0 l0) :
    Pu Try.prog (.func (.func 45) #[] #[]) M [v0] (fun r M' => r = .bool (decide (SortedI l0))) := by
  refine Pu_enter Try.func45 rfl Try.ntmps45 rfl Try.call45 ?_
  intro a w M1 H hM1 S E
  replace h0 := h0.le hM1
  have b0 := h0.bound
  refine WP_seq ?_
  refine WP_region ?_
  refine S_v E rfl (R_assign E rfl) rfl ?_
  clear E a; intro a E
  refine WL_nil ?_
  refine T_n ?_
  refine WP_seq ?_
  refine WP_region ?_
  refine S_v E rfl (R_move E rfl) rfl ?_
  clear E a; intro a E
  refine S_x (X_pu E S rfl rfl rfl (lo_IsSorted h0) (Hp.le.refl _) ?_)
  clear E a S; rintro a _ w M_1 hM_1 rfl S E
  replace h0 := h0.le hM_1
  refine S_v E rfl (R_assign E rfl) rfl ?_
  clear E a; intro a E
  refine WL_nil ?_
  refine T_n ?_
  refine WP_ret ?_
  exact F_ret1 E Try.results45 rfl ⟨_, rfl, M_1, hM_1, rfl, S⟩

set_option maxRecDepth 100000 in
set_option maxHeartbeats 4000000 in
theorem laws_few {M : Hp} {v0 : Value} {l0 : List (List Int)} (h0 : RdII M v0 l0) :
    Pu Try.prog (.func (.func 9) #[] #[]) M [v0] (fun r M' => r = .bool (decide (∀ x ∈ l0, x.length ≤ 300))) := by
  refine Pu_enter Try.func9 rfl Try.ntmps9 rfl Try.call9 ?_
  intro a w M1 H hM1 S E
  replace h0 := h0.le hM1
  have b0 := h0.bound
  refine WP_seq ?_
  refine WP_region ?_
  refine S_v E rfl (R_assign E rfl) rfl ?_
  clear E a; intro a E
  refine WL_nil ?_
  refine T_n ?_
  refine WP_seq ?_
  refine WP_seq ?_
  refine WP_region ?_
  refine S_v E rfl (R_move E rfl) rfl ?_
  clear E a; intro a E
  refine S_v E rfl (R_lenV E rfl T54 h0.len) rfl ?_
  clear E a; intro a E
  refine S_v E rfl (R_move E rfl) rfl ?_
  clear E a; intro a E
  refine WL_nil ?_
  refine T_n ?_
  refine WP_block ?_
  refine WP_loop (γ := Nat) (fun (k : Nat) a w => ∃ (M_1 : Hp), Hp.le M1 M_1 ∧ St w M_1 (H) ∧ Env a 15 [] [(5, v0), (6, .int .i64 (((l0).length : Nat) : Int)), (7, .int .i64 ((k : Nat) : Int))] ∧ (k ≤ (l0).length) ∧ (∀ x ∈ l0.take k, x.length ≤ 300)) (fun k => ((l0).length) - k) 0 ⟨M1, Hp.le.refl _, S, E.keep ⟨rfl, rfl, rfl, trivial⟩, by ((try clear S); (try clear E); first | assumption | omega | rfl | (simp; done) | (simp_all; done) | (simp [List.take_add_one, *]; done) | grind [List.take_add_one]), by ((try clear S); (try clear E); first | assumption | omega | rfl | (simp; done) | (simp_all; done) | (simp [List.take_add_one, *]; done) | grind [List.take_add_one])⟩ ?_
  try clear E
  try clear S
  try clear a
  try clear w
  rintro k a w ⟨M_1, hM_1, S, E, hL0_0, hL0_1⟩
  replace h0 := h0.le hM_1
  refine WP_seq ?_
  refine WP_region ?_
  refine S_v E rfl (R_lss E rfl rfl) rfl ?_
  clear E a; intro a E
  refine WL_nil ?_
  refine T_n ?_
  refine WP_seq ?_
  refine WP_cond E rfl (fun hc_2 => ?_) (fun hc_2 => ?_)
  · replace hc_2 := of_decide_eq_true hc_2
    refine WP_skip ?_
    refine T_n ?_
    refine WP_seq ?_
    refine WP_block ?_
    refine WP_seq ?_
    refine WP_region ?_
    obtain ⟨x_3, hx_3⟩ : ∃ x, (l0)[k]? = some x := ⟨_, List.getElem?_eq_getElem (by first | omega | (simp; done) | (simp; omega) | (simp_all; omega))⟩
    obtain ⟨p_4, u_5, hp_4, qp_4, hu_5⟩ := h0.at hx_3
    have bu_5 := hu_5.bound
    refine S_v E rfl (R_idx E rfl rfl T54 hp_4 rfl) rfl ?_
    clear E a; intro a E
    refine S_v E rfl (R_loadM E rfl Try.isAgg22 S.imm qp_4) rfl ?_
    clear E a; intro a E
    refine S_v E rfl (R_assign E rfl) rfl ?_
    clear E a; intro a E
    refine WL_nil ?_
    refine T_n ?_
    refine WP_seq ?_
    refine WP_region ?_
    refine S_v E rfl (R_move E rfl) rfl ?_
    clear E a; intro a E
    refine S_v E rfl (R_lenV E rfl T22 hu_5.len) rfl ?_
    clear E a; intro a E
    refine S_v E rfl (R_gtr E rfl rfl) rfl ?_
    clear E a; intro a E
    refine WL_nil ?_
    refine T_n ?_
    refine WP_cond E rfl (fun hc_6 => ?_) (fun hc_6 => ?_)
    · replace hc_6 := of_decide_eq_true hc_6
      refine WP_seq ?_
      refine WP_region ?_
      refine S_v E rfl (R_assign E rfl) rfl ?_
      clear E a; intro a E
      refine WL_nil ?_
      refine T_n ?_
      refine WP_ret ?_
      refine B_r ?_
      refine T_r ?_
      refine T_r ?_
      refine B_r ?_
      refine T_r ?_
      exact F_ret1 E Try.results9 rfl ⟨_, rfl, M_1, hM_1, (bF (by ((try clear S); (try clear E); first | assumption | omega | rfl | (simp; done) | (simp_all; done) | (simp [List.take_add_one, *]; done) | grind [List.take_add_one]))), S⟩
    · replace hc_6 := of_decide_eq_false hc_6
      refine WP_skip ?_
      refine B_n ?_
      refine T_n ?_
      refine WP_region ?_
      refine S_v E rfl (R_addx (m := ((k + 1 : Nat) : Int)) E rfl rfl (by omega) (by omega)) rfl ?_
      clear E a; intro a E
      refine S_v E rfl (R_move E rfl) rfl ?_
      clear E a; intro a E
      refine WL_nil ?_
      refine T_n ?_
      exact ⟨k + 1, ⟨M_1, hM_1, S, E.keep ⟨rfl, rfl, rfl, trivial⟩, by ((try clear S); (try clear E); first | assumption | omega | rfl | (simp; done) | (simp_all; done) | (simp [List.take_add_one, *]; done) | grind [List.take_add_one]), by ((try clear S); (try clear E); first | assumption | omega | rfl | (simp; done) | (simp_all; done) | (simp [List.take_add_one, *]; done) | grind [List.take_add_one])⟩, by omega⟩
  · replace hc_2 := of_decide_eq_false hc_2
    refine WP_exit ?_
    refine T_x ?_
    refine T_x ?_
    refine B_x ?_
    refine T_n ?_
    refine WP_seq ?_
    refine WP_region ?_
    refine S_v E rfl (R_assign E rfl) rfl ?_
    clear E a; intro a E
    refine WL_nil ?_
    refine T_n ?_
    refine WP_ret ?_
    exact F_ret1 E Try.results9 rfl ⟨_, rfl, M_1, hM_1, (bT (by ((try clear S); (try clear E); first | assumption | omega | rfl | (simp; done) | (simp_all; done) | (simp [List.take_add_one, *]; done) | grind [List.take_add_one]))), S⟩

set_option maxRecDepth 100000 in
set_option maxHeartbeats 4000000 in
theorem laws_just {M : Hp} {kk0 kn0 : Int} (gk0 : -9223372036854775808 ≤ kn0 ∧ kn0 ≤ 9223372036854775807) :
    Pu Try.prog (.func (.func 10) #[] #[]) M [.agg #[.int .i64 kk0, .int .i64 kn0]] (fun r M' => r = .bool (decide (-1099511627776 < kn0 ∧ kn0 < 1099511627776))) := by
  refine Pu_enter Try.func10 rfl Try.ntmps10 rfl Try.call10 ?_
  intro a w M1 H hM1 S E
  refine WP_seq ?_
  refine WP_region ?_
  refine S_x (X_box (cs := #[.int .i64 kk0, .int .i64 kn0]) E S rfl rfl rfl ?_)
  clear E a S; rintro a w b_1 E S
  obtain ⟨M_2, hM_2, hb_1, S⟩ := S.freezeB
  refine S_v E rfl (R_assign E rfl) rfl ?_
  clear E a; intro a E
  refine WL_nil ?_
  refine T_n ?_
  refine WP_seq ?_
  refine WP_region ?_
  refine S_v E rfl (R_fieldAddr E rfl (FA24_1 _)) rfl ?_
  clear E a; intro a E
  refine S_v E rfl (R_loadM E rfl Try.isAgg3 S.imm (cellM_boxo hb_1 rfl)) rfl ?_
  clear E a; intro a E
  refine S_v E rfl (R_gtr E rfl rfl) rfl ?_
  clear E a; intro a E
  refine S_v E rfl (R_move E rfl) rfl ?_
  clear E a; intro a E
  refine split_bool (decide ((-1099511627776) < kn0)) (fun hc_3 => ?_) (fun hc_3 => ?_)
  · replace E := E.val (t := 5) rfl hc_3
    replace E := E.val (t := 6) rfl hc_3
    replace hc_3 := of_decide_eq_true hc_3
    refine WL_guard_yes E rfl rfl ?_
    refine S_v E rfl (R_fieldAddr E rfl (FA24_1 _)) rfl ?_
    clear E a; intro a E
    refine WL_guard_yes E rfl rfl ?_
    refine S_v E rfl (R_loadM E rfl Try.isAgg3 S.imm (cellM_boxo hb_1 rfl)) rfl ?_
    clear E a; intro a E
    refine WL_guard_yes E rfl rfl ?_
    refine S_v E rfl (R_lss E rfl rfl) rfl ?_
    clear E a; intro a E
    refine S_v E rfl (R_pickT E rfl rfl) rfl ?_
    clear E a; intro a E
    refine S_v E rfl (R_assign E rfl) rfl ?_
    clear E a; intro a E
    refine WL_nil ?_
    refine T_n ?_
    refine WP_ret ?_
    exact F_ret1 E Try.results10 rfl ⟨_, rfl, M_2, hM_2, (congrArg Value.bool (by ((try clear S); (try clear E); first | assumption | omega | rfl | (simp; done) | (simp_all; done) | (simp [List.take_add_one, *]; done) | grind [List.take_add_one]))), S⟩
  · replace E := E.val (t := 5) rfl hc_3
    replace E := E.val (t := 6) rfl hc_3
    replace hc_3 := of_decide_eq_false hc_3
    refine WL_guard_no E rfl rfl rfl rfl fun a E => ?_
    refine WL_guard_no E rfl rfl rfl rfl fun a E => ?_
    refine WL_guard_no E rfl rfl rfl rfl fun a E => ?_
    refine S_v E rfl (R_pickF E rfl rfl) rfl ?_
    clear E a; intro a E
    refine S_v E rfl (R_assign E rfl) rfl ?_
    clear E a; intro a E
    refine WL_nil ?_
    refine T_n ?_
    refine WP_ret ?_
    exact F_ret1 E Try.results10 rfl ⟨_, rfl, M_2, hM_2, (bF (by ((try clear S); (try clear E); first | assumption | omega | rfl | (simp; done) | (simp_all; done) | (simp [List.take_add_one, *]; done) | grind [List.take_add_one]))), S⟩

set_option maxRecDepth 100000 in
set_option maxHeartbeats 4000000 in
theorem laws_modulo {M : Hp} {x0 x1 : Int} (hn : x1 ≠ 0) (g1 : -1099511627776 < x1 ∧ x1 < 1099511627776) :
    Pu Try.prog (.func (.func 69) #[] #[]) M [.int .i64 x0, .int .i64 x1] (fun r M' => r = .int .i64 (x0 % x1)) := by
  refine Pu_enter Try.func69 rfl Try.ntmps69 rfl Try.call69 ?_
  intro a w M1 H hM1 S E
  have ht := tmod_emod x0 x1 hn
  have ht2 := tmod_emod x0 (-x1) (by omega)
  have he : x0 % (-x1) = x0 % x1 := Int.emod_neg ..
  refine WP_seq ?_
  refine WP_region ?_
  refine S_v E rfl (R_assign E rfl) rfl ?_
  clear E a; intro a E
  refine WL_nil ?_
  refine T_n ?_
  refine WP_seq ?_
  refine WP_seq ?_
  refine WP_region ?_
  refine S_v E rfl (R_move E rfl) rfl ?_
  clear E a; intro a E
  refine S_v E rfl (R_lss E rfl rfl) rfl ?_
  clear E a; intro a E
  refine WL_nil ?_
  refine T_n ?_
  refine WP_cond E rfl (fun hc_1 => ?_) (fun hc_1 => ?_)
  · replace hc_1 := of_decide_eq_true hc_1
    refine WP_region ?_
    refine S_v E rfl (R_move E rfl) rfl ?_
    clear E a; intro a E
    refine S_v E rfl (R_negx (m := -x1) E rfl rfl (by omega)) rfl ?_
    clear E a; intro a E
    refine S_v E rfl (R_assign E rfl) rfl ?_
    clear E a; intro a E
    refine WL_nil ?_
    refine T_n ?_
    refine WP_seq ?_
    refine WP_region ?_
    refine S_v E rfl (R_move E rfl) rfl ?_
    clear E a; intro a E
    refine S_v E rfl (R_move E rfl) rfl ?_
    clear E a; intro a E
    refine S_v E rfl (R_rem E rfl rfl (by first | decide | omega)) rfl ?_
    clear E a; intro a E
    refine S_v E rfl (R_assign E rfl) rfl ?_
    clear E a; intro a E
    refine WL_nil ?_
    refine T_n ?_
    refine WP_seq ?_
    refine WP_seq ?_
    refine WP_region ?_
    refine S_v E rfl (R_move E rfl) rfl ?_
    clear E a; intro a E
    refine S_v E rfl (R_lss E rfl rfl) rfl ?_
    clear E a; intro a E
    refine WL_nil ?_
    refine T_n ?_
    refine WP_cond E rfl (fun hc_2 => ?_) (fun hc_2 => ?_)
    · replace hc_2 := of_decide_eq_true hc_2
      refine WP_region ?_
      refine S_v E rfl (R_move E rfl) rfl ?_
      clear E a; intro a E
      refine S_v E rfl (R_move E rfl) rfl ?_
      clear E a; intro a E
      refine S_v E rfl (R_addx (m := (Int.tmod x0 (-x1)) + (-x1)) E rfl rfl (by omega) (by omega)) rfl ?_
      clear E a; intro a E
      refine S_v E rfl (R_assign E rfl) rfl ?_
      clear E a; intro a E
      refine WL_nil ?_
      refine T_n ?_
      refine WP_seq ?_
      refine WP_region ?_
      refine S_v E rfl (R_move E rfl) rfl ?_
      clear E a; intro a E
      refine S_v E rfl (R_assign E rfl) rfl ?_
      clear E a; intro a E
      refine WL_nil ?_
      refine T_n ?_
      refine WP_ret ?_
      exact F_ret1 E Try.results69 rfl ⟨_, rfl, M1, (Hp.le.refl _), (congrArg (Value.int .i64) (by omega)), S⟩
    · replace hc_2 := of_decide_eq_false hc_2
      refine WP_skip ?_
      refine T_n ?_
      refine WP_seq ?_
      refine WP_region ?_
      refine S_v E rfl (R_move E rfl) rfl ?_
      clear E a; intro a E
      refine S_v E rfl (R_assign E rfl) rfl ?_
      clear E a; intro a E
      refine WL_nil ?_
      refine T_n ?_
      refine WP_ret ?_
      exact F_ret1 E Try.results69 rfl ⟨_, rfl, M1, (Hp.le.refl _), (congrArg (Value.int .i64) (by omega)), S⟩
  · replace hc_1 := of_decide_eq_false hc_1
    refine WP_skip ?_
    refine T_n ?_
    refine WP_seq ?_
    refine WP_region ?_
    refine S_v E rfl (R_move E rfl) rfl ?_
    clear E a; intro a E
    refine S_v E rfl (R_move E rfl) rfl ?_
    clear E a; intro a E
    refine S_v E rfl (R_rem E rfl rfl (by first | decide | omega)) rfl ?_
    clear E a; intro a E
    refine S_v E rfl (R_assign E rfl) rfl ?_
    clear E a; intro a E
    refine WL_nil ?_
    refine T_n ?_
    refine WP_seq ?_
    refine WP_seq ?_
    refine WP_region ?_
    refine S_v E rfl (R_move E rfl) rfl ?_
    clear E a; intro a E
    refine S_v E rfl (R_lss E rfl rfl) rfl ?_
    clear E a; intro a E
    refine WL_nil ?_
    refine T_n ?_
    refine WP_cond E rfl (fun hc_3 => ?_) (fun hc_3 => ?_)
    · replace hc_3 := of_decide_eq_true hc_3
      refine WP_region ?_
      refine S_v E rfl (R_move E rfl) rfl ?_
      clear E a; intro a E
      refine S_v E rfl (R_move E rfl) rfl ?_
      clear E a; intro a E
      refine S_v E rfl (R_addx (m := (Int.tmod x0 x1) + x1) E rfl rfl (by omega) (by omega)) rfl ?_
      clear E a; intro a E
      refine S_v E rfl (R_assign E rfl) rfl ?_
      clear E a; intro a E
      refine WL_nil ?_
      refine T_n ?_
      refine WP_seq ?_
      refine WP_region ?_
      refine S_v E rfl (R_move E rfl) rfl ?_
      clear E a; intro a E
      refine S_v E rfl (R_assign E rfl) rfl ?_
      clear E a; intro a E
      refine WL_nil ?_
      refine T_n ?_
      refine WP_ret ?_
      exact F_ret1 E Try.results69 rfl ⟨_, rfl, M1, (Hp.le.refl _), (congrArg (Value.int .i64) (by omega)), S⟩
    · replace hc_3 := of_decide_eq_false hc_3
      refine WP_skip ?_
      refine T_n ?_
      refine WP_seq ?_
      refine WP_region ?_
      refine S_v E rfl (R_move E rfl) rfl ?_
      clear E a; intro a E
      refine S_v E rfl (R_assign E rfl) rfl ?_
      clear E a; intro a E
      refine WL_nil ?_
      refine T_n ?_
      refine WP_ret ?_
      exact F_ret1 E Try.results69 rfl ⟨_, rfl, M1, (Hp.le.refl _), (congrArg (Value.int .i64) (by omega)), S⟩

set_option maxRecDepth 100000 in
set_option maxHeartbeats 4000000 in
theorem laws_stands {M : Hp} {kk0 kn0 : Int} (gk0 : -1099511627776 < kn0 ∧ kn0 < 1099511627776){x1 x2 : Int} :
    Pu Try.prog (.func (.func 23) #[] #[]) M [.agg #[.int .i64 kk0, .int .i64 kn0], .int .i64 x1, .int .i64 x2] (fun r M' => r = .int .i64 (keyAt kk0 kn0 x1 x2)) := by
  refine Pu_enter Try.func23 rfl Try.ntmps23 rfl Try.call23 ?_
  intro a w M1 H hM1 S E
  refine WP_seq ?_
  refine WP_region ?_
  refine S_x (X_box (cs := #[.int .i64 kk0, .int .i64 kn0]) E S rfl rfl rfl ?_)
  clear E a S; rintro a w b_1 E S
  obtain ⟨M_2, hM_2, hb_1, S⟩ := S.freezeB
  refine S_v E rfl (R_assign E rfl) rfl ?_
  clear E a; intro a E
  refine WL_nil ?_
  refine T_n ?_
  refine WP_seq ?_
  refine WP_seq ?_
  refine WP_region ?_
  refine S_v E rfl (R_fieldAddr E rfl (FA24_0 _)) rfl ?_
  clear E a; intro a E
  refine S_v E rfl (R_loadM E rfl Try.isAgg3 S.imm (cellM_boxo hb_1 rfl)) rfl ?_
  clear E a; intro a E
  refine WL_nil ?_
  refine T_n ?_
  refine WP_block ?_
  refine WP_seq ?_
  refine WP_region ?_
  refine S_v E rfl (R_eql E rfl rfl) rfl ?_
  clear E a; intro a E
  refine S_v E rfl (R_assign E rfl) rfl ?_
  clear E a; intro a E
  refine WL_nil ?_
  refine T_n ?_
  refine WP_cond E rfl (fun hc_3 => ?_) (fun hc_3 => ?_)
  · replace hc_3 := of_decide_eq_true hc_3
    refine WP_seq ?_
    refine WP_region ?_
    refine S_v E rfl (R_move E rfl) rfl ?_
    clear E a; intro a E
    refine S_v E rfl (R_fieldAddr E rfl (FA24_1 _)) rfl ?_
    clear E a; intro a E
    refine S_v E rfl (R_loadM E rfl Try.isAgg3 S.imm (cellM_boxo hb_1 rfl)) rfl ?_
    clear E a; intro a E
    refine S_v E rfl (R_add E rfl rfl) rfl ?_
    clear E a; intro a E
    refine S_v E rfl (R_assign E rfl) rfl ?_
    clear E a; intro a E
    refine WL_nil ?_
    refine T_n ?_
    refine WP_ret ?_
    refine B_r ?_
    refine T_r ?_
    exact F_ret1 E Try.results23 rfl ⟨_, rfl, M_2, hM_2, (congrArg (Value.int .i64) (by (clear E S; unfold keyAt w64; first | (simp [*]; done) | (simp_all; done)))), S⟩
  · replace hc_3 := of_decide_eq_false hc_3
    refine WP_seq ?_
    refine WP_region ?_
    refine S_v E rfl (R_eql E rfl rfl) rfl ?_
    clear E a; intro a E
    refine S_v E rfl (R_assign E rfl) rfl ?_
    clear E a; intro a E
    refine WL_nil ?_
    refine T_n ?_
    refine WP_cond E rfl (fun hc_4 => ?_) (fun hc_4 => ?_)
    · replace hc_4 := of_decide_eq_true hc_4
      refine WP_seq ?_
      refine WP_region ?_
      refine S_v E rfl (R_move E rfl) rfl ?_
      clear E a; intro a E
      refine S_v E rfl (R_fieldAddr E rfl (FA24_1 _)) rfl ?_
      clear E a; intro a E
      refine S_v E rfl (R_loadM E rfl Try.isAgg3 S.imm (cellM_boxo hb_1 rfl)) rfl ?_
      clear E a; intro a E
      refine S_v E rfl (R_mul E rfl rfl) rfl ?_
      clear E a; intro a E
      refine S_v E rfl (R_assign E rfl) rfl ?_
      clear E a; intro a E
      refine WL_nil ?_
      refine T_n ?_
      refine WP_ret ?_
      refine B_r ?_
      refine T_r ?_
      exact F_ret1 E Try.results23 rfl ⟨_, rfl, M_2, hM_2, (congrArg (Value.int .i64) (by (clear E S; unfold keyAt w64; first | (simp [*]; done) | (simp_all; done)))), S⟩
    · replace hc_4 := of_decide_eq_false hc_4
      refine WP_seq ?_
      refine WP_region ?_
      refine S_v E rfl (R_eql E rfl rfl) rfl ?_
      clear E a; intro a E
      refine S_v E rfl (R_assign E rfl) rfl ?_
      clear E a; intro a E
      refine WL_nil ?_
      refine T_n ?_
      refine WP_cond E rfl (fun hc_5 => ?_) (fun hc_5 => ?_)
      · replace hc_5 := of_decide_eq_true hc_5
        refine WP_seq ?_
        refine WP_region ?_
        refine S_v E rfl (R_fieldAddr E rfl (FA24_1 _)) rfl ?_
        clear E a; intro a E
        refine S_v E rfl (R_loadM E rfl Try.isAgg3 S.imm (cellM_boxo hb_1 rfl)) rfl ?_
        clear E a; intro a E
        refine S_v E rfl (R_neq E rfl rfl) rfl ?_
        clear E a; intro a E
        refine WL_nil ?_
        refine T_n ?_
        refine WP_cond E rfl (fun hc_6 => ?_) (fun hc_6 => ?_)
        · replace hc_6 := of_decide_eq_true hc_6
          refine WP_seq ?_
          refine WP_region ?_
          refine S_v E rfl (R_move E rfl) rfl ?_
          clear E a; intro a E
          refine S_v E rfl (R_fieldAddr E rfl (FA24_1 _)) rfl ?_
          clear E a; intro a E
          refine S_v E rfl (R_loadM E rfl Try.isAgg3 S.imm (cellM_boxo hb_1 rfl)) rfl ?_
          clear E a; intro a E
          refine S_x (X_pu E S rfl rfl rfl (laws_modulo (by first | omega | assumption) (by omega)) (Hp.le.refl _) ?_)
          clear E a S; rintro a _ w M_7 hM_7 rfl S E
          replace hb_1 := hM_7.2 _ _ hb_1
          refine S_v E rfl (R_assign E rfl) rfl ?_
          clear E a; intro a E
          refine WL_nil ?_
          refine T_n ?_
          refine WP_ret ?_
          refine B_r ?_
          refine T_r ?_
          exact F_ret1 E Try.results23 rfl ⟨_, rfl, M_7, (hM_2.trans hM_7), (congrArg (Value.int .i64) (by (clear E S; unfold keyAt w64; first | (simp [*]; done) | (simp_all; done)))), S⟩
        · replace hc_6 := of_decide_eq_false hc_6
          refine WP_skip ?_
          refine B_n ?_
          refine T_n ?_
          refine WP_seq ?_
          refine WP_region ?_
          refine S_v E rfl (R_move E rfl) rfl ?_
          clear E a; intro a E
          refine S_v E rfl (R_assign E rfl) rfl ?_
          clear E a; intro a E
          refine WL_nil ?_
          refine T_n ?_
          refine WP_ret ?_
          exact F_ret1 E Try.results23 rfl ⟨_, rfl, M_2, hM_2, (congrArg (Value.int .i64) (by (clear E S; unfold keyAt w64; first | (simp [*]; done) | (simp_all; done)))), S⟩
      · replace hc_5 := of_decide_eq_false hc_5
        refine WP_seq ?_
        refine WP_region ?_
        refine S_v E rfl (R_eql E rfl rfl) rfl ?_
        clear E a; intro a E
        refine S_v E rfl (R_assign E rfl) rfl ?_
        clear E a; intro a E
        refine WL_nil ?_
        refine T_n ?_
        refine WP_cond E rfl (fun hc_8 => ?_) (fun hc_8 => ?_)
        · replace hc_8 := of_decide_eq_true hc_8
          refine WP_seq ?_
          refine WP_region ?_
          refine S_v E rfl (R_fieldAddr E rfl (FA24_1 _)) rfl ?_
          clear E a; intro a E
          refine S_v E rfl (R_loadM E rfl Try.isAgg3 S.imm (cellM_boxo hb_1 rfl)) rfl ?_
          clear E a; intro a E
          refine S_v E rfl (R_assign E rfl) rfl ?_
          clear E a; intro a E
          refine WL_nil ?_
          refine T_n ?_
          refine WP_ret ?_
          refine B_r ?_
          refine T_r ?_
          exact F_ret1 E Try.results23 rfl ⟨_, rfl, M_2, hM_2, (congrArg (Value.int .i64) (by (clear E S; unfold keyAt w64; first | (simp [*]; done) | (simp_all; done)))), S⟩
        · replace hc_8 := of_decide_eq_false hc_8
          refine WP_seq ?_
          refine WP_region ?_
          refine S_v E rfl (R_eql E rfl rfl) rfl ?_
          clear E a; intro a E
          refine S_v E rfl (R_assign E rfl) rfl ?_
          clear E a; intro a E
          refine WL_nil ?_
          refine T_n ?_
          refine WP_cond E rfl (fun hc_9 => ?_) (fun hc_9 => ?_)
          · replace hc_9 := of_decide_eq_true hc_9
            refine WP_seq ?_
            refine WP_region ?_
            refine S_v E rfl (R_move E rfl) rfl ?_
            clear E a; intro a E
            refine S_v E rfl (R_assign E rfl) rfl ?_
            clear E a; intro a E
            refine WL_nil ?_
            refine T_n ?_
            refine WP_ret ?_
            refine B_r ?_
            refine T_r ?_
            exact F_ret1 E Try.results23 rfl ⟨_, rfl, M_2, hM_2, (congrArg (Value.int .i64) (by (clear E S; unfold keyAt w64; first | (simp [*]; done) | (simp_all; done)))), S⟩
          · replace hc_9 := of_decide_eq_false hc_9
            refine WP_skip ?_
            refine B_n ?_
            refine T_n ?_
            refine WP_seq ?_
            refine WP_region ?_
            refine S_v E rfl (R_move E rfl) rfl ?_
            clear E a; intro a E
            refine S_v E rfl (R_assign E rfl) rfl ?_
            clear E a; intro a E
            refine WL_nil ?_
            refine T_n ?_
            refine WP_ret ?_
            exact F_ret1 E Try.results23 rfl ⟨_, rfl, M_2, hM_2, (congrArg (Value.int .i64) (by (clear E S; unfold keyAt w64; first | (simp [*]; done) | (simp_all; done)))), S⟩

set_option maxRecDepth 100000 in
set_option maxHeartbeats 4000000 in
theorem spec_same {M : Hp}  :
    Pu Try.prog (.func (.func 74) #[] #[]) M [] (fun r M' => r = .agg #[.int .i64 5, .int .i64 0]) := by
  refine Pu_enter Try.func74 rfl Try.ntmps74 rfl Try.call74 ?_
  intro a w M1 H hM1 S E
  refine WP_seq ?_
  refine WP_region ?_
  refine S_x (X_alloc (cs := #[.int .i64 0, .int .i64 0]) E S rfl Try.zeroValue37 rfl ?_)
  clear E a S; rintro a w b_1 E S
  refine WL_nil ?_
  refine T_n ?_
  refine WP_seq ?_
  refine WP_region ?_
  refine S_v E rfl (R_build (u := .agg #[.int .i64 5, .int .i64 0]) (vs := [.int .i64 5]) E rfl (fun w => FB37_0_i 5 w)) rfl ?_
  clear E a; intro a E
  refine S_x0 (X_storeG (us := [.int .i64 5, .int .i64 0]) E S rfl rfl (Try.sizeOf37 _) rfl (by intro u hu; simp only [List.mem_cons, List.not_mem_nil, or_false] at hu; rcases hu with rfl | rfl <;> first | exact rfl | exact rfl) ?_)
  clear E a S; rintro a w E S
  replace S : St w M1 (blk b_1 (.cells #[.int .i64 5, .int .i64 0] 37) :: _) := S
  refine WL_nil ?_
  refine T_n ?_
  refine WP_ret ?_
  replace S : St w M1 (mks [] :: _) := S.empty
  replace E : Env a 2 (([] : List Nat).map mk) _ := E
  replace S := S.front1
  replace S := S.front1
  exact F_retCG1 (cs := [.int .i64 5, .int .i64 0]) E S Try.results74 rfl (fun w => Try.isAgg37 w) (fun w => Try.sizeOf37 w) (fun w S => ⟨_, rfl, M1, (Hp.le.refl _), rfl, S.drop⟩)

set_option maxRecDepth 100000 in
set_option maxHeartbeats 4000000 in
theorem spec_mod {M : Hp} {x0 x1 : Int} (hn : x1 ≠ 0) (g0 : -9223372036854775808 ≤ x0 ∧ x0 ≤ 9223372036854775807) (g1 : -9223372036854775808 ≤ x1 ∧ x1 ≤ 9223372036854775807) :
    Pu Try.prog (.func (.func 99) #[] #[]) M [.int .i64 x0, .int .i64 x1] (fun r M' => r = .int .i64 (x0 % x1)) := by
  refine Pu_enter Try.func99 rfl Try.ntmps99 rfl Try.call99 ?_
  intro a w M1 H hM1 S E
  refine WP_seq ?_
  refine WP_region ?_
  refine S_v E rfl (R_assign E rfl) rfl ?_
  clear E a; intro a E
  refine WL_nil ?_
  refine T_n ?_
  refine WP_seq ?_
  refine WP_region ?_
  refine S_v E rfl (R_move E rfl) rfl ?_
  clear E a; intro a E
  refine S_v E rfl (R_convm (m := x1 % 18446744073709551616) E rfl Try.underlying3 Try.underlying123 (by first | (rw [u64_wrap]; omega) | (rw [u64_wrap]; simp; omega) | rw [u64_wrap])) rfl ?_
  clear E a; intro a E
  refine S_v E rfl (R_assign E rfl) rfl ?_
  clear E a; intro a E
  refine WL_nil ?_
  refine T_n ?_
  refine WP_seq ?_
  refine WP_seq ?_
  refine WP_region ?_
  refine S_v E rfl (R_move E rfl) rfl ?_
  clear E a; intro a E
  refine S_v E rfl (R_lss E rfl rfl) rfl ?_
  clear E a; intro a E
  refine WL_nil ?_
  refine T_n ?_
  refine WP_cond E rfl (fun hc_1 => ?_) (fun hc_1 => ?_)
  · replace hc_1 := of_decide_eq_true hc_1
    refine WP_region ?_
    refine S_v E rfl (R_move E rfl) rfl ?_
    clear E a; intro a E
    refine S_v E rfl (R_negm (m := -x1) E rfl (by first | (rw [u64_wrap]; omega) | rw [u64_wrap])) rfl ?_
    clear E a; intro a E
    refine S_v E rfl (R_assign E rfl) rfl ?_
    clear E a; intro a E
    refine WL_nil ?_
    refine T_n ?_
    refine WP_seq ?_
    refine WP_seq ?_
    refine WP_region ?_
    refine S_v E rfl (R_move E rfl) rfl ?_
    clear E a; intro a E
    refine S_v E rfl (R_geq E rfl rfl) rfl ?_
    clear E a; intro a E
    refine WL_nil ?_
    refine T_n ?_
    refine WP_cond E rfl (fun hc_2 => ?_) (fun hc_2 => ?_)
    · replace hc_2 := of_decide_eq_true hc_2
      refine WP_seq ?_
      refine WP_region ?_
      refine S_v E rfl (R_move E rfl) rfl ?_
      clear E a; intro a E
      refine S_v E rfl (R_convm (m := x0) E rfl Try.underlying3 Try.underlying123 (by first | (rw [u64_wrap]; omega) | (rw [u64_wrap]; simp; omega) | rw [u64_wrap])) rfl ?_
      clear E a; intro a E
      refine S_v E rfl (R_move E rfl) rfl ?_
      clear E a; intro a E
      have hr_3 := tmod_nn (p := x0) (q := -x1) (by omega) (by omega)
      refine S_v E rfl (R_rem E rfl rfl (by first | decide | omega)) rfl ?_
      clear E a; intro a E
      refine S_v E rfl (R_convx E rfl Try.underlying123 Try.underlying3 (by omega)) rfl ?_
      clear E a; intro a E
      refine S_v E rfl (R_assign E rfl) rfl ?_
      clear E a; intro a E
      refine WL_nil ?_
      refine T_n ?_
      refine WP_ret ?_
      refine T_r ?_
      exact F_ret1 E Try.results99 rfl ⟨_, rfl, M1, (Hp.le.refl _), (congrArg (Value.int .i64) (by (clear E S; first | (have en : x1 < 0 := (by omega); have e3 : x0 % (-x1) = x0 % x1 := Int.emod_neg ..; have a1 := modA x0 (-x1) (by omega); omega) | (have e : x1 % 18446744073709551616 = x1 := (by omega); simp only [e] at *; have a1 := modA x0 x1 (by omega); omega)))), S⟩
    · replace hc_2 := of_decide_eq_false hc_2
      refine WP_skip ?_
      refine T_n ?_
      refine WP_seq ?_
      refine WP_region ?_
      refine S_v E rfl (R_move E rfl) rfl ?_
      clear E a; intro a E
      refine S_v E rfl (R_convm (m := x0 % 18446744073709551616) E rfl Try.underlying3 Try.underlying123 (by first | (rw [u64_wrap]; omega) | (rw [u64_wrap]; simp; omega) | rw [u64_wrap])) rfl ?_
      clear E a; intro a E
      refine S_v E rfl (R_negm (m := -x0) E rfl (by first | (rw [u64_wrap]; omega) | rw [u64_wrap])) rfl ?_
      clear E a; intro a E
      refine S_v E rfl (R_move E rfl) rfl ?_
      clear E a; intro a E
      have hr_4 := tmod_nn (p := -x0) (q := -x1) (by omega) (by omega)
      refine S_v E rfl (R_rem E rfl rfl (by first | decide | omega)) rfl ?_
      clear E a; intro a E
      refine S_v E rfl (R_assign E rfl) rfl ?_
      clear E a; intro a E
      refine WL_nil ?_
      refine T_n ?_
      refine WP_seq ?_
      refine WP_seq ?_
      refine WP_region ?_
      refine S_v E rfl (R_move E rfl) rfl ?_
      clear E a; intro a E
      refine S_v E rfl (R_gtr E rfl rfl) rfl ?_
      clear E a; intro a E
      refine WL_nil ?_
      refine T_n ?_
      refine WP_cond E rfl (fun hc_5 => ?_) (fun hc_5 => ?_)
      · replace hc_5 := of_decide_eq_true hc_5
        refine WP_region ?_
        refine S_v E rfl (R_move E rfl) rfl ?_
        clear E a; intro a E
        refine S_v E rfl (R_move E rfl) rfl ?_
        clear E a; intro a E
        refine S_v E rfl (R_subm (m := (-x1) - (Int.tmod (-x0) (-x1))) E rfl rfl (by first | (rw [u64_wrap]; omega) | rw [u64_wrap])) rfl ?_
        clear E a; intro a E
        refine S_v E rfl (R_assign E rfl) rfl ?_
        clear E a; intro a E
        refine WL_nil ?_
        refine T_n ?_
        refine WP_seq ?_
        refine WP_region ?_
        refine S_v E rfl (R_move E rfl) rfl ?_
        clear E a; intro a E
        refine S_v E rfl (R_convx E rfl Try.underlying123 Try.underlying3 (by omega)) rfl ?_
        clear E a; intro a E
        refine S_v E rfl (R_assign E rfl) rfl ?_
        clear E a; intro a E
        refine WL_nil ?_
        refine T_n ?_
        refine WP_ret ?_
        exact F_ret1 E Try.results99 rfl ⟨_, rfl, M1, (Hp.le.refl _), (congrArg (Value.int .i64) (by (clear E S; first | (have en : x1 < 0 := (by omega); have e3 : x0 % (-x1) = x0 % x1 := Int.emod_neg ..; have a1 := modA x0 (-x1) (by omega); omega) | (have e : x1 % 18446744073709551616 = x1 := (by omega); simp only [e] at *; have a1 := modA x0 x1 (by omega); omega)))), S⟩
      · replace hc_5 := of_decide_eq_false hc_5
        refine WP_skip ?_
        refine T_n ?_
        refine WP_seq ?_
        refine WP_region ?_
        refine S_v E rfl (R_move E rfl) rfl ?_
        clear E a; intro a E
        refine S_v E rfl (R_convx E rfl Try.underlying123 Try.underlying3 (by omega)) rfl ?_
        clear E a; intro a E
        refine S_v E rfl (R_assign E rfl) rfl ?_
        clear E a; intro a E
        refine WL_nil ?_
        refine T_n ?_
        refine WP_ret ?_
        exact F_ret1 E Try.results99 rfl ⟨_, rfl, M1, (Hp.le.refl _), (congrArg (Value.int .i64) (by (clear E S; first | (have en : x1 < 0 := (by omega); have e3 : x0 % (-x1) = x0 % x1 := Int.emod_neg ..; have a1 := modA x0 (-x1) (by omega); omega) | (have e : x1 % 18446744073709551616 = x1 := (by omega); simp only [e] at *; have a1 := modA x0 x1 (by omega); omega)))), S⟩
  · replace hc_1 := of_decide_eq_false hc_1
    refine WP_skip ?_
    refine T_n ?_
    refine WP_seq ?_
    refine WP_seq ?_
    refine WP_region ?_
    refine S_v E rfl (R_move E rfl) rfl ?_
    clear E a; intro a E
    refine S_v E rfl (R_geq E rfl rfl) rfl ?_
    clear E a; intro a E
    refine WL_nil ?_
    refine T_n ?_
    refine WP_cond E rfl (fun hc_6 => ?_) (fun hc_6 => ?_)
    · replace hc_6 := of_decide_eq_true hc_6
      refine WP_seq ?_
      refine WP_region ?_
      refine S_v E rfl (R_move E rfl) rfl ?_
      clear E a; intro a E
      refine S_v E rfl (R_convm (m := x0) E rfl Try.underlying3 Try.underlying123 (by first | (rw [u64_wrap]; omega) | (rw [u64_wrap]; simp; omega) | rw [u64_wrap])) rfl ?_
      clear E a; intro a E
      refine S_v E rfl (R_move E rfl) rfl ?_
      clear E a; intro a E
      have hr_7 := tmod_nn (p := x0) (q := x1 % 18446744073709551616) (by omega) (by omega)
      refine S_v E rfl (R_rem E rfl rfl (by first | decide | omega)) rfl ?_
      clear E a; intro a E
      refine S_v E rfl (R_convx E rfl Try.underlying123 Try.underlying3 (by omega)) rfl ?_
      clear E a; intro a E
      refine S_v E rfl (R_assign E rfl) rfl ?_
      clear E a; intro a E
      refine WL_nil ?_
      refine T_n ?_
      refine WP_ret ?_
      refine T_r ?_
      exact F_ret1 E Try.results99 rfl ⟨_, rfl, M1, (Hp.le.refl _), (congrArg (Value.int .i64) (by (clear E S; first | (have en : x1 < 0 := (by omega); have e3 : x0 % (-x1) = x0 % x1 := Int.emod_neg ..; have a1 := modA x0 (-x1) (by omega); omega) | (have e : x1 % 18446744073709551616 = x1 := (by omega); simp only [e] at *; have a1 := modA x0 x1 (by omega); omega)))), S⟩
    · replace hc_6 := of_decide_eq_false hc_6
      refine WP_skip ?_
      refine T_n ?_
      refine WP_seq ?_
      refine WP_region ?_
      refine S_v E rfl (R_move E rfl) rfl ?_
      clear E a; intro a E
      refine S_v E rfl (R_convm (m := x0 % 18446744073709551616) E rfl Try.underlying3 Try.underlying123 (by first | (rw [u64_wrap]; omega) | (rw [u64_wrap]; simp; omega) | rw [u64_wrap])) rfl ?_
      clear E a; intro a E
      refine S_v E rfl (R_negm (m := -x0) E rfl (by first | (rw [u64_wrap]; omega) | rw [u64_wrap])) rfl ?_
      clear E a; intro a E
      refine S_v E rfl (R_move E rfl) rfl ?_
      clear E a; intro a E
      have hr_8 := tmod_nn (p := -x0) (q := x1 % 18446744073709551616) (by omega) (by omega)
      refine S_v E rfl (R_rem E rfl rfl (by first | decide | omega)) rfl ?_
      clear E a; intro a E
      refine S_v E rfl (R_assign E rfl) rfl ?_
      clear E a; intro a E
      refine WL_nil ?_
      refine T_n ?_
      refine WP_seq ?_
      refine WP_seq ?_
      refine WP_region ?_
      refine S_v E rfl (R_move E rfl) rfl ?_
      clear E a; intro a E
      refine S_v E rfl (R_gtr E rfl rfl) rfl ?_
      clear E a; intro a E
      refine WL_nil ?_
      refine T_n ?_
      refine WP_cond E rfl (fun hc_9 => ?_) (fun hc_9 => ?_)
      · replace hc_9 := of_decide_eq_true hc_9
        refine WP_region ?_
        refine S_v E rfl (R_move E rfl) rfl ?_
        clear E a; intro a E
        refine S_v E rfl (R_move E rfl) rfl ?_
        clear E a; intro a E
        refine S_v E rfl (R_subm (m := (x1 % 18446744073709551616) - (Int.tmod (-x0) (x1 % 18446744073709551616))) E rfl rfl (by first | (rw [u64_wrap]; omega) | rw [u64_wrap])) rfl ?_
        clear E a; intro a E
        refine S_v E rfl (R_assign E rfl) rfl ?_
        clear E a; intro a E
        refine WL_nil ?_
        refine T_n ?_
        refine WP_seq ?_
        refine WP_region ?_
        refine S_v E rfl (R_move E rfl) rfl ?_
        clear E a; intro a E
        refine S_v E rfl (R_convx E rfl Try.underlying123 Try.underlying3 (by omega)) rfl ?_
        clear E a; intro a E
        refine S_v E rfl (R_assign E rfl) rfl ?_
        clear E a; intro a E
        refine WL_nil ?_
        refine T_n ?_
        refine WP_ret ?_
        exact F_ret1 E Try.results99 rfl ⟨_, rfl, M1, (Hp.le.refl _), (congrArg (Value.int .i64) (by (clear E S; first | (have en : x1 < 0 := (by omega); have e3 : x0 % (-x1) = x0 % x1 := Int.emod_neg ..; have a1 := modA x0 (-x1) (by omega); omega) | (have e : x1 % 18446744073709551616 = x1 := (by omega); simp only [e] at *; have a1 := modA x0 x1 (by omega); omega)))), S⟩
      · replace hc_9 := of_decide_eq_false hc_9
        refine WP_skip ?_
        refine T_n ?_
        refine WP_seq ?_
        refine WP_region ?_
        refine S_v E rfl (R_move E rfl) rfl ?_
        clear E a; intro a E
        refine S_v E rfl (R_convx E rfl Try.underlying123 Try.underlying3 (by omega)) rfl ?_
        clear E a; intro a E
        refine S_v E rfl (R_assign E rfl) rfl ?_
        clear E a; intro a E
        refine WL_nil ?_
        refine T_n ?_
        refine WP_ret ?_
        exact F_ret1 E Try.results99 rfl ⟨_, rfl, M1, (Hp.le.refl _), (congrArg (Value.int .i64) (by (clear E S; first | (have en : x1 < 0 := (by omega); have e3 : x0 % (-x1) = x0 % x1 := Int.emod_neg ..; have a1 := modA x0 (-x1) (by omega); omega) | (have e : x1 % 18446744073709551616 = x1 := (by omega); simp only [e] at *; have a1 := modA x0 x1 (by omega); omega)))), S⟩

set_option maxRecDepth 100000 in
set_option maxHeartbeats 4000000 in
theorem SKey_Of_c {M : Hp} {kk0 kn0 : Int} (gk0 : -9223372036854775808 ≤ kn0 ∧ kn0 ≤ 9223372036854775807){x1 x2 : Int} (gx : -9223372036854775808 ≤ x1 ∧ x1 ≤ 9223372036854775807) :
    PuC Try.prog 70 M [.agg #[.int .i64 kk0, .int .i64 kn0], .int .i64 x1, .int .i64 x2] (fun r M' => r = .int .i64 (keyAt kk0 kn0 x1 x2)) := by
  refine PuC_enter Try.func70 rfl Try.ntmps70 rfl ?_
  intro a w M1 H hM1 S E
  refine WP_seq ?_
  refine WP_region ?_
  refine S_x (X_box (cs := #[.int .i64 kk0, .int .i64 kn0]) E S rfl rfl rfl ?_)
  clear E a S; rintro a w b_1 E S
  obtain ⟨M_2, hM_2, hb_1, S⟩ := S.freezeB
  refine S_v E rfl (R_assign E rfl) rfl ?_
  clear E a; intro a E
  refine WL_nil ?_
  refine T_n ?_
  refine WP_seq ?_
  refine WP_seq ?_
  refine WP_region ?_
  refine S_v E rfl (R_fieldAddr E rfl (FA37_0 _)) rfl ?_
  clear E a; intro a E
  refine S_v E rfl (R_loadM E rfl Try.isAgg3 S.imm (cellM_boxo hb_1 rfl)) rfl ?_
  clear E a; intro a E
  refine WL_nil ?_
  refine T_n ?_
  refine WP_block ?_
  refine WP_seq ?_
  refine WP_region ?_
  refine S_v E rfl (R_eql E rfl rfl) rfl ?_
  clear E a; intro a E
  refine S_v E rfl (R_assign E rfl) rfl ?_
  clear E a; intro a E
  refine WL_nil ?_
  refine T_n ?_
  refine WP_cond E rfl (fun hc_3 => ?_) (fun hc_3 => ?_)
  · replace hc_3 := of_decide_eq_true hc_3
    refine WP_seq ?_
    refine WP_region ?_
    refine S_v E rfl (R_move E rfl) rfl ?_
    clear E a; intro a E
    refine S_v E rfl (R_fieldAddr E rfl (FA37_1 _)) rfl ?_
    clear E a; intro a E
    refine S_v E rfl (R_loadM E rfl Try.isAgg3 S.imm (cellM_boxo hb_1 rfl)) rfl ?_
    clear E a; intro a E
    refine S_v E rfl (R_add E rfl rfl) rfl ?_
    clear E a; intro a E
    refine S_v E rfl (R_assign E rfl) rfl ?_
    clear E a; intro a E
    refine WL_nil ?_
    refine T_n ?_
    refine WP_ret ?_
    refine B_r ?_
    refine T_r ?_
    exact F_ret1 E Try.results70 rfl ⟨_, rfl, M_2, hM_2, (congrArg (Value.int .i64) (by (clear E S; unfold keyAt w64; first | (simp [*]; done) | (simp_all; done)))), S⟩
  · replace hc_3 := of_decide_eq_false hc_3
    refine WP_seq ?_
    refine WP_region ?_
    refine S_v E rfl (R_eql E rfl rfl) rfl ?_
    clear E a; intro a E
    refine S_v E rfl (R_assign E rfl) rfl ?_
    clear E a; intro a E
    refine WL_nil ?_
    refine T_n ?_
    refine WP_cond E rfl (fun hc_4 => ?_) (fun hc_4 => ?_)
    · replace hc_4 := of_decide_eq_true hc_4
      refine WP_seq ?_
      refine WP_region ?_
      refine S_v E rfl (R_move E rfl) rfl ?_
      clear E a; intro a E
      refine S_v E rfl (R_fieldAddr E rfl (FA37_1 _)) rfl ?_
      clear E a; intro a E
      refine S_v E rfl (R_loadM E rfl Try.isAgg3 S.imm (cellM_boxo hb_1 rfl)) rfl ?_
      clear E a; intro a E
      refine S_v E rfl (R_mul E rfl rfl) rfl ?_
      clear E a; intro a E
      refine S_v E rfl (R_assign E rfl) rfl ?_
      clear E a; intro a E
      refine WL_nil ?_
      refine T_n ?_
      refine WP_ret ?_
      refine B_r ?_
      refine T_r ?_
      exact F_ret1 E Try.results70 rfl ⟨_, rfl, M_2, hM_2, (congrArg (Value.int .i64) (by (clear E S; unfold keyAt w64; first | (simp [*]; done) | (simp_all; done)))), S⟩
    · replace hc_4 := of_decide_eq_false hc_4
      refine WP_seq ?_
      refine WP_region ?_
      refine S_v E rfl (R_eql E rfl rfl) rfl ?_
      clear E a; intro a E
      refine S_v E rfl (R_assign E rfl) rfl ?_
      clear E a; intro a E
      refine WL_nil ?_
      refine T_n ?_
      refine WP_cond E rfl (fun hc_5 => ?_) (fun hc_5 => ?_)
      · replace hc_5 := of_decide_eq_true hc_5
        refine WP_seq ?_
        refine WP_region ?_
        refine S_v E rfl (R_fieldAddr E rfl (FA37_1 _)) rfl ?_
        clear E a; intro a E
        refine S_v E rfl (R_loadM E rfl Try.isAgg3 S.imm (cellM_boxo hb_1 rfl)) rfl ?_
        clear E a; intro a E
        refine S_v E rfl (R_neq E rfl rfl) rfl ?_
        clear E a; intro a E
        refine WL_nil ?_
        refine T_n ?_
        refine WP_cond E rfl (fun hc_6 => ?_) (fun hc_6 => ?_)
        · replace hc_6 := of_decide_eq_true hc_6
          refine WP_seq ?_
          refine WP_region ?_
          refine S_v E rfl (R_move E rfl) rfl ?_
          clear E a; intro a E
          refine S_v E rfl (R_fieldAddr E rfl (FA37_1 _)) rfl ?_
          clear E a; intro a E
          refine S_v E rfl (R_loadM E rfl Try.isAgg3 S.imm (cellM_boxo hb_1 rfl)) rfl ?_
          clear E a; intro a E
          refine S_x (X_pu E S rfl rfl rfl (spec_mod (by first | omega | assumption) (by omega) (by omega)) (Hp.le.refl _) ?_)
          clear E a S; rintro a _ w M_7 hM_7 rfl S E
          replace hb_1 := hM_7.2 _ _ hb_1
          refine S_v E rfl (R_assign E rfl) rfl ?_
          clear E a; intro a E
          refine WL_nil ?_
          refine T_n ?_
          refine WP_ret ?_
          refine B_r ?_
          refine T_r ?_
          exact F_ret1 E Try.results70 rfl ⟨_, rfl, M_7, (hM_2.trans hM_7), (congrArg (Value.int .i64) (by (clear E S; unfold keyAt w64; first | (simp [*]; done) | (simp_all; done)))), S⟩
        · replace hc_6 := of_decide_eq_false hc_6
          refine WP_skip ?_
          refine B_n ?_
          refine T_n ?_
          refine WP_seq ?_
          refine WP_region ?_
          refine S_v E rfl (R_move E rfl) rfl ?_
          clear E a; intro a E
          refine S_v E rfl (R_assign E rfl) rfl ?_
          clear E a; intro a E
          refine WL_nil ?_
          refine T_n ?_
          refine WP_ret ?_
          exact F_ret1 E Try.results70 rfl ⟨_, rfl, M_2, hM_2, (congrArg (Value.int .i64) (by (clear E S; unfold keyAt w64; first | (simp [*]; done) | (simp_all; done)))), S⟩
      · replace hc_5 := of_decide_eq_false hc_5
        refine WP_seq ?_
        refine WP_region ?_
        refine S_v E rfl (R_eql E rfl rfl) rfl ?_
        clear E a; intro a E
        refine S_v E rfl (R_assign E rfl) rfl ?_
        clear E a; intro a E
        refine WL_nil ?_
        refine T_n ?_
        refine WP_cond E rfl (fun hc_8 => ?_) (fun hc_8 => ?_)
        · replace hc_8 := of_decide_eq_true hc_8
          refine WP_seq ?_
          refine WP_region ?_
          refine S_v E rfl (R_fieldAddr E rfl (FA37_1 _)) rfl ?_
          clear E a; intro a E
          refine S_v E rfl (R_loadM E rfl Try.isAgg3 S.imm (cellM_boxo hb_1 rfl)) rfl ?_
          clear E a; intro a E
          refine S_v E rfl (R_assign E rfl) rfl ?_
          clear E a; intro a E
          refine WL_nil ?_
          refine T_n ?_
          refine WP_ret ?_
          refine B_r ?_
          refine T_r ?_
          exact F_ret1 E Try.results70 rfl ⟨_, rfl, M_2, hM_2, (congrArg (Value.int .i64) (by (clear E S; unfold keyAt w64; first | (simp [*]; done) | (simp_all; done)))), S⟩
        · replace hc_8 := of_decide_eq_false hc_8
          refine WP_seq ?_
          refine WP_region ?_
          refine S_v E rfl (R_eql E rfl rfl) rfl ?_
          clear E a; intro a E
          refine S_v E rfl (R_assign E rfl) rfl ?_
          clear E a; intro a E
          refine WL_nil ?_
          refine T_n ?_
          refine WP_cond E rfl (fun hc_9 => ?_) (fun hc_9 => ?_)
          · replace hc_9 := of_decide_eq_true hc_9
            refine WP_seq ?_
            refine WP_region ?_
            refine S_v E rfl (R_move E rfl) rfl ?_
            clear E a; intro a E
            refine S_v E rfl (R_assign E rfl) rfl ?_
            clear E a; intro a E
            refine WL_nil ?_
            refine T_n ?_
            refine WP_ret ?_
            refine B_r ?_
            refine T_r ?_
            exact F_ret1 E Try.results70 rfl ⟨_, rfl, M_2, hM_2, (congrArg (Value.int .i64) (by (clear E S; unfold keyAt w64; first | (simp [*]; done) | (simp_all; done)))), S⟩
          · replace hc_9 := of_decide_eq_false hc_9
            refine WP_skip ?_
            refine B_n ?_
            refine T_n ?_
            refine WP_seq ?_
            refine WP_region ?_
            refine S_v E rfl (R_move E rfl) rfl ?_
            clear E a; intro a E
            refine S_v E rfl (R_assign E rfl) rfl ?_
            clear E a; intro a E
            refine WL_nil ?_
            refine T_n ?_
            refine WP_ret ?_
            exact F_ret1 E Try.results70 rfl ⟨_, rfl, M_2, hM_2, (congrArg (Value.int .i64) (by (clear E S; unfold keyAt w64; first | (simp [*]; done) | (simp_all; done)))), S⟩
theorem SKey_Of {M : Hp} {kk0 kn0 : Int} (gk0 : -9223372036854775808 ≤ kn0 ∧ kn0 ≤ 9223372036854775807){x1 x2 : Int} (gx : -9223372036854775808 ≤ x1 ∧ x1 ≤ 9223372036854775807) :
    Pu Try.prog (.func (.func 70) #[.agg #[.int .i64 kk0, .int .i64 kn0]] #[]) M [.int .i64 x1, .int .i64 x2] (fun r M' => r = .int .i64 (keyAt kk0 kn0 x1 x2)) := PuC.pu Try.call70 rfl (SKey_Of_c gk0 gx)
theorem SKey_Of_d {M : Hp} {kk0 kn0 : Int} (gk0 : -9223372036854775808 ≤ kn0 ∧ kn0 ≤ 9223372036854775807){x1 x2 : Int} (gx : -9223372036854775808 ≤ x1 ∧ x1 ≤ 9223372036854775807) :
    Pu Try.prog (.func (.func 70) #[] #[]) M [.agg #[.int .i64 kk0, .int .i64 kn0], .int .i64 x1, .int .i64 x2] (fun r M' => r = .int .i64 (keyAt kk0 kn0 x1 x2)) := PuC.pu Try.call70 rfl (SKey_Of_c gk0 gx)

set_option maxRecDepth 100000 in
set_option maxHeartbeats 4000000 in
theorem spec_keys {M : Hp} {v0 : Value} {l0 : List Int} (h0 : RdI M v0 l0){kk1 kn1 : Int} (gk1 : -9223372036854775808 ≤ kn1 ∧ kn1 ≤ 9223372036854775807) (hr0 : (∀ x ∈ l0, -9223372036854775808 ≤ x ∧ x ≤ 9223372036854775807)) (hb : l0.length ≤ 1000000000000) :
    Pu Try.prog (.func (.func 56) #[] #[]) M [v0, .agg #[.int .i64 kk1, .int .i64 kn1]] (fun r M' => RdI M' r ((l0).map (fun x => keyAt kk1 kn1 x 0))) := by
  refine Pu_enter Try.func56 rfl Try.ntmps56 rfl Try.call56 ?_
  intro a w M1 H hM1 S E
  replace h0 := h0.le hM1
  have b0 := h0.bound
  refine WP_seq ?_
  refine WP_region ?_
  refine S_x (X_box (cs := #[.int .i64 kk1, .int .i64 kn1]) E S rfl rfl rfl ?_)
  clear E a S; rintro a w b_1 E S
  obtain ⟨M_2, hM_2, hb_1, S⟩ := S.freezeB
  replace h0 := h0.le hM_2
  refine S_v E rfl (R_assign E rfl) rfl ?_
  clear E a; intro a E
  refine WL_nil ?_
  refine T_n ?_
  refine WP_seq ?_
  refine WP_region ?_
  refine S_v E rfl (R_assign E rfl) rfl ?_
  clear E a; intro a E
  refine WL_nil ?_
  refine T_n ?_
  refine WP_seq ?_
  refine WP_seq ?_
  refine WP_region ?_
  refine S_v E rfl (R_move E rfl) rfl ?_
  clear E a; intro a E
  refine S_v E rfl (R_lenV E rfl T22 h0.len) rfl ?_
  clear E a; intro a E
  refine S_v E rfl (R_move E rfl) rfl ?_
  clear E a; intro a E
  refine WL_nil ?_
  refine T_n ?_
  refine WP_block ?_
  replace S := (S.ownNil (e := 3) (sz := 1)).made0
  replace S := S.re1 (l' := (l0.take 0).map (fun x => keyAt kk1 kn1 x 0)) (by first | (simp; done) | (rw [map_take_s (fun x => keyAt kk1 kn1 x 0) (by assumption)]; done))
  refine WP_loop (γ := Nat) (fun (k : Nat) a w => ∃ (M_4 : Hp) (u5 : Value), Hp.le M_2 M_4 ∧ St w M_4 (OwnI 3 u5 ((l0.take k).map (fun x => keyAt kk1 kn1 x 0)) :: H) ∧ Env a 22 [] [(3, .pointer (some ⟨b_1, 0, none⟩)), (5, u5), (8, v0), (9, .int .i64 (((l0).length : Nat) : Int)), (10, .int .i64 ((k : Nat) : Int))] ∧ (k ≤ (l0).length)) (fun k => ((l0).length) - k) 0 ⟨M_2, _, Hp.le.refl _, S, E.keep ⟨rfl, rfl, rfl, rfl, rfl, trivial⟩, by ((try clear S); (try clear E); first | assumption | omega | rfl | (simp; done) | (simp_all; done) | (simp [List.take_add_one, *]; done) | grind [List.take_add_one])⟩ ?_
  try clear E
  try clear S
  try clear a
  try clear w
  rintro k a w ⟨M_4, u5, hM_4, S, E, hL0_0⟩
  replace h0 := h0.le hM_4
  replace hb_1 := hM_4.2 _ _ hb_1
  refine WP_seq ?_
  refine WP_region ?_
  refine S_v E rfl (R_lss E rfl rfl) rfl ?_
  clear E a; intro a E
  refine WL_nil ?_
  refine T_n ?_
  refine WP_seq ?_
  refine WP_cond E rfl (fun hc_5 => ?_) (fun hc_5 => ?_)
  · replace hc_5 := of_decide_eq_true hc_5
    refine WP_skip ?_
    refine T_n ?_
    refine WP_seq ?_
    refine WP_block ?_
    refine WP_seq ?_
    refine WP_region ?_
    obtain ⟨x_6, hx_6⟩ : ∃ x, (l0)[k]? = some x := ⟨_, List.getElem?_eq_getElem (by first | omega | (simp; done) | (simp; omega) | (simp_all; omega))⟩
    obtain ⟨p_7, hp_7, qp_7⟩ := h0.at hx_6
    refine S_v E rfl (R_idx E rfl rfl T22 hp_7 rfl) rfl ?_
    clear E a; intro a E
    refine S_v E rfl (R_loadM E rfl Try.isAgg3 S.imm qp_7) rfl ?_
    clear E a; intro a E
    refine S_v E rfl (R_assign E rfl) rfl ?_
    clear E a; intro a E
    refine WL_nil ?_
    refine T_n ?_
    refine WP_region ?_
    refine S_v E rfl (R_move E rfl) rfl ?_
    clear E a; intro a E
    refine S_v E rfl (R_loadGM E rfl (Try.isAgg37 _) (Try.sizeOf37 _) S.imm hb_1) rfl ?_
    clear E a; intro a E
    refine S_v E rfl (R_move E rfl) rfl ?_
    clear E a; intro a E
    refine S_x (X_pu E S rfl rfl rfl (SKey_Of_d (by omega) (by first | omega | assumption | exact hr0 _ (List.mem_of_getElem? (by assumption)))) (Hp.le.refl _) ?_)
    clear E a S; rintro a _ w M_8 hM_8 rfl S E
    replace h0 := h0.le hM_8
    replace hb_1 := hM_8.2 _ _ hb_1
    refine S_x (X_buildI (ys := [keyAt kk1 kn1 x_6 0]) E S rfl T22 rfl rfl rfl ?_)
    clear E a S; rintro a w v_9 E S
    replace S := S.front1
    replace S := S.front1
    refine S_x (X_appendB (xs := (l0.take k).map (fun x => keyAt kk1 kn1 x 0)) (ys := [keyAt kk1 kn1 x_6 0]) E S rfl rfl rfl T22 (by first | omega | (simp; done) | (simp; omega) | (simp_all; omega)) ?_)
    clear E a S; rintro a w v_10 E S
    refine S_v E rfl (R_assign E rfl) rfl ?_
    clear E a; intro a E
    refine WL_nil ?_
    refine B_n ?_
    refine T_n ?_
    refine WP_region ?_
    refine S_v E rfl (R_addx (m := ((k + 1 : Nat) : Int)) E rfl rfl (by omega) (by omega)) rfl ?_
    clear E a; intro a E
    refine S_v E rfl (R_move E rfl) rfl ?_
    clear E a; intro a E
    refine WL_nil ?_
    refine T_n ?_
    replace S := S.re1 (l' := (l0.take (k + 1)).map (fun x => keyAt kk1 kn1 x 0)) (by first | (simp; done) | (rw [map_take_s (fun x => keyAt kk1 kn1 x 0) (by assumption)]; done))
    exact ⟨k + 1, ⟨M_8, _, (hM_4.trans hM_8), S, E.keep ⟨rfl, rfl, rfl, rfl, rfl, trivial⟩, by ((try clear S); (try clear E); first | assumption | omega | rfl | (simp; done) | (simp_all; done) | (simp [List.take_add_one, *]; done) | grind [List.take_add_one])⟩, by omega⟩
  · replace hc_5 := of_decide_eq_false hc_5
    refine WP_exit ?_
    refine T_x ?_
    refine T_x ?_
    refine B_x ?_
    refine T_n ?_
    refine WP_seq ?_
    refine WP_region ?_
    refine S_v E rfl (R_move E rfl) rfl ?_
    clear E a; intro a E
    refine S_v E rfl (R_assign E rfl) rfl ?_
    clear E a; intro a E
    refine WL_nil ?_
    refine T_n ?_
    refine WP_ret ?_
    have S0 := S; clear S
    obtain ⟨M_11, hM_11, hz_12, S⟩ := S0.freezeI (by (first | omega | (simp; omega) | (simp; done) | (simp_all; omega) | grind))
    clear S0
    replace h0 := h0.le hM_11
    replace hb_1 := hM_11.2 _ _ hb_1
    exact F_ret1 E Try.results56 rfl ⟨_, rfl, M_11, (hM_2.trans (hM_4.trans hM_11)), (by rw [show ((l0).map (fun x => keyAt kk1 kn1 x 0)) = ((l0.take k).map (fun x => keyAt kk1 kn1 x 0)) from by (rw [List.take_of_length_le (by omega)])]; exact hz_12), S⟩

set_option maxRecDepth 100000 in
set_option maxHeartbeats 4000000 in
theorem spec_Sorted {M : Hp} {v0 : Value} {l0 : List Int} (h0 : RdI M v0 l0) (hb : l0.length ≤ 1000000000000) :
    Pu Try.prog (.func (.func 86) #[] #[]) M [v0] (fun r M' => RdI M' r (sortI l0)) := by
  refine Pu_enter Try.func86 rfl Try.ntmps86 rfl Try.call86 ?_
  intro a w M1 H hM1 S E
  replace h0 := h0.le hM1
  have b0 := h0.bound
  refine WP_seq ?_
  refine WP_region ?_
  refine S_v E rfl (R_assign E rfl) rfl ?_
  clear E a; intro a E
  refine WL_nil ?_
  refine T_n ?_
  refine WP_seq ?_
  refine WP_region ?_
  refine S_v E rfl (R_assign E rfl) rfl ?_
  clear E a; intro a E
  refine WL_nil ?_
  refine T_n ?_
  refine WP_seq ?_
  refine WP_seq ?_
  refine WP_region ?_
  refine S_v E rfl (R_move E rfl) rfl ?_
  clear E a; intro a E
  refine S_v E rfl (R_lenV E rfl T22 h0.len) rfl ?_
  clear E a; intro a E
  refine S_v E rfl (R_move E rfl) rfl ?_
  clear E a; intro a E
  refine WL_nil ?_
  refine T_n ?_
  refine WP_block ?_
  replace S := (S.ownNil (e := 3) (sz := 1)).made0
  replace S := S.re1 (l' := sortI (l0.take 0)) (by first | (simp [sortI]; done) | (rw [sortI_take (by assumption), ← ins_at (j := j) (by omega) (by intro y hy; have h9 := hL1_1 y hy; rw [show l0[k]? = some _ by assumption] at h9; exact h9) (by first | (left; omega) | (right; exact ⟨_, by assumption, by assumption⟩))]; done) | (rw [sortI_take (by assumption), ← ins_at (j := j) (by omega) (by intro y hy; have h9 := hL1_1 y hy; rw [show l0[k]? = some _ by assumption] at h9; exact h9) (by first | (left; omega) | (right; exact ⟨_, by assumption, by assumption⟩))]; simp; done))
  refine WP_loop (γ := Nat) (fun (k : Nat) a w => ∃ (M_2 : Hp) (u3 : Value), Hp.le M1 M_2 ∧ St w M_2 (OwnI 3 u3 (sortI (l0.take k)) :: H) ∧ Env a 41 [] [(3, u3), (7, v0), (8, .int .i64 (((l0).length : Nat) : Int)), (9, .int .i64 ((k : Nat) : Int))] ∧ (k ≤ (l0).length)) (fun k => ((l0).length) - k) 0 ⟨M1, _, Hp.le.refl _, S, E.keep ⟨rfl, rfl, rfl, rfl, trivial⟩, by ((try clear S); (try clear E); first | assumption | omega | rfl | (simp; done) | (simp_all; done) | (simp [List.take_add_one, *]; done) | grind [List.take_add_one])⟩ ?_
  try clear E
  try clear S
  try clear a
  try clear w
  rintro k a w ⟨M_2, u3, hM_2, S, E, hL0_0⟩
  replace h0 := h0.le hM_2
  have hsl := sortI_len (l0.take k); simp only [List.length_take] at hsl
  refine WP_seq ?_
  refine WP_region ?_
  refine S_v E rfl (R_lss E rfl rfl) rfl ?_
  clear E a; intro a E
  refine WL_nil ?_
  refine T_n ?_
  refine WP_seq ?_
  refine WP_cond E rfl (fun hc_3 => ?_) (fun hc_3 => ?_)
  · replace hc_3 := of_decide_eq_true hc_3
    refine WP_skip ?_
    refine T_n ?_
    refine WP_seq ?_
    refine WP_block ?_
    refine WP_seq ?_
    refine WP_region ?_
    obtain ⟨x_4, hx_4⟩ : ∃ x, (l0)[k]? = some x := ⟨_, List.getElem?_eq_getElem (by first | omega | (simp; done) | (simp; omega) | (simp_all; omega))⟩
    obtain ⟨p_5, hp_5, qp_5⟩ := h0.at hx_4
    refine S_v E rfl (R_idx E rfl rfl T22 hp_5 rfl) rfl ?_
    clear E a; intro a E
    refine S_v E rfl (R_loadM E rfl Try.isAgg3 S.imm qp_5) rfl ?_
    clear E a; intro a E
    refine S_v E rfl (R_assign E rfl) rfl ?_
    clear E a; intro a E
    refine WL_nil ?_
    refine T_n ?_
    refine WP_seq ?_
    refine WP_region ?_
    refine S_v E rfl (R_assign E rfl) rfl ?_
    clear E a; intro a E
    refine WL_nil ?_
    refine T_n ?_
    refine WP_seq ?_
    refine WP_block ?_
    refine WP_loop (γ := Nat) (fun (j : Nat) a w => ∃ (M_6 : Hp), Hp.le M_2 M_6 ∧ St w M_6 (OwnI 3 u3 (sortI (l0.take k)) :: H) ∧ Env a 41 [] [(3, u3), (5, .int .i64 x_4), (6, .int .i64 ((j : Nat) : Int)), (7, v0), (8, .int .i64 (((l0).length : Nat) : Int)), (9, .int .i64 ((k : Nat) : Int))] ∧ (j ≤ (sortI (l0.take k)).length) ∧ (∀ y ∈ (sortI (l0.take k)).take j, y ≤ (l0[k]?.getD 0))) (fun j => (sortI (l0.take k)).length - j) 0 ⟨M_2, Hp.le.refl _, S, E.keep ⟨rfl, rfl, rfl, rfl, rfl, rfl, trivial⟩, (by omega), (by simp)⟩ ?_
    try clear E
    try clear S
    try clear a
    try clear w
    rintro j a w ⟨M_6, hM_6, S, E, hL1_0, hL1_1⟩
    replace h0 := h0.le hM_6
    refine WP_seq ?_
    refine WP_seq ?_
    refine WP_region ?_
    refine S_v E rfl (R_move E rfl) rfl ?_
    clear E a; intro a E
    refine S_v E rfl (R_move E rfl) rfl ?_
    clear E a; intro a E
    refine S_v E rfl (R_lenV E rfl T22 S.lenC) rfl ?_
    clear E a; intro a E
    refine S_v E rfl (R_lss E rfl rfl) rfl ?_
    clear E a; intro a E
    refine S_v E rfl (R_move E rfl) rfl ?_
    clear E a; intro a E
    refine split_bool (decide (((j : Nat) : Int) < (((sortI (l0.take k)).length : Nat) : Int))) (fun hc_7 => ?_) (fun hc_7 => ?_)
    · replace E := E.val (t := 16) rfl hc_7
      replace E := E.val (t := 17) rfl hc_7
      replace hc_7 := of_decide_eq_true hc_7
      refine WL_guard_yes E rfl rfl ?_
      refine S_v E rfl (R_move E rfl) rfl ?_
      clear E a; intro a E
      refine WL_guard_yes E rfl rfl ?_
      refine S_v E rfl (R_move E rfl) rfl ?_
      clear E a; intro a E
      obtain ⟨p_8, hp_8⟩ := S.ptrC (k := j) (by first | omega | (simp; done) | (simp; omega) | (simp_all; omega))
      refine WL_guard_yes E rfl rfl ?_
      refine S_v E rfl (R_idx E rfl rfl T22 hp_8 rfl) rfl ?_
      clear E a; intro a E
      obtain ⟨x_9, hx_9⟩ : ∃ x, (sortI (l0.take k))[j]? = some x := ⟨_, List.getElem?_eq_getElem (by first | omega | (simp; done) | (simp; omega) | (simp_all; omega))⟩
      refine WL_guard_yes E rfl rfl ?_
      refine S_v E rfl (R_load E rfl (Try.isAgg3 _) (S.cellI hp_8 hx_9)) rfl ?_
      clear E a; intro a E
      refine WL_guard_yes E rfl rfl ?_
      refine S_v E rfl (R_move E rfl) rfl ?_
      clear E a; intro a E
      refine WL_guard_yes E rfl rfl ?_
      refine S_v E rfl (R_leq E rfl rfl) rfl ?_
      clear E a; intro a E
      refine S_v E rfl (R_pickT E rfl rfl) rfl ?_
      clear E a; intro a E
      refine WL_nil ?_
      refine T_n ?_
      refine WP_cond E rfl (fun hc_10 => ?_) (fun hc_10 => ?_)
      · replace hc_10 := of_decide_eq_true hc_10
        refine WP_skip ?_
        refine T_n ?_
        refine WP_block ?_
        refine WP_region ?_
        refine S_v E rfl (R_move E rfl) rfl ?_
        clear E a; intro a E
        refine S_v E rfl (R_addx (m := ((j + 1 : Nat) : Int)) E rfl rfl (by omega) (by omega)) rfl ?_
        clear E a; intro a E
        refine S_v E rfl (R_assign E rfl) rfl ?_
        clear E a; intro a E
        refine WL_nil ?_
        refine B_n ?_
        refine T_n ?_
        exact ⟨j + 1, ⟨M_6, hM_6, S, E.keep ⟨rfl, rfl, rfl, rfl, rfl, rfl, trivial⟩, (by omega), (by exact take_all (P := fun y => y ≤ (l0[k]?.getD 0)) hL1_1 (by assumption) (by rw [show l0[k]? = some _ by assumption]; assumption))⟩, by omega⟩
      · replace hc_10 := of_decide_eq_false hc_10
        refine WP_exit ?_
        refine T_x ?_
        refine T_x ?_
        refine B_x ?_
        refine T_n ?_
        refine DG_start Try.mixed ?_
        refine DG_split 0 6 (by decide) (by kernel_rfl) ?_ ?_
        · refine DG_split 4 6 (by decide) (by kernel_rfl) ?_ ?_
          · replace S := S.mono_heap (w' := World.drew _) rfl
            refine DG_end (C := fun x w => agree M_6 w) (bf := (fun i => [])) [1, 2, 3, 5, 8, 9, 10, 12] [1, 2, 3, 5, 8, 9, 10, 0, 4, 6, 7, 11, 12] (by kernel_rfl) (fun x hq => S.imm) ?_
            refine D_v E rfl rfl rfl (fun w hC => (R_move E rfl)) ?_
            clear E a; intro a E
            refine D_v E rfl rfl rfl (fun w hC => (R_move E rfl)) ?_
            clear E a; intro a E
            have S0 := S; clear S
            obtain ⟨M_11, hM_11, hz_12, S⟩ := S0.freezeI (by (first | omega | (simp; omega) | (simp; done) | (simp_all; omega) | grind))
            clear S0
            replace h0 := h0.le hM_11
            obtain ⟨v_13, sv_13, hv_13⟩ := hz_12.subv 0 j (by first | omega | (simp; done) | (simp; omega) | (simp_all; omega)) (by first | omega | (simp; done) | (simp; omega) | (simp_all; omega))
            simp only [List.drop_zero] at hv_13
            replace hv_13 : RdI M_11 v_13 ((sortI (l0.take k)).take j) := hv_13
            refine D_v E rfl rfl rfl (fun w hC => (R_sliceH E rfl rfl T22 sv_13 (by omega))) ?_
            clear E a; intro a E
            refine D_v E rfl rfl rfl (fun w hC => (R_move E rfl)) ?_
            clear E a; intro a E
            refine D_v E rfl rfl rfl (fun w hC => (R_move E rfl)) ?_
            clear E a; intro a E
            refine D_v E rfl rfl rfl (fun w hC => (R_move E rfl)) ?_
            clear E a; intro a E
            obtain ⟨v_14, sv_14, hv_14⟩ := hz_12.subv j ((sortI (l0.take k)).length) (by first | omega | (simp; done) | (simp; omega) | (simp_all; omega)) (by first | omega | (simp; done) | (simp; omega) | (simp_all; omega))
            simp only [List.take_length] at hv_14
            replace hv_14 : RdI M_11 v_14 ((sortI (l0.take k)).drop j) := hv_14
            refine D_v E rfl rfl rfl (fun w hC => (R_sliceL E rfl rfl T22 hz_12.len sv_14 (by omega))) ?_
            clear E a; intro a E
            refine D_x rfl rfl rfl (X_buildI (ys := []) E S rfl T22 rfl rfl rfl ?_)
            clear E a S; rintro a w v_15 E S
            refine ⟨fun x hq hb => (agree_le hM_11 S.imm), ?_⟩
            refine D_x rfl rfl rfl (X_appendI (xs := ([] : List Int)) E S rfl rfl rfl T22 hv_13 (by first | omega | (simp; done) | (simp; omega) | (simp_all; omega)) ?_)
            clear E a S; rintro a w v_16 E S
            refine ⟨fun x hq hb => (agree_le hM_11 S.imm), ?_⟩
            refine D_x rfl rfl rfl (X_buildI (ys := [x_4]) E S rfl T22 rfl rfl rfl ?_)
            clear E a S; rintro a w v_17 E S
            refine ⟨fun x hq hb => (agree_le hM_11 S.imm), ?_⟩
            replace S := S.front1
            replace S := S.front1
            refine D_x rfl rfl rfl (X_appendB (xs := [] ++ ((sortI (l0.take k)).take j)) (ys := [x_4]) E S rfl rfl rfl T22 (by first | omega | (simp; done) | (simp; omega) | (simp_all; omega)) ?_)
            clear E a S; rintro a w v_18 E S
            refine ⟨fun x hq hb => (agree_le hM_11 S.imm), ?_⟩
            refine D_x rfl rfl rfl (X_appendI (xs := ([] ++ ((sortI (l0.take k)).take j)) ++ [x_4]) E S rfl rfl rfl T22 hv_14 (by first | omega | (simp; done) | (simp; omega) | (simp_all; omega)) ?_)
            clear E a S; rintro a w v_19 E S
            refine ⟨fun x hq hb => (agree_le hM_11 S.imm), ?_⟩
            refine D_v E rfl rfl rfl (fun w hC => (R_assign E rfl)) ?_
            clear E a; intro a E
            refine D_end (NoP_n ?_)
            refine B_n ?_
            refine T_n ?_
            refine WP_region ?_
            refine S_v E rfl (R_addx (m := ((k + 1 : Nat) : Int)) E rfl rfl (by omega) (by omega)) rfl ?_
            clear E a; intro a E
            refine S_v E rfl (R_move E rfl) rfl ?_
            clear E a; intro a E
            refine WL_nil ?_
            refine T_n ?_
            replace S := S.re1 (l' := sortI (l0.take (k + 1))) (by first | (simp [sortI]; done) | (rw [sortI_take (by assumption), ← ins_at (j := j) (by omega) (by intro y hy; have h9 := hL1_1 y hy; rw [show l0[k]? = some _ by assumption] at h9; exact h9) (by first | (left; omega) | (right; exact ⟨_, by assumption, by assumption⟩))]; done) | (rw [sortI_take (by assumption), ← ins_at (j := j) (by omega) (by intro y hy; have h9 := hL1_1 y hy; rw [show l0[k]? = some _ by assumption] at h9; exact h9) (by first | (left; omega) | (right; exact ⟨_, by assumption, by assumption⟩))]; simp; done))
            exact ⟨k + 1, ⟨M_11, _, (hM_2.trans (hM_6.trans hM_11)), S, E.keep ⟨rfl, rfl, rfl, rfl, trivial⟩, by ((try clear S); (try clear E); first | assumption | omega | rfl | (simp; done) | (simp_all; done) | (simp [List.take_add_one, *]; done) | grind [List.take_add_one])⟩, by omega⟩
          · replace S := S.mono_heap (w' := World.drew _) rfl
            refine DG_end (C := fun x w => agree M_6 w) (bf := (fun i => [])) [1, 2, 3, 5, 8, 9, 10, 12] [1, 2, 3, 5, 8, 9, 10, 0, 6, 4, 7, 11, 12] (by kernel_rfl) (fun x hq => S.imm) ?_
            refine D_v E rfl rfl rfl (fun w hC => (R_move E rfl)) ?_
            clear E a; intro a E
            refine D_v E rfl rfl rfl (fun w hC => (R_move E rfl)) ?_
            clear E a; intro a E
            have S0 := S; clear S
            obtain ⟨M_20, hM_20, hz_21, S⟩ := S0.freezeI (by (first | omega | (simp; omega) | (simp; done) | (simp_all; omega) | grind))
            clear S0
            replace h0 := h0.le hM_20
            obtain ⟨v_22, sv_22, hv_22⟩ := hz_21.subv 0 j (by first | omega | (simp; done) | (simp; omega) | (simp_all; omega)) (by first | omega | (simp; done) | (simp; omega) | (simp_all; omega))
            simp only [List.drop_zero] at hv_22
            replace hv_22 : RdI M_20 v_22 ((sortI (l0.take k)).take j) := hv_22
            refine D_v E rfl rfl rfl (fun w hC => (R_sliceH E rfl rfl T22 sv_22 (by omega))) ?_
            clear E a; intro a E
            refine D_v E rfl rfl rfl (fun w hC => (R_move E rfl)) ?_
            clear E a; intro a E
            refine D_v E rfl rfl rfl (fun w hC => (R_move E rfl)) ?_
            clear E a; intro a E
            refine D_v E rfl rfl rfl (fun w hC => (R_move E rfl)) ?_
            clear E a; intro a E
            obtain ⟨v_23, sv_23, hv_23⟩ := hz_21.subv j ((sortI (l0.take k)).length) (by first | omega | (simp; done) | (simp; omega) | (simp_all; omega)) (by first | omega | (simp; done) | (simp; omega) | (simp_all; omega))
            simp only [List.take_length] at hv_23
            replace hv_23 : RdI M_20 v_23 ((sortI (l0.take k)).drop j) := hv_23
            refine D_v E rfl rfl rfl (fun w hC => (R_sliceL E rfl rfl T22 hz_21.len sv_23 (by omega))) ?_
            clear E a; intro a E
            refine D_x rfl rfl rfl (X_buildI (ys := []) E S rfl T22 rfl rfl rfl ?_)
            clear E a S; rintro a w v_24 E S
            refine ⟨fun x hq hb => (agree_le hM_20 S.imm), ?_⟩
            refine D_x rfl rfl rfl (X_buildI (ys := [x_4]) E S rfl T22 rfl rfl rfl ?_)
            clear E a S; rintro a w v_25 E S
            refine ⟨fun x hq hb => (agree_le hM_20 S.imm), ?_⟩
            replace S := S.front1
            refine D_x rfl rfl rfl (X_appendI (xs := ([] : List Int)) E S rfl rfl rfl T22 hv_22 (by first | omega | (simp; done) | (simp; omega) | (simp_all; omega)) ?_)
            clear E a S; rintro a w v_26 E S
            refine ⟨fun x hq hb => (agree_le hM_20 S.imm), ?_⟩
            replace S := S.front1
            refine D_x rfl rfl rfl (X_appendB (xs := [] ++ ((sortI (l0.take k)).take j)) (ys := [x_4]) E S rfl rfl rfl T22 (by first | omega | (simp; done) | (simp; omega) | (simp_all; omega)) ?_)
            clear E a S; rintro a w v_27 E S
            refine ⟨fun x hq hb => (agree_le hM_20 S.imm), ?_⟩
            refine D_x rfl rfl rfl (X_appendI (xs := ([] ++ ((sortI (l0.take k)).take j)) ++ [x_4]) E S rfl rfl rfl T22 hv_23 (by first | omega | (simp; done) | (simp; omega) | (simp_all; omega)) ?_)
            clear E a S; rintro a w v_28 E S
            refine ⟨fun x hq hb => (agree_le hM_20 S.imm), ?_⟩
            refine D_v E rfl rfl rfl (fun w hC => (R_assign E rfl)) ?_
            clear E a; intro a E
            refine D_end (NoP_n ?_)
            refine B_n ?_
            refine T_n ?_
            refine WP_region ?_
            refine S_v E rfl (R_addx (m := ((k + 1 : Nat) : Int)) E rfl rfl (by omega) (by omega)) rfl ?_
            clear E a; intro a E
            refine S_v E rfl (R_move E rfl) rfl ?_
            clear E a; intro a E
            refine WL_nil ?_
            refine T_n ?_
            replace S := S.re1 (l' := sortI (l0.take (k + 1))) (by first | (simp [sortI]; done) | (rw [sortI_take (by assumption), ← ins_at (j := j) (by omega) (by intro y hy; have h9 := hL1_1 y hy; rw [show l0[k]? = some _ by assumption] at h9; exact h9) (by first | (left; omega) | (right; exact ⟨_, by assumption, by assumption⟩))]; done) | (rw [sortI_take (by assumption), ← ins_at (j := j) (by omega) (by intro y hy; have h9 := hL1_1 y hy; rw [show l0[k]? = some _ by assumption] at h9; exact h9) (by first | (left; omega) | (right; exact ⟨_, by assumption, by assumption⟩))]; simp; done))
            exact ⟨k + 1, ⟨M_20, _, (hM_2.trans (hM_6.trans hM_20)), S, E.keep ⟨rfl, rfl, rfl, rfl, trivial⟩, by ((try clear S); (try clear E); first | assumption | omega | rfl | (simp; done) | (simp_all; done) | (simp [List.take_add_one, *]; done) | grind [List.take_add_one])⟩, by omega⟩
        · replace S := S.mono_heap (w' := World.drew _) rfl
          refine DG_end (C := fun x w => agree M_6 w) (bf := (fun i => [])) [1, 2, 3, 5, 8, 9, 10, 12] [1, 2, 3, 5, 8, 9, 10, 6, 0, 4, 7, 11, 12] (by kernel_rfl) (fun x hq => S.imm) ?_
          refine D_v E rfl rfl rfl (fun w hC => (R_move E rfl)) ?_
          clear E a; intro a E
          refine D_v E rfl rfl rfl (fun w hC => (R_move E rfl)) ?_
          clear E a; intro a E
          have S0 := S; clear S
          obtain ⟨M_29, hM_29, hz_30, S⟩ := S0.freezeI (by (first | omega | (simp; omega) | (simp; done) | (simp_all; omega) | grind))
          clear S0
          replace h0 := h0.le hM_29
          obtain ⟨v_31, sv_31, hv_31⟩ := hz_30.subv 0 j (by first | omega | (simp; done) | (simp; omega) | (simp_all; omega)) (by first | omega | (simp; done) | (simp; omega) | (simp_all; omega))
          simp only [List.drop_zero] at hv_31
          replace hv_31 : RdI M_29 v_31 ((sortI (l0.take k)).take j) := hv_31
          refine D_v E rfl rfl rfl (fun w hC => (R_sliceH E rfl rfl T22 sv_31 (by omega))) ?_
          clear E a; intro a E
          refine D_v E rfl rfl rfl (fun w hC => (R_move E rfl)) ?_
          clear E a; intro a E
          refine D_v E rfl rfl rfl (fun w hC => (R_move E rfl)) ?_
          clear E a; intro a E
          refine D_v E rfl rfl rfl (fun w hC => (R_move E rfl)) ?_
          clear E a; intro a E
          obtain ⟨v_32, sv_32, hv_32⟩ := hz_30.subv j ((sortI (l0.take k)).length) (by first | omega | (simp; done) | (simp; omega) | (simp_all; omega)) (by first | omega | (simp; done) | (simp; omega) | (simp_all; omega))
          simp only [List.take_length] at hv_32
          replace hv_32 : RdI M_29 v_32 ((sortI (l0.take k)).drop j) := hv_32
          refine D_v E rfl rfl rfl (fun w hC => (R_sliceL E rfl rfl T22 hz_30.len sv_32 (by omega))) ?_
          clear E a; intro a E
          refine D_x rfl rfl rfl (X_buildI (ys := [x_4]) E S rfl T22 rfl rfl rfl ?_)
          clear E a S; rintro a w v_33 E S
          refine ⟨fun x hq hb => (agree_le hM_29 S.imm), ?_⟩
          refine D_x rfl rfl rfl (X_buildI (ys := []) E S rfl T22 rfl rfl rfl ?_)
          clear E a S; rintro a w v_34 E S
          refine ⟨fun x hq hb => (agree_le hM_29 S.imm), ?_⟩
          refine D_x rfl rfl rfl (X_appendI (xs := ([] : List Int)) E S rfl rfl rfl T22 hv_31 (by first | omega | (simp; done) | (simp; omega) | (simp_all; omega)) ?_)
          clear E a S; rintro a w v_35 E S
          refine ⟨fun x hq hb => (agree_le hM_29 S.imm), ?_⟩
          replace S := S.front1
          refine D_x rfl rfl rfl (X_appendB (xs := [] ++ ((sortI (l0.take k)).take j)) (ys := [x_4]) E S rfl rfl rfl T22 (by first | omega | (simp; done) | (simp; omega) | (simp_all; omega)) ?_)
          clear E a S; rintro a w v_36 E S
          refine ⟨fun x hq hb => (agree_le hM_29 S.imm), ?_⟩
          refine D_x rfl rfl rfl (X_appendI (xs := ([] ++ ((sortI (l0.take k)).take j)) ++ [x_4]) E S rfl rfl rfl T22 hv_32 (by first | omega | (simp; done) | (simp; omega) | (simp_all; omega)) ?_)
          clear E a S; rintro a w v_37 E S
          refine ⟨fun x hq hb => (agree_le hM_29 S.imm), ?_⟩
          refine D_v E rfl rfl rfl (fun w hC => (R_assign E rfl)) ?_
          clear E a; intro a E
          refine D_end (NoP_n ?_)
          refine B_n ?_
          refine T_n ?_
          refine WP_region ?_
          refine S_v E rfl (R_addx (m := ((k + 1 : Nat) : Int)) E rfl rfl (by omega) (by omega)) rfl ?_
          clear E a; intro a E
          refine S_v E rfl (R_move E rfl) rfl ?_
          clear E a; intro a E
          refine WL_nil ?_
          refine T_n ?_
          replace S := S.re1 (l' := sortI (l0.take (k + 1))) (by first | (simp [sortI]; done) | (rw [sortI_take (by assumption), ← ins_at (j := j) (by omega) (by intro y hy; have h9 := hL1_1 y hy; rw [show l0[k]? = some _ by assumption] at h9; exact h9) (by first | (left; omega) | (right; exact ⟨_, by assumption, by assumption⟩))]; done) | (rw [sortI_take (by assumption), ← ins_at (j := j) (by omega) (by intro y hy; have h9 := hL1_1 y hy; rw [show l0[k]? = some _ by assumption] at h9; exact h9) (by first | (left; omega) | (right; exact ⟨_, by assumption, by assumption⟩))]; simp; done))
          exact ⟨k + 1, ⟨M_29, _, (hM_2.trans (hM_6.trans hM_29)), S, E.keep ⟨rfl, rfl, rfl, rfl, trivial⟩, by ((try clear S); (try clear E); first | assumption | omega | rfl | (simp; done) | (simp_all; done) | (simp [List.take_add_one, *]; done) | grind [List.take_add_one])⟩, by omega⟩
    · replace E := E.val (t := 16) rfl hc_7
      replace E := E.val (t := 17) rfl hc_7
      replace hc_7 := of_decide_eq_false hc_7
      refine WL_guard_no E rfl rfl rfl rfl fun a E => ?_
      refine WL_guard_no E rfl rfl rfl rfl fun a E => ?_
      refine WL_guard_no E rfl rfl rfl rfl fun a E => ?_
      refine WL_guard_no E rfl rfl rfl rfl fun a E => ?_
      refine WL_guard_no E rfl rfl rfl rfl fun a E => ?_
      refine WL_guard_no E rfl rfl rfl rfl fun a E => ?_
      refine S_v E rfl (R_pickF E rfl rfl) rfl ?_
      clear E a; intro a E
      refine WL_nil ?_
      refine T_n ?_
      refine WP_condF E rfl rfl ?_
      refine WP_exit ?_
      refine T_x ?_
      refine T_x ?_
      refine B_x ?_
      refine T_n ?_
      refine DG_start Try.mixed ?_
      refine DG_split 0 6 (by decide) (by kernel_rfl) ?_ ?_
      · refine DG_split 4 6 (by decide) (by kernel_rfl) ?_ ?_
        · replace S := S.mono_heap (w' := World.drew _) rfl
          refine DG_end (C := fun x w => agree M_6 w) (bf := (fun i => [])) [1, 2, 3, 5, 8, 9, 10, 12] [1, 2, 3, 5, 8, 9, 10, 0, 4, 6, 7, 11, 12] (by kernel_rfl) (fun x hq => S.imm) ?_
          refine D_v E rfl rfl rfl (fun w hC => (R_move E rfl)) ?_
          clear E a; intro a E
          refine D_v E rfl rfl rfl (fun w hC => (R_move E rfl)) ?_
          clear E a; intro a E
          have S0 := S; clear S
          obtain ⟨M_38, hM_38, hz_39, S⟩ := S0.freezeI (by (first | omega | (simp; omega) | (simp; done) | (simp_all; omega) | grind))
          clear S0
          replace h0 := h0.le hM_38
          obtain ⟨v_40, sv_40, hv_40⟩ := hz_39.subv 0 j (by first | omega | (simp; done) | (simp; omega) | (simp_all; omega)) (by first | omega | (simp; done) | (simp; omega) | (simp_all; omega))
          simp only [List.drop_zero] at hv_40
          replace hv_40 : RdI M_38 v_40 ((sortI (l0.take k)).take j) := hv_40
          refine D_v E rfl rfl rfl (fun w hC => (R_sliceH E rfl rfl T22 sv_40 (by omega))) ?_
          clear E a; intro a E
          refine D_v E rfl rfl rfl (fun w hC => (R_move E rfl)) ?_
          clear E a; intro a E
          refine D_v E rfl rfl rfl (fun w hC => (R_move E rfl)) ?_
          clear E a; intro a E
          refine D_v E rfl rfl rfl (fun w hC => (R_move E rfl)) ?_
          clear E a; intro a E
          obtain ⟨v_41, sv_41, hv_41⟩ := hz_39.subv j ((sortI (l0.take k)).length) (by first | omega | (simp; done) | (simp; omega) | (simp_all; omega)) (by first | omega | (simp; done) | (simp; omega) | (simp_all; omega))
          simp only [List.take_length] at hv_41
          replace hv_41 : RdI M_38 v_41 ((sortI (l0.take k)).drop j) := hv_41
          refine D_v E rfl rfl rfl (fun w hC => (R_sliceL E rfl rfl T22 hz_39.len sv_41 (by omega))) ?_
          clear E a; intro a E
          refine D_x rfl rfl rfl (X_buildI (ys := []) E S rfl T22 rfl rfl rfl ?_)
          clear E a S; rintro a w v_42 E S
          refine ⟨fun x hq hb => (agree_le hM_38 S.imm), ?_⟩
          refine D_x rfl rfl rfl (X_appendI (xs := ([] : List Int)) E S rfl rfl rfl T22 hv_40 (by first | omega | (simp; done) | (simp; omega) | (simp_all; omega)) ?_)
          clear E a S; rintro a w v_43 E S
          refine ⟨fun x hq hb => (agree_le hM_38 S.imm), ?_⟩
          refine D_x rfl rfl rfl (X_buildI (ys := [x_4]) E S rfl T22 rfl rfl rfl ?_)
          clear E a S; rintro a w v_44 E S
          refine ⟨fun x hq hb => (agree_le hM_38 S.imm), ?_⟩
          replace S := S.front1
          replace S := S.front1
          refine D_x rfl rfl rfl (X_appendB (xs := [] ++ ((sortI (l0.take k)).take j)) (ys := [x_4]) E S rfl rfl rfl T22 (by first | omega | (simp; done) | (simp; omega) | (simp_all; omega)) ?_)
          clear E a S; rintro a w v_45 E S
          refine ⟨fun x hq hb => (agree_le hM_38 S.imm), ?_⟩
          refine D_x rfl rfl rfl (X_appendI (xs := ([] ++ ((sortI (l0.take k)).take j)) ++ [x_4]) E S rfl rfl rfl T22 hv_41 (by first | omega | (simp; done) | (simp; omega) | (simp_all; omega)) ?_)
          clear E a S; rintro a w v_46 E S
          refine ⟨fun x hq hb => (agree_le hM_38 S.imm), ?_⟩
          refine D_v E rfl rfl rfl (fun w hC => (R_assign E rfl)) ?_
          clear E a; intro a E
          refine D_end (NoP_n ?_)
          refine B_n ?_
          refine T_n ?_
          refine WP_region ?_
          refine S_v E rfl (R_addx (m := ((k + 1 : Nat) : Int)) E rfl rfl (by omega) (by omega)) rfl ?_
          clear E a; intro a E
          refine S_v E rfl (R_move E rfl) rfl ?_
          clear E a; intro a E
          refine WL_nil ?_
          refine T_n ?_
          replace S := S.re1 (l' := sortI (l0.take (k + 1))) (by first | (simp [sortI]; done) | (rw [sortI_take (by assumption), ← ins_at (j := j) (by omega) (by intro y hy; have h9 := hL1_1 y hy; rw [show l0[k]? = some _ by assumption] at h9; exact h9) (by first | (left; omega) | (right; exact ⟨_, by assumption, by assumption⟩))]; done) | (rw [sortI_take (by assumption), ← ins_at (j := j) (by omega) (by intro y hy; have h9 := hL1_1 y hy; rw [show l0[k]? = some _ by assumption] at h9; exact h9) (by first | (left; omega) | (right; exact ⟨_, by assumption, by assumption⟩))]; simp; done))
          exact ⟨k + 1, ⟨M_38, _, (hM_2.trans (hM_6.trans hM_38)), S, E.keep ⟨rfl, rfl, rfl, rfl, trivial⟩, by ((try clear S); (try clear E); first | assumption | omega | rfl | (simp; done) | (simp_all; done) | (simp [List.take_add_one, *]; done) | grind [List.take_add_one])⟩, by omega⟩
        · replace S := S.mono_heap (w' := World.drew _) rfl
          refine DG_end (C := fun x w => agree M_6 w) (bf := (fun i => [])) [1, 2, 3, 5, 8, 9, 10, 12] [1, 2, 3, 5, 8, 9, 10, 0, 6, 4, 7, 11, 12] (by kernel_rfl) (fun x hq => S.imm) ?_
          refine D_v E rfl rfl rfl (fun w hC => (R_move E rfl)) ?_
          clear E a; intro a E
          refine D_v E rfl rfl rfl (fun w hC => (R_move E rfl)) ?_
          clear E a; intro a E
          have S0 := S; clear S
          obtain ⟨M_47, hM_47, hz_48, S⟩ := S0.freezeI (by (first | omega | (simp; omega) | (simp; done) | (simp_all; omega) | grind))
          clear S0
          replace h0 := h0.le hM_47
          obtain ⟨v_49, sv_49, hv_49⟩ := hz_48.subv 0 j (by first | omega | (simp; done) | (simp; omega) | (simp_all; omega)) (by first | omega | (simp; done) | (simp; omega) | (simp_all; omega))
          simp only [List.drop_zero] at hv_49
          replace hv_49 : RdI M_47 v_49 ((sortI (l0.take k)).take j) := hv_49
          refine D_v E rfl rfl rfl (fun w hC => (R_sliceH E rfl rfl T22 sv_49 (by omega))) ?_
          clear E a; intro a E
          refine D_v E rfl rfl rfl (fun w hC => (R_move E rfl)) ?_
          clear E a; intro a E
          refine D_v E rfl rfl rfl (fun w hC => (R_move E rfl)) ?_
          clear E a; intro a E
          refine D_v E rfl rfl rfl (fun w hC => (R_move E rfl)) ?_
          clear E a; intro a E
          obtain ⟨v_50, sv_50, hv_50⟩ := hz_48.subv j ((sortI (l0.take k)).length) (by first | omega | (simp; done) | (simp; omega) | (simp_all; omega)) (by first | omega | (simp; done) | (simp; omega) | (simp_all; omega))
          simp only [List.take_length] at hv_50
          replace hv_50 : RdI M_47 v_50 ((sortI (l0.take k)).drop j) := hv_50
          refine D_v E rfl rfl rfl (fun w hC => (R_sliceL E rfl rfl T22 hz_48.len sv_50 (by omega))) ?_
          clear E a; intro a E
          refine D_x rfl rfl rfl (X_buildI (ys := []) E S rfl T22 rfl rfl rfl ?_)
          clear E a S; rintro a w v_51 E S
          refine ⟨fun x hq hb => (agree_le hM_47 S.imm), ?_⟩
          refine D_x rfl rfl rfl (X_buildI (ys := [x_4]) E S rfl T22 rfl rfl rfl ?_)
          clear E a S; rintro a w v_52 E S
          refine ⟨fun x hq hb => (agree_le hM_47 S.imm), ?_⟩
          replace S := S.front1
          refine D_x rfl rfl rfl (X_appendI (xs := ([] : List Int)) E S rfl rfl rfl T22 hv_49 (by first | omega | (simp; done) | (simp; omega) | (simp_all; omega)) ?_)
          clear E a S; rintro a w v_53 E S
          refine ⟨fun x hq hb => (agree_le hM_47 S.imm), ?_⟩
          replace S := S.front1
          refine D_x rfl rfl rfl (X_appendB (xs := [] ++ ((sortI (l0.take k)).take j)) (ys := [x_4]) E S rfl rfl rfl T22 (by first | omega | (simp; done) | (simp; omega) | (simp_all; omega)) ?_)
          clear E a S; rintro a w v_54 E S
          refine ⟨fun x hq hb => (agree_le hM_47 S.imm), ?_⟩
          refine D_x rfl rfl rfl (X_appendI (xs := ([] ++ ((sortI (l0.take k)).take j)) ++ [x_4]) E S rfl rfl rfl T22 hv_50 (by first | omega | (simp; done) | (simp; omega) | (simp_all; omega)) ?_)
          clear E a S; rintro a w v_55 E S
          refine ⟨fun x hq hb => (agree_le hM_47 S.imm), ?_⟩
          refine D_v E rfl rfl rfl (fun w hC => (R_assign E rfl)) ?_
          clear E a; intro a E
          refine D_end (NoP_n ?_)
          refine B_n ?_
          refine T_n ?_
          refine WP_region ?_
          refine S_v E rfl (R_addx (m := ((k + 1 : Nat) : Int)) E rfl rfl (by omega) (by omega)) rfl ?_
          clear E a; intro a E
          refine S_v E rfl (R_move E rfl) rfl ?_
          clear E a; intro a E
          refine WL_nil ?_
          refine T_n ?_
          replace S := S.re1 (l' := sortI (l0.take (k + 1))) (by first | (simp [sortI]; done) | (rw [sortI_take (by assumption), ← ins_at (j := j) (by omega) (by intro y hy; have h9 := hL1_1 y hy; rw [show l0[k]? = some _ by assumption] at h9; exact h9) (by first | (left; omega) | (right; exact ⟨_, by assumption, by assumption⟩))]; done) | (rw [sortI_take (by assumption), ← ins_at (j := j) (by omega) (by intro y hy; have h9 := hL1_1 y hy; rw [show l0[k]? = some _ by assumption] at h9; exact h9) (by first | (left; omega) | (right; exact ⟨_, by assumption, by assumption⟩))]; simp; done))
          exact ⟨k + 1, ⟨M_47, _, (hM_2.trans (hM_6.trans hM_47)), S, E.keep ⟨rfl, rfl, rfl, rfl, trivial⟩, by ((try clear S); (try clear E); first | assumption | omega | rfl | (simp; done) | (simp_all; done) | (simp [List.take_add_one, *]; done) | grind [List.take_add_one])⟩, by omega⟩
      · replace S := S.mono_heap (w' := World.drew _) rfl
        refine DG_end (C := fun x w => agree M_6 w) (bf := (fun i => [])) [1, 2, 3, 5, 8, 9, 10, 12] [1, 2, 3, 5, 8, 9, 10, 6, 0, 4, 7, 11, 12] (by kernel_rfl) (fun x hq => S.imm) ?_
        refine D_v E rfl rfl rfl (fun w hC => (R_move E rfl)) ?_
        clear E a; intro a E
        refine D_v E rfl rfl rfl (fun w hC => (R_move E rfl)) ?_
        clear E a; intro a E
        have S0 := S; clear S
        obtain ⟨M_56, hM_56, hz_57, S⟩ := S0.freezeI (by (first | omega | (simp; omega) | (simp; done) | (simp_all; omega) | grind))
        clear S0
        replace h0 := h0.le hM_56
        obtain ⟨v_58, sv_58, hv_58⟩ := hz_57.subv 0 j (by first | omega | (simp; done) | (simp; omega) | (simp_all; omega)) (by first | omega | (simp; done) | (simp; omega) | (simp_all; omega))
        simp only [List.drop_zero] at hv_58
        replace hv_58 : RdI M_56 v_58 ((sortI (l0.take k)).take j) := hv_58
        refine D_v E rfl rfl rfl (fun w hC => (R_sliceH E rfl rfl T22 sv_58 (by omega))) ?_
        clear E a; intro a E
        refine D_v E rfl rfl rfl (fun w hC => (R_move E rfl)) ?_
        clear E a; intro a E
        refine D_v E rfl rfl rfl (fun w hC => (R_move E rfl)) ?_
        clear E a; intro a E
        refine D_v E rfl rfl rfl (fun w hC => (R_move E rfl)) ?_
        clear E a; intro a E
        obtain ⟨v_59, sv_59, hv_59⟩ := hz_57.subv j ((sortI (l0.take k)).length) (by first | omega | (simp; done) | (simp; omega) | (simp_all; omega)) (by first | omega | (simp; done) | (simp; omega) | (simp_all; omega))
        simp only [List.take_length] at hv_59
        replace hv_59 : RdI M_56 v_59 ((sortI (l0.take k)).drop j) := hv_59
        refine D_v E rfl rfl rfl (fun w hC => (R_sliceL E rfl rfl T22 hz_57.len sv_59 (by omega))) ?_
        clear E a; intro a E
        refine D_x rfl rfl rfl (X_buildI (ys := [x_4]) E S rfl T22 rfl rfl rfl ?_)
        clear E a S; rintro a w v_60 E S
        refine ⟨fun x hq hb => (agree_le hM_56 S.imm), ?_⟩
        refine D_x rfl rfl rfl (X_buildI (ys := []) E S rfl T22 rfl rfl rfl ?_)
        clear E a S; rintro a w v_61 E S
        refine ⟨fun x hq hb => (agree_le hM_56 S.imm), ?_⟩
        refine D_x rfl rfl rfl (X_appendI (xs := ([] : List Int)) E S rfl rfl rfl T22 hv_58 (by first | omega | (simp; done) | (simp; omega) | (simp_all; omega)) ?_)
        clear E a S; rintro a w v_62 E S
        refine ⟨fun x hq hb => (agree_le hM_56 S.imm), ?_⟩
        replace S := S.front1
        refine D_x rfl rfl rfl (X_appendB (xs := [] ++ ((sortI (l0.take k)).take j)) (ys := [x_4]) E S rfl rfl rfl T22 (by first | omega | (simp; done) | (simp; omega) | (simp_all; omega)) ?_)
        clear E a S; rintro a w v_63 E S
        refine ⟨fun x hq hb => (agree_le hM_56 S.imm), ?_⟩
        refine D_x rfl rfl rfl (X_appendI (xs := ([] ++ ((sortI (l0.take k)).take j)) ++ [x_4]) E S rfl rfl rfl T22 hv_59 (by first | omega | (simp; done) | (simp; omega) | (simp_all; omega)) ?_)
        clear E a S; rintro a w v_64 E S
        refine ⟨fun x hq hb => (agree_le hM_56 S.imm), ?_⟩
        refine D_v E rfl rfl rfl (fun w hC => (R_assign E rfl)) ?_
        clear E a; intro a E
        refine D_end (NoP_n ?_)
        refine B_n ?_
        refine T_n ?_
        refine WP_region ?_
        refine S_v E rfl (R_addx (m := ((k + 1 : Nat) : Int)) E rfl rfl (by omega) (by omega)) rfl ?_
        clear E a; intro a E
        refine S_v E rfl (R_move E rfl) rfl ?_
        clear E a; intro a E
        refine WL_nil ?_
        refine T_n ?_
        replace S := S.re1 (l' := sortI (l0.take (k + 1))) (by first | (simp [sortI]; done) | (rw [sortI_take (by assumption), ← ins_at (j := j) (by omega) (by intro y hy; have h9 := hL1_1 y hy; rw [show l0[k]? = some _ by assumption] at h9; exact h9) (by first | (left; omega) | (right; exact ⟨_, by assumption, by assumption⟩))]; done) | (rw [sortI_take (by assumption), ← ins_at (j := j) (by omega) (by intro y hy; have h9 := hL1_1 y hy; rw [show l0[k]? = some _ by assumption] at h9; exact h9) (by first | (left; omega) | (right; exact ⟨_, by assumption, by assumption⟩))]; simp; done))
        exact ⟨k + 1, ⟨M_56, _, (hM_2.trans (hM_6.trans hM_56)), S, E.keep ⟨rfl, rfl, rfl, rfl, trivial⟩, by ((try clear S); (try clear E); first | assumption | omega | rfl | (simp; done) | (simp_all; done) | (simp [List.take_add_one, *]; done) | grind [List.take_add_one])⟩, by omega⟩
  · replace hc_3 := of_decide_eq_false hc_3
    refine WP_exit ?_
    refine T_x ?_
    refine T_x ?_
    refine B_x ?_
    refine T_n ?_
    refine WP_seq ?_
    refine WP_region ?_
    refine S_v E rfl (R_move E rfl) rfl ?_
    clear E a; intro a E
    refine S_v E rfl (R_assign E rfl) rfl ?_
    clear E a; intro a E
    refine WL_nil ?_
    refine T_n ?_
    refine WP_ret ?_
    have S0 := S; clear S
    obtain ⟨M_65, hM_65, hz_66, S⟩ := S0.freezeI (by (first | omega | (simp; omega) | (simp; done) | (simp_all; omega) | grind))
    clear S0
    replace h0 := h0.le hM_65
    exact F_ret1 E Try.results86 rfl ⟨_, rfl, M_65, (hM_2.trans hM_65), (by rw [show (sortI l0) = (sortI (l0.take k)) from by (rw [List.take_of_length_le (by omega)])]; exact hz_66), S⟩

set_option maxRecDepth 100000 in
set_option maxHeartbeats 4000000 in
theorem spec_Equal {M : Hp} {v0 v1 : Value} {l0 l1 : List Int} (h0 : RdI M v0 l0) (h1 : RdI M v1 l1) :
    Pu Try.prog (.func (.func 85) #[] #[]) M [v0, v1] (fun r M' => r = .bool (decide (l0 = l1))) := by
  refine Pu_enter Try.func85 rfl Try.ntmps85 rfl Try.call85 ?_
  intro a w M1 H hM1 S E
  replace h0 := h0.le hM1
  replace h1 := h1.le hM1
  have b0 := h0.bound
  have b1 := h1.bound
  refine WP_seq ?_
  refine WP_region ?_
  refine S_v E rfl (R_assign E rfl) rfl ?_
  clear E a; intro a E
  refine WL_nil ?_
  refine T_n ?_
  refine WP_seq ?_
  refine WP_seq ?_
  refine WP_region ?_
  refine S_v E rfl (R_move E rfl) rfl ?_
  clear E a; intro a E
  refine S_v E rfl (R_lenV E rfl T22 h0.len) rfl ?_
  clear E a; intro a E
  refine S_v E rfl (R_move E rfl) rfl ?_
  clear E a; intro a E
  refine S_v E rfl (R_lenV E rfl T22 h1.len) rfl ?_
  clear E a; intro a E
  refine S_v E rfl (R_neq E rfl rfl) rfl ?_
  clear E a; intro a E
  refine WL_nil ?_
  refine T_n ?_
  refine WP_cond E rfl (fun hc_1 => ?_) (fun hc_1 => ?_)
  · replace hc_1 := of_decide_eq_true hc_1
    refine WP_seq ?_
    refine WP_region ?_
    refine S_v E rfl (R_assign E rfl) rfl ?_
    clear E a; intro a E
    refine WL_nil ?_
    refine T_n ?_
    refine WP_ret ?_
    refine T_r ?_
    exact F_ret1 E Try.results85 rfl ⟨_, rfl, M1, (Hp.le.refl _), (bF (by ((try clear S); (try clear E); first | assumption | omega | rfl | (simp; done) | (simp_all; done) | (simp [List.take_add_one, *]; done) | grind [List.take_add_one]))), S⟩
  · replace hc_1 := of_decide_eq_false hc_1
    refine WP_skip ?_
    refine T_n ?_
    refine WP_seq ?_
    refine WP_seq ?_
    refine WP_region ?_
    refine S_v E rfl (R_move E rfl) rfl ?_
    clear E a; intro a E
    refine S_v E rfl (R_lenV E rfl T22 h0.len) rfl ?_
    clear E a; intro a E
    refine S_v E rfl (R_move E rfl) rfl ?_
    clear E a; intro a E
    refine WL_nil ?_
    refine T_n ?_
    refine WP_block ?_
    refine WP_loop (γ := Nat) (fun (k : Nat) a w => ∃ (M_2 : Hp), Hp.le M1 M_2 ∧ St w M_2 (H) ∧ Env a 26 [] [(0, v0), (1, v1), (12, .int .i64 (((l0).length : Nat) : Int)), (13, .int .i64 ((k : Nat) : Int))] ∧ (k ≤ (l0).length) ∧ (l0.length = l1.length) ∧ (l0.take k = l1.take k)) (fun k => ((l0).length) - k) 0 ⟨M1, Hp.le.refl _, S, E.keep ⟨rfl, rfl, rfl, rfl, trivial⟩, by ((try clear S); (try clear E); first | assumption | omega | rfl | (simp; done) | (simp_all; done) | (simp [List.take_add_one, *]; done) | grind [List.take_add_one]), by ((try clear S); (try clear E); first | assumption | omega | rfl | (simp; done) | (simp_all; done) | (simp [List.take_add_one, *]; done) | grind [List.take_add_one]), by ((try clear S); (try clear E); first | assumption | omega | rfl | (simp; done) | (simp_all; done) | (simp [List.take_add_one, *]; done) | grind [List.take_add_one])⟩ ?_
    try clear E
    try clear S
    try clear a
    try clear w
    rintro k a w ⟨M_2, hM_2, S, E, hL0_0, hL0_1, hL0_2⟩
    replace h0 := h0.le hM_2
    replace h1 := h1.le hM_2
    refine WP_seq ?_
    refine WP_region ?_
    refine S_v E rfl (R_lss E rfl rfl) rfl ?_
    clear E a; intro a E
    refine WL_nil ?_
    refine T_n ?_
    refine WP_seq ?_
    refine WP_cond E rfl (fun hc_3 => ?_) (fun hc_3 => ?_)
    · replace hc_3 := of_decide_eq_true hc_3
      refine WP_skip ?_
      refine T_n ?_
      refine WP_seq ?_
      refine WP_block ?_
      refine WP_seq ?_
      refine WP_region ?_
      refine S_v E rfl (R_move E rfl) rfl ?_
      clear E a; intro a E
      refine S_v E rfl (R_assign E rfl) rfl ?_
      clear E a; intro a E
      refine WL_nil ?_
      refine T_n ?_
      refine WP_seq ?_
      replace S := S.mono_heap (w' := World.drew _) rfl
      refine WP_drawn (C := fun x w => agree M_2 w) (bf := (fun i => [])) [0, 1, 2, 3, 4, 5, 6, 7, 8] [0, 1, 2, 3, 4, 5, 6, 7, 8] Try.mixed (by kernel_rfl) (fun x hq => S.imm) ?_
      refine D_v E rfl rfl rfl (fun w hC => (R_move E rfl)) ?_
      clear E a; intro a E
      refine D_v E rfl rfl rfl (fun w hC => (R_move E rfl)) ?_
      clear E a; intro a E
      obtain ⟨x_4, hx_4⟩ : ∃ x, (l0)[k]? = some x := ⟨_, List.getElem?_eq_getElem (by first | omega | (simp; done) | (simp; omega) | (simp_all; omega))⟩
      obtain ⟨p_5, hp_5, qp_5⟩ := h0.at hx_4
      refine D_v E rfl rfl rfl (fun w hC => (R_idx E rfl rfl T22 hp_5 rfl)) ?_
      clear E a; intro a E
      refine D_v E rfl rfl rfl (fun w hC => (R_loadM E rfl Try.isAgg3 hC qp_5)) ?_
      clear E a; intro a E
      refine D_v E rfl rfl rfl (fun w hC => (R_move E rfl)) ?_
      clear E a; intro a E
      refine D_v E rfl rfl rfl (fun w hC => (R_move E rfl)) ?_
      clear E a; intro a E
      obtain ⟨x_6, hx_6⟩ : ∃ x, (l1)[k]? = some x := ⟨_, List.getElem?_eq_getElem (by first | omega | (simp; done) | (simp; omega) | (simp_all; omega))⟩
      obtain ⟨p_7, hp_7, qp_7⟩ := h1.at hx_6
      refine D_v E rfl rfl rfl (fun w hC => (R_idx E rfl rfl T22 hp_7 rfl)) ?_
      clear E a; intro a E
      refine D_v E rfl rfl rfl (fun w hC => (R_loadM E rfl Try.isAgg3 hC qp_7)) ?_
      clear E a; intro a E
      refine D_v E rfl rfl rfl (fun w hC => (R_neq E rfl rfl)) ?_
      clear E a; intro a E
      refine D_end (NoP_n ?_)
      refine T_n ?_
      refine WP_cond E rfl (fun hc_8 => ?_) (fun hc_8 => ?_)
      · replace hc_8 := of_decide_eq_true hc_8
        refine WP_seq ?_
        refine WP_region ?_
        refine S_v E rfl (R_assign E rfl) rfl ?_
        clear E a; intro a E
        refine WL_nil ?_
        refine T_n ?_
        refine WP_ret ?_
        refine B_r ?_
        refine T_r ?_
        refine T_r ?_
        refine B_r ?_
        refine T_r ?_
        exact F_ret1 E Try.results85 rfl ⟨_, rfl, M_2, hM_2, (bF (by ((try clear S); (try clear E); first | assumption | omega | rfl | (simp; done) | (simp_all; done) | (simp [List.take_add_one, *]; done) | grind [List.take_add_one]))), S⟩
      · replace hc_8 := of_decide_eq_false hc_8
        refine WP_skip ?_
        refine B_n ?_
        refine T_n ?_
        refine WP_region ?_
        refine S_v E rfl (R_addx (m := ((k + 1 : Nat) : Int)) E rfl rfl (by omega) (by omega)) rfl ?_
        clear E a; intro a E
        refine S_v E rfl (R_move E rfl) rfl ?_
        clear E a; intro a E
        refine WL_nil ?_
        refine T_n ?_
        exact ⟨k + 1, ⟨M_2, hM_2, S, E.keep ⟨rfl, rfl, rfl, rfl, trivial⟩, by ((try clear S); (try clear E); first | assumption | omega | rfl | (simp; done) | (simp_all; done) | (simp [List.take_add_one, *]; done) | grind [List.take_add_one]), by ((try clear S); (try clear E); first | assumption | omega | rfl | (simp; done) | (simp_all; done) | (simp [List.take_add_one, *]; done) | grind [List.take_add_one]), by ((try clear S); (try clear E); first | assumption | omega | rfl | (simp; done) | (simp_all; done) | (simp [List.take_add_one, *]; done) | grind [List.take_add_one])⟩, by omega⟩
    · replace hc_3 := of_decide_eq_false hc_3
      refine WP_exit ?_
      refine T_x ?_
      refine T_x ?_
      refine B_x ?_
      refine T_n ?_
      refine WP_seq ?_
      refine WP_region ?_
      refine S_v E rfl (R_assign E rfl) rfl ?_
      clear E a; intro a E
      refine WL_nil ?_
      refine T_n ?_
      refine WP_ret ?_
      exact F_ret1 E Try.results85 rfl ⟨_, rfl, M_2, hM_2, (bT (by ((try clear S); (try clear E); first | assumption | omega | rfl | (simp; done) | (simp_all; done) | (simp [List.take_add_one, *]; done) | grind [List.take_add_one]))), S⟩

set_option maxRecDepth 100000 in
set_option maxHeartbeats 4000000 in
theorem spec_IsSortedBy {M : Hp} {v0 : Value} {l0 : List Int} (h0 : RdI M v0 l0){kk1 kn1 : Int} (gk1 : -9223372036854775808 ≤ kn1 ∧ kn1 ≤ 9223372036854775807) (hr0 : (∀ x ∈ l0, -9223372036854775808 ≤ x ∧ x ≤ 9223372036854775807)) (hb : l0.length ≤ 1000000000000) :
    Pu Try.prog (.func (.func 47) #[] #[]) M [v0, .agg #[.int .i64 kk1, .int .i64 kn1]] (fun r M' => r = .bool (decide (SortedI ((l0).map (fun x => keyAt kk1 kn1 x 0))))) := by
  refine Pu_enter Try.func47 rfl Try.ntmps47 rfl Try.call47 ?_
  intro a w M1 H hM1 S E
  replace h0 := h0.le hM1
  have b0 := h0.bound
  refine WP_seq ?_
  refine WP_region ?_
  refine S_x (X_box (cs := #[.int .i64 kk1, .int .i64 kn1]) E S rfl rfl rfl ?_)
  clear E a S; rintro a w b_1 E S
  obtain ⟨M_2, hM_2, hb_1, S⟩ := S.freezeB
  replace h0 := h0.le hM_2
  refine S_v E rfl (R_assign E rfl) rfl ?_
  clear E a; intro a E
  refine WL_nil ?_
  refine T_n ?_
  refine WP_seq ?_
  refine WP_region ?_
  refine S_v E rfl (R_move E rfl) rfl ?_
  clear E a; intro a E
  refine S_v E rfl (R_loadGM E rfl (Try.isAgg37 _) (Try.sizeOf37 _) S.imm hb_1) rfl ?_
  clear E a; intro a E
  refine S_x (X_pu E S rfl rfl rfl (spec_keys h0 (by omega) (by first | assumption | exact (fun x hx => by rcases List.mem_append.1 hx with h | h; exact hr0 x h; exact hr1 x h)) (by (first | omega | (simp; omega) | (simp; done) | (simp_all; omega) | grind))) (Hp.le.refl _) ?_)
  clear E a S; rintro a v_4 w M_3 hM_3 hv_4 S E
  replace h0 := h0.le hM_3
  replace hb_1 := hM_3.2 _ _ hb_1
  refine S_v E rfl (R_assign E rfl) rfl ?_
  clear E a; intro a E
  refine WL_nil ?_
  refine T_n ?_
  refine WP_seq ?_
  refine WP_region ?_
  refine S_v E rfl (R_move E rfl) rfl ?_
  clear E a; intro a E
  refine S_v E rfl (R_move E rfl) rfl ?_
  clear E a; intro a E
  refine S_x (X_pu E S rfl rfl rfl (spec_Sorted hv_4 (by (first | omega | (simp; omega) | (simp; done) | (simp_all; omega) | grind))) (Hp.le.refl _) ?_)
  clear E a S; rintro a v_6 w M_5 hM_5 hv_6 S E
  replace h0 := h0.le hM_5
  replace hb_1 := hM_5.2 _ _ hb_1
  replace hv_4 := hv_4.le hM_5
  refine S_x (X_pu E S rfl rfl rfl (spec_Equal hv_4 hv_6) (Hp.le.refl _) ?_)
  clear E a S; rintro a _ w M_7 hM_7 rfl S E
  replace h0 := h0.le hM_7
  replace hb_1 := hM_7.2 _ _ hb_1
  replace hv_4 := hv_4.le hM_7
  replace hv_6 := hv_6.le hM_7
  refine S_v E rfl (R_assign E rfl) rfl ?_
  clear E a; intro a E
  refine WL_nil ?_
  refine T_n ?_
  refine WP_ret ?_
  exact F_ret1 E Try.results47 rfl ⟨_, rfl, M_7, (hM_2.trans (hM_3.trans (hM_5.trans hM_7))), (congrArg Value.bool (by (first | exact sortI_asc _ | exact (sortI_asc _).symm | (have := sortI_asc (l0.map (fun x => keyAt kk1 kn1 x 0)); simp_all; done)))), S⟩

set_option maxRecDepth 100000 in
set_option maxHeartbeats 4000000 in
theorem spec_IsSorted {M : Hp} {v0 : Value} {l0 : List Int} (h0 : RdI M v0 l0) (hr0 : (∀ x ∈ l0, -9223372036854775808 ≤ x ∧ x ≤ 9223372036854775807)) (hb : l0.length ≤ 1000000000000) :
    Pu Try.prog (.func (.func 46) #[] #[]) M [v0] (fun r M' => r = .bool (decide (SortedI l0))) := by
  refine Pu_enter Try.func46 rfl Try.ntmps46 rfl Try.call46 ?_
  intro a w M1 H hM1 S E
  replace h0 := h0.le hM1
  have b0 := h0.bound
  refine WP_seq ?_
  refine WP_region ?_
  refine S_v E rfl (R_assign E rfl) rfl ?_
  clear E a; intro a E
  refine WL_nil ?_
  refine T_n ?_
  refine WP_seq ?_
  refine WP_region ?_
  refine S_v E rfl (R_move E rfl) rfl ?_
  clear E a; intro a E
  refine S_x (X_pu E S rfl rfl rfl (spec_same ) (Hp.le.refl _) ?_)
  clear E a S; rintro a _ w M_1 hM_1 rfl S E
  replace h0 := h0.le hM_1
  refine S_x (X_pu E S rfl rfl rfl (spec_IsSortedBy h0 (by omega) (by first | assumption | exact (fun x hx => by rcases List.mem_append.1 hx with h | h; exact hr0 x h; exact hr1 x h)) (by (first | omega | (simp; omega) | (simp; done) | (simp_all; omega) | grind))) (Hp.le.refl _) ?_)
  clear E a S; rintro a _ w M_2 hM_2 rfl S E
  replace h0 := h0.le hM_2
  refine S_v E rfl (R_assign E rfl) rfl ?_
  clear E a; intro a E
  refine WL_nil ?_
  refine T_n ?_
  refine WP_ret ?_
  exact F_ret1 E Try.results46 rfl ⟨_, rfl, M_2, (hM_1.trans hM_2), (congrArg Value.bool (by (simp only [map_key5]))), S⟩

set_option maxRecDepth 100000 in
set_option maxHeartbeats 4000000 in
theorem slices_Values1 {M : Hp} {v0 : Value} {l0 : List Int} (h0 : RdI M v0 l0){bx1 : Nat} (hbx1 : M bx1 = some (.cells #[v0] 22)) :
    SeqV Try.prog (.func (.func 100) #[] #[.pointer (some ⟨bx1, 0, none⟩)]) M (RInt) l0 := by
  refine SeqV_enter Try.func100 rfl Try.ntmps100 rfl Try.call100 ?_
  intro y J X a w M1 c H hJM hM1 hY hJ S E
  replace hbx1 := hM1.2 _ _ hbx1
  replace h0 := h0.le hM1
  have b0 := h0.bound
  refine WP_seq ?_
  refine WP_region ?_
  refine S_v E rfl (R_loadM E rfl Try.isAgg22 S.imm (cellM_box hbx1)) rfl ?_
  clear E a; intro a E
  refine S_v E rfl (R_lenV E rfl T22 h0.len) rfl ?_
  clear E a; intro a E
  refine S_v E rfl (R_move E rfl) rfl ?_
  clear E a; intro a E
  refine WL_nil ?_
  refine T_n ?_
  refine WP_block ?_
  refine WP_loop (γ := Nat) (fun (k : Nat) a w => ∃ (M_1 : Hp) (cL0 : HProp), Hp.le M1 M_1 ∧ St w M_1 (mks [] :: cL0 :: H) ∧ Env a 16 (([] : List Nat).map mk) [(0, y), (5, v0), (6, .int .i64 (((l0).length : Nat) : Int)), (7, .int .i64 ((k : Nat) : Int))] ∧ (k ≤ (l0).length) ∧ J (l0.take k) M_1 cL0) (fun k => ((l0).length) - k) 0 ⟨M1, _, Hp.le.refl _, S, E.keep ⟨rfl, rfl, rfl, rfl, trivial⟩, by ((try clear S); (try clear E); first | assumption | omega | rfl | (simp; done) | (simp_all; done) | (simp [List.take_add_one, *]; done) | grind [List.take_add_one]), J_eq hJ (by ((try clear S); (try clear E); first | assumption | omega | rfl | (simp; done) | (simp_all; done) | (simp [List.take_add_one, *]; done) | grind [List.take_add_one]))⟩ ?_
  try clear E
  try clear S
  try clear a
  try clear w
  rintro k a w ⟨M_1, cL0, hM_1, S, E, hL0_0, hJ⟩
  replace hbx1 := hM_1.2 _ _ hbx1
  replace h0 := h0.le hM_1
  refine WP_seq ?_
  refine WP_region ?_
  refine S_v E rfl (R_lss E rfl rfl) rfl ?_
  clear E a; intro a E
  refine WL_nil ?_
  refine T_n ?_
  refine WP_seq ?_
  refine WP_cond E rfl (fun hc_2 => ?_) (fun hc_2 => ?_)
  · replace hc_2 := of_decide_eq_true hc_2
    refine WP_skip ?_
    refine T_n ?_
    refine WP_seq ?_
    refine WP_block ?_
    refine WP_seq ?_
    refine WP_region ?_
    obtain ⟨x_3, hx_3⟩ : ∃ x, (l0)[k]? = some x := ⟨_, List.getElem?_eq_getElem (by first | omega | (simp; done) | (simp; omega) | (simp_all; omega))⟩
    obtain ⟨p_4, hp_4, qp_4⟩ := h0.at hx_3
    refine S_v E rfl (R_idx E rfl rfl T22 hp_4 rfl) rfl ?_
    clear E a; intro a E
    refine S_v E rfl (R_loadM E rfl Try.isAgg3 S.imm qp_4) rfl ?_
    clear E a; intro a E
    refine S_v E rfl (R_assign E rfl) rfl ?_
    clear E a; intro a E
    refine WL_nil ?_
    refine T_n ?_
    refine WP_seq ?_
    refine WP_region ?_
    refine S_v E rfl (R_move E rfl) rfl ?_
    clear E a; intro a E
    refine S_v E rfl (R_move E rfl) rfl ?_
    clear E a; intro a E
    replace S := S.front1
    refine S_x (X_yield (x := x_3) E S rfl rfl rfl hY hM_1 (by (first | (simp; done) | exact List.prefix_refl _ | (rw [pre_take (by assumption)]; exact List.take_prefix _ _) | exact pre_take_lt (by assumption))) rfl hJ ?_)
    clear E a S; rintro a w M_5 c_6 go_7 hM_5 hJ S E
    replace hbx1 := hM_5.2 _ _ hbx1
    replace h0 := h0.le hM_5
    cases go_7
    · replace hJ : X (l0.take k ++ [x_3]) M_5 c_6 := hJ
      refine S_v E rfl (R_not E rfl) rfl ?_
      clear E a; intro a E
      refine WL_nil ?_
      refine T_n ?_
      refine WP_condT E rfl rfl ?_
      refine WP_ret ?_
      refine B_r ?_
      refine T_r ?_
      refine T_r ?_
      refine B_r ?_
      replace S := S.front1
      exact F_retM0 E S Try.results100 (fun w S => ⟨_, rfl, M_5, _, (hM_1.trans hM_5), .inr ⟨(l0.take k ++ [x_3]), (by first | assumption | ((first | (simp; done) | exact List.prefix_refl _ | (rw [pre_take (by assumption)]; exact List.take_prefix _ _) | exact pre_take_lt (by assumption)))), hJ⟩, S⟩)
    · replace hJ : J (l0.take k ++ [x_3]) M_5 c_6 := hJ
      refine S_v E rfl (R_not E rfl) rfl ?_
      clear E a; intro a E
      refine WL_nil ?_
      refine T_n ?_
      refine WP_condF E rfl rfl ?_
      refine WP_skip ?_
      refine B_n ?_
      refine T_n ?_
      refine WP_region ?_
      refine S_v E rfl (R_addx (m := ((k + 1 : Nat) : Int)) E rfl rfl (by omega) (by omega)) rfl ?_
      clear E a; intro a E
      refine S_v E rfl (R_move E rfl) rfl ?_
      clear E a; intro a E
      refine WL_nil ?_
      refine T_n ?_
      replace S := S.front1
      exact ⟨k + 1, ⟨M_5, _, (hM_1.trans hM_5), S, E.keep ⟨rfl, rfl, rfl, rfl, trivial⟩, by ((try clear S); (try clear E); first | assumption | omega | rfl | (simp; done) | (simp_all; done) | (simp [List.take_add_one, *]; done) | grind [List.take_add_one]), J_eq hJ (by ((try clear S); (try clear E); first | assumption | omega | rfl | (simp; done) | (simp_all; done) | (simp [List.take_add_one, *]; done) | grind [List.take_add_one]))⟩, by omega⟩
  · replace hc_2 := of_decide_eq_false hc_2
    refine WP_exit ?_
    refine T_x ?_
    refine T_x ?_
    refine B_x ?_
    refine F_nrm ?_
    replace S := S.front1
    replace S := S.front1
    have hpre : l0.take k = l0 := by ((try clear S); (try clear E); first | rfl | (simp; done) | (simp_all; done) | grind [List.take_add_one])
    rw [hpre] at hJ
    exact F_retM0 E S Try.results100 (fun w S => ⟨_, rfl, M_1, _, hM_1, .inl hJ, S⟩)

set_option maxRecDepth 100000 in
set_option maxHeartbeats 4000000 in
theorem slices_Values {M : Hp} {v0 : Value} {l0 : List Int} (h0 : RdI M v0 l0) :
    Pu Try.prog (.func (.func 72) #[] #[]) M [v0] (fun r M' => SeqV Try.prog r M' RInt l0) := by
  refine Pu_enter Try.func72 rfl Try.ntmps72 rfl Try.call72 ?_
  intro a w M1 H hM1 S E
  replace h0 := h0.le hM1
  have b0 := h0.bound
  refine WP_seq ?_
  refine WP_region ?_
  refine S_x (X_box (cs := #[v0]) E S rfl rfl (cells_one (RdS.one' h0)) ?_)
  clear E a S; rintro a w b_1 E S
  obtain ⟨M_2, hM_2, hb_1, S⟩ := S.freezeB
  replace h0 := h0.le hM_2
  refine S_v E rfl (R_assign E rfl) rfl ?_
  clear E a; intro a E
  refine WL_nil ?_
  refine T_n ?_
  refine WP_seq ?_
  refine WP_region ?_
  refine S_v E rfl (R_makeFunc E rfl rfl) rfl ?_
  clear E a; intro a E
  refine S_v E rfl (R_assign E rfl) rfl ?_
  clear E a; intro a E
  refine WL_nil ?_
  refine T_n ?_
  refine WP_ret ?_
  exact F_ret1 E Try.results72 rfl ⟨_, rfl, M_2, hM_2, (SeqV_eq (slices_Values1 h0 hb_1) (by ((try clear S); (try clear E); first | rfl | (simp; done) | (simp_all; done) | grind [List.take_add_one]))), S⟩

set_option maxRecDepth 100000 in
set_option maxHeartbeats 4000000 in
theorem it_IsSortedBy {M : Hp} {v0 : Value} {l0 : List Int} (h0 : SeqV Try.prog v0 M (RInt) l0){v1 : Value} {f1 : Int → Int} (h1 : PF1I Try.prog v1 M f1) :
    Pu Try.prog (.func (.func 89) #[] #[]) M [v0, v1] (fun r M' => r = .bool (decide (SortedI ((l0).map f1)))) := by
  refine Pu_enter Try.func89 rfl Try.ntmps89 rfl Try.call89 ?_
  intro a w M1 H hM1 S E
  replace h0 := h0.le hM1
  replace h1 := h1.le hM1
  replace S : St w M1 (mks [] :: _) := S.empty
  replace E : Env a 19 (([] : List Nat).map mk) _ := E
  refine WP_seq ?_
  refine WP_region ?_
  refine S_x (X_box (cs := #[v1]) E S rfl rfl (cells_one h1.1) ?_)
  clear E a S; rintro a w b_1 E S
  obtain ⟨M_2, hM_2, hb_1, S⟩ := S.freezeB
  replace h0 := h0.le hM_2
  replace h1 := h1.le hM_2
  refine S_x (X_alloc (cs := #[.bool false]) E S rfl Try.zeroValue4 rfl ?_)
  clear E a S; rintro a w b_3 E S
  refine WL_nil ?_
  refine T_n ?_
  refine WP_seq ?_
  refine WP_region ?_
  refine S_x (X_alloc (cs := #[.bool false]) E S rfl Try.zeroValue4 rfl ?_)
  clear E a S; rintro a w b_4 E S
  refine S_x0 (X_store E S rfl rfl (Try.sizeOf4 _) rfl ?_)
  clear E a S; rintro a w E S
  refine WL_nil ?_
  refine T_n ?_
  refine WP_seq ?_
  refine WP_region ?_
  refine S_x (X_alloc (cs := #[.int .i64 0]) E S rfl Try.zeroValue3 rfl ?_)
  clear E a S; rintro a w b_5 E S
  refine WL_nil ?_
  refine T_n ?_
  refine WP_seq ?_
  refine WP_seq ?_
  refine WP_region ?_
  refine S_v E rfl (R_move E rfl) rfl ?_
  clear E a; intro a E
  refine WL_nil ?_
  refine T_n ?_
  refine WP_block ?_
  replace S := S.front2
  replace S := S.front2
  replace S := S.front2
  replace E := E.keep (l' := [(3, .pointer (some ⟨b_1, 0, none⟩)), (4, .pointer (some ⟨b_3, 0, none⟩)), (5, .pointer (some ⟨b_4, 0, none⟩)), (6, .pointer (some ⟨b_5, 0, none⟩)), (9, v0)]) ⟨rfl, rfl, rfl, rfl, rfl, trivial⟩
  replace S := S.front2
  replace S := S.front2
  replace S := S.blk_bool (j := (([] : List Int)).isEmpty) (by (first | rfl | (simp; done) | exact isE_app (by assumption) | exact isE_app2 (by assumption) | (rw [List.map_append, List.map_singleton, getLastD_append1]; done) | (simp_all; done)))
  replace S := S.front2
  replace S := S.blk_int (j := ((([] : List Int)).map f1).getLastD 0) (by (first | rfl | (simp; done) | exact isE_app (by assumption) | exact isE_app2 (by assumption) | (rw [List.map_append, List.map_singleton, getLastD_append1]; done) | (simp_all; done)))
  have S0 := S; clear S; have S := St.pack [blk b_5 (.cells #[.int .i64 (((([] : List Int)).map f1).getLastD 0)] 3), blk b_4 (.cells #[.bool ((([] : List Int)).isEmpty)] 4), blk b_3 (.cells #[.bool false] 4)] S0; clear S0
  refine WP_range (RV := RInt) (l := l0) (fun pre M c => c = bigs [blk b_5 (.cells #[.int .i64 (((pre).map f1).getLastD 0)] 3), blk b_4 (.cells #[.bool ((pre).isEmpty)] 4), blk b_3 (.cells #[.bool false] 4)] ∧ (SortedI ((pre).map f1))) (fun cd pre M c => (cd = .ret ∧ ∃ (bb : Bool) (zz : Int), c = bigs [blk b_5 (.cells #[.int .i64 zz] 3), blk b_4 (.cells #[.bool bb] 4), blk b_3 (.cells #[.bool false] 4)] ∧ (¬ SortedI (l0.map f1)))) E S rfl h0 (Hp.le.refl _) (fun _ _ _ h => by rw [h]; rfl) (by decide) (by rintro _ M M' c hM ⟨rfl, f0⟩; exact ⟨rfl, f0⟩) ⟨rfl, (by (simp [SortedI]))⟩ ?_ ?_ ?_
  clear E S
  · rintro lb_7 rec_8 pre x _ a w M_6 _ G hM_6 hp_9 rfl ⟨rfl, f0⟩ E S
    replace E : Env a 19 [] [(10, .int .i64 x), (3, .pointer (some ⟨b_1, 0, none⟩)), (4, .pointer (some ⟨b_3, 0, none⟩)), (5, .pointer (some ⟨b_4, 0, none⟩)), (6, .pointer (some ⟨b_5, 0, none⟩)), (9, v0)] := E
    replace S := S.swap.unpack3
    have hq0 := prefix_lt hp_9
    replace h0 := h0.le hM_6
    replace h1 := h1.le hM_6
    replace hb_1 := hM_6.2 _ _ hb_1
    refine WP_region ?_
    refine S_v E rfl (R_assign E rfl) rfl ?_
    clear E a; intro a E
    refine WL_nil ?_
    refine T_n ?_
    replace S := S.front3
    refine rb S ?_
    clear S; intro w S
    refine WP_block ?_
    refine WP_seq ?_
    refine WP_region ?_
    refine S_v E rfl (R_loadM E rfl Try.isAgg67 S.imm (cellM_box hb_1)) rfl ?_
    clear E a; intro a E
    refine S_v E rfl (R_move E rfl) rfl ?_
    clear E a; intro a E
    refine S_x (X_pu E S rfl rfl rfl (h1.2 x) (Hp.le.refl _) ?_)
    clear E a S; rintro a _ w M_11 hM_11 rfl S E
    replace h0 := h0.le hM_11
    replace h1 := h1.le hM_11
    replace hb_1 := hM_11.2 _ _ hb_1
    refine S_v E rfl (R_assign E rfl) rfl ?_
    clear E a; intro a E
    refine WL_nil ?_
    refine T_n ?_
    refine WP_seq ?_
    refine WP_seq ?_
    refine WP_region ?_
    refine S_v E rfl (R_load E rfl (Try.isAgg4 _) (cell_blk (S.mem (.tail _ (.tail _ (.head _)))))) rfl ?_
    clear E a; intro a E
    refine WL_nil ?_
    refine T_n ?_
    refine WP_cond E rfl (fun hc_12 => ?_) (fun hc_12 => ?_)
    · refine WP_region ?_
      replace S := S.front2
      refine S_x0 (X_store E S rfl rfl (Try.sizeOf4 _) rfl ?_)
      clear E a S; rintro a w E S
      refine WL_nil ?_
      refine T_n ?_
      refine WP_region ?_
      refine S_v E rfl (R_move E rfl) rfl ?_
      clear E a; intro a E
      replace S := S.front2
      refine S_x0 (X_store E S rfl rfl (Try.sizeOf3 _) rfl ?_)
      clear E a S; rintro a w E S
      refine WL_nil ?_
      refine B_n ?_
      replace S := S.front3
      replace S := S.front2
      replace S := S.front2
      replace S := S.front2
      replace S := S.front2
      replace S := S.blk_bool (j := ((pre ++ [x])).isEmpty) (by (first | rfl | (simp; done) | exact isE_app (by assumption) | exact isE_app2 (by assumption) | (rw [List.map_append, List.map_singleton, getLastD_append1]; done) | (simp_all; done)))
      replace S := S.front2
      replace S := S.blk_int (j := (((pre ++ [x])).map f1).getLastD 0) (by (first | rfl | (simp; done) | exact isE_app (by assumption) | exact isE_app2 (by assumption) | (rw [List.map_append, List.map_singleton, getLastD_append1]; done) | (simp_all; done)))
      have S0 := S; clear S; have S := (St.pack [blk b_5 (.cells #[.int .i64 ((((pre ++ [x])).map f1).getLastD 0)] 3), blk b_4 (.cells #[.bool (((pre ++ [x])).isEmpty)] 4), blk b_3 (.cells #[.bool false] 4)] S0).swap; clear S0
      exact ⟨M_11, _, hM_11, ⟨rfl, (by (rw [List.map_append, List.map_singleton]; first | (refine asc_snoc f0 (.inr ?_); omega) | (refine asc_snoc f0 (.inl ?_); simp_all; done)))⟩, S⟩
    · refine WP_seq ?_
      refine WP_region ?_
      refine S_v E rfl (R_load E rfl (Try.isAgg3 _) (cell_blk (S.mem (.tail _ (.head _))))) rfl ?_
      clear E a; intro a E
      refine S_v E rfl (R_move E rfl) rfl ?_
      clear E a; intro a E
      refine S_v E rfl (R_gtr E rfl rfl) rfl ?_
      clear E a; intro a E
      refine WL_nil ?_
      refine T_n ?_
      refine WP_cond E rfl (fun hc_13 => ?_) (fun hc_13 => ?_)
      · replace hc_13 := of_decide_eq_true hc_13
        refine WP_seq ?_
        refine WP_region ?_
        replace S := S.front3
        refine S_x0 (X_store E S rfl rfl (Try.sizeOf4 _) rfl ?_)
        clear E a S; rintro a w E S
        refine WL_nil ?_
        refine T_n ?_
        refine WP_ret ?_
        refine T_r ?_
        refine B_r ?_
        replace S := S.front3
        replace S := S.front3
        replace S := S.front2
        replace S := S.front2
        replace S := S.front2
        have S0 := S; clear S; have S := (St.pack [blk b_5 (.cells #[.int .i64 (((pre).map f1).getLastD 0)] 3), blk b_4 (.cells #[.bool ((pre).isEmpty)] 4), blk b_3 (.cells #[.bool false] 4)] S0).swap; clear S0
        exact ⟨M_11, _, hM_11, ⟨rfl, _, _, rfl, (by (exact asc_bad (map_pre (by assumption)) (by simp_all) (by omega)))⟩, S⟩
      · replace hc_13 := of_decide_eq_false hc_13
        refine WP_skip ?_
        refine T_n ?_
        refine WP_region ?_
        refine S_v E rfl (R_move E rfl) rfl ?_
        clear E a; intro a E
        replace S := S.front1
        refine S_x0 (X_store E S rfl rfl (Try.sizeOf3 _) rfl ?_)
        clear E a S; rintro a w E S
        refine WL_nil ?_
        refine B_n ?_
        replace S := S.front3
        replace S := S.front3
        replace S := S.front2
        replace S := S.front2
        replace S := S.front2
        replace S := S.blk_bool (j := ((pre ++ [x])).isEmpty) (by (first | rfl | (simp; done) | exact isE_app (by assumption) | exact isE_app2 (by assumption) | (rw [List.map_append, List.map_singleton, getLastD_append1]; done) | (simp_all; done)))
        replace S := S.front2
        replace S := S.blk_int (j := (((pre ++ [x])).map f1).getLastD 0) (by (first | rfl | (simp; done) | exact isE_app (by assumption) | exact isE_app2 (by assumption) | (rw [List.map_append, List.map_singleton, getLastD_append1]; done) | (simp_all; done)))
        have S0 := S; clear S; have S := (St.pack [blk b_5 (.cells #[.int .i64 ((((pre ++ [x])).map f1).getLastD 0)] 3), blk b_4 (.cells #[.bool (((pre ++ [x])).isEmpty)] 4), blk b_3 (.cells #[.bool false] 4)] S0).swap; clear S0
        exact ⟨M_11, _, hM_11, ⟨rfl, (by (rw [List.map_append, List.map_singleton]; first | (refine asc_snoc f0 (.inr ?_); omega) | (refine asc_snoc f0 (.inl ?_); simp_all; done)))⟩, S⟩
  · rintro a w M_14 _ D_15 hM_14 ⟨rfl, f0⟩ S E
    replace S := S.unpack3
    replace h0 := h0.le hM_14
    replace h1 := h1.le hM_14
    replace hb_1 := hM_14.2 _ _ hb_1
    refine B_n ?_
    refine T_n ?_
    refine WP_seq ?_
    refine WP_region ?_
    replace S := S.front2
    refine S_x0 (X_store E S rfl rfl (Try.sizeOf4 _) rfl ?_)
    clear E a S; rintro a w E S
    refine WL_nil ?_
    refine T_n ?_
    refine WP_ret ?_
    replace S := S.front1
    replace S := S.drop
    replace S := S.front1
    replace S := S.drop
    replace S := S.front1
    exact F_retC1 E S Try.results89 rfl (fun w => Try.isAgg4 w) (fun w S => ⟨_, rfl, M_14, (hM_2.trans hM_14), (bT (by (first | exact f0 | exact (decide_eq_false f0).symm | exact (decide_eq_true f0).symm | assumption))), S.drop⟩)
  · rintro a w M_16 _ D_17 p_18 _ hM_16 hp_19 (⟨rfl, bb, zz, rfl, f0⟩) S E
    replace S := S.unpack3
    replace h0 := h0.le hM_16
    replace h1 := h1.le hM_16
    replace hb_1 := hM_16.2 _ _ hb_1
    refine WP_ret ?_
    refine B_r ?_
    refine T_r ?_
    replace S := S.drop
    replace S := S.drop
    replace S := S.front1
    exact F_retC1 E S Try.results89 rfl (fun w => Try.isAgg4 w) (fun w S => ⟨_, rfl, M_16, (hM_2.trans hM_16), (congrArg Value.bool (by (first | exact f0 | exact (decide_eq_false f0).symm | exact (decide_eq_true f0).symm | assumption))), S.drop⟩)

set_option maxRecDepth 100000 in
set_option maxHeartbeats 4000000 in
theorem it_IsSorted1 {M : Hp} {x0 : Int} :
    Pu Try.prog (.func (.func 110) #[] #[]) M [.int .i64 x0] (fun r M' => r = .int .i64 x0) := by
  refine Pu_enter Try.func110 rfl Try.ntmps110 rfl Try.call110 ?_
  intro a w M1 H hM1 S E
  refine WP_seq ?_
  refine WP_region ?_
  refine S_v E rfl (R_assign E rfl) rfl ?_
  clear E a; intro a E
  refine WL_nil ?_
  refine T_n ?_
  refine WP_seq ?_
  refine WP_region ?_
  refine S_v E rfl (R_move E rfl) rfl ?_
  clear E a; intro a E
  refine S_v E rfl (R_assign E rfl) rfl ?_
  clear E a; intro a E
  refine WL_nil ?_
  refine T_n ?_
  refine WP_ret ?_
  exact F_ret1 E Try.results110 rfl ⟨_, rfl, M1, (Hp.le.refl _), rfl, S⟩

set_option maxRecDepth 100000 in
set_option maxHeartbeats 4000000 in
theorem it_IsSorted {M : Hp} {v0 : Value} {l0 : List Int} (h0 : SeqV Try.prog v0 M (RInt) l0) :
    Pu Try.prog (.func (.func 87) #[] #[]) M [v0] (fun r M' => r = .bool (decide (SortedI l0))) := by
  refine Pu_enter Try.func87 rfl Try.ntmps87 rfl Try.call87 ?_
  intro a w M1 H hM1 S E
  replace h0 := h0.le hM1
  refine WP_seq ?_
  refine WP_region ?_
  refine S_v E rfl (R_assign E rfl) rfl ?_
  clear E a; intro a E
  refine WL_nil ?_
  refine T_n ?_
  refine WP_seq ?_
  refine WP_region ?_
  refine S_v E rfl (R_move E rfl) rfl ?_
  clear E a; intro a E
  refine S_x (X_pu E S rfl rfl rfl (it_IsSortedBy h0 ⟨rfl, fun zx0 => it_IsSorted1 (x0 := zx0) ⟩) (Hp.le.refl _) ?_)
  clear E a S; rintro a _ w M_1 hM_1 rfl S E
  replace h0 := h0.le hM_1
  refine S_v E rfl (R_assign E rfl) rfl ?_
  clear E a; intro a E
  refine WL_nil ?_
  refine T_n ?_
  refine WP_ret ?_
  exact F_ret1 E Try.results87 rfl ⟨_, rfl, M_1, hM_1, (congrArg Value.bool (by (first | rfl | (simp; done) | (rw [List.map_id', List.map_id']; done) | simp [List.map_id']))), S⟩

set_option maxRecDepth 100000 in
set_option maxHeartbeats 4000000 in
theorem impl_IsSortedSeq {M : Hp} {v0 : Value} {l0 : List Int} (h0 : RdI M v0 l0) :
    Pu Try.prog (.func (.func 48) #[] #[]) M [v0] (fun r M' => r = .bool (decide (SortedI l0))) := by
  refine Pu_enter Try.func48 rfl Try.ntmps48 rfl Try.call48 ?_
  intro a w M1 H hM1 S E
  replace h0 := h0.le hM1
  have b0 := h0.bound
  refine WP_seq ?_
  refine WP_region ?_
  refine S_v E rfl (R_assign E rfl) rfl ?_
  clear E a; intro a E
  refine WL_nil ?_
  refine T_n ?_
  refine WP_seq ?_
  refine WP_region ?_
  refine S_v E rfl (R_move E rfl) rfl ?_
  clear E a; intro a E
  refine S_x (X_pu E S rfl rfl rfl (slices_Values h0) (Hp.le.refl _) ?_)
  clear E a S; rintro a v_2 w M_1 hM_1 hv_2 S E
  replace h0 := h0.le hM_1
  refine S_x (X_pu E S rfl rfl rfl (it_IsSorted hv_2) (Hp.le.refl _) ?_)
  clear E a S; rintro a _ w M_3 hM_3 rfl S E
  replace h0 := h0.le hM_3
  replace hv_2 := hv_2.le hM_3
  refine S_v E rfl (R_assign E rfl) rfl ?_
  clear E a; intro a E
  refine WL_nil ?_
  refine T_n ?_
  refine WP_ret ?_
  exact F_ret1 E Try.results48 rfl ⟨_, rfl, M_3, (hM_1.trans hM_3), rfl, S⟩

set_option maxRecDepth 100000 in
set_option maxHeartbeats 4000000 in
theorem lo_IsSortedBy {M : Hp} {v0 : Value} {l0 : List Int} (h0 : RdI M v0 l0){v1 : Value} {f1 : Int → Int} (h1 : PF1I Try.prog v1 M f1) :
    Pu Try.prog (.func (.func 88) #[] #[]) M [v0, v1] (fun r M' => r = .bool (decide (SortedI ((l0).map f1)))) := by
  refine Pu_enter Try.func88 rfl Try.ntmps88 rfl Try.call88 ?_
  intro a w M1 H hM1 S E
  replace h0 := h0.le hM1
  replace h1 := h1.le hM1
  have b0 := h0.bound
  refine WP_seq ?_
  refine WP_region ?_
  refine S_v E rfl (R_assign E rfl) rfl ?_
  clear E a; intro a E
  refine WL_nil ?_
  refine T_n ?_
  refine WP_seq ?_
  refine WP_region ?_
  refine S_v E rfl (R_move E rfl) rfl ?_
  clear E a; intro a E
  refine S_v E rfl (R_lenV E rfl T22 h0.len) rfl ?_
  clear E a; intro a E
  refine S_v E rfl (R_assign E rfl) rfl ?_
  clear E a; intro a E
  refine WL_nil ?_
  refine T_n ?_
  refine WP_seq ?_
  refine WP_seq ?_
  refine WP_region ?_
  refine S_v E rfl (R_assign E rfl) rfl ?_
  clear E a; intro a E
  refine WL_nil ?_
  refine T_n ?_
  refine WP_block ?_
  refine WP_loop (γ := Nat) (fun (k : Nat) a w => ∃ (M_1 : Hp), Hp.le M1 M_1 ∧ St w M_1 (H) ∧ Env a 29 [] [(0, v0), (1, v1), (5, .int .i64 (((l0).length : Nat) : Int)), (6, .int .i64 ((k : Nat) : Int))] ∧ (k ≤ l0.length) ∧ (SortedI ((l0.map f1).take (k + 1)))) (fun k => l0.length - k) 0 ⟨M1, Hp.le.refl _, S, E.keep ⟨rfl, rfl, rfl, rfl, trivial⟩, (by omega), (by exact asc_one (by omega))⟩ ?_
  try clear E
  try clear S
  try clear a
  try clear w
  rintro k a w ⟨M_1, hM_1, S, E, hL0_0, hL0_1⟩
  replace h0 := h0.le hM_1
  replace h1 := h1.le hM_1
  refine WP_seq ?_
  refine WP_seq ?_
  refine WP_region ?_
  refine S_v E rfl (R_move E rfl) rfl ?_
  clear E a; intro a E
  refine S_v E rfl (R_move E rfl) rfl ?_
  clear E a; intro a E
  refine S_v E rfl (R_subx (m := (((l0).length : Nat) : Int) - 1) E rfl rfl (by omega) (by omega)) rfl ?_
  clear E a; intro a E
  refine S_v E rfl (R_lss E rfl rfl) rfl ?_
  clear E a; intro a E
  refine WL_nil ?_
  refine T_n ?_
  refine WP_cond E rfl (fun hc_2 => ?_) (fun hc_2 => ?_)
  · replace hc_2 := of_decide_eq_true hc_2
    refine WP_skip ?_
    refine T_n ?_
    refine WP_seq ?_
    refine WP_block ?_
    refine WP_seq ?_
    have h0k2 := h0
    replace S := S.mono_heap (w' := World.drew _) rfl
    refine WP_drawn (C := fun x w => agree M_1 w) (bf := (fun i => [])) [0, 1, 2, 3, 4, 6, 7, 8, 9, 10, 11, 13] [0, 1, 2, 3, 4, 6, 7, 8, 9, 10, 11, 5, 12, 13] Try.mixed (by kernel_rfl) (fun x hq => S.imm) ?_
    refine D_v E rfl rfl rfl (fun w hC => (R_move E rfl)) ?_
    clear E a; intro a E
    refine D_v E rfl rfl rfl (fun w hC => (R_move E rfl)) ?_
    clear E a; intro a E
    refine D_v E rfl rfl rfl (fun w hC => (R_move E rfl)) ?_
    clear E a; intro a E
    obtain ⟨x_3, hx_3⟩ : ∃ x, (l0)[k]? = some x := ⟨_, List.getElem?_eq_getElem (by first | omega | (simp; done) | (simp; omega) | (simp_all; omega))⟩
    obtain ⟨p_4, hp_4, qp_4⟩ := h0.at hx_3
    refine D_v E rfl rfl rfl (fun w hC => (R_idx E rfl rfl T22 hp_4 rfl)) ?_
    clear E a; intro a E
    refine D_v E rfl rfl rfl (fun w hC => (R_loadM E rfl Try.isAgg3 hC qp_4)) ?_
    clear E a; intro a E
    refine D_v E rfl rfl rfl (fun w hC => (R_move E rfl)) ?_
    clear E a; intro a E
    refine D_v E rfl rfl rfl (fun w hC => (R_move E rfl)) ?_
    clear E a; intro a E
    refine D_v E rfl rfl rfl (fun w hC => (R_move E rfl)) ?_
    clear E a; intro a E
    refine D_v E rfl rfl rfl (fun w hC => (R_addx (m := ((k + 1 : Nat) : Int)) E rfl rfl (by omega) (by omega))) ?_
    clear E a; intro a E
    obtain ⟨x_5, hx_5⟩ : ∃ x, (l0)[k + 1]? = some x := ⟨_, List.getElem?_eq_getElem (by first | omega | (simp; done) | (simp; omega) | (simp_all; omega))⟩
    obtain ⟨p_6, hp_6, qp_6⟩ := h0.at hx_5
    refine D_v E rfl rfl rfl (fun w hC => (R_idx E rfl rfl T22 hp_6 rfl)) ?_
    clear E a; intro a E
    refine D_v E rfl rfl rfl (fun w hC => (R_loadM E rfl Try.isAgg3 hC qp_6)) ?_
    clear E a; intro a E
    refine D_x rfl rfl rfl (X_pu E S rfl rfl rfl (h1.2 x_3) (Hp.le.refl _) ?_)
    clear E a S; rintro a _ w M_7 hM_7 rfl S E
    replace h0 := h0.le hM_7
    replace h1 := h1.le hM_7
    refine ⟨fun x hq hb => (agree_le hM_7 S.imm), ?_⟩
    refine D_x rfl rfl rfl (X_pu E S rfl rfl rfl (h1.2 x_5) (Hp.le.refl _) ?_)
    clear E a S; rintro a _ w M_8 hM_8 rfl S E
    replace h0 := h0.le hM_8
    replace h1 := h1.le hM_8
    refine ⟨fun x hq hb => (agree_le (hM_7.trans hM_8) S.imm), ?_⟩
    refine D_v E rfl rfl rfl (fun w hC => (R_gtr E rfl rfl)) ?_
    clear E a; intro a E
    refine D_end (NoP_n ?_)
    refine T_n ?_
    refine WP_cond E rfl (fun hc_9 => ?_) (fun hc_9 => ?_)
    · replace hc_9 := of_decide_eq_true hc_9
      refine WP_seq ?_
      refine WP_region ?_
      refine S_v E rfl (R_assign E rfl) rfl ?_
      clear E a; intro a E
      refine WL_nil ?_
      refine T_n ?_
      refine WP_ret ?_
      refine B_r ?_
      refine T_r ?_
      refine T_r ?_
      refine B_r ?_
      refine T_r ?_
      exact F_ret1 E Try.results88 rfl ⟨_, rfl, M_8, (hM_1.trans (hM_7.trans hM_8)), (bF (by (exact asc_no (k := k) (map_at (by assumption)) (map_at (by assumption)) (by omega)))), S⟩
    · replace hc_9 := of_decide_eq_false hc_9
      refine WP_skip ?_
      refine B_n ?_
      refine T_n ?_
      refine WP_region ?_
      refine S_v E rfl (R_move E rfl) rfl ?_
      clear E a; intro a E
      refine S_v E rfl (R_addx (m := ((k : Nat) : Int) + 1) E rfl rfl (by omega) (by omega)) rfl ?_
      clear E a; intro a E
      refine S_v E rfl (R_assign E rfl) rfl ?_
      clear E a; intro a E
      refine WL_nil ?_
      refine T_n ?_
      exact ⟨k + 1, ⟨M_8, (hM_1.trans (hM_7.trans hM_8)), S, E.keep ⟨rfl, rfl, rfl, look_int (i := ((k : Nat) : Int) + 1) rfl (by (rfl)), trivial⟩, (by omega), (by exact asc_step (k := k) hL0_1 (map_at (by assumption)) (map_at (by assumption)) (by omega))⟩, by omega⟩
  · replace hc_2 := of_decide_eq_false hc_2
    refine WP_exit ?_
    refine T_x ?_
    refine T_x ?_
    refine B_x ?_
    refine T_n ?_
    refine WP_seq ?_
    refine WP_region ?_
    refine S_v E rfl (R_assign E rfl) rfl ?_
    clear E a; intro a E
    refine WL_nil ?_
    refine T_n ?_
    refine WP_ret ?_
    exact F_ret1 E Try.results88 rfl ⟨_, rfl, M_1, hM_1, (bT (by (exact asc_all hL0_1 (by simp; omega)))), S⟩

set_option maxRecDepth 100000 in
set_option maxHeartbeats 4000000 in
theorem impl_mod {M : Hp} {x0 x1 : Int} (hn : x1 ≠ 0) (g1 : -9223372036854775808 ≤ x1 ∧ x1 ≤ 9223372036854775807) :
    Pu Try.prog (.func (.func 111) #[] #[]) M [.int .i64 x0, .int .i64 x1] (fun r M' => r = .int .i64 (x0 % x1)) := by
  refine Pu_enter Try.func111 rfl Try.ntmps111 rfl Try.call111 ?_
  intro a w M1 H hM1 S E
  have ht := tmod_emod x0 x1 hn
  refine WP_seq ?_
  refine WP_region ?_
  refine S_v E rfl (R_assign E rfl) rfl ?_
  clear E a; intro a E
  refine WL_nil ?_
  refine T_n ?_
  refine WP_seq ?_
  refine WP_region ?_
  refine S_v E rfl (R_move E rfl) rfl ?_
  clear E a; intro a E
  refine S_v E rfl (R_move E rfl) rfl ?_
  clear E a; intro a E
  refine S_v E rfl (R_rem E rfl rfl (by first | decide | omega)) rfl ?_
  clear E a; intro a E
  refine S_v E rfl (R_assign E rfl) rfl ?_
  clear E a; intro a E
  refine WL_nil ?_
  refine T_n ?_
  refine WP_seq ?_
  refine WP_seq ?_
  refine WP_region ?_
  refine S_v E rfl (R_move E rfl) rfl ?_
  clear E a; intro a E
  refine S_v E rfl (R_lss E rfl rfl) rfl ?_
  clear E a; intro a E
  refine WL_nil ?_
  refine T_n ?_
  refine WP_cond E rfl (fun hc_1 => ?_) (fun hc_1 => ?_)
  · replace hc_1 := of_decide_eq_true hc_1
    refine WP_seq ?_
    refine WP_seq ?_
    refine WP_region ?_
    refine S_v E rfl (R_move E rfl) rfl ?_
    clear E a; intro a E
    refine S_v E rfl (R_lss E rfl rfl) rfl ?_
    clear E a; intro a E
    refine WL_nil ?_
    refine T_n ?_
    refine WP_cond E rfl (fun hc_2 => ?_) (fun hc_2 => ?_)
    · replace hc_2 := of_decide_eq_true hc_2
      refine WP_seq ?_
      refine WP_region ?_
      refine S_v E rfl (R_move E rfl) rfl ?_
      clear E a; intro a E
      refine S_v E rfl (R_move E rfl) rfl ?_
      clear E a; intro a E
      refine S_v E rfl (R_subx (m := (Int.tmod x0 x1) - x1) E rfl rfl (by omega) (by omega)) rfl ?_
      clear E a; intro a E
      refine S_v E rfl (R_assign E rfl) rfl ?_
      clear E a; intro a E
      refine WL_nil ?_
      refine T_n ?_
      refine WP_ret ?_
      refine T_r ?_
      refine T_r ?_
      exact F_ret1 E Try.results111 rfl ⟨_, rfl, M1, (Hp.le.refl _), (congrArg (Value.int .i64) (by omega)), S⟩
    · replace hc_2 := of_decide_eq_false hc_2
      refine WP_skip ?_
      refine T_n ?_
      refine WP_seq ?_
      refine WP_region ?_
      refine S_v E rfl (R_move E rfl) rfl ?_
      clear E a; intro a E
      refine S_v E rfl (R_move E rfl) rfl ?_
      clear E a; intro a E
      refine S_v E rfl (R_addx (m := (Int.tmod x0 x1) + x1) E rfl rfl (by omega) (by omega)) rfl ?_
      clear E a; intro a E
      refine S_v E rfl (R_assign E rfl) rfl ?_
      clear E a; intro a E
      refine WL_nil ?_
      refine T_n ?_
      refine WP_ret ?_
      refine T_r ?_
      exact F_ret1 E Try.results111 rfl ⟨_, rfl, M1, (Hp.le.refl _), (congrArg (Value.int .i64) (by omega)), S⟩
  · replace hc_1 := of_decide_eq_false hc_1
    refine WP_skip ?_
    refine T_n ?_
    refine WP_seq ?_
    refine WP_region ?_
    refine S_v E rfl (R_move E rfl) rfl ?_
    clear E a; intro a E
    refine S_v E rfl (R_assign E rfl) rfl ?_
    clear E a; intro a E
    refine WL_nil ?_
    refine T_n ?_
    refine WP_ret ?_
    exact F_ret1 E Try.results111 rfl ⟨_, rfl, M1, (Hp.le.refl _), (congrArg (Value.int .i64) (by omega)), S⟩

set_option maxRecDepth 100000 in
set_option maxHeartbeats 4000000 in
theorem Key_at_c {M : Hp} {kk0 kn0 : Int} (gk0 : -9223372036854775808 ≤ kn0 ∧ kn0 ≤ 9223372036854775807){x1 x2 : Int} :
    PuC Try.prog 93 M [.agg #[.int .i64 kk0, .int .i64 kn0], .int .i64 x1, .int .i64 x2] (fun r M' => r = .int .i64 (keyAt kk0 kn0 x1 x2)) := by
  refine PuC_enter Try.func93 rfl Try.ntmps93 rfl ?_
  intro a w M1 H hM1 S E
  refine WP_seq ?_
  refine WP_region ?_
  refine S_x (X_box (cs := #[.int .i64 kk0, .int .i64 kn0]) E S rfl rfl rfl ?_)
  clear E a S; rintro a w b_1 E S
  obtain ⟨M_2, hM_2, hb_1, S⟩ := S.freezeB
  refine S_v E rfl (R_assign E rfl) rfl ?_
  clear E a; intro a E
  refine WL_nil ?_
  refine T_n ?_
  refine WP_seq ?_
  refine WP_seq ?_
  refine WP_region ?_
  refine S_v E rfl (R_fieldAddr E rfl (FA24_0 _)) rfl ?_
  clear E a; intro a E
  refine S_v E rfl (R_loadM E rfl Try.isAgg3 S.imm (cellM_boxo hb_1 rfl)) rfl ?_
  clear E a; intro a E
  refine WL_nil ?_
  refine T_n ?_
  refine WP_block ?_
  refine WP_seq ?_
  refine WP_region ?_
  refine S_v E rfl (R_eql E rfl rfl) rfl ?_
  clear E a; intro a E
  refine S_v E rfl (R_assign E rfl) rfl ?_
  clear E a; intro a E
  refine WL_nil ?_
  refine T_n ?_
  refine WP_cond E rfl (fun hc_3 => ?_) (fun hc_3 => ?_)
  · replace hc_3 := of_decide_eq_true hc_3
    refine WP_seq ?_
    refine WP_region ?_
    refine S_v E rfl (R_move E rfl) rfl ?_
    clear E a; intro a E
    refine S_v E rfl (R_fieldAddr E rfl (FA24_1 _)) rfl ?_
    clear E a; intro a E
    refine S_v E rfl (R_loadM E rfl Try.isAgg3 S.imm (cellM_boxo hb_1 rfl)) rfl ?_
    clear E a; intro a E
    refine S_v E rfl (R_add E rfl rfl) rfl ?_
    clear E a; intro a E
    refine S_v E rfl (R_assign E rfl) rfl ?_
    clear E a; intro a E
    refine WL_nil ?_
    refine T_n ?_
    refine WP_ret ?_
    refine B_r ?_
    refine T_r ?_
    exact F_ret1 E Try.results93 rfl ⟨_, rfl, M_2, hM_2, (congrArg (Value.int .i64) (by (clear E S; unfold keyAt w64; first | (simp [*]; done) | (simp_all; done)))), S⟩
  · replace hc_3 := of_decide_eq_false hc_3
    refine WP_seq ?_
    refine WP_region ?_
    refine S_v E rfl (R_eql E rfl rfl) rfl ?_
    clear E a; intro a E
    refine S_v E rfl (R_assign E rfl) rfl ?_
    clear E a; intro a E
    refine WL_nil ?_
    refine T_n ?_
    refine WP_cond E rfl (fun hc_4 => ?_) (fun hc_4 => ?_)
    · replace hc_4 := of_decide_eq_true hc_4
      refine WP_seq ?_
      refine WP_region ?_
      refine S_v E rfl (R_move E rfl) rfl ?_
      clear E a; intro a E
      refine S_v E rfl (R_fieldAddr E rfl (FA24_1 _)) rfl ?_
      clear E a; intro a E
      refine S_v E rfl (R_loadM E rfl Try.isAgg3 S.imm (cellM_boxo hb_1 rfl)) rfl ?_
      clear E a; intro a E
      refine S_v E rfl (R_mul E rfl rfl) rfl ?_
      clear E a; intro a E
      refine S_v E rfl (R_assign E rfl) rfl ?_
      clear E a; intro a E
      refine WL_nil ?_
      refine T_n ?_
      refine WP_ret ?_
      refine B_r ?_
      refine T_r ?_
      exact F_ret1 E Try.results93 rfl ⟨_, rfl, M_2, hM_2, (congrArg (Value.int .i64) (by (clear E S; unfold keyAt w64; first | (simp [*]; done) | (simp_all; done)))), S⟩
    · replace hc_4 := of_decide_eq_false hc_4
      refine WP_seq ?_
      refine WP_region ?_
      refine S_v E rfl (R_eql E rfl rfl) rfl ?_
      clear E a; intro a E
      refine S_v E rfl (R_assign E rfl) rfl ?_
      clear E a; intro a E
      refine WL_nil ?_
      refine T_n ?_
      refine WP_cond E rfl (fun hc_5 => ?_) (fun hc_5 => ?_)
      · replace hc_5 := of_decide_eq_true hc_5
        refine WP_seq ?_
        refine WP_region ?_
        refine S_v E rfl (R_fieldAddr E rfl (FA24_1 _)) rfl ?_
        clear E a; intro a E
        refine S_v E rfl (R_loadM E rfl Try.isAgg3 S.imm (cellM_boxo hb_1 rfl)) rfl ?_
        clear E a; intro a E
        refine S_v E rfl (R_neq E rfl rfl) rfl ?_
        clear E a; intro a E
        refine WL_nil ?_
        refine T_n ?_
        refine WP_cond E rfl (fun hc_6 => ?_) (fun hc_6 => ?_)
        · replace hc_6 := of_decide_eq_true hc_6
          refine WP_seq ?_
          refine WP_region ?_
          refine S_v E rfl (R_move E rfl) rfl ?_
          clear E a; intro a E
          refine S_v E rfl (R_fieldAddr E rfl (FA24_1 _)) rfl ?_
          clear E a; intro a E
          refine S_v E rfl (R_loadM E rfl Try.isAgg3 S.imm (cellM_boxo hb_1 rfl)) rfl ?_
          clear E a; intro a E
          refine S_x (X_pu E S rfl rfl rfl (impl_mod (by first | omega | assumption) (by omega)) (Hp.le.refl _) ?_)
          clear E a S; rintro a _ w M_7 hM_7 rfl S E
          replace hb_1 := hM_7.2 _ _ hb_1
          refine S_v E rfl (R_assign E rfl) rfl ?_
          clear E a; intro a E
          refine WL_nil ?_
          refine T_n ?_
          refine WP_ret ?_
          refine B_r ?_
          refine T_r ?_
          exact F_ret1 E Try.results93 rfl ⟨_, rfl, M_7, (hM_2.trans hM_7), (congrArg (Value.int .i64) (by (clear E S; unfold keyAt w64; first | (simp [*]; done) | (simp_all; done)))), S⟩
        · replace hc_6 := of_decide_eq_false hc_6
          refine WP_skip ?_
          refine B_n ?_
          refine T_n ?_
          refine WP_seq ?_
          refine WP_region ?_
          refine S_v E rfl (R_move E rfl) rfl ?_
          clear E a; intro a E
          refine S_v E rfl (R_assign E rfl) rfl ?_
          clear E a; intro a E
          refine WL_nil ?_
          refine T_n ?_
          refine WP_ret ?_
          exact F_ret1 E Try.results93 rfl ⟨_, rfl, M_2, hM_2, (congrArg (Value.int .i64) (by (clear E S; unfold keyAt w64; first | (simp [*]; done) | (simp_all; done)))), S⟩
      · replace hc_5 := of_decide_eq_false hc_5
        refine WP_seq ?_
        refine WP_region ?_
        refine S_v E rfl (R_eql E rfl rfl) rfl ?_
        clear E a; intro a E
        refine S_v E rfl (R_assign E rfl) rfl ?_
        clear E a; intro a E
        refine WL_nil ?_
        refine T_n ?_
        refine WP_cond E rfl (fun hc_8 => ?_) (fun hc_8 => ?_)
        · replace hc_8 := of_decide_eq_true hc_8
          refine WP_seq ?_
          refine WP_region ?_
          refine S_v E rfl (R_fieldAddr E rfl (FA24_1 _)) rfl ?_
          clear E a; intro a E
          refine S_v E rfl (R_loadM E rfl Try.isAgg3 S.imm (cellM_boxo hb_1 rfl)) rfl ?_
          clear E a; intro a E
          refine S_v E rfl (R_assign E rfl) rfl ?_
          clear E a; intro a E
          refine WL_nil ?_
          refine T_n ?_
          refine WP_ret ?_
          refine B_r ?_
          refine T_r ?_
          exact F_ret1 E Try.results93 rfl ⟨_, rfl, M_2, hM_2, (congrArg (Value.int .i64) (by (clear E S; unfold keyAt w64; first | (simp [*]; done) | (simp_all; done)))), S⟩
        · replace hc_8 := of_decide_eq_false hc_8
          refine WP_seq ?_
          refine WP_region ?_
          refine S_v E rfl (R_eql E rfl rfl) rfl ?_
          clear E a; intro a E
          refine S_v E rfl (R_assign E rfl) rfl ?_
          clear E a; intro a E
          refine WL_nil ?_
          refine T_n ?_
          refine WP_cond E rfl (fun hc_9 => ?_) (fun hc_9 => ?_)
          · replace hc_9 := of_decide_eq_true hc_9
            refine WP_seq ?_
            refine WP_region ?_
            refine S_v E rfl (R_move E rfl) rfl ?_
            clear E a; intro a E
            refine S_v E rfl (R_assign E rfl) rfl ?_
            clear E a; intro a E
            refine WL_nil ?_
            refine T_n ?_
            refine WP_ret ?_
            refine B_r ?_
            refine T_r ?_
            exact F_ret1 E Try.results93 rfl ⟨_, rfl, M_2, hM_2, (congrArg (Value.int .i64) (by (clear E S; unfold keyAt w64; first | (simp [*]; done) | (simp_all; done)))), S⟩
          · replace hc_9 := of_decide_eq_false hc_9
            refine WP_skip ?_
            refine B_n ?_
            refine T_n ?_
            refine WP_seq ?_
            refine WP_region ?_
            refine S_v E rfl (R_move E rfl) rfl ?_
            clear E a; intro a E
            refine S_v E rfl (R_assign E rfl) rfl ?_
            clear E a; intro a E
            refine WL_nil ?_
            refine T_n ?_
            refine WP_ret ?_
            exact F_ret1 E Try.results93 rfl ⟨_, rfl, M_2, hM_2, (congrArg (Value.int .i64) (by (clear E S; unfold keyAt w64; first | (simp [*]; done) | (simp_all; done)))), S⟩
theorem Key_at {M : Hp} {kk0 kn0 : Int} (gk0 : -9223372036854775808 ≤ kn0 ∧ kn0 ≤ 9223372036854775807){x1 x2 : Int} :
    Pu Try.prog (.func (.func 93) #[.agg #[.int .i64 kk0, .int .i64 kn0]] #[]) M [.int .i64 x1, .int .i64 x2] (fun r M' => r = .int .i64 (keyAt kk0 kn0 x1 x2)) := PuC.pu Try.call93 rfl (Key_at_c gk0)
theorem Key_at_d {M : Hp} {kk0 kn0 : Int} (gk0 : -9223372036854775808 ≤ kn0 ∧ kn0 ≤ 9223372036854775807){x1 x2 : Int} :
    Pu Try.prog (.func (.func 93) #[] #[]) M [.agg #[.int .i64 kk0, .int .i64 kn0], .int .i64 x1, .int .i64 x2] (fun r M' => r = .int .i64 (keyAt kk0 kn0 x1 x2)) := PuC.pu Try.call93 rfl (Key_at_c gk0)

set_option maxRecDepth 100000 in
set_option maxHeartbeats 4000000 in
theorem Key_of_c {M : Hp} {kk0 kn0 : Int} (gk0 : -9223372036854775808 ≤ kn0 ∧ kn0 ≤ 9223372036854775807){x1 : Int} :
    PuC Try.prog 55 M [.agg #[.int .i64 kk0, .int .i64 kn0], .int .i64 x1] (fun r M' => r = .int .i64 (keyAt kk0 kn0 x1 0)) := by
  refine PuC_enter Try.func55 rfl Try.ntmps55 rfl ?_
  intro a w M1 H hM1 S E
  refine WP_seq ?_
  refine WP_region ?_
  refine S_x (X_box (cs := #[.int .i64 kk0, .int .i64 kn0]) E S rfl rfl rfl ?_)
  clear E a S; rintro a w b_1 E S
  obtain ⟨M_2, hM_2, hb_1, S⟩ := S.freezeB
  refine S_v E rfl (R_assign E rfl) rfl ?_
  clear E a; intro a E
  refine WL_nil ?_
  refine T_n ?_
  refine WP_seq ?_
  refine WP_region ?_
  refine S_v E rfl (R_loadGM E rfl (Try.isAgg24 _) (Try.sizeOf24 _) S.imm hb_1) rfl ?_
  clear E a; intro a E
  refine S_v E rfl (R_move E rfl) rfl ?_
  clear E a; intro a E
  refine S_x (X_pu E S rfl rfl rfl (Key_at_d (by omega)) (Hp.le.refl _) ?_)
  clear E a S; rintro a _ w M_3 hM_3 rfl S E
  replace hb_1 := hM_3.2 _ _ hb_1
  refine S_v E rfl (R_assign E rfl) rfl ?_
  clear E a; intro a E
  refine WL_nil ?_
  refine T_n ?_
  refine WP_ret ?_
  exact F_ret1 E Try.results55 rfl ⟨_, rfl, M_3, (hM_2.trans hM_3), rfl, S⟩
theorem Key_of {M : Hp} {kk0 kn0 : Int} (gk0 : -9223372036854775808 ≤ kn0 ∧ kn0 ≤ 9223372036854775807){x1 : Int} :
    Pu Try.prog (.func (.func 55) #[.agg #[.int .i64 kk0, .int .i64 kn0]] #[]) M [.int .i64 x1] (fun r M' => r = .int .i64 (keyAt kk0 kn0 x1 0)) := PuC.pu Try.call55 rfl (Key_of_c gk0)
theorem Key_of_d {M : Hp} {kk0 kn0 : Int} (gk0 : -9223372036854775808 ≤ kn0 ∧ kn0 ≤ 9223372036854775807){x1 : Int} :
    Pu Try.prog (.func (.func 55) #[] #[]) M [.agg #[.int .i64 kk0, .int .i64 kn0], .int .i64 x1] (fun r M' => r = .int .i64 (keyAt kk0 kn0 x1 0)) := PuC.pu Try.call55 rfl (Key_of_c gk0)

set_option maxRecDepth 100000 in
set_option maxHeartbeats 4000000 in
theorem impl_IsSortedBy {M : Hp} {v0 : Value} {l0 : List Int} (h0 : RdI M v0 l0){kk1 kn1 : Int} (gk1 : -9223372036854775808 ≤ kn1 ∧ kn1 ≤ 9223372036854775807) :
    Pu Try.prog (.func (.func 49) #[] #[]) M [v0, .agg #[.int .i64 kk1, .int .i64 kn1]] (fun r M' => r = .bool (decide (SortedI ((l0).map (fun x => keyAt kk1 kn1 x 0))))) := by
  refine Pu_enter Try.func49 rfl Try.ntmps49 rfl Try.call49 ?_
  intro a w M1 H hM1 S E
  replace h0 := h0.le hM1
  have b0 := h0.bound
  refine WP_seq ?_
  refine WP_region ?_
  refine S_x (X_box (cs := #[.int .i64 kk1, .int .i64 kn1]) E S rfl rfl rfl ?_)
  clear E a S; rintro a w b_1 E S
  obtain ⟨M_2, hM_2, hb_1, S⟩ := S.freezeB
  replace h0 := h0.le hM_2
  refine S_v E rfl (R_assign E rfl) rfl ?_
  clear E a; intro a E
  refine WL_nil ?_
  refine T_n ?_
  refine WP_seq ?_
  refine WP_region ?_
  refine S_v E rfl (R_move E rfl) rfl ?_
  clear E a; intro a E
  refine S_v E rfl (R_loadGM E rfl (Try.isAgg24 _) (Try.sizeOf24 _) S.imm hb_1) rfl ?_
  clear E a; intro a E
  refine S_v E rfl (R_makeFunc E rfl rfl) rfl ?_
  clear E a; intro a E
  refine S_x (X_pu E S rfl rfl rfl (lo_IsSortedBy h0 ⟨rfl, fun zx1 => Key_of (x1 := zx1) (by omega)⟩) (Hp.le.refl _) ?_)
  clear E a S; rintro a _ w M_3 hM_3 rfl S E
  replace h0 := h0.le hM_3
  replace hb_1 := hM_3.2 _ _ hb_1
  refine S_v E rfl (R_assign E rfl) rfl ?_
  clear E a; intro a E
  refine WL_nil ?_
  refine T_n ?_
  refine WP_ret ?_
  exact F_ret1 E Try.results49 rfl ⟨_, rfl, M_3, (hM_2.trans hM_3), rfl, S⟩

set_option maxRecDepth 100000 in
set_option maxHeartbeats 4000000 in
theorem impl_IsSortedBySeq {M : Hp} {v0 : Value} {l0 : List Int} (h0 : RdI M v0 l0){kk1 kn1 : Int} (gk1 : -9223372036854775808 ≤ kn1 ∧ kn1 ≤ 9223372036854775807) :
    Pu Try.prog (.func (.func 50) #[] #[]) M [v0, .agg #[.int .i64 kk1, .int .i64 kn1]] (fun r M' => r = .bool (decide (SortedI ((l0).map (fun x => keyAt kk1 kn1 x 0))))) := by
  refine Pu_enter Try.func50 rfl Try.ntmps50 rfl Try.call50 ?_
  intro a w M1 H hM1 S E
  replace h0 := h0.le hM1
  have b0 := h0.bound
  refine WP_seq ?_
  refine WP_region ?_
  refine S_x (X_box (cs := #[.int .i64 kk1, .int .i64 kn1]) E S rfl rfl rfl ?_)
  clear E a S; rintro a w b_1 E S
  obtain ⟨M_2, hM_2, hb_1, S⟩ := S.freezeB
  replace h0 := h0.le hM_2
  refine S_v E rfl (R_assign E rfl) rfl ?_
  clear E a; intro a E
  refine WL_nil ?_
  refine T_n ?_
  refine WP_seq ?_
  have hb_1k2 := hb_1
  replace S := S.mono_heap (w' := World.drew _) rfl
  refine WP_drawn (C := fun x w => agree M_2 w) (bf := (fun i => [])) [0, 2, 3, 5] [0, 2, 3, 1, 4, 5] Try.mixed (by kernel_rfl) (fun x hq => S.imm) ?_
  refine D_v E rfl rfl rfl (fun w hC => (R_move E rfl)) ?_
  clear E a; intro a E
  refine D_v E rfl rfl rfl (fun w hC => (R_loadGM E rfl (Try.isAgg24 _) (Try.sizeOf24 _) hC hb_1k2)) ?_
  clear E a; intro a E
  refine D_v E rfl rfl rfl (fun w hC => (R_makeFunc E rfl rfl)) ?_
  clear E a; intro a E
  refine D_x rfl rfl rfl (X_pu E S rfl rfl rfl (slices_Values h0) (Hp.le.refl _) ?_)
  clear E a S; rintro a v_4 w M_3 hM_3 hv_4 S E
  replace h0 := h0.le hM_3
  replace hb_1 := hM_3.2 _ _ hb_1
  refine ⟨fun x hq hb => (agree_le hM_3 S.imm), ?_⟩
  refine D_x rfl rfl rfl (X_pu E S rfl rfl rfl (it_IsSortedBy hv_4 ⟨rfl, fun zx1 => Key_of (x1 := zx1) (by omega)⟩) (Hp.le.refl _) ?_)
  clear E a S; rintro a _ w M_5 hM_5 rfl S E
  replace h0 := h0.le hM_5
  replace hb_1 := hM_5.2 _ _ hb_1
  replace hv_4 := hv_4.le hM_5
  refine ⟨fun x hq hb => (agree_le (hM_3.trans hM_5) S.imm), ?_⟩
  refine D_v E rfl rfl rfl (fun w hC => (R_assign E rfl)) ?_
  clear E a; intro a E
  refine D_end (NoP_n ?_)
  refine T_n ?_
  refine WP_ret ?_
  exact F_ret1 E Try.results50 rfl ⟨_, rfl, M_5, (hM_2.trans (hM_3.trans hM_5)), rfl, S⟩

set_option maxRecDepth 100000 in
set_option maxHeartbeats 4000000 in
theorem lo_Keyify {M : Hp} {v0 : Value} {l0 : List Int} (h0 : RdI M v0 l0) :
    Sp Try.prog (.func (.func 91) #[] #[]) M [v0] [] (fun r M' C' => ∃ b, r = .map (some b) ∧ C' = [OwnS b (keyL l0)]) := by
  refine Sp_enter Try.func91 rfl Try.ntmps91 rfl Try.call91 ?_
  intro a w M1 H hM1 S E
  replace h0 := h0.le hM1
  have b0 := h0.bound
  refine WP_seq ?_
  refine WP_region ?_
  refine S_v E rfl (R_assign E rfl) rfl ?_
  clear E a; intro a E
  refine WL_nil ?_
  refine T_n ?_
  refine WP_seq ?_
  refine WP_region ?_
  refine S_v E rfl (R_move E rfl) rfl ?_
  clear E a; intro a E
  refine S_v E rfl (R_lenV E rfl T22 h0.len) rfl ?_
  clear E a; intro a E
  refine S_x (X_makeMapR E S rfl MT93 rfl ?_)
  clear E a S; rintro a w b_1 E S
  replace S : St w M1 (OwnS b_1 ([] : List Int) :: _) := S
  refine S_v E rfl (R_assign E rfl) rfl ?_
  clear E a; intro a E
  refine WL_nil ?_
  refine T_n ?_
  refine WP_seq ?_
  refine WP_seq ?_
  refine WP_region ?_
  refine S_v E rfl (R_move E rfl) rfl ?_
  clear E a; intro a E
  refine S_v E rfl (R_lenV E rfl T22 h0.len) rfl ?_
  clear E a; intro a E
  refine S_v E rfl (R_move E rfl) rfl ?_
  clear E a; intro a E
  refine WL_nil ?_
  refine T_n ?_
  refine WP_block ?_
  replace S := S.reM (L' := (Sl.encS (keyL (l0.take 0)))) (congrArg Sl.encS (show ([] : List Int) = keyL (l0.take 0) by first | (simp [keyL]; done) | exact (keyL_succ (by assumption)).symm))
  refine WP_loop (γ := Nat) (fun (k : Nat) a w => ∃ (M_2 : Hp), Hp.le M1 M_2 ∧ St w M_2 (OwnS b_1 (keyL (l0.take k)) :: H) ∧ Env a 21 [] [(0, v0), (3, .map (some b_1)), (9, .int .i64 (((l0).length : Nat) : Int)), (10, .int .i64 ((k : Nat) : Int))] ∧ (k ≤ (l0).length)) (fun k => ((l0).length) - k) 0 ⟨M1, Hp.le.refl _, S, E.keep ⟨rfl, rfl, rfl, rfl, trivial⟩, by ((try clear S); (try clear E); first | assumption | omega | rfl | (simp; done) | (simp_all; done) | (simp [List.take_add_one, *]; done) | grind [List.take_add_one])⟩ ?_
  try clear E
  try clear S
  try clear a
  try clear w
  rintro k a w ⟨M_2, hM_2, S, E, hL0_0⟩
  replace h0 := h0.le hM_2
  refine WP_seq ?_
  refine WP_region ?_
  refine S_v E rfl (R_lss E rfl rfl) rfl ?_
  clear E a; intro a E
  refine WL_nil ?_
  refine T_n ?_
  refine WP_seq ?_
  refine WP_cond E rfl (fun hc_3 => ?_) (fun hc_3 => ?_)
  · replace hc_3 := of_decide_eq_true hc_3
    refine WP_skip ?_
    refine T_n ?_
    refine WP_seq ?_
    refine WP_block ?_
    refine WP_seq ?_
    refine WP_region ?_
    refine S_v E rfl (R_move E rfl) rfl ?_
    clear E a; intro a E
    refine S_v E rfl (R_assign E rfl) rfl ?_
    clear E a; intro a E
    refine WL_nil ?_
    refine T_n ?_
    refine WP_region ?_
    refine S_v E rfl (R_move E rfl) rfl ?_
    clear E a; intro a E
    refine S_v E rfl (R_move E rfl) rfl ?_
    clear E a; intro a E
    refine S_v E rfl (R_move E rfl) rfl ?_
    clear E a; intro a E
    obtain ⟨x_4, hx_4⟩ : ∃ x, (l0)[k]? = some x := ⟨_, List.getElem?_eq_getElem (by first | omega | (simp; done) | (simp; omega) | (simp_all; omega))⟩
    obtain ⟨p_5, hp_5, qp_5⟩ := h0.at hx_4
    refine S_v E rfl (R_idx E rfl rfl T22 hp_5 rfl) rfl ?_
    clear E a; intro a E
    refine S_v E rfl (R_loadM E rfl Try.isAgg3 S.imm qp_5) rfl ?_
    clear E a; intro a E
    refine S_v E rfl (R_build (u := .agg #[]) (vs := []) E rfl (fun w => FB98__  w)) rfl ?_
    clear E a; intro a E
    refine S_x0 (X_updateS E S MT93 rfl rfl rfl ?_)
    clear E a S; rintro a w E S
    refine WL_nil ?_
    refine B_n ?_
    refine T_n ?_
    refine WP_region ?_
    refine S_v E rfl (R_addx (m := ((k + 1 : Nat) : Int)) E rfl rfl (by omega) (by omega)) rfl ?_
    clear E a; intro a E
    refine S_v E rfl (R_move E rfl) rfl ?_
    clear E a; intro a E
    refine WL_nil ?_
    refine T_n ?_
    replace S := S.reM (L' := (Sl.encS (keyL (l0.take (k + 1))))) (congrArg Sl.encS (show addS (keyL (l0.take k)) x_4 = keyL (l0.take (k + 1)) by first | (simp [keyL]; done) | exact (keyL_succ (by assumption)).symm))
    exact ⟨k + 1, ⟨M_2, hM_2, S, E.keep ⟨rfl, rfl, rfl, rfl, trivial⟩, by ((try clear S); (try clear E); first | assumption | omega | rfl | (simp; done) | (simp_all; done) | (simp [List.take_add_one, *]; done) | grind [List.take_add_one])⟩, by omega⟩
  · replace hc_3 := of_decide_eq_false hc_3
    refine WP_exit ?_
    refine T_x ?_
    refine T_x ?_
    refine B_x ?_
    refine T_n ?_
    refine WP_seq ?_
    refine WP_region ?_
    refine S_v E rfl (R_move E rfl) rfl ?_
    clear E a; intro a E
    refine S_v E rfl (R_assign E rfl) rfl ?_
    clear E a; intro a E
    refine WL_nil ?_
    refine T_n ?_
    refine WP_ret ?_
    replace S := S.reM (L' := (Sl.encS (keyL l0))) (congrArg Sl.encS (show keyL (l0.take k) = keyL l0 by (rw [List.take_of_length_le (by omega)])))
    exact F_ret1 E Try.results91 rfl ⟨_, rfl, M_2, _, hM_2, ⟨_, rfl, rfl⟩, S⟩

set_option maxRecDepth 100000 in
set_option maxHeartbeats 4000000 in
def Try.lsort_ren : Go.Shelf.Ren := ⟨fun | 5 => 118 | 8 => 115 | 7 => 139 | 19 => 129 | 20 => 130 | 10 => 145 | 11 => 146 | 12 => 147 | 13 => 148 | 14 => 149 | 15 => 150 | 16 => 151 | 17 => 152 | 18 => 153 | 30 => 155 | 31 => 156 | 32 => 157 | 33 => 158 | 34 => 159 | 35 => 160 | 40 => 161 | n => n, fun | 23 => 22 | 25 => 3 | 3 => 3 | 32 => 107 | 22 => 22 | 0 => 0 | 44 => 128 | 46 => 123 | 4 => 4 | 36 => 146 | 35 => 145 | 41 => 104 | 5 => 5 | 9 => 9 | 53 => 153 | 57 => 142 | 63 => 156 | 64 => 102 | n => n, fun | n => n⟩
set_option maxRecDepth 100000 in
set_option maxHeartbeats 4000000 in
theorem Try.lsort : Go.Proofs.SlLaysM.n5 Try.prog Try.lsort_ren := {
  mixed := by kernel_rfl,
  f5 := ⟨Try.f118.name, by decide, Try.func118.trans (congrArg some (by kernel_rfl))⟩,
  f7 := ⟨Try.f139.name, by decide, Try.func139.trans (congrArg some (by kernel_rfl))⟩,
  f8 := Try.func115.trans (congrArg some (by kernel_rfl)),
  f10 := ⟨Try.f145.name, by decide, Try.func145.trans (congrArg some (by kernel_rfl))⟩,
  f11 := ⟨Try.f146.name, by decide, Try.func146.trans (congrArg some (by kernel_rfl))⟩,
  f12 := ⟨Try.f147.name, by decide, Try.func147.trans (congrArg some (by kernel_rfl))⟩,
  f13 := ⟨Try.f148.name, by decide, Try.func148.trans (congrArg some (by kernel_rfl))⟩,
  f14 := ⟨Try.f149.name, by decide, Try.func149.trans (congrArg some (by kernel_rfl))⟩,
  f15 := ⟨Try.f150.name, by decide, Try.func150.trans (congrArg some (by kernel_rfl))⟩,
  f16 := ⟨Try.f151.name, by decide, Try.func151.trans (congrArg some (by kernel_rfl))⟩,
  f17 := ⟨Try.f152.name, by decide, Try.func152.trans (congrArg some (by kernel_rfl))⟩,
  f18 := ⟨Try.f153.name, by decide, Try.func153.trans (congrArg some (by kernel_rfl))⟩,
  f19 := Try.func129.trans (congrArg some (by kernel_rfl)),
  f20 := Try.func130.trans (congrArg some (by kernel_rfl)),
  f30 := ⟨Try.f155.name, by decide, Try.func155.trans (congrArg some (by kernel_rfl))⟩,
  f31 := Try.func156.trans (congrArg some (by kernel_rfl)),
  f32 := Try.func157.trans (congrArg some (by kernel_rfl)),
  f33 := ⟨Try.f158.name, by decide, Try.func158.trans (congrArg some (by kernel_rfl))⟩,
  f34 := ⟨Try.f159.name, by decide, Try.func159.trans (congrArg some (by kernel_rfl))⟩,
  f35 := ⟨Try.f160.name, by decide, Try.func160.trans (congrArg some (by kernel_rfl))⟩,
  f40 := ⟨Try.f161.name, by decide, Try.func161.trans (congrArg some (by kernel_rfl))⟩,
  t0 := Try.underlying0,
  a0 := Try.isAgg0,
  z0 := Try.sizeOf0,
  v0 := Try.zeroValue0,
  t3 := Try.underlying3,
  a3 := Try.isAgg3,
  z3 := Try.sizeOf3,
  v3 := Try.zeroValue3,
  t4 := Try.underlying4,
  a4 := Try.isAgg4,
  z4 := Try.sizeOf4,
  v4 := Try.zeroValue4,
  t5 := Try.underlying5,
  a5 := Try.isAgg5,
  z5 := Try.sizeOf5,
  v5 := Try.zeroValue5,
  t9 := Try.underlying9,
  a9 := Try.isAgg9,
  z9 := Try.sizeOf9,
  v9 := Try.zeroValue9,
  t22 := Try.underlying22,
  a22 := Try.isAgg22,
  z22 := Try.sizeOf22,
  v22 := Try.zeroValue22,
  t23 := Try.underlying22,
  a23 := Try.isAgg22,
  z23 := Try.sizeOf22,
  v23 := Try.zeroValue22,
  t25 := Try.underlying3,
  a25 := Try.isAgg3,
  z25 := Try.sizeOf3,
  v25 := Try.zeroValue3,
  t32 := Try.underlying107,
  a32 := Try.isAgg107,
  z32 := Try.sizeOf107,
  v32 := Try.zeroValue107,
  t35 := Try.underlying145,
  a35 := Try.isAgg145,
  z35 := Try.sizeOf145,
  v35 := Try.zeroValue145,
  t36 := Try.underlying146,
  a36 := Try.isAgg146,
  z36 := Try.sizeOf146,
  v36 := Try.zeroValue146,
  t41 := Try.underlying104,
  a41 := Try.isAgg104,
  z41 := Try.sizeOf104,
  v41 := Try.zeroValue104,
  t44 := Try.underlying128,
  a44 := Try.isAgg128,
  z44 := Try.sizeOf128,
  v44 := Try.zeroValue128,
  t46 := Try.underlying123,
  a46 := Try.isAgg123,
  z46 := Try.sizeOf123,
  v46 := Try.zeroValue123,
  t53 := Try.underlying153,
  a53 := Try.isAgg153,
  z53 := Try.sizeOf153,
  v53 := Try.zeroValue153,
  t57 := Try.underlying142,
  a57 := Try.isAgg142,
  z57 := Try.sizeOf142,
  v57 := Try.zeroValue142,
  t63 := Try.underlying156,
  a63 := Try.isAgg156,
  z63 := Try.sizeOf156,
  v63 := Try.zeroValue156,
  t64 := Try.underlying102,
  a64 := Try.isAgg102,
  z64 := Try.sizeOf102,
  v64 := Try.zeroValue102 }
theorem slices_Sort {M : Hp} {v0 : Value} {l0 : List Int} (b0 : l0.length ≤ 1000000000000) :
    Sp Try.prog (.func (.func 118) #[] #[]) M [v0] [OwnI 3 v0 l0] (fun r M' C' => C' = [OwnI 3 v0 (srtM l0)]) :=
  sort_sp Try.call118 (fun blk off cap zs w a b c => AnyM.slices_Sort_int Try.lsort blk off cap zs w a b c) (fun p cap w => AnyM.slices_Sort_int_none Try.lsort p cap w) b0

set_option maxRecDepth 100000 in
set_option maxHeartbeats 4000000 in
theorem sort_Ints {M : Hp} {v0 : Value} {l0 : List Int} (b0 : l0.length ≤ 1000000000000) :
    Sp Try.prog (.func (.func 102) #[] #[]) M [v0] [OwnI 3 v0 l0] (fun r M' C' => C' = [OwnI 3 v0 (srtM l0)]) := by
  refine Sp_enter Try.func102 rfl Try.ntmps102 rfl Try.call102 ?_
  intro a w M1 H hM1 S E
  replace S : St w M1 (OwnI 3 v0 l0 :: _) := S
  refine WP_region ?_
  refine S_v E rfl (R_move E rfl) rfl ?_
  clear E a; intro a E
  refine S_x (X_sp (p := [OwnI 3 v0 l0]) E S rfl rfl rfl (slices_Sort (by (first | omega | (simp; omega) | (simp; done) | (simp_all; omega) | grind))) (Hp.le.refl _) ?_)
  clear E a S; rintro a v_2 w M_1 _ hM_1 rfl S E
  replace S : St w M_1 (OwnI 3 v0 (srtM l0) :: _) := S
  refine WL_nil ?_
  refine F_nrm ?_
  exact F_ret0 E Try.results102 ⟨_, rfl, M_1, _, hM_1, rfl, S⟩

set_option maxRecDepth 100000 in
set_option maxHeartbeats 4000000 in
theorem impl_keys {M : Hp} {m0 : Value} {q0 : List Int} (hm0 : RdM M m0 (Sl.encS q0)) (hb : q0.length ≤ 1000000000000) :
    Pu Try.prog (.func (.func 90) #[] #[]) M [m0] (fun r M' => RdI M' r (srtM q0)) := by
  refine Pu_enter Try.func90 rfl Try.ntmps90 rfl Try.call90 ?_
  intro a w M1 H hM1 S E
  replace hm0 := hm0.le hM1
  refine WP_seq ?_
  refine WP_region ?_
  refine S_v E rfl (R_assign E rfl) rfl ?_
  clear E a; intro a E
  refine WL_nil ?_
  refine T_n ?_
  refine WP_seq ?_
  refine WP_region ?_
  refine S_v E rfl (R_assign E rfl) rfl ?_
  clear E a; intro a E
  refine WL_nil ?_
  refine T_n ?_
  refine WP_seq ?_
  refine WP_seq ?_
  refine WP_region ?_
  refine S_v E rfl (R_move E rfl) rfl ?_
  clear E a; intro a E
  refine S_x (X_range E S rfl MT93 hm0 rfl ?_)
  clear E a S; rintro a w i_1 es_2 ck_3 E hf_4 S
  replace S : St w M1 (ItO m0 es_2 ck_3 i_1 (Sl.encS ([] : List Int)) :: _) := S
  refine WL_nil ?_
  refine T_n ?_
  refine WP_block ?_
  replace S := (S.ownNil (e := 3) (sz := 1)).made0
  replace S := S.front1
  replace S := S.front1
  replace S := S.re1 (l' := []) (by first | rfl | (simp; done))
  replace S := S.front1
  replace S := S.reIt (p' := (Sl.encS [])) (congrArg Sl.encS (show ([] : List Int) = [] by first | rfl | (simp; done)))
  refine WP_loop (γ := List Int) (fun (p : List Int) a w => ∃ (M_6 : Hp) (u3 : Value), Hp.le M1 M_6 ∧ St w M_6 (ItO m0 es_2 ck_3 i_1 (Sl.encS p) :: OwnI 3 u3 p :: H) ∧ Env a 18 [] [(3, u3), (6, .pointer (some ⟨i_1, 0, none⟩))] ∧ (p.Nodup) ∧ (∀ z ∈ p, z ∈ q0) ∧ (p.length ≤ q0.length)) (fun p => q0.length - p.length) [] ⟨M1, _, Hp.le.refl _, S, E.keep ⟨rfl, rfl, trivial⟩, (by simp), (by simp), (by simp)⟩ ?_
  try clear E
  try clear S
  try clear a
  try clear w
  rintro p a w ⟨M_6, u3, hM_6, S, E, hL0_0, hL0_1, hL0_2⟩
  replace hm0 := hm0.le hM_6
  replace hf_4 := hf_4.le hM_6
  refine WP_seq ?_
  refine WP_region ?_
  refine S_x (X_nextS E S rfl hf_4 rfl (by assumption) (by assumption) ?_ ?_)
  · clear E a S; rintro a E hpm_7 S
    refine S_v E rfl (R_extract E rfl rfl) rfl ?_
    clear E a; intro a E
    refine WL_nil ?_
    refine T_n ?_
    refine WP_seq ?_
    refine WP_condF E rfl rfl ?_
    refine WP_exit ?_
    refine T_x ?_
    refine T_x ?_
    refine B_x ?_
    refine T_n ?_
    refine WP_seq ?_
    refine WP_region ?_
    refine S_v E rfl (R_move E rfl) rfl ?_
    clear E a; intro a E
    replace S := S.front1
    refine S_x (X_sp (p := [OwnI 3 u3 p]) E S rfl rfl rfl (sort_Ints (by (first | omega | (simp; omega) | (simp; done) | (simp_all; omega) | grind))) (Hp.le.refl _) ?_)
    clear E a S; rintro a v_9 w M_8 _ hM_8 rfl S E
    replace S : St w M_8 (OwnI 3 u3 (srtM p) :: _) := S
    replace hm0 := hm0.le hM_8
    replace hf_4 := hf_4.le hM_8
    refine WL_nil ?_
    refine T_n ?_
    refine WP_seq ?_
    refine WP_region ?_
    refine S_v E rfl (R_move E rfl) rfl ?_
    clear E a; intro a E
    refine S_v E rfl (R_assign E rfl) rfl ?_
    clear E a; intro a E
    refine WL_nil ?_
    refine T_n ?_
    refine WP_ret ?_
    have S0 := S; clear S
    obtain ⟨M_10, hM_10, hz_11, S⟩ := S0.freezeI (by (first | (rw [srtM_len]; omega) | omega | (simp; omega)))
    clear S0
    replace hm0 := hm0.le hM_10
    replace hf_4 := hf_4.le hM_10
    exact F_ret1 E Try.results90 rfl ⟨_, rfl, M_10, (hM_6.trans (hM_8.trans hM_10)), (by rw [show (srtM q0) = (srtM p) from by (first | exact srtM_perm_eq (by assumption) | exact (srtM_perm_eq (by assumption)).symm)]; exact hz_11), S.drop⟩
  · clear E a S w; rintro a w k_12 E hk_13 hk_13n hk_13l S
    refine S_v E rfl (R_extract E rfl rfl) rfl ?_
    clear E a; intro a E
    refine WL_nil ?_
    refine T_n ?_
    refine WP_seq ?_
    refine WP_condT E rfl rfl ?_
    refine WP_skip ?_
    refine T_n ?_
    refine WP_block ?_
    refine WP_seq ?_
    refine WP_region ?_
    refine S_v E rfl (R_entry (k := k_12) (v := .agg #[]) E (by have S1 := S; simp only [Sl.encS, List.map_append, List.map_cons, List.map_nil] at S1; exact S1) hf_4 rfl) rfl ?_
    clear E a; intro a E
    refine S_v E rfl (R_extract E rfl rfl) rfl ?_
    clear E a; intro a E
    refine S_v E rfl (R_assign E rfl) rfl ?_
    clear E a; intro a E
    refine WL_nil ?_
    refine T_n ?_
    refine WP_region ?_
    refine S_v E rfl (R_move E rfl) rfl ?_
    clear E a; intro a E
    refine S_v E rfl (R_move E rfl) rfl ?_
    clear E a; intro a E
    refine S_x (X_buildI (ys := [k_12]) E S rfl T22 rfl rfl rfl ?_)
    clear E a S; rintro a w v_14 E S
    replace S := S.front2
    replace S := S.front1
    refine S_x (X_appendB (xs := p) (ys := [k_12]) E S rfl rfl rfl T22 (by first | omega | (simp; done) | (simp; omega) | (simp_all; omega)) ?_)
    clear E a S; rintro a w v_15 E S
    refine S_v E rfl (R_assign E rfl) rfl ?_
    clear E a; intro a E
    refine WL_nil ?_
    refine B_n ?_
    refine T_n ?_
    replace S := S.front1
    replace S := S.front1
    replace S := S.re1 (l' := (p ++ [k_12])) (by first | rfl | (simp; done))
    replace S := S.front1
    replace S := S.reIt (p' := (Sl.encS (p ++ [k_12]))) (congrArg Sl.encS (show p ++ [k_12] = (p ++ [k_12]) by first | rfl | (simp; done)))
    exact ⟨(p ++ [k_12]), ⟨M_6, _, hM_6, S, E.keep ⟨rfl, rfl, trivial⟩, (by exact snocN (by assumption) (by assumption)), (by exact snocS (by assumption) (by assumption)), (by simp; omega)⟩, (by simp; omega)⟩

set_option maxRecDepth 100000 in
set_option maxHeartbeats 4000000 in
theorem impl_Keyify {M : Hp} {v0 : Value} {l0 : List Int} (h0 : RdI M v0 l0) (hb : l0.length ≤ 1000000000000) :
    Pu Try.prog (.func (.func 51) #[] #[]) M [v0] (fun r M' => RdI M' r (srtM (keyL l0))) := by
  refine Pu_enter Try.func51 rfl Try.ntmps51 rfl Try.call51 ?_
  intro a w M1 H hM1 S E
  replace h0 := h0.le hM1
  have b0 := h0.bound
  have hkl := keyL_le' l0
  refine WP_seq ?_
  refine WP_region ?_
  refine S_v E rfl (R_assign E rfl) rfl ?_
  clear E a; intro a E
  refine WL_nil ?_
  refine T_n ?_
  refine WP_seq ?_
  refine WP_region ?_
  refine S_v E rfl (R_move E rfl) rfl ?_
  clear E a; intro a E
  refine S_x (X_sp (p := []) E S rfl rfl rfl (lo_Keyify h0) (Hp.le.refl _) ?_)
  clear E a S; rintro a _ w M_1 _ hM_1 ⟨v_2, rfl, rfl⟩ S E
  replace S : St w M_1 (OwnS v_2 (keyL l0) :: _) := S
  replace h0 := h0.le hM_1
  have S0 := S; clear S
  obtain ⟨M_3, hM_3, hm_4, S⟩ := S0.freezeM
  clear S0
  replace h0 := h0.le hM_3
  refine S_x (X_pu E S rfl rfl rfl (impl_keys hm_4 (by (first | omega | (simp; omega) | (simp; done) | (simp_all; omega) | grind))) (Hp.le.refl _) ?_)
  clear E a S; rintro a v_6 w M_5 hM_5 hv_6 S E
  replace h0 := h0.le hM_5
  replace hm_4 := hm_4.le hM_5
  refine S_v E rfl (R_assign E rfl) rfl ?_
  clear E a; intro a E
  refine WL_nil ?_
  refine T_n ?_
  refine WP_ret ?_
  exact F_ret1 E Try.results51 rfl ⟨_, rfl, M_5, (hM_1.trans (hM_3.trans hM_5)), hv_6, S⟩

set_option maxRecDepth 100000 in
set_option maxHeartbeats 4000000 in
theorem lo_Map {M : Hp} {v0 : Value} {l0 : List Int} (h0 : RdI M v0 l0){v1 : Value} {f1 : Int → Int → Int} (h1 : PF2I Try.prog v1 M f1) (hb : l0.length ≤ 1000000000000) :
    Pu Try.prog (.func (.func 92) #[] #[]) M [v0, v1] (fun r M' => RdI M' r (mapI f1 0 l0)) := by
  refine Pu_enter Try.func92 rfl Try.ntmps92 rfl Try.call92 ?_
  intro a w M1 H hM1 S E
  replace h0 := h0.le hM1
  replace h1 := h1.le hM1
  have b0 := h0.bound
  refine WP_seq ?_
  refine WP_region ?_
  refine S_v E rfl (R_assign E rfl) rfl ?_
  clear E a; intro a E
  refine WL_nil ?_
  refine T_n ?_
  refine WP_seq ?_
  refine WP_region ?_
  refine S_v E rfl (R_move E rfl) rfl ?_
  clear E a; intro a E
  refine S_v E rfl (R_lenV E rfl T22 h0.len) rfl ?_
  clear E a; intro a E
  refine S_x (X_makeN (k := (l0).length) E S rfl rfl rfl T22 (by omega) (by omega) (by omega) (by omega) ?_)
  clear E a S; rintro a w v_1 E S
  replace S := S.madeI
  refine S_v E rfl (R_assign E rfl) rfl ?_
  clear E a; intro a E
  refine WL_nil ?_
  refine T_n ?_
  refine WP_seq ?_
  refine WP_seq ?_
  refine WP_region ?_
  refine S_v E rfl (R_move E rfl) rfl ?_
  clear E a; intro a E
  refine S_v E rfl (R_lenV E rfl T22 h0.len) rfl ?_
  clear E a; intro a E
  refine S_v E rfl (R_move E rfl) rfl ?_
  clear E a; intro a E
  refine WL_nil ?_
  refine T_n ?_
  refine WP_block ?_
  replace S := S.re1 (l' := mapI f1 0 (l0.take 0) ++ List.replicate (l0.length - (mapI f1 0 (l0.take 0)).length) 0) (by first | (simp [mapI]; done) | (rw [show k = (mapI f1 0 (l0.take k)).length from hml2.symm]; rw [set_fill (by omega) (mapI_succ (by assumption))]; done) | (have e := set_fill (p := mapI f1 0 (l0.take k)) (n := l0.length) (by omega) (mapI_succ (f := f1) (by assumption)); rw [hml2] at e; rw [hml2]; exact e))
  refine WP_loop (γ := Nat) (fun (k : Nat) a w => ∃ (M_2 : Hp), Hp.le M1 M_2 ∧ St w M_2 (OwnI 3 v_1 (mapI f1 0 (l0.take k) ++ List.replicate (l0.length - (mapI f1 0 (l0.take k)).length) 0) :: H) ∧ Env a 27 [] [(0, v0), (1, v1), (5, v_1), (11, .int .i64 (((l0).length : Nat) : Int)), (12, .int .i64 ((k : Nat) : Int))] ∧ (k ≤ (l0).length)) (fun k => ((l0).length) - k) 0 ⟨M1, Hp.le.refl _, S, E.keep ⟨rfl, rfl, rfl, rfl, rfl, trivial⟩, by ((try clear S); (try clear E); first | assumption | omega | rfl | (simp; done) | (simp_all; done) | (simp [List.take_add_one, *]; done) | grind [List.take_add_one])⟩ ?_
  try clear E
  try clear S
  try clear a
  try clear w
  rintro k a w ⟨M_2, hM_2, S, E, hL0_0⟩
  replace h0 := h0.le hM_2
  replace h1 := h1.le hM_2
  have hml := mapI_len f1 (l0.take k) 0; simp only [List.length_take] at hml; have hml2 : (mapI f1 0 (l0.take k)).length = k := by omega
  refine WP_seq ?_
  refine WP_region ?_
  refine S_v E rfl (R_lss E rfl rfl) rfl ?_
  clear E a; intro a E
  refine WL_nil ?_
  refine T_n ?_
  refine WP_seq ?_
  refine WP_cond E rfl (fun hc_3 => ?_) (fun hc_3 => ?_)
  · replace hc_3 := of_decide_eq_true hc_3
    refine WP_skip ?_
    refine T_n ?_
    refine WP_seq ?_
    refine WP_block ?_
    refine WP_seq ?_
    refine WP_region ?_
    refine S_v E rfl (R_move E rfl) rfl ?_
    clear E a; intro a E
    refine S_v E rfl (R_assign E rfl) rfl ?_
    clear E a; intro a E
    refine WL_nil ?_
    refine T_n ?_
    refine WP_region ?_
    refine S_v E rfl (R_move E rfl) rfl ?_
    clear E a; intro a E
    refine S_v E rfl (R_move E rfl) rfl ?_
    clear E a; intro a E
    refine S_v E rfl (R_move E rfl) rfl ?_
    clear E a; intro a E
    refine S_v E rfl (R_move E rfl) rfl ?_
    clear E a; intro a E
    refine S_v E rfl (R_move E rfl) rfl ?_
    clear E a; intro a E
    obtain ⟨x_4, hx_4⟩ : ∃ x, (l0)[k]? = some x := ⟨_, List.getElem?_eq_getElem (by first | omega | (simp; done) | (simp; omega) | (simp_all; omega))⟩
    obtain ⟨p_5, hp_5, qp_5⟩ := h0.at hx_4
    refine S_v E rfl (R_idx E rfl rfl T22 hp_5 rfl) rfl ?_
    clear E a; intro a E
    refine S_v E rfl (R_loadM E rfl Try.isAgg3 S.imm qp_5) rfl ?_
    clear E a; intro a E
    refine S_v E rfl (R_move E rfl) rfl ?_
    clear E a; intro a E
    refine S_x (X_pu E S rfl rfl rfl (h1.2 x_4 ((k : Nat) : Int)) (Hp.le.refl _) ?_)
    clear E a S; rintro a _ w M_6 hM_6 rfl S E
    replace h0 := h0.le hM_6
    replace h1 := h1.le hM_6
    obtain ⟨p_7, hp_7⟩ := S.ptrC (k := k) (by first | omega | (simp; done) | (simp; omega) | (simp_all; omega))
    refine S_v E rfl (R_idx E rfl rfl T22 hp_7 rfl) rfl ?_
    clear E a; intro a E
    refine S_x0 (X_storeI E S rfl rfl (Try.sizeOf3 _) hp_7 ?_)
    clear E a S; rintro a w E S
    refine WL_nil ?_
    refine B_n ?_
    refine T_n ?_
    refine WP_region ?_
    refine S_v E rfl (R_addx (m := ((k + 1 : Nat) : Int)) E rfl rfl (by omega) (by omega)) rfl ?_
    clear E a; intro a E
    refine S_v E rfl (R_move E rfl) rfl ?_
    clear E a; intro a E
    refine WL_nil ?_
    refine T_n ?_
    replace S := S.re1 (l' := mapI f1 0 (l0.take (k + 1)) ++ List.replicate (l0.length - (mapI f1 0 (l0.take (k + 1))).length) 0) (by first | (simp [mapI]; done) | (rw [show k = (mapI f1 0 (l0.take k)).length from hml2.symm]; rw [set_fill (by omega) (mapI_succ (by assumption))]; done) | (have e := set_fill (p := mapI f1 0 (l0.take k)) (n := l0.length) (by omega) (mapI_succ (f := f1) (by assumption)); rw [hml2] at e; rw [hml2]; exact e))
    exact ⟨k + 1, ⟨M_6, (hM_2.trans hM_6), S, E.keep ⟨rfl, rfl, rfl, rfl, rfl, trivial⟩, by ((try clear S); (try clear E); first | assumption | omega | rfl | (simp; done) | (simp_all; done) | (simp [List.take_add_one, *]; done) | grind [List.take_add_one])⟩, by omega⟩
  · replace hc_3 := of_decide_eq_false hc_3
    refine WP_exit ?_
    refine T_x ?_
    refine T_x ?_
    refine B_x ?_
    refine T_n ?_
    refine WP_seq ?_
    refine WP_region ?_
    refine S_v E rfl (R_move E rfl) rfl ?_
    clear E a; intro a E
    refine S_v E rfl (R_assign E rfl) rfl ?_
    clear E a; intro a E
    refine WL_nil ?_
    refine T_n ?_
    refine WP_ret ?_
    have S0 := S; clear S
    obtain ⟨M_8, hM_8, hz_9, S⟩ := S0.freezeI (by (have hml := mapI_len f1 (l0.take k) 0; simp only [List.length_take] at hml; simp; omega))
    clear S0
    replace h0 := h0.le hM_8
    replace h1 := h1.le hM_8
    exact F_ret1 E Try.results92 rfl ⟨_, rfl, M_8, (hM_2.trans hM_8), (by rw [show (mapI f1 0 l0) = (mapI f1 0 (l0.take k) ++ List.replicate (l0.length - (mapI f1 0 (l0.take k)).length) 0) from by (have hml := mapI_len f1 (l0.take k) 0; simp only [List.length_take] at hml; rw [show l0.length - (mapI f1 0 (l0.take k)).length = 0 by omega, List.take_of_length_le (by omega)]; simp)]; exact hz_9), S⟩

set_option maxRecDepth 100000 in
set_option maxHeartbeats 4000000 in
theorem impl_Map {M : Hp} {v0 : Value} {l0 : List Int} (h0 : RdI M v0 l0){kk1 kn1 : Int} (gk1 : -9223372036854775808 ≤ kn1 ∧ kn1 ≤ 9223372036854775807) (hb : l0.length ≤ 1000000000000) :
    Pu Try.prog (.func (.func 52) #[] #[]) M [v0, .agg #[.int .i64 kk1, .int .i64 kn1]] (fun r M' => RdI M' r (mapI (keyAt kk1 kn1) 0 l0)) := by
  refine Pu_enter Try.func52 rfl Try.ntmps52 rfl Try.call52 ?_
  intro a w M1 H hM1 S E
  replace h0 := h0.le hM1
  have b0 := h0.bound
  refine WP_seq ?_
  refine WP_region ?_
  refine S_x (X_box (cs := #[.int .i64 kk1, .int .i64 kn1]) E S rfl rfl rfl ?_)
  clear E a S; rintro a w b_1 E S
  obtain ⟨M_2, hM_2, hb_1, S⟩ := S.freezeB
  replace h0 := h0.le hM_2
  refine S_v E rfl (R_assign E rfl) rfl ?_
  clear E a; intro a E
  refine WL_nil ?_
  refine T_n ?_
  refine WP_seq ?_
  refine WP_region ?_
  refine S_v E rfl (R_move E rfl) rfl ?_
  clear E a; intro a E
  refine S_v E rfl (R_loadGM E rfl (Try.isAgg24 _) (Try.sizeOf24 _) S.imm hb_1) rfl ?_
  clear E a; intro a E
  refine S_v E rfl (R_makeFunc E rfl rfl) rfl ?_
  clear E a; intro a E
  refine S_x (X_pu E S rfl rfl rfl (lo_Map h0 ⟨rfl, fun zx1 zx2 => Key_at (x1 := zx1) (x2 := zx2) (by omega)⟩ (by (first | omega | (simp; omega) | (simp; done) | (simp_all; omega) | grind))) (Hp.le.refl _) ?_)
  clear E a S; rintro a v_4 w M_3 hM_3 hv_4 S E
  replace h0 := h0.le hM_3
  replace hb_1 := hM_3.2 _ _ hb_1
  refine S_v E rfl (R_assign E rfl) rfl ?_
  clear E a; intro a E
  refine WL_nil ?_
  refine T_n ?_
  refine WP_ret ?_
  exact F_ret1 E Try.results52 rfl ⟨_, rfl, M_3, (hM_2.trans hM_3), hv_4, S⟩

set_option maxRecDepth 100000 in
set_option maxHeartbeats 4000000 in
theorem laws_FnSortedness {M : Hp} {v0 : Value} {l0 : List Int} (h0 : RdI M v0 l0){kk1 kn1 : Int} (gk1 : -9223372036854775808 ≤ kn1 ∧ kn1 ≤ 9223372036854775807) (hr0 : (∀ x ∈ l0, -9223372036854775808 ≤ x ∧ x ≤ 9223372036854775807)) :
    PuC Try.prog 7 M [v0, .agg #[.int .i64 kk1, .int .i64 kn1]] (fun r M' => r = .bool true) := by
  refine PuC_enter Try.func7 rfl Try.ntmps7 rfl ?_
  intro a w M1 H hM1 S E
  replace h0 := h0.le hM1
  have b0 := h0.bound
  refine WP_seq ?_
  refine WP_region ?_
  refine S_x (X_box (cs := #[.int .i64 kk1, .int .i64 kn1]) E S rfl rfl rfl ?_)
  clear E a S; rintro a w b_1 E S
  obtain ⟨M_2, hM_2, hb_1, S⟩ := S.freezeB
  replace h0 := h0.le hM_2
  refine S_v E rfl (R_assign E rfl) rfl ?_
  clear E a; intro a E
  refine WL_nil ?_
  refine T_n ?_
  refine WP_seq ?_
  refine WP_seq ?_
  refine WP_region ?_
  refine S_v E rfl (R_move E rfl) rfl ?_
  clear E a; intro a E
  refine S_v E rfl (R_lenV E rfl T22 h0.len) rfl ?_
  clear E a; intro a E
  refine S_v E rfl (R_gtr E rfl rfl) rfl ?_
  clear E a; intro a E
  refine WL_nil ?_
  refine T_n ?_
  refine WP_cond E rfl (fun hc_3 => ?_) (fun hc_3 => ?_)
  · replace hc_3 := of_decide_eq_true hc_3
    refine WP_seq ?_
    refine WP_region ?_
    refine S_v E rfl (R_assign E rfl) rfl ?_
    clear E a; intro a E
    refine WL_nil ?_
    refine T_n ?_
    refine WP_ret ?_
    refine T_r ?_
    exact F_ret1 E Try.results7 rfl ⟨_, rfl, M_2, hM_2, rfl, S⟩
  · replace hc_3 := of_decide_eq_false hc_3
    refine WP_skip ?_
    refine T_n ?_
    refine WP_seq ?_
    refine WP_seq ?_
    refine WP_region ?_
    refine S_x (X_pu E S rfl rfl rfl (impl_IsSorted (RdS.nil _)) (Hp.le.refl _) ?_)
    clear E a S; rintro a _ w M_4 hM_4 rfl S E
    replace h0 := h0.le hM_4
    replace hb_1 := hM_4.2 _ _ hb_1
    refine S_v E rfl (R_not E rfl) rfl ?_
    clear E a; intro a E
    refine WL_nil ?_
    refine T_n ?_
    have hc_5 : (!(decide (SortedI ([] : List Int)))) = false := by (clear E S; first | (simp; done) | decide | (simp only [etk, etm]; simp; done) | (simp [SortedI]; done) | (rw [key0_map hr0, etk]; simp; done) | (rw [mapI_map (keyAt_free hk4), etm]; simp; done) | exact decide_eq_true (srtM_sorted _) | (simp [srtM_sorted]; done))
    refine WP_condF E rfl hc_5 ?_
    refine WP_skip ?_
    refine T_n ?_
    refine WP_seq ?_
    refine WP_seq ?_
    refine WP_region ?_
    refine S_v E rfl (R_move E rfl) rfl ?_
    clear E a; intro a E
    refine S_x (X_buildM (R := RSl 1 RInt) (vs := [v0]) (xs := [l0]) (RSl_mono RInt_mono) E S rfl T54 rfl rfl rfl (by intro u hu; simp only [List.mem_cons, List.not_mem_nil, or_false] at hu; rcases hu with rfl <;> first | exact RdI.one h0 | rfl) rfl (rowsC (R := RSl 1 RInt) (RdI.row h0) rowsN) ?_)
    clear E a S; rintro a v_6 w M_7 hM_7 hv_6 S E
    replace hv_6 : RdII M_7 v_6 [l0] := hv_6
    replace h0 := h0.le hM_7
    replace hb_1 := hM_7.2 _ _ hb_1
    refine S_x (X_pu E S rfl rfl rfl (laws_few hv_6) (Hp.le.refl _) ?_)
    clear E a S; rintro a _ w M_8 hM_8 rfl S E
    replace h0 := h0.le hM_8
    replace hb_1 := hM_8.2 _ _ hb_1
    replace hv_6 := hv_6.le hM_8
    refine S_v E rfl (R_not E rfl) rfl ?_
    clear E a; intro a E
    refine S_v E rfl (R_move E rfl) rfl ?_
    clear E a; intro a E
    refine split_bool (!(decide (∀ x ∈ [l0], x.length ≤ 300))) (fun hc_9 => ?_) (fun hc_9 => ?_)
    · replace E := E.val (t := 16) rfl hc_9
      replace E := E.val (t := 17) rfl hc_9
      refine WL_guard_no E rfl rfl rfl rfl fun a E => ?_
      refine WL_guard_no E rfl rfl rfl rfl fun a E => ?_
      refine WL_guard_no E rfl rfl rfl rfl fun a E => ?_
      refine S_v E rfl (R_pickT E rfl rfl) rfl ?_
      clear E a; intro a E
      refine S_v E rfl (R_move E rfl) rfl ?_
      clear E a; intro a E
      refine WL_guard_no E rfl rfl rfl rfl fun a E => ?_
      refine WL_guard_no E rfl rfl rfl rfl fun a E => ?_
      refine WL_guard_no E rfl rfl rfl rfl fun a E => ?_
      refine S_v E rfl (R_pickT E rfl rfl) rfl ?_
      clear E a; intro a E
      refine WL_nil ?_
      refine T_n ?_
      refine WP_condT E rfl rfl ?_
      refine WP_seq ?_
      refine WP_region ?_
      refine S_v E rfl (R_assign E rfl) rfl ?_
      clear E a; intro a E
      refine WL_nil ?_
      refine T_n ?_
      refine WP_ret ?_
      refine T_r ?_
      exact F_ret1 E Try.results7 rfl ⟨_, rfl, M_8, (hM_2.trans (hM_4.trans (hM_7.trans hM_8))), rfl, S⟩
    · replace E := E.val (t := 16) rfl hc_9
      replace E := E.val (t := 17) rfl hc_9
      refine WL_guard_yes E rfl rfl ?_
      refine S_v E rfl (R_loadGM E rfl (Try.isAgg24 _) (Try.sizeOf24 _) S.imm hb_1) rfl ?_
      clear E a; intro a E
      refine WL_guard_yes E rfl rfl ?_
      refine S_x (X_pu E S rfl rfl rfl (laws_just (by omega)) (Hp.le.refl _) ?_)
      clear E a S; rintro a _ w M_10 hM_10 rfl S E
      replace h0 := h0.le hM_10
      replace hb_1 := hM_10.2 _ _ hb_1
      replace hv_6 := hv_6.le hM_10
      refine WL_guard_yes E rfl rfl ?_
      refine S_v E rfl (R_not E rfl) rfl ?_
      clear E a; intro a E
      refine S_v E rfl (R_pickF E rfl rfl) rfl ?_
      clear E a; intro a E
      refine S_v E rfl (R_move E rfl) rfl ?_
      clear E a; intro a E
      refine split_bool (!(decide (-1099511627776 < kn1 ∧ kn1 < 1099511627776))) (fun hc_11 => ?_) (fun hc_11 => ?_)
      · replace E := E.val (t := 20) rfl hc_11
        replace E := E.val (t := 21) rfl hc_11
        replace E := E.val (t := 22) rfl hc_11
        refine WL_guard_no E rfl rfl rfl rfl fun a E => ?_
        refine WL_guard_no E rfl rfl rfl rfl fun a E => ?_
        refine WL_guard_no E rfl rfl rfl rfl fun a E => ?_
        refine S_v E rfl (R_pickT E rfl rfl) rfl ?_
        clear E a; intro a E
        refine WL_nil ?_
        refine T_n ?_
        refine WP_condT E rfl rfl ?_
        refine WP_seq ?_
        refine WP_region ?_
        refine S_v E rfl (R_assign E rfl) rfl ?_
        clear E a; intro a E
        refine WL_nil ?_
        refine T_n ?_
        refine WP_ret ?_
        refine T_r ?_
        exact F_ret1 E Try.results7 rfl ⟨_, rfl, M_10, (hM_2.trans (hM_4.trans (hM_7.trans (hM_8.trans hM_10)))), rfl, S⟩
      · replace E := E.val (t := 20) rfl hc_11
        replace E := E.val (t := 21) rfl hc_11
        replace E := E.val (t := 22) rfl hc_11
        refine WL_guard_yes E rfl rfl ?_
        refine S_v E rfl (R_fieldAddr E rfl (FA24_0 _)) rfl ?_
        clear E a; intro a E
        refine WL_guard_yes E rfl rfl ?_
        refine S_v E rfl (R_loadM E rfl Try.isAgg3 S.imm (cellM_boxo hb_1 rfl)) rfl ?_
        clear E a; intro a E
        refine WL_guard_yes E rfl rfl ?_
        refine S_v E rfl (R_eql E rfl rfl) rfl ?_
        clear E a; intro a E
        refine S_v E rfl (R_pickF E rfl rfl) rfl ?_
        clear E a; intro a E
        refine WL_nil ?_
        refine T_n ?_
        refine WP_cond E rfl (fun hc_12 => ?_) (fun hc_12 => ?_)
        · replace hc_12 := of_decide_eq_true hc_12
          refine WP_seq ?_
          refine WP_region ?_
          refine S_v E rfl (R_assign E rfl) rfl ?_
          clear E a; intro a E
          refine WL_nil ?_
          refine T_n ?_
          refine WP_ret ?_
          refine T_r ?_
          exact F_ret1 E Try.results7 rfl ⟨_, rfl, M_10, (hM_2.trans (hM_4.trans (hM_7.trans (hM_8.trans hM_10)))), rfl, S⟩
        · replace hc_12 := of_decide_eq_false hc_12
          have hkj : -1099511627776 < kn1 ∧ kn1 < 1099511627776 := (by simp_all)
          have hln : l0.length ≤ 300 := (by simp_all)
          have hk4 : ¬ kk1 = 4 := (by assumption)
          refine WP_skip ?_
          refine T_n ?_
          refine WP_seq ?_
          refine WP_region ?_
          refine S_v E rfl (R_assign E rfl) rfl ?_
          clear E a; intro a E
          refine S_v E rfl (R_assign E rfl) rfl ?_
          clear E a; intro a E
          refine WL_nil ?_
          refine T_n ?_
          refine WP_seq ?_
          refine WP_seq ?_
          refine WP_region ?_
          refine S_v E rfl (R_assign E rfl) rfl ?_
          clear E a; intro a E
          refine WL_nil ?_
          refine T_n ?_
          refine WP_block ?_
          refine WP_loop (γ := Nat) (fun (k : Nat) a w => ∃ (M_13 : Hp), Hp.le M_10 M_13 ∧ St w M_13 (H) ∧ Env a 120 [] [(0, v0), (3, .pointer (some ⟨b_1, 0, none⟩)), (5, .bool (decide (SortedI (l0.take (k + 1))))), (6, .bool (decide (SortedI ((l0.map (fun x => keyAt kk1 kn1 x 0)).take (k + 1))))), (7, .int .i64 ((k + 1 : Nat) : Int))] ∧ (k ≤ l0.length)) (fun k => l0.length - k) 0 ⟨M_10, Hp.le.refl _, S, E.keep ⟨rfl, rfl, look_bool (i := true) rfl (by (exact (decide_eq_true (asc_one (by omega))).symm)), look_bool (i := true) rfl (by (exact (decide_eq_true (asc_one (by omega))).symm)), look_nat (i := 1) rfl (by (rfl)), trivial⟩, (by omega)⟩ ?_
          try clear E
          try clear S
          try clear a
          try clear w
          rintro k a w ⟨M_13, hM_13, S, E, hL0_0⟩
          replace h0 := h0.le hM_13
          replace hb_1 := hM_13.2 _ _ hb_1
          replace hv_6 := hv_6.le hM_13
          refine WP_seq ?_
          refine WP_seq ?_
          refine WP_region ?_
          refine S_v E rfl (R_move E rfl) rfl ?_
          clear E a; intro a E
          refine S_v E rfl (R_move E rfl) rfl ?_
          clear E a; intro a E
          refine S_v E rfl (R_lenV E rfl T22 h0.len) rfl ?_
          clear E a; intro a E
          refine S_v E rfl (R_lss E rfl rfl) rfl ?_
          clear E a; intro a E
          refine WL_nil ?_
          refine T_n ?_
          refine WP_cond E rfl (fun hc_14 => ?_) (fun hc_14 => ?_)
          · replace hc_14 := of_decide_eq_true hc_14
            refine WP_skip ?_
            refine T_n ?_
            refine WP_seq ?_
            refine WP_block ?_
            refine WP_seq ?_
            have hb_1k14 := hb_1
            replace S := S.mono_heap (w' := World.drew _) rfl
            refine WP_drawn (C := fun x w => agree M_13 w) (bf := (fun i => [])) [0, 1, 2, 3, 4, 5, 6, 7, 8, 9, 10, 11, 12, 13] [0, 1, 2, 3, 4, 5, 6, 7, 8, 9, 10, 11, 12, 13] Try.mixed (by kernel_rfl) (fun x hq => S.imm) ?_
            refine D_v E rfl rfl rfl (fun w hC => (R_move E rfl)) ?_
            clear E a; intro a E
            refine D_v E rfl rfl rfl (fun w hC => (R_move E rfl)) ?_
            clear E a; intro a E
            refine split_bool (decide (SortedI (l0.take (k + 1)))) (fun hc_15 => ?_) (fun hc_15 => ?_)
            · replace E := E.val (t := 5) rfl hc_15
              replace E := E.val (t := 33) rfl hc_15
              replace E := E.val (t := 34) rfl hc_15
              replace hc_15 := of_decide_eq_true hc_15
              refine D_vyes E rfl rfl rfl rfl rfl (fun w hC => (R_move E rfl)) ?_
              clear E a; intro a E
              refine D_vyes E rfl rfl rfl rfl rfl (fun w hC => (R_move E rfl)) ?_
              clear E a; intro a E
              refine D_vyes E rfl rfl rfl rfl rfl (fun w hC => (R_subx (m := ((k + 1 - 1 : Nat) : Int)) E rfl rfl (by omega) (by omega))) ?_
              clear E a; intro a E
              obtain ⟨x_16, hx_16⟩ : ∃ x, (l0)[k + 1 - 1]? = some x := ⟨_, List.getElem?_eq_getElem (by first | omega | (simp; done) | (simp; omega) | (simp_all; omega))⟩
              obtain ⟨p_17, hp_17, qp_17⟩ := h0.at hx_16
              refine D_vyes E rfl rfl rfl rfl rfl (fun w hC => (R_idx E rfl rfl T22 hp_17 rfl)) ?_
              clear E a; intro a E
              refine D_vyes E rfl rfl rfl rfl rfl (fun w hC => (R_loadM E rfl Try.isAgg3 hC qp_17)) ?_
              clear E a; intro a E
              refine D_vyes E rfl rfl rfl rfl rfl (fun w hC => (R_move E rfl)) ?_
              clear E a; intro a E
              refine D_vyes E rfl rfl rfl rfl rfl (fun w hC => (R_move E rfl)) ?_
              clear E a; intro a E
              obtain ⟨x_18, hx_18⟩ : ∃ x, (l0)[k + 1]? = some x := ⟨_, List.getElem?_eq_getElem (by first | omega | (simp; done) | (simp; omega) | (simp_all; omega))⟩
              obtain ⟨p_19, hp_19, qp_19⟩ := h0.at hx_18
              refine D_vyes E rfl rfl rfl rfl rfl (fun w hC => (R_idx E rfl rfl T22 hp_19 rfl)) ?_
              clear E a; intro a E
              refine D_vyes E rfl rfl rfl rfl rfl (fun w hC => (R_loadM E rfl Try.isAgg3 hC qp_19)) ?_
              clear E a; intro a E
              refine D_vyes E rfl rfl rfl rfl rfl (fun w hC => (R_leq E rfl rfl)) ?_
              clear E a; intro a E
              refine D_v E rfl rfl rfl (fun w hC => (R_pickT E rfl rfl)) ?_
              clear E a; intro a E
              refine D_v E rfl rfl rfl (fun w hC => (R_assign E rfl)) ?_
              clear E a; intro a E
              refine D_end (NoP_n ?_)
              refine T_n ?_
              have hb_1k19 := hb_1
              have qp_17k19 := qp_17
              have qp_19k19 := qp_19
              have h0k19 := h0
              replace S := S.mono_heap (w' := World.drew _) rfl
              refine WP_drawn (C := fun x w => agree M_13 w) (bf := (fun i => [])) [0, 1, 2, 3, 4, 5, 6, 7, 9, 10, 11, 12, 13, 15, 16, 17] [0, 1, 2, 3, 4, 5, 6, 7, 9, 10, 11, 12, 13, 8, 14, 15, 16, 17] Try.mixed (by kernel_rfl) (fun x hq => S.imm) ?_
              refine D_v E rfl rfl rfl (fun w hC => (R_move E rfl)) ?_
              clear E a; intro a E
              refine D_v E rfl rfl rfl (fun w hC => (R_move E rfl)) ?_
              clear E a; intro a E
              refine split_bool (decide (SortedI ((l0.map (fun x => keyAt kk1 kn1 x 0)).take (k + 1)))) (fun hc_20 => ?_) (fun hc_20 => ?_)
              · replace E := E.val (t := 6) rfl hc_20
                replace E := E.val (t := 46) rfl hc_20
                replace E := E.val (t := 47) rfl hc_20
                replace hc_20 := of_decide_eq_true hc_20
                refine D_vyes E rfl rfl rfl rfl rfl (fun w hC => (R_loadGM E rfl (Try.isAgg24 _) (Try.sizeOf24 _) hC hb_1k19)) ?_
                clear E a; intro a E
                refine D_vyes E rfl rfl rfl rfl rfl (fun w hC => (R_move E rfl)) ?_
                clear E a; intro a E
                refine D_vyes E rfl rfl rfl rfl rfl (fun w hC => (R_move E rfl)) ?_
                clear E a; intro a E
                refine D_vyes E rfl rfl rfl rfl rfl (fun w hC => (R_subx (m := ((k + 1 - 1 : Nat) : Int)) E rfl rfl (by omega) (by omega))) ?_
                clear E a; intro a E
                obtain ⟨p_21, hp_21, qp_21⟩ := h0.at hx_16
                refine D_vyes E rfl rfl rfl rfl rfl (fun w hC => (R_idx E rfl rfl T22 hp_21 rfl)) ?_
                clear E a; intro a E
                refine D_vyes E rfl rfl rfl rfl rfl (fun w hC => (R_loadM E rfl Try.isAgg3 hC qp_21)) ?_
                clear E a; intro a E
                refine D_vyes E rfl rfl rfl rfl rfl (fun w hC => (R_loadGM E rfl (Try.isAgg24 _) (Try.sizeOf24 _) hC hb_1k19)) ?_
                clear E a; intro a E
                refine D_vyes E rfl rfl rfl rfl rfl (fun w hC => (R_move E rfl)) ?_
                clear E a; intro a E
                refine D_vyes E rfl rfl rfl rfl rfl (fun w hC => (R_move E rfl)) ?_
                clear E a; intro a E
                obtain ⟨p_22, hp_22, qp_22⟩ := h0.at hx_18
                refine D_vyes E rfl rfl rfl rfl rfl (fun w hC => (R_idx E rfl rfl T22 hp_22 rfl)) ?_
                clear E a; intro a E
                refine D_vyes E rfl rfl rfl rfl rfl (fun w hC => (R_loadM E rfl Try.isAgg3 hC qp_22)) ?_
                clear E a; intro a E
                refine D_yes E rfl rfl rfl rfl (X_pu E S rfl rfl rfl (laws_stands (by omega)) (Hp.le.refl _) ?_)
                clear E a S; rintro a _ w M_23 hM_23 rfl S E
                replace h0 := h0.le hM_23
                replace hb_1 := hM_23.2 _ _ hb_1
                replace hv_6 := hv_6.le hM_23
                refine ⟨fun x hq hb => (agree_le hM_23 S.imm), ?_⟩
                refine D_yes E rfl rfl rfl rfl (X_pu E S rfl rfl rfl (laws_stands (by omega)) (Hp.le.refl _) ?_)
                clear E a S; rintro a _ w M_24 hM_24 rfl S E
                replace h0 := h0.le hM_24
                replace hb_1 := hM_24.2 _ _ hb_1
                replace hv_6 := hv_6.le hM_24
                refine ⟨fun x hq hb => (agree_le (hM_23.trans hM_24) S.imm), ?_⟩
                refine D_vyes E rfl rfl rfl rfl rfl (fun w hC => (R_leq E rfl rfl)) ?_
                clear E a; intro a E
                refine D_v E rfl rfl rfl (fun w hC => (R_pickT E rfl rfl)) ?_
                clear E a; intro a E
                refine D_v E rfl rfl rfl (fun w hC => (R_assign E rfl)) ?_
                clear E a; intro a E
                refine D_end (NoP_n ?_)
                refine B_n ?_
                refine T_n ?_
                refine WP_region ?_
                refine S_v E rfl (R_move E rfl) rfl ?_
                clear E a; intro a E
                refine S_v E rfl (R_addx (m := ((k + 1 + 1 : Nat) : Int)) E rfl rfl (by omega) (by omega)) rfl ?_
                clear E a; intro a E
                refine S_v E rfl (R_assign E rfl) rfl ?_
                clear E a; intro a E
                refine WL_nil ?_
                refine T_n ?_
                exact ⟨k + 1, ⟨M_24, (hM_13.trans (hM_23.trans hM_24)), S, E.keep ⟨rfl, rfl, look_bool (i := decide (x_16 ≤ x_18)) rfl (by (first | exact asc_iff (k := k) (l := l0) (by first | assumption | (simpa using (by assumption))) (by first | assumption | exact map_at (by assumption)) (by first | assumption | exact map_at (by assumption)) | exact asc_stay (b := 0) (k := k) (l := l0) (by first | assumption | (simpa using (by assumption))) (by first | omega | (simp; omega)))), look_bool (i := decide (keyAt kk1 kn1 x_16 0 ≤ keyAt kk1 kn1 x_18 0)) rfl (by (first | exact asc_iff (k := k) (l := l0.map (fun x => keyAt kk1 kn1 x 0)) (by first | assumption | (simpa using (by assumption))) (by first | assumption | exact map_at (by assumption)) (by first | assumption | exact map_at (by assumption)) | exact asc_stay (b := 0) (k := k) (l := l0.map (fun x => keyAt kk1 kn1 x 0)) (by first | assumption | (simpa using (by assumption))) (by first | omega | (simp; omega)))), look_nat (i := k + 1 + 1) rfl (by (rfl)), trivial⟩, (by omega)⟩, by omega⟩
              · replace E := E.val (t := 6) rfl hc_20
                replace E := E.val (t := 46) rfl hc_20
                replace E := E.val (t := 47) rfl hc_20
                replace hc_20 := of_decide_eq_false hc_20
                refine D_no E rfl rfl rfl rfl rfl fun a E => ?_
                refine D_no E rfl rfl rfl rfl rfl fun a E => ?_
                refine D_no E rfl rfl rfl rfl rfl fun a E => ?_
                refine D_no E rfl rfl rfl rfl rfl fun a E => ?_
                refine D_no E rfl rfl rfl rfl rfl fun a E => ?_
                refine D_no E rfl rfl rfl rfl rfl fun a E => ?_
                refine D_no E rfl rfl rfl rfl rfl fun a E => ?_
                refine D_no E rfl rfl rfl rfl rfl fun a E => ?_
                refine D_no E rfl rfl rfl rfl rfl fun a E => ?_
                refine D_no E rfl rfl rfl rfl rfl fun a E => ?_
                refine D_no E rfl rfl rfl rfl rfl fun a E => ?_
                refine D_no E rfl rfl rfl rfl rfl fun a E => ?_
                refine D_no E rfl rfl rfl rfl rfl fun a E => ?_
                refine D_no E rfl rfl rfl rfl rfl fun a E => ?_
                refine D_v E rfl rfl rfl (fun w hC => (R_pickF E rfl rfl)) ?_
                clear E a; intro a E
                refine D_v E rfl rfl rfl (fun w hC => (R_assign E rfl)) ?_
                clear E a; intro a E
                refine D_end (NoP_n ?_)
                refine B_n ?_
                refine T_n ?_
                refine WP_region ?_
                refine S_v E rfl (R_move E rfl) rfl ?_
                clear E a; intro a E
                refine S_v E rfl (R_addx (m := ((k + 1 + 1 : Nat) : Int)) E rfl rfl (by omega) (by omega)) rfl ?_
                clear E a; intro a E
                refine S_v E rfl (R_assign E rfl) rfl ?_
                clear E a; intro a E
                refine WL_nil ?_
                refine T_n ?_
                exact ⟨k + 1, ⟨M_13, hM_13, S, E.keep ⟨rfl, rfl, look_bool (i := decide (x_16 ≤ x_18)) rfl (by (first | exact asc_iff (k := k) (l := l0) (by first | assumption | (simpa using (by assumption))) (by first | assumption | exact map_at (by assumption)) (by first | assumption | exact map_at (by assumption)) | exact asc_stay (b := 0) (k := k) (l := l0) (by first | assumption | (simpa using (by assumption))) (by first | omega | (simp; omega)))), look_bool (i := false) rfl (by (first | exact asc_iff (k := k) (l := l0.map (fun x => keyAt kk1 kn1 x 0)) (by first | assumption | (simpa using (by assumption))) (by first | assumption | exact map_at (by assumption)) (by first | assumption | exact map_at (by assumption)) | exact asc_stay (b := 0) (k := k) (l := l0.map (fun x => keyAt kk1 kn1 x 0)) (by first | assumption | (simpa using (by assumption))) (by first | omega | (simp; omega)))), look_nat (i := k + 1 + 1) rfl (by (rfl)), trivial⟩, (by omega)⟩, by omega⟩
            · replace E := E.val (t := 5) rfl hc_15
              replace E := E.val (t := 33) rfl hc_15
              replace E := E.val (t := 34) rfl hc_15
              replace hc_15 := of_decide_eq_false hc_15
              refine D_no E rfl rfl rfl rfl rfl fun a E => ?_
              refine D_no E rfl rfl rfl rfl rfl fun a E => ?_
              refine D_no E rfl rfl rfl rfl rfl fun a E => ?_
              refine D_no E rfl rfl rfl rfl rfl fun a E => ?_
              refine D_no E rfl rfl rfl rfl rfl fun a E => ?_
              refine D_no E rfl rfl rfl rfl rfl fun a E => ?_
              refine D_no E rfl rfl rfl rfl rfl fun a E => ?_
              refine D_no E rfl rfl rfl rfl rfl fun a E => ?_
              refine D_no E rfl rfl rfl rfl rfl fun a E => ?_
              refine D_no E rfl rfl rfl rfl rfl fun a E => ?_
              refine D_v E rfl rfl rfl (fun w hC => (R_pickF E rfl rfl)) ?_
              clear E a; intro a E
              refine D_v E rfl rfl rfl (fun w hC => (R_assign E rfl)) ?_
              clear E a; intro a E
              refine D_end (NoP_n ?_)
              refine T_n ?_
              have hb_1k24 := hb_1
              have h0k24 := h0
              replace S := S.mono_heap (w' := World.drew _) rfl
              refine WP_drawn (C := fun x w => agree M_13 w) (bf := (fun i => [])) [0, 1, 2, 3, 4, 5, 6, 7, 9, 10, 11, 12, 13, 15, 16, 17] [0, 1, 2, 3, 4, 5, 6, 7, 9, 10, 11, 12, 13, 8, 14, 15, 16, 17] Try.mixed (by kernel_rfl) (fun x hq => S.imm) ?_
              refine D_v E rfl rfl rfl (fun w hC => (R_move E rfl)) ?_
              clear E a; intro a E
              refine D_v E rfl rfl rfl (fun w hC => (R_move E rfl)) ?_
              clear E a; intro a E
              refine split_bool (decide (SortedI ((l0.map (fun x => keyAt kk1 kn1 x 0)).take (k + 1)))) (fun hc_25 => ?_) (fun hc_25 => ?_)
              · replace E := E.val (t := 6) rfl hc_25
                replace E := E.val (t := 46) rfl hc_25
                replace E := E.val (t := 47) rfl hc_25
                replace hc_25 := of_decide_eq_true hc_25
                refine D_vyes E rfl rfl rfl rfl rfl (fun w hC => (R_loadGM E rfl (Try.isAgg24 _) (Try.sizeOf24 _) hC hb_1k24)) ?_
                clear E a; intro a E
                refine D_vyes E rfl rfl rfl rfl rfl (fun w hC => (R_move E rfl)) ?_
                clear E a; intro a E
                refine D_vyes E rfl rfl rfl rfl rfl (fun w hC => (R_move E rfl)) ?_
                clear E a; intro a E
                refine D_vyes E rfl rfl rfl rfl rfl (fun w hC => (R_subx (m := ((k + 1 - 1 : Nat) : Int)) E rfl rfl (by omega) (by omega))) ?_
                clear E a; intro a E
                obtain ⟨x_26, hx_26⟩ : ∃ x, (l0)[k + 1 - 1]? = some x := ⟨_, List.getElem?_eq_getElem (by first | omega | (simp; done) | (simp; omega) | (simp_all; omega))⟩
                obtain ⟨p_27, hp_27, qp_27⟩ := h0.at hx_26
                refine D_vyes E rfl rfl rfl rfl rfl (fun w hC => (R_idx E rfl rfl T22 hp_27 rfl)) ?_
                clear E a; intro a E
                refine D_vyes E rfl rfl rfl rfl rfl (fun w hC => (R_loadM E rfl Try.isAgg3 hC qp_27)) ?_
                clear E a; intro a E
                refine D_vyes E rfl rfl rfl rfl rfl (fun w hC => (R_loadGM E rfl (Try.isAgg24 _) (Try.sizeOf24 _) hC hb_1k24)) ?_
                clear E a; intro a E
                refine D_vyes E rfl rfl rfl rfl rfl (fun w hC => (R_move E rfl)) ?_
                clear E a; intro a E
                refine D_vyes E rfl rfl rfl rfl rfl (fun w hC => (R_move E rfl)) ?_
                clear E a; intro a E
                obtain ⟨x_28, hx_28⟩ : ∃ x, (l0)[k + 1]? = some x := ⟨_, List.getElem?_eq_getElem (by first | omega | (simp; done) | (simp; omega) | (simp_all; omega))⟩
                obtain ⟨p_29, hp_29, qp_29⟩ := h0.at hx_28
                refine D_vyes E rfl rfl rfl rfl rfl (fun w hC => (R_idx E rfl rfl T22 hp_29 rfl)) ?_
                clear E a; intro a E
                refine D_vyes E rfl rfl rfl rfl rfl (fun w hC => (R_loadM E rfl Try.isAgg3 hC qp_29)) ?_
                clear E a; intro a E
                refine D_yes E rfl rfl rfl rfl (X_pu E S rfl rfl rfl (laws_stands (by omega)) (Hp.le.refl _) ?_)
                clear E a S; rintro a _ w M_30 hM_30 rfl S E
                replace h0 := h0.le hM_30
                replace hb_1 := hM_30.2 _ _ hb_1
                replace hv_6 := hv_6.le hM_30
                refine ⟨fun x hq hb => (agree_le hM_30 S.imm), ?_⟩
                refine D_yes E rfl rfl rfl rfl (X_pu E S rfl rfl rfl (laws_stands (by omega)) (Hp.le.refl _) ?_)
                clear E a S; rintro a _ w M_31 hM_31 rfl S E
                replace h0 := h0.le hM_31
                replace hb_1 := hM_31.2 _ _ hb_1
                replace hv_6 := hv_6.le hM_31
                refine ⟨fun x hq hb => (agree_le (hM_30.trans hM_31) S.imm), ?_⟩
                refine D_vyes E rfl rfl rfl rfl rfl (fun w hC => (R_leq E rfl rfl)) ?_
                clear E a; intro a E
                refine D_v E rfl rfl rfl (fun w hC => (R_pickT E rfl rfl)) ?_
                clear E a; intro a E
                refine D_v E rfl rfl rfl (fun w hC => (R_assign E rfl)) ?_
                clear E a; intro a E
                refine D_end (NoP_n ?_)
                refine B_n ?_
                refine T_n ?_
                refine WP_region ?_
                refine S_v E rfl (R_move E rfl) rfl ?_
                clear E a; intro a E
                refine S_v E rfl (R_addx (m := ((k + 1 + 1 : Nat) : Int)) E rfl rfl (by omega) (by omega)) rfl ?_
                clear E a; intro a E
                refine S_v E rfl (R_assign E rfl) rfl ?_
                clear E a; intro a E
                refine WL_nil ?_
                refine T_n ?_
                exact ⟨k + 1, ⟨M_31, (hM_13.trans (hM_30.trans hM_31)), S, E.keep ⟨rfl, rfl, look_bool (i := false) rfl (by (first | exact asc_iff (k := k) (l := l0) (by first | assumption | (simpa using (by assumption))) (by first | assumption | exact map_at (by assumption)) (by first | assumption | exact map_at (by assumption)) | exact asc_stay (b := 0) (k := k) (l := l0) (by first | assumption | (simpa using (by assumption))) (by first | omega | (simp; omega)))), look_bool (i := decide (keyAt kk1 kn1 x_26 0 ≤ keyAt kk1 kn1 x_28 0)) rfl (by (first | exact asc_iff (k := k) (l := l0.map (fun x => keyAt kk1 kn1 x 0)) (by first | assumption | (simpa using (by assumption))) (by first | assumption | exact map_at (by assumption)) (by first | assumption | exact map_at (by assumption)) | exact asc_stay (b := 0) (k := k) (l := l0.map (fun x => keyAt kk1 kn1 x 0)) (by first | assumption | (simpa using (by assumption))) (by first | omega | (simp; omega)))), look_nat (i := k + 1 + 1) rfl (by (rfl)), trivial⟩, (by omega)⟩, by omega⟩
              · replace E := E.val (t := 6) rfl hc_25
                replace E := E.val (t := 46) rfl hc_25
                replace E := E.val (t := 47) rfl hc_25
                replace hc_25 := of_decide_eq_false hc_25
                refine D_no E rfl rfl rfl rfl rfl fun a E => ?_
                refine D_no E rfl rfl rfl rfl rfl fun a E => ?_
                refine D_no E rfl rfl rfl rfl rfl fun a E => ?_
                refine D_no E rfl rfl rfl rfl rfl fun a E => ?_
                refine D_no E rfl rfl rfl rfl rfl fun a E => ?_
                refine D_no E rfl rfl rfl rfl rfl fun a E => ?_
                refine D_no E rfl rfl rfl rfl rfl fun a E => ?_
                refine D_no E rfl rfl rfl rfl rfl fun a E => ?_
                refine D_no E rfl rfl rfl rfl rfl fun a E => ?_
                refine D_no E rfl rfl rfl rfl rfl fun a E => ?_
                refine D_no E rfl rfl rfl rfl rfl fun a E => ?_
                refine D_no E rfl rfl rfl rfl rfl fun a E => ?_
                refine D_no E rfl rfl rfl rfl rfl fun a E => ?_
                refine D_no E rfl rfl rfl rfl rfl fun a E => ?_
                refine D_v E rfl rfl rfl (fun w hC => (R_pickF E rfl rfl)) ?_
                clear E a; intro a E
                refine D_v E rfl rfl rfl (fun w hC => (R_assign E rfl)) ?_
                clear E a; intro a E
                refine D_end (NoP_n ?_)
                refine B_n ?_
                refine T_n ?_
                refine WP_region ?_
                refine S_v E rfl (R_move E rfl) rfl ?_
                clear E a; intro a E
                refine S_v E rfl (R_addx (m := ((k + 1 + 1 : Nat) : Int)) E rfl rfl (by omega) (by omega)) rfl ?_
                clear E a; intro a E
                refine S_v E rfl (R_assign E rfl) rfl ?_
                clear E a; intro a E
                refine WL_nil ?_
                refine T_n ?_
                exact ⟨k + 1, ⟨M_13, hM_13, S, E.keep ⟨rfl, rfl, look_bool (i := false) rfl (by (first | exact asc_iff (k := k) (l := l0) (by first | assumption | (simpa using (by assumption))) (by first | assumption | exact map_at (by assumption)) (by first | assumption | exact map_at (by assumption)) | exact asc_stay (b := 0) (k := k) (l := l0) (by first | assumption | (simpa using (by assumption))) (by first | omega | (simp; omega)))), look_bool (i := false) rfl (by (first | exact asc_iff (k := k) (l := l0.map (fun x => keyAt kk1 kn1 x 0)) (by first | assumption | (simpa using (by assumption))) (by first | assumption | exact map_at (by assumption)) (by first | assumption | exact map_at (by assumption)) | exact asc_stay (b := 0) (k := k) (l := l0.map (fun x => keyAt kk1 kn1 x 0)) (by first | assumption | (simpa using (by assumption))) (by first | omega | (simp; omega)))), look_nat (i := k + 1 + 1) rfl (by (rfl)), trivial⟩, (by omega)⟩, by omega⟩
          · replace hc_14 := of_decide_eq_false hc_14
            have etk : l0.take (k + 1) = l0 := List.take_of_length_le (by omega)
            have etm : (l0.map (fun x => keyAt kk1 kn1 x 0)).take (k + 1) = l0.map (fun x => keyAt kk1 kn1 x 0) := List.take_of_length_le (by simp; omega)
            have hml := mapI_len (keyAt kk1 kn1) l0 0
            refine WP_exit ?_
            refine T_x ?_
            refine T_x ?_
            refine B_x ?_
            refine T_n ?_
            refine WP_seq ?_
            refine WP_region ?_
            refine S_v E rfl (R_move E rfl) rfl ?_
            clear E a; intro a E
            refine S_x (X_pu E S rfl rfl rfl (spec_IsSorted h0 (by first | assumption | exact (fun x hx => by rcases List.mem_append.1 hx with h | h; exact hr0 x h; exact hr1 x h)) (by (first | omega | (simp; omega) | (simp; done) | (simp_all; omega) | grind))) (Hp.le.refl _) ?_)
            clear E a S; rintro a _ w M_32 hM_32 rfl S E
            replace h0 := h0.le hM_32
            replace hb_1 := hM_32.2 _ _ hb_1
            replace hv_6 := hv_6.le hM_32
            refine S_v E rfl (R_move E rfl) rfl ?_
            clear E a; intro a E
            refine S_v E rfl (R_eqlB E rfl rfl Try.underlying4) rfl ?_
            clear E a; intro a E
            refine S_v E rfl (R_move E rfl) rfl ?_
            clear E a; intro a E
            have hc_33 : ((decide (SortedI l0)) == (decide (SortedI (l0.take (k + 1))))) = true := by (clear E S; first | (simp; done) | decide | (simp only [etk, etm]; simp; done) | (simp [SortedI]; done) | (rw [key0_map hr0, etk]; simp; done) | (rw [mapI_map (keyAt_free hk4), etm]; simp; done) | exact decide_eq_true (srtM_sorted _) | (simp [srtM_sorted]; done))
            replace E := E.val (t := 66) rfl hc_33
            replace E := E.val (t := 67) rfl hc_33
            refine WL_guard_yes E rfl rfl ?_
            refine S_v E rfl (R_move E rfl) rfl ?_
            clear E a; intro a E
            refine WL_guard_yes E rfl rfl ?_
            refine S_v E rfl (R_loadGM E rfl (Try.isAgg24 _) (Try.sizeOf24 _) S.imm hb_1) rfl ?_
            clear E a; intro a E
            refine WL_guard_yes E rfl rfl ?_
            refine S_x (X_pu E S rfl rfl rfl (spec_IsSortedBy h0 (by omega) (by first | assumption | exact (fun x hx => by rcases List.mem_append.1 hx with h | h; exact hr0 x h; exact hr1 x h)) (by (first | omega | (simp; omega) | (simp; done) | (simp_all; omega) | grind))) (Hp.le.refl _) ?_)
            clear E a S; rintro a _ w M_34 hM_34 rfl S E
            replace h0 := h0.le hM_34
            replace hb_1 := hM_34.2 _ _ hb_1
            replace hv_6 := hv_6.le hM_34
            refine WL_guard_yes E rfl rfl ?_
            refine S_v E rfl (R_move E rfl) rfl ?_
            clear E a; intro a E
            refine WL_guard_yes E rfl rfl ?_
            refine S_v E rfl (R_eqlB E rfl rfl Try.underlying4) rfl ?_
            clear E a; intro a E
            refine S_v E rfl (R_pickT E rfl rfl) rfl ?_
            clear E a; intro a E
            refine S_v E rfl (R_move E rfl) rfl ?_
            clear E a; intro a E
            have hc_35 : ((decide (SortedI ((l0).map (fun x => keyAt kk1 kn1 x 0)))) == (decide (SortedI ((l0.map (fun x => keyAt kk1 kn1 x 0)).take (k + 1))))) = true := by (clear E S; first | (simp; done) | decide | (simp only [etk, etm]; simp; done) | (simp [SortedI]; done) | (rw [key0_map hr0, etk]; simp; done) | (rw [mapI_map (keyAt_free hk4), etm]; simp; done) | exact decide_eq_true (srtM_sorted _) | (simp [srtM_sorted]; done))
            replace E := E.val (t := 72) rfl hc_35
            replace E := E.val (t := 73) rfl hc_35
            replace E := E.val (t := 74) rfl hc_35
            refine WL_guard_yes E rfl rfl ?_
            refine S_v E rfl (R_move E rfl) rfl ?_
            clear E a; intro a E
            refine WL_guard_yes E rfl rfl ?_
            refine S_x (X_pu E S rfl rfl rfl (impl_IsSorted h0) (Hp.le.refl _) ?_)
            clear E a S; rintro a _ w M_36 hM_36 rfl S E
            replace h0 := h0.le hM_36
            replace hb_1 := hM_36.2 _ _ hb_1
            replace hv_6 := hv_6.le hM_36
            refine WL_guard_yes E rfl rfl ?_
            refine S_v E rfl (R_move E rfl) rfl ?_
            clear E a; intro a E
            refine WL_guard_yes E rfl rfl ?_
            refine S_v E rfl (R_eqlB E rfl rfl Try.underlying4) rfl ?_
            clear E a; intro a E
            refine S_v E rfl (R_pickT E rfl rfl) rfl ?_
            clear E a; intro a E
            refine S_v E rfl (R_move E rfl) rfl ?_
            clear E a; intro a E
            have hc_37 : ((decide (SortedI l0)) == (decide (SortedI (l0.take (k + 1))))) = true := by (clear E S; first | (simp; done) | decide | (simp only [etk, etm]; simp; done) | (simp [SortedI]; done) | (rw [key0_map hr0, etk]; simp; done) | (rw [mapI_map (keyAt_free hk4), etm]; simp; done) | exact decide_eq_true (srtM_sorted _) | (simp [srtM_sorted]; done))
            replace E := E.val (t := 78) rfl hc_37
            replace E := E.val (t := 79) rfl hc_37
            replace E := E.val (t := 80) rfl hc_37
            refine WL_guard_yes E rfl rfl ?_
            refine S_v E rfl (R_move E rfl) rfl ?_
            clear E a; intro a E
            refine WL_guard_yes E rfl rfl ?_
            refine S_x (X_pu E S rfl rfl rfl (impl_IsSortedSeq h0) (Hp.le.refl _) ?_)
            clear E a S; rintro a _ w M_38 hM_38 rfl S E
            replace h0 := h0.le hM_38
            replace hb_1 := hM_38.2 _ _ hb_1
            replace hv_6 := hv_6.le hM_38
            refine WL_guard_yes E rfl rfl ?_
            refine S_v E rfl (R_move E rfl) rfl ?_
            clear E a; intro a E
            refine WL_guard_yes E rfl rfl ?_
            refine S_v E rfl (R_eqlB E rfl rfl Try.underlying4) rfl ?_
            clear E a; intro a E
            refine S_v E rfl (R_pickT E rfl rfl) rfl ?_
            clear E a; intro a E
            refine S_v E rfl (R_move E rfl) rfl ?_
            clear E a; intro a E
            have hc_39 : ((decide (SortedI l0)) == (decide (SortedI (l0.take (k + 1))))) = true := by (clear E S; first | (simp; done) | decide | (simp only [etk, etm]; simp; done) | (simp [SortedI]; done) | (rw [key0_map hr0, etk]; simp; done) | (rw [mapI_map (keyAt_free hk4), etm]; simp; done) | exact decide_eq_true (srtM_sorted _) | (simp [srtM_sorted]; done))
            replace E := E.val (t := 84) rfl hc_39
            replace E := E.val (t := 85) rfl hc_39
            replace E := E.val (t := 86) rfl hc_39
            refine WL_guard_yes E rfl rfl ?_
            refine S_v E rfl (R_move E rfl) rfl ?_
            clear E a; intro a E
            refine WL_guard_yes E rfl rfl ?_
            refine S_v E rfl (R_loadGM E rfl (Try.isAgg24 _) (Try.sizeOf24 _) S.imm hb_1) rfl ?_
            clear E a; intro a E
            refine WL_guard_yes E rfl rfl ?_
            refine S_x (X_pu E S rfl rfl rfl (impl_IsSortedBy h0 (by omega)) (Hp.le.refl _) ?_)
            clear E a S; rintro a _ w M_40 hM_40 rfl S E
            replace h0 := h0.le hM_40
            replace hb_1 := hM_40.2 _ _ hb_1
            replace hv_6 := hv_6.le hM_40
            refine WL_guard_yes E rfl rfl ?_
            refine S_v E rfl (R_move E rfl) rfl ?_
            clear E a; intro a E
            refine WL_guard_yes E rfl rfl ?_
            refine S_v E rfl (R_eqlB E rfl rfl Try.underlying4) rfl ?_
            clear E a; intro a E
            refine S_v E rfl (R_pickT E rfl rfl) rfl ?_
            clear E a; intro a E
            refine S_v E rfl (R_move E rfl) rfl ?_
            clear E a; intro a E
            have hc_41 : ((decide (SortedI ((l0).map (fun x => keyAt kk1 kn1 x 0)))) == (decide (SortedI ((l0.map (fun x => keyAt kk1 kn1 x 0)).take (k + 1))))) = true := by (clear E S; first | (simp; done) | decide | (simp only [etk, etm]; simp; done) | (simp [SortedI]; done) | (rw [key0_map hr0, etk]; simp; done) | (rw [mapI_map (keyAt_free hk4), etm]; simp; done) | exact decide_eq_true (srtM_sorted _) | (simp [srtM_sorted]; done))
            replace E := E.val (t := 91) rfl hc_41
            replace E := E.val (t := 92) rfl hc_41
            replace E := E.val (t := 93) rfl hc_41
            refine WL_guard_yes E rfl rfl ?_
            refine S_v E rfl (R_move E rfl) rfl ?_
            clear E a; intro a E
            refine WL_guard_yes E rfl rfl ?_
            refine S_v E rfl (R_loadGM E rfl (Try.isAgg24 _) (Try.sizeOf24 _) S.imm hb_1) rfl ?_
            clear E a; intro a E
            refine WL_guard_yes E rfl rfl ?_
            refine S_x (X_pu E S rfl rfl rfl (impl_IsSortedBySeq h0 (by omega)) (Hp.le.refl _) ?_)
            clear E a S; rintro a _ w M_42 hM_42 rfl S E
            replace h0 := h0.le hM_42
            replace hb_1 := hM_42.2 _ _ hb_1
            replace hv_6 := hv_6.le hM_42
            refine WL_guard_yes E rfl rfl ?_
            refine S_v E rfl (R_move E rfl) rfl ?_
            clear E a; intro a E
            refine WL_guard_yes E rfl rfl ?_
            refine S_v E rfl (R_eqlB E rfl rfl Try.underlying4) rfl ?_
            clear E a; intro a E
            refine S_v E rfl (R_pickT E rfl rfl) rfl ?_
            clear E a; intro a E
            refine S_v E rfl (R_move E rfl) rfl ?_
            clear E a; intro a E
            have hc_43 : ((decide (SortedI ((l0).map (fun x => keyAt kk1 kn1 x 0)))) == (decide (SortedI ((l0.map (fun x => keyAt kk1 kn1 x 0)).take (k + 1))))) = true := by (clear E S; first | (simp; done) | decide | (simp only [etk, etm]; simp; done) | (simp [SortedI]; done) | (rw [key0_map hr0, etk]; simp; done) | (rw [mapI_map (keyAt_free hk4), etm]; simp; done) | exact decide_eq_true (srtM_sorted _) | (simp [srtM_sorted]; done))
            replace E := E.val (t := 98) rfl hc_43
            replace E := E.val (t := 99) rfl hc_43
            replace E := E.val (t := 100) rfl hc_43
            refine WL_guard_yes E rfl rfl ?_
            refine S_v E rfl (R_move E rfl) rfl ?_
            clear E a; intro a E
            refine WL_guard_yes E rfl rfl ?_
            refine S_v E rfl (R_build (u := .agg #[.int .i64 0, .int .i64 0]) (vs := []) E rfl (fun w => FB24__  w)) rfl ?_
            clear E a; intro a E
            refine WL_guard_yes E rfl rfl ?_
            refine S_x (X_pu E S rfl rfl rfl (impl_IsSortedBy h0 (by omega)) (Hp.le.refl _) ?_)
            clear E a S; rintro a _ w M_44 hM_44 rfl S E
            replace h0 := h0.le hM_44
            replace hb_1 := hM_44.2 _ _ hb_1
            replace hv_6 := hv_6.le hM_44
            refine WL_guard_yes E rfl rfl ?_
            refine S_v E rfl (R_move E rfl) rfl ?_
            clear E a; intro a E
            refine WL_guard_yes E rfl rfl ?_
            refine S_v E rfl (R_eqlB E rfl rfl Try.underlying4) rfl ?_
            clear E a; intro a E
            refine S_v E rfl (R_pickT E rfl rfl) rfl ?_
            clear E a; intro a E
            refine S_v E rfl (R_move E rfl) rfl ?_
            clear E a; intro a E
            have hc_45 : ((decide (SortedI ((l0).map (fun x => keyAt 0 0 x 0)))) == (decide (SortedI (l0.take (k + 1))))) = true := by (clear E S; first | (simp; done) | decide | (simp only [etk, etm]; simp; done) | (simp [SortedI]; done) | (rw [key0_map hr0, etk]; simp; done) | (rw [mapI_map (keyAt_free hk4), etm]; simp; done) | exact decide_eq_true (srtM_sorted _) | (simp [srtM_sorted]; done))
            replace E := E.val (t := 105) rfl hc_45
            replace E := E.val (t := 106) rfl hc_45
            replace E := E.val (t := 107) rfl hc_45
            refine WL_guard_yes E rfl rfl ?_
            refine S_v E rfl (R_move E rfl) rfl ?_
            clear E a; intro a E
            refine WL_guard_yes E rfl rfl ?_
            refine S_x (X_pu E S rfl rfl rfl (impl_Keyify h0 (by (first | omega | (simp; omega) | (simp; done) | (simp_all; omega) | grind))) (Hp.le.refl _) ?_)
            clear E a S; rintro a v_47 w M_46 hM_46 hv_47 S E
            replace h0 := h0.le hM_46
            replace hb_1 := hM_46.2 _ _ hb_1
            replace hv_6 := hv_6.le hM_46
            refine WL_guard_yes E rfl rfl ?_
            refine S_x (X_pu E S rfl rfl rfl (impl_IsSorted hv_47) (Hp.le.refl _) ?_)
            clear E a S; rintro a _ w M_48 hM_48 rfl S E
            replace h0 := h0.le hM_48
            replace hb_1 := hM_48.2 _ _ hb_1
            replace hv_6 := hv_6.le hM_48
            replace hv_47 := hv_47.le hM_48
            refine S_v E rfl (R_pickT E rfl rfl) rfl ?_
            clear E a; intro a E
            refine S_v E rfl (R_move E rfl) rfl ?_
            clear E a; intro a E
            have hc_49 : (decide (SortedI (srtM (keyL l0)))) = true := by (clear E S; first | (simp; done) | decide | (simp only [etk, etm]; simp; done) | (simp [SortedI]; done) | (rw [key0_map hr0, etk]; simp; done) | (rw [mapI_map (keyAt_free hk4), etm]; simp; done) | exact decide_eq_true (srtM_sorted _) | (simp [srtM_sorted]; done))
            replace E := E.val (t := 110) rfl hc_49
            replace E := E.val (t := 111) rfl hc_49
            replace E := E.val (t := 112) rfl hc_49
            refine WL_guard_yes E rfl rfl ?_
            refine S_v E rfl (R_move E rfl) rfl ?_
            clear E a; intro a E
            refine WL_guard_yes E rfl rfl ?_
            refine S_v E rfl (R_loadGM E rfl (Try.isAgg24 _) (Try.sizeOf24 _) S.imm hb_1) rfl ?_
            clear E a; intro a E
            refine WL_guard_yes E rfl rfl ?_
            refine S_x (X_pu E S rfl rfl rfl (impl_Map h0 (by omega) (by (first | omega | (simp; omega) | (simp; done) | (simp_all; omega) | grind))) (Hp.le.refl _) ?_)
            clear E a S; rintro a v_51 w M_50 hM_50 hv_51 S E
            replace h0 := h0.le hM_50
            replace hb_1 := hM_50.2 _ _ hb_1
            replace hv_6 := hv_6.le hM_50
            replace hv_47 := hv_47.le hM_50
            refine WL_guard_yes E rfl rfl ?_
            refine S_x (X_pu E S rfl rfl rfl (impl_IsSorted hv_51) (Hp.le.refl _) ?_)
            clear E a S; rintro a _ w M_52 hM_52 rfl S E
            replace h0 := h0.le hM_52
            replace hb_1 := hM_52.2 _ _ hb_1
            replace hv_6 := hv_6.le hM_52
            replace hv_47 := hv_47.le hM_52
            replace hv_51 := hv_51.le hM_52
            refine WL_guard_yes E rfl rfl ?_
            refine S_v E rfl (R_move E rfl) rfl ?_
            clear E a; intro a E
            refine WL_guard_yes E rfl rfl ?_
            refine S_v E rfl (R_eqlB E rfl rfl Try.underlying4) rfl ?_
            clear E a; intro a E
            refine S_v E rfl (R_pickT E rfl rfl) rfl ?_
            clear E a; intro a E
            refine S_v E rfl (R_assign E rfl) rfl ?_
            clear E a; intro a E
            refine WL_nil ?_
            refine T_n ?_
            refine WP_ret ?_
            exact F_ret1 E Try.results7 rfl ⟨_, rfl, M_52, (hM_2.trans (hM_4.trans (hM_7.trans (hM_8.trans (hM_10.trans (hM_13.trans (hM_32.trans (hM_34.trans (hM_36.trans (hM_38.trans (hM_40.trans (hM_42.trans (hM_44.trans (hM_46.trans (hM_48.trans (hM_50.trans hM_52)))))))))))))))), (congrArg Value.bool (by (clear E S; first | (simp; done) | decide | (simp only [etk, etm]; simp; done) | (simp [SortedI]; done) | (rw [key0_map hr0, etk]; simp; done) | (rw [mapI_map (keyAt_free hk4), etm]; simp; done) | exact decide_eq_true (srtM_sorted _) | (simp [srtM_sorted]; done)))), S⟩

end Go.Proofs.Ytpncgdecfhfjmaa.wFnSortedness
