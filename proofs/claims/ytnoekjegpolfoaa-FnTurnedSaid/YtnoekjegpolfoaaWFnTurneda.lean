/- Walks through the functions that laws.FnTurned reaches: what each computes; no conditions beyond what each theorem states. -/
import Derived.Test.YtnoekjegpolfoaaProg
import Derived.Test.YtnoekjegpolfoaaSlM
set_option linter.unusedVariables false
set_option linter.unusedSimpArgs false
namespace Go.Proofs.Ytnoekjegpolfoaa.wFnTurned
open Go Go.Sl
theorem Try.mixed : Try.prog.follows .mixedOrders = true := by kernel_rfl
theorem T22 : SlT Try.prog 22 3 1 8 (.int .i64 0) := ⟨Try.underlying22, ⟨Try.t3, by kernel_rfl, rfl, rfl, rfl⟩, rfl, by decide⟩
theorem T31 : SlT Try.prog 31 22 1 24 (.slice none 0 0) := ⟨Try.underlying31, ⟨Try.t22, by kernel_rfl, rfl, rfl, rfl⟩, rfl, by decide⟩

def spliceL (l : List Int) (i : Int) (m : List Int) : List Int :=
  let j := min (if i < 0 then (i + l.length).toNat else i.toNat) l.length
  l.take j ++ m ++ l.drop j

theorem splice_same (l m : List Int) (i : Int) : (spliceL l i m).length = (l ++ m).length ∧ ∀ x ∈ spliceL l i m, (spliceL l i m).count x = (l ++ m).count x := by
  have h : (spliceL l i m).Perm (l ++ m) := by
    unfold spliceL
    generalize min (if i < 0 then (i + l.length).toNat else i.toNat) l.length = j
    have e : l ++ m = l.take j ++ l.drop j ++ m := by rw [List.take_append_drop]
    rw [e, List.append_assoc, List.append_assoc]
    exact List.Perm.append_left _ List.perm_append_comm
  exact ⟨h.length_eq, fun x _ => h.count_eq x⟩

def cutAt (l b : List Int) : Option Nat := (List.range (l.length + 1)).find? (fun i => decide ((l.drop i).take b.length = b))
def cutL (l b : List Int) : List Int × List Int × Bool :=
  match cutAt l b with
  | some k => (l.take k, l.drop (k + b.length), true)
  | none => (l, [], false)
theorem cutAt_some {l b : List Int} {k : Nat} (hk : k ≤ l.length) (h : (l.drop k).take b.length = b) (hn : ∀ j, j < k → ¬ (l.drop j).take b.length = b) : cutAt l b = some k := by
  unfold cutAt
  rw [List.find?_range_eq_some]
  exact ⟨by simpa using h, by simp; omega, fun j hj => by simpa using hn j hj⟩
theorem cutAt_none {l b : List Int} (hn : ∀ j, j ≤ l.length → ¬ (l.drop j).take b.length = b) : cutAt l b = none := by
  unfold cutAt
  rw [List.find?_range_eq_none]
  intro j hj
  simpa using hn j (by omega)
theorem cutL_some {l b : List Int} {k : Nat} (hk : k ≤ l.length) (h : (l.drop k).take b.length = b) (hn : ∀ j, j < k → ¬ (l.drop j).take b.length = b) : cutL l b = (l.take k, l.drop (k + b.length), true) := by
  unfold cutL; rw [cutAt_some hk h hn]
theorem cutL_none {l b : List Int} {k : Nat} (hk : l.length < k + b.length) (hn : ∀ j, j < k → ¬ (l.drop j).take b.length = b) : cutL l b = (l, [], false) := by
  unfold cutL; rw [cutAt_none]
  intro j hj e
  by_cases h : j < k
  · exact hn j h e
  · have := congrArg List.length e
    simp at this; omega
theorem cut_len {l b : List Int} : (cutL l b).1.length ≤ l.length ∧ (cutL l b).2.1.length ≤ l.length := by
  unfold cutL; split <;> simp <;> omega
theorem take_ne {l b : List Int} {k j : Nat} {x y : Int} (hx : l[k + j]? = some x) (hy : b[j]? = some y) (h : x ≠ y) : ¬ (l.drop k).take b.length = b := by
  intro e
  have hj := (List.getElem?_eq_some_iff.1 hy).1
  have : ((l.drop k).take b.length)[j]? = some x := by rw [List.getElem?_take, if_pos hj, List.getElem?_drop]; exact hx
  rw [e, hy] at this; exact h (Option.some.inj this).symm

def AtL (l b : List Int) (i xa : Int) : Prop :=
  (xa = -1 ∧ ∀ j : Nat, i < j → ¬ (l.drop j).take b.length = b) ∨ (∃ p : Nat, xa = p ∧ i < p ∧ p ≤ l.length ∧ (l.drop p).take b.length = b ∧ ∀ j : Nat, i < j → j < p → ¬ (l.drop j).take b.length = b)
theorem AtL_start {l b : List Int} {i : Int} (hb : ¬ (b.length : Int) = 0) (hi : i = (l.length : Int) - b.length) : AtL l b i (-1) := by
  refine .inl ⟨rfl, fun j hj e => ?_⟩
  have := congrArg List.length e
  simp at this; omega
theorem AtL_yes {l b : List Int} {i j xa : Int} (h : AtL l b i xa) (h0 : 0 ≤ i) (h1 : i ≤ l.length) (hj : j = i - 1) (hp : (l.drop i.toNat).take b.length = b) : AtL l b j i := by
  refine .inr ⟨i.toNat, by omega, by omega, by omega, hp, fun k h1 h2 => by omega⟩
theorem AtL_no {l b : List Int} {i j xa : Int} (h : AtL l b i xa) (h0 : 0 ≤ i) (hj : j = i - 1) (hp : ¬ (l.drop i.toNat).take b.length = b) : AtL l b j xa := by
  rcases h with ⟨rfl, h⟩ | ⟨p, rfl, h1, h2, h3, h4⟩
  · refine .inl ⟨rfl, fun k hk => ?_⟩
    by_cases e : (k : Int) = i
    · rw [show k = i.toNat by omega]; exact hp
    · exact h k (by omega)
  · refine .inr ⟨p, rfl, by omega, h2, h3, fun k hk hkp => ?_⟩
    by_cases e : (k : Int) = i
    · rw [show k = i.toNat by omega]; exact hp
    · exact h4 k (by omega) hkp
theorem AtL_end {l b : List Int} {i xa : Int} (h : AtL l b i xa) (h0 : i < 0) :
    (xa = -1 ∧ cutL l b = (l, [], false)) ∨ (∃ p : Nat, xa = p ∧ p ≤ l.length ∧ p + b.length ≤ l.length ∧ cutL l b = (l.take p, l.drop (p + b.length), true) ∧ l.take p ++ b ++ l.drop (p + b.length) = l) := by
  rcases h with ⟨rfl, h⟩ | ⟨p, rfl, h1, h2, h3, h4⟩
  · exact .inl ⟨rfl, cutL_none (k := l.length + 1) (by omega) fun j _ => h j (by omega)⟩
  · refine .inr ⟨p, rfl, h2, ?_, cutL_some h2 h3 fun j hj => h4 j (by omega) hj, ?_⟩
    · have := congrArg List.length h3
      simp at this; omega
    · have e : l.drop p = b ++ l.drop (p + b.length) := by
        conv => lhs; rw [← List.take_append_drop b.length (l.drop p), h3, List.drop_drop]
      rw [List.append_assoc, ← e, List.take_append_drop]

def maxLen (ll : List (List Int)) : Nat := ll.foldl (fun a x => max a x.length) 0
def rowI (i : Nat) (ll : List (List Int)) : List Int := ll.filterMap (fun l => l[i]?)
def interP (k : Nat) (ll : List (List Int)) : List Int := (List.range k).flatMap (fun i => rowI i ll)
def total (ll : List (List Int)) : Nat := (ll.map List.length).sum
theorem maxLen_succ {ll : List (List Int)} {k : Nat} {x : List Int} (h : ll[k]? = some x) : maxLen (ll.take (k + 1)) = max (maxLen (ll.take k)) x.length := by
  simp [maxLen, List.take_add_one, h]
theorem foldl_max_le (ll : List (List Int)) : ∀ a, a ≤ ll.foldl (fun a x => max a x.length) a ∧ ∀ x ∈ ll, x.length ≤ ll.foldl (fun a x => max a x.length) a := by
  induction ll with
  | nil => intro a; simp
  | cons y ll ih =>
    intro a
    obtain ⟨h1, h2⟩ := ih (max a y.length)
    simp only [List.foldl_cons, List.mem_cons]
    refine ⟨by omega, fun x hx => ?_⟩
    rcases hx with rfl | hx
    · omega
    · exact h2 x hx
theorem le_maxLen {ll : List (List Int)} {x : List Int} (h : x ∈ ll) : x.length ≤ maxLen ll := (foldl_max_le ll 0).2 x h
theorem maxLen_le {ll : List (List Int)} {b : Nat} (h : ∀ x ∈ ll, x.length ≤ b) : maxLen ll ≤ b := by
  unfold maxLen
  suffices ∀ a, a ≤ b → ll.foldl (fun a x => max a x.length) a ≤ b from this 0 (by omega)
  induction ll with
  | nil => intro a ha; exact ha
  | cons y ll ih => intro a ha; exact ih (fun x hx => h x (by simp [hx])) _ (by have := h y (by simp); show max a y.length ≤ b; omega)
theorem total_succ {ll : List (List Int)} {k : Nat} {x : List Int} (h : ll[k]? = some x) : total (ll.take (k + 1)) = total (ll.take k) + x.length := by
  simp [total, List.take_add_one, h]
theorem total_take_le (ll : List (List Int)) (k : Nat) : total (ll.take k) ≤ total ll := by
  unfold total
  conv => rhs; rw [← List.take_append_drop k ll]
  rw [List.map_append, List.sum_append]; omega
theorem total_le {ll : List (List Int)} {b : Nat} (h : ∀ x ∈ ll, x.length ≤ b) : total ll ≤ ll.length * b := by
  induction ll with
  | nil => simp [total]
  | cons y ll ih =>
    have h1 := h y (by simp)
    have h2 := ih (fun x hx => h x (by simp [hx]))
    simp only [total, List.map_cons, List.sum_cons, List.length_cons, Nat.succ_mul] at *; omega
theorem interP_succ (k : Nat) (ll : List (List Int)) : interP (k + 1) ll = interP k ll ++ rowI k ll := by
  simp [interP, List.range_succ, List.flatMap_append]
theorem rowI_cons (k : Nat) (x : List Int) (ll : List (List Int)) : (rowI k (x :: ll)).length = (if k < x.length then 1 else 0) + (rowI k ll).length := by
  unfold rowI
  by_cases h : k < x.length
  · rw [List.filterMap_cons, List.getElem?_eq_getElem h]; simp [h]; omega
  · rw [List.filterMap_cons, List.getElem?_eq_none (by omega)]; simp [h]
theorem interP_nil (k : Nat) : interP k [] = [] := by simp [interP, rowI, List.flatMap_eq_nil_iff]
theorem interP_cons (k : Nat) (x : List Int) (ll : List (List Int)) : (interP k (x :: ll)).length = min k x.length + (interP k ll).length := by
  induction k with
  | zero => simp [interP]
  | succ k ih => rw [interP_succ, interP_succ, List.length_append, List.length_append, ih, rowI_cons]; split <;> omega
theorem interP_le (k : Nat) (ll : List (List Int)) : (interP k ll).length ≤ total ll := by
  induction ll with
  | nil => simp [interP_nil, total]
  | cons x ll ih => rw [interP_cons]; simp only [total, List.map_cons, List.sum_cons] at *; omega
theorem interP_full {k : Nat} {ll : List (List Int)} (h : ∀ x ∈ ll, x.length ≤ k) : (interP k ll).length = total ll := by
  induction ll with
  | nil => simp [interP_nil, total]
  | cons x ll ih =>
    have h1 := h x (by simp)
    have h2 := ih fun y hy => h y (by simp [hy])
    rw [interP_cons]; simp only [total, List.map_cons, List.sum_cons] at *; omega
theorem rowI_succ {ll : List (List Int)} {j i : Nat} {x : List Int} (h : ll[j]? = some x) : rowI i (ll.take (j + 1)) = rowI i (ll.take j) ++ x[i]?.toList := by
  unfold rowI
  rw [List.take_add_one, h, List.filterMap_append]
  cases e : x[i]? <;> simp [e]
theorem rowI_take_le (i j : Nat) (ll : List (List Int)) : (rowI i (ll.take j)).length ≤ (rowI i ll).length := by
  unfold rowI
  conv => rhs; rw [← List.take_append_drop j ll, List.filterMap_append, List.length_append]
  omega
theorem inter_row_le (i j : Nat) (ll : List (List Int)) : (interP i ll).length + (rowI i (ll.take j)).length ≤ total ll := by
  have h := interP_le (i + 1) ll
  rw [interP_succ, List.length_append] at h
  have := rowI_take_le i j ll; omega
theorem inter_row_lt {i j : Nat} {ll : List (List Int)} {x : List Int} (h : ll[j]? = some x) (hi : i < x.length) : (interP i ll).length + (rowI i (ll.take j)).length < total ll := by
  have h1 := inter_row_le i (j + 1) ll
  rw [rowI_succ h, List.getElem?_eq_getElem hi] at h1
  simp at h1; omega
theorem rowI_out {i : Nat} {ll : List (List Int)} (h : ∀ x ∈ ll, x.length ≤ i) : rowI i ll = [] := by
  unfold rowI
  rw [List.filterMap_eq_nil_iff]
  intro x hx
  exact List.getElem?_eq_none (h x hx)
theorem interP_stable {ll : List (List Int)} {m : Nat} (h : ∀ x ∈ ll, x.length ≤ m) : ∀ k, m ≤ k → interP k ll = interP m ll := by
  intro k hk
  induction k with
  | zero => rw [show m = 0 by omega]
  | succ k ih =>
    by_cases e : m = k + 1
    · rw [e]
    · rw [interP_succ, ih (by omega), rowI_out fun x hx => by have := h x hx; omega, List.append_nil]
def interL (ll : List (List Int)) : List Int := interP (maxLen ll) ll
theorem interL_eq {ll : List (List Int)} {k : Nat} (h : maxLen ll ≤ k) : interP k ll = interL ll :=
  interP_stable (fun x hx => le_maxLen hx) k h
theorem maxLen_total (ll : List (List Int)) : maxLen ll ≤ total ll := by
  refine maxLen_le fun x hx => ?_
  obtain ⟨k, hk⟩ := List.getElem?_of_mem hx
  have := total_take_le ll (k + 1)
  rw [total_succ hk] at this; omega
theorem interL_length (ll : List (List Int)) : (interL ll).length = total ll := interP_full fun x hx => le_maxLen hx
theorem rowI_perm (ll : List (List Int)) (k : Nat) : (rowI k ll ++ (ll.map (List.drop (k + 1))).flatten).Perm (ll.map (List.drop k)).flatten := by
  induction ll with
  | nil => simp [rowI]
  | cons x ll ih =>
    unfold rowI at *
    rw [List.filterMap_cons]
    simp only [List.map_cons, List.flatten_cons]
    cases e : x[k]? with
    | none =>
      have hk : x.length ≤ k := by simpa using e
      simp only [List.drop_eq_nil_of_le hk, List.drop_eq_nil_of_le (Nat.le_succ_of_le hk), List.nil_append]
      exact ih
    | some y =>
      have hk := (List.getElem?_eq_some_iff.1 e)
      obtain ⟨h1, h2⟩ := hk
      rw [List.drop_eq_getElem_cons h1, h2]
      simp only [List.cons_append]
      refine List.Perm.cons y ?_
      rw [← List.append_assoc]
      refine (List.Perm.append_right _ List.perm_append_comm).trans ?_
      rw [List.append_assoc]
      exact List.Perm.append_left _ ih
theorem interP_perm (ll : List (List Int)) : ∀ k, (interP k ll ++ (ll.map (List.drop k)).flatten).Perm ll.flatten := by
  intro k
  induction k with
  | zero => simp [interP, show (List.drop 0 : List Int → List Int) = id from funext fun _ => rfl]
  | succ k ih =>
    rw [interP_succ, List.append_assoc]
    exact (List.Perm.append_left _ (rowI_perm ll k)).trans ih
theorem interL_perm (ll : List (List Int)) : (interL ll).Perm ll.flatten := by
  have h := interP_perm ll (maxLen ll)
  have e : (ll.map (List.drop (maxLen ll))).flatten = [] := by
    rw [List.flatten_eq_nil_iff]
    intro l hl
    obtain ⟨x, hx, rfl⟩ := List.mem_map.1 hl
    exact List.drop_eq_nil_of_le (le_maxLen hx)
  rw [e, List.append_nil] at h; exact h
theorem inter_same (ll : List (List Int)) : (interL ll).length = ll.flatten.length ∧ ∀ x ∈ interL ll, (interL ll).count x = ll.flatten.count x :=
  ⟨(interL_perm ll).length_eq, fun x _ => (interL_perm ll).count_eq x⟩
theorem flatten_len (ll : List (List Int)) : ll.flatten.length = total ll := by simp [total, List.length_flatten]
theorem flatten_succ {ll : List (List Int)} {k : Nat} {x : List Int} (h : ll[k]? = some x) : (ll.take (k + 1)).flatten = (ll.take k).flatten ++ x := by
  simp [List.take_add_one, h]
theorem set_fill {p q : List Int} {n : Nat} {y : Int} (h : p.length < n) (hq : q = p ++ [y]) : (p ++ List.replicate (n - p.length) (0 : Int)).set p.length y = q ++ List.replicate (n - q.length) (0 : Int) := by
  subst hq
  rw [List.set_append_right _ _ (Nat.le_refl _), Nat.sub_self]
  obtain ⟨m, hm⟩ : ∃ m, n - p.length = m + 1 := ⟨n - p.length - 1, by omega⟩
  rw [hm, List.replicate_succ, List.set_cons_zero]
  simp; omega

theorem List.mem_take_succ_of {α : Type} {l : List α} {k : Nat} {x : α} (h : l[k]? = some x) : x ∈ l.take (k + 1) := by
  rw [List.take_add_one, h]; simp
theorem take_mem_exists {α : Type} {l : List α} {k : Nat} {x : α} {p : α → Prop} (h : l[k]? = some x) : (∃ y ∈ l.take (k + 1), p y) ↔ (∃ y ∈ l.take k, p y) ∨ p x := by
  rw [List.take_add_one, h]
  simp only [Option.toList_some, List.mem_append, List.mem_singleton]
  constructor
  · rintro ⟨y, hy | rfl, hp⟩
    · exact .inl ⟨y, hy, hp⟩
    · exact .inr hp
  · rintro (⟨y, hy, hp⟩ | hp)
    · exact ⟨y, .inl hy, hp⟩
    · exact ⟨x, .inr rfl, hp⟩

theorem flat_prefix {l : List (List Int)} {k : Nat} {xk p : List Int} {x : Int} (h : l[k]? = some xk) (hp : p ++ [x] <+: xk) : ((l.take k).flatten ++ p) ++ [x] <+: l.flatten := by
  have h1 : (l.take (k + 1)).flatten <+: l.flatten := by
    conv => rhs; rw [← List.take_append_drop (k + 1) l, List.flatten_append]
    exact List.prefix_append _ _
  rw [flatten_succ h] at h1
  rw [List.append_assoc]
  exact ((List.prefix_append_right_inj _).2 hp).trans h1
theorem flat_prefix0 {l : List (List Int)} {k : Nat} {xk p : List Int} (h : l[k]? = some xk) (hp : p <+: xk) : ((l.take k).flatten ++ p) <+: l.flatten := by
  have h1 : (l.take (k + 1)).flatten <+: l.flatten := by
    conv => rhs; rw [← List.take_append_drop (k + 1) l, List.flatten_append]
    exact List.prefix_append _ _
  rw [flatten_succ h] at h1
  exact ((List.prefix_append_right_inj _).2 hp).trans h1
theorem total_append (a b : List (List Int)) : total (a ++ b) = total a + total b := by simp [total]

/-- the first k items and the last k ones have changed their places -/
def swapK (l : List Int) (k : Nat) : List Int := (List.range l.length).map fun i => if i < k ∨ l.length ≤ i + k then l.getD (l.length - 1 - i) 0 else l.getD i 0
theorem swapK_zero (l : List Int) : l = swapK l 0 := by
  apply List.ext_getElem?
  intro i
  unfold swapK
  rw [List.getElem?_map]
  by_cases h : i < l.length
  · rw [List.getElem?_range h, Option.map_some, if_neg (by omega), List.getElem?_eq_getElem h]; simp [List.getD_eq_getElem?_getD, h]
  · rw [List.getElem?_eq_none (by omega), List.getElem?_eq_none (by simp; omega)]; rfl
theorem swapK_length (l : List Int) (k : Nat) : (swapK l k).length = l.length := by simp [swapK]
theorem swapK_get {l : List Int} {k i : Nat} (h : i < l.length) : (swapK l k)[i]? = some (if i < k ∨ l.length ≤ i + k then l.getD (l.length - 1 - i) 0 else l.getD i 0) := by
  unfold swapK; rw [List.getElem?_map, List.getElem?_range h]; rfl
theorem swapK_succ {l : List Int} {k j : Nat} {x y : Int} (hk : 2 * k + 1 < l.length) (hj : j = l.length - 1 - k) (hx : (swapK l k)[j]? = some x) (hy : (swapK l k)[k]? = some y) : ((swapK l k).set k x).set j y = swapK l (k + 1) := by
  subst hj
  rw [swapK_get (by omega)] at hx hy
  rw [if_neg (by omega)] at hx hy
  apply List.ext_getElem?
  intro i
  by_cases h : i < l.length
  · rw [swapK_get h, List.getElem?_set, List.getElem?_set, swapK_length, List.length_set, swapK_length]
    by_cases h1 : l.length - 1 - k = i
    · rw [if_pos h1, if_pos (by omega), if_pos (by omega), ← hy, ← h1]; congr 2; omega
    · rw [if_neg h1]
      by_cases h2 : k = i
      · rw [if_pos h2, if_pos (by omega), if_pos (by omega), ← hx, ← h2]
      · rw [if_neg h2, swapK_get h]
        by_cases h3 : i < k ∨ l.length ≤ i + k
        · rw [if_pos h3, if_pos (by omega)]
        · rw [if_neg h3, if_neg (by omega)]
  · rw [List.getElem?_eq_none (by simp [swapK_length]; omega), List.getElem?_eq_none (by simp [swapK_length]; omega)]
theorem swapK_half {l : List Int} {k : Nat} (h : l.length / 2 ≤ k) : swapK l k = l.reverse := by
  apply List.ext_getElem?
  intro i
  by_cases hi : i < l.length
  · rw [swapK_get hi, List.getElem?_reverse hi]
    by_cases h3 : i < k ∨ l.length ≤ i + k
    · rw [if_pos h3, List.getElem?_eq_getElem (by omega)]; simp [List.getD_eq_getElem?_getD, List.getElem?_eq_getElem (show l.length - 1 - i < l.length by omega)]
    · rw [if_neg h3, List.getElem?_eq_getElem (by omega)]
      have : l.length - 1 - i = i := by omega
      simp [List.getD_eq_getElem?_getD, List.getElem?_eq_getElem hi, this]
  · rw [List.getElem?_eq_none (by simp [swapK_length]; omega), List.getElem?_eq_none (by simp; omega)]
theorem tdiv2 (n : Nat) : IntKind.i64.wrap (Int.tdiv (n : Int) 2) = IntKind.i64.wrap ((n / 2 : Nat) : Int) := by congr 1

theorem first_eq {l : List Int} {x : Int} (h : l[0]? = some x) : l.headD 0 = x ∧ l.isEmpty = false := by
  cases l with
  | nil => cases h
  | cons y l => cases h; exact ⟨rfl, rfl⟩
theorem last_eq {l : List Int} {x : Int} {k : Nat} (h : l[k]? = some x) (hk : k + 1 = l.length) : l.getLastD 0 = x ∧ l.isEmpty = false := by
  cases l with
  | nil => cases h
  | cons y l =>
    refine ⟨?_, rfl⟩
    have : k = l.length := by simpa using hk
    subst this
    rw [List.getLastD_cons, List.getLastD_eq_getLast?, List.getLast?_eq_getElem?]
    cases l with
    | nil => cases h; rfl
    | cons z l => rw [show (z :: l).length - 1 = l.length by simp]; rw [show (y :: z :: l)[(z :: l).length]? = (z :: l)[l.length]? by simp] at h; rw [h]; rfl

theorem rev_step {l : List Int} {k j : Nat} {x : Int} (hk : k < l.length) (hj : (j : Int) = (l.length : Int) - 1 - k) (h : l[j]? = some x) : (l.drop (l.length - k)).reverse ++ [x] = (l.drop (l.length - (k + 1))).reverse := by
  have e : j = l.length - (k + 1) := by omega
  subst e
  rw [List.drop_eq_getElem_cons (show l.length - (k + 1) < l.length by omega), show l.length - (k + 1) + 1 = l.length - k by omega, List.reverse_cons]
  rw [List.getElem?_eq_getElem (by omega)] at h
  rw [Option.some.inj h]
theorem rev_prefix {l : List Int} {k j : Nat} {x : Int} (hk : k < l.length) (hj : (j : Int) = (l.length : Int) - 1 - k) (h : l[j]? = some x) : (l.drop (l.length - k)).reverse ++ [x] <+: l.reverse := by
  rw [rev_step hk hj h]
  conv => rhs; rw [← List.take_append_drop (l.length - (k + 1)) l, List.reverse_append]
  exact List.prefix_append _ _

theorem turn_head (l : List Int) : l.headD 0 = l.reverse.getLastD 0 := by cases l <;> simp [List.getLastD_eq_getLast?]

set_option maxHeartbeats 4000000 in
theorem impl_fresh {M : Hp} {v0 : Value} {l0 : List Int} (h0 : RdI M v0 l0)(hb : l0.length ≤ 1000000000000) :
    Sp Try.prog (.func (.func 60) #[] #[]) M [v0] [] (fun r M' C' => C' = [OwnI 3 r l0]) := by
  refine Sp_enter Try.func60 rfl Try.ntmps60 rfl Try.call60 ?_
  intro a w M1 H hM1 S E
  replace h0 := h0.le hM1
  have b0 := h0.bound
  refine WP_seq ?_
  refine WP_region ?_
  refine S_v E rfl (R_assign E rfl) rfl ?_
  clear E a; intro a E
  refine WL_nil ?_
  refine T_n ?_
  refine WP_seq ?_
  refine WP_region ?_
  refine S_x (X_buildI (ys := []) E S rfl T22 rfl rfl rfl ?_)
  clear E a S; rintro a w v1 E S
  refine S_v E rfl (R_move E rfl) rfl ?_
  clear E a; intro a E
  refine S_x (X_appendI (xs := ([] : List Int)) E S rfl rfl rfl T22 h0 (by first | omega | (simp; omega) | (simp_all; omega)) ?_)
  clear E a S; rintro a w v2 E S
  refine S_v E rfl (R_assign E rfl) rfl ?_
  clear E a; intro a E
  refine WL_nil ?_
  refine T_n ?_
  refine WP_ret ?_
  replace S := S.re1 (l' := l0) (by ((try clear S); (try clear E); first | assumption | omega | rfl | (simp; done) | (simp_all; done) | (simp [List.take_add_one, *]; done) | grind [List.take_add_one]))
  exact F_ret1 E Try.results60 rfl ⟨_, rfl, M1, _, (Hp.le.refl _), rfl, S⟩

set_option maxHeartbeats 4000000 in
theorem mutable_Reverse {M : Hp} {v0 : Value} {l0 : List Int} (b0 : l0.length ≤ 1000000000000) :
    Sp Try.prog (.func (.func 100) #[] #[]) M [v0] [OwnI 3 v0 l0] (fun r M' C' => C' = [OwnI 3 v0 ((l0).reverse)]) := by
  refine Sp_enter Try.func100 rfl Try.ntmps100 rfl Try.call100 ?_
  intro a w M1 H hM1 S E
  replace S : St w M1 (OwnI 3 v0 l0 :: _) := S
  refine WP_seq ?_
  refine WP_region ?_
  refine S_v E rfl (R_move E rfl) rfl ?_
  clear E a; intro a E
  refine S_v E rfl (R_lenV E rfl T22 S.lenC) rfl ?_
  clear E a; intro a E
  refine S_v E rfl (R_assign E rfl) rfl ?_
  clear E a; intro a E
  refine WL_nil ?_
  refine T_n ?_
  refine WP_seq ?_
  refine WP_region ?_
  refine S_v E rfl (R_move E rfl) rfl ?_
  clear E a; intro a E
  refine S_v E rfl (R_quon (p := (l0).length) (q := 2) E rfl rfl (by first | decide | omega) (by omega)) rfl ?_
  clear E a; intro a E
  refine S_v E rfl (R_assign E rfl) rfl ?_
  clear E a; intro a E
  refine WL_nil ?_
  refine T_n ?_
  refine WP_seq ?_
  refine WP_region ?_
  refine S_v E rfl (R_assign E rfl) rfl ?_
  clear E a; intro a E
  refine WL_nil ?_
  refine T_n ?_
  refine WP_block ?_
  replace S := S.re1 (l' := swapK l0 0) (by first | exact swapK_zero _ | (refine swapK_succ ?_ ?_ (by assumption) (by assumption); omega; omega))
  refine WP_loop (γ := Nat) (fun (k : Nat) a w => ∃ (M_1 : Hp), Hp.le M1 M_1 ∧ St w M_1 (OwnI 3 v0 (swapK l0 k) :: H) ∧ Env a 33 [] [(0, v0), (2, .int .i64 (((l0).length : Nat) : Int)), (3, .int .i64 ((((l0).length) / 2 : Nat) : Int)), (4, .int .i64 ((k : Nat) : Int))] ∧ (k ≤ l0.length / 2)) (fun k => l0.length / 2 - k) 0 ⟨M1, Hp.le.refl _, S, E.keep ⟨rfl, rfl, rfl, rfl, trivial⟩, by ((try clear S); (try clear E); first | assumption | omega | rfl | (simp; done) | (simp_all; done) | (simp [List.take_add_one, *]; done) | grind [List.take_add_one])⟩ ?_
  try clear E
  try clear S
  try clear a
  try clear w
  rintro k a w ⟨M_1, hM_1, S, E, hL0_0⟩
  have hsl := swapK_length l0 k
  refine WP_seq ?_
  refine WP_seq ?_
  refine WP_region ?_
  refine S_v E rfl (R_move E rfl) rfl ?_
  clear E a; intro a E
  refine S_v E rfl (R_move E rfl) rfl ?_
  clear E a; intro a E
  refine S_v E rfl (R_lss E rfl rfl) rfl ?_
  clear E a; intro a E
  refine WL_nil ?_
  refine T_n ?_
  refine WP_cond E rfl (fun hc2 => ?_) (fun hc2 => ?_)
  · replace hc2 := of_decide_eq_true hc2
    refine WP_skip ?_
    refine T_n ?_
    refine WP_seq ?_
    refine WP_block ?_
    refine WP_seq ?_
    refine WP_region ?_
    refine S_v E rfl (R_move E rfl) rfl ?_
    clear E a; intro a E
    refine S_v E rfl (R_subx (m := (((l0).length - 1 : Nat) : Int)) E rfl rfl (by omega) (by omega)) rfl ?_
    clear E a; intro a E
    refine S_v E rfl (R_move E rfl) rfl ?_
    clear E a; intro a E
    refine S_v E rfl (R_subx (m := (((l0).length - 1 - k : Nat) : Int)) E rfl rfl (by omega) (by omega)) rfl ?_
    clear E a; intro a E
    refine S_v E rfl (R_assign E rfl) rfl ?_
    clear E a; intro a E
    refine WL_nil ?_
    refine T_n ?_
    replace S := S.mono_heap (w' := World.drew _) rfl
    obtain ⟨p3, hp3⟩ := S.ptrC (k := (l0).length - 1 - k) (by first | omega | (simp; omega) | (simp_all; omega))
    obtain ⟨x4, hx4⟩ : ∃ x, (swapK l0 k)[(l0).length - 1 - k]? = some x := ⟨_, List.getElem?_eq_getElem (by first | omega | (simp; omega) | (simp_all; omega))⟩
    obtain ⟨p5, hp5⟩ := S.ptrC (k := k) (by first | omega | (simp; omega) | (simp_all; omega))
    obtain ⟨x6, hx6⟩ : ∃ x, (swapK l0 k)[k]? = some x := ⟨_, List.getElem?_eq_getElem (by first | omega | (simp; omega) | (simp_all; omega))⟩
    refine WP_drawn (C := fun x w => agree M_1 w ∧ (x = 7 → w.cell? p3 = some (.int .i64 x4)) ∧ (x = 11 → w.cell? p5 = some (.int .i64 x6))) (bf := (fun i => bif Nat.beq i 13 then [7, 11] else bif Nat.beq i 14 then [7, 11] else bif Nat.beq i 15 then [7, 11] else [])) [0, 1, 2, 3, 4, 5, 6, 7, 8, 9, 10, 11, 12] [0, 1, 2, 3, 4, 5, 6, 7, 8, 9, 10, 11, 12, 13, 14, 15] Try.mixed (by kernel_rfl) (fun x hq => ⟨S.imm, fun _ => S.cellI hp3 hx4, fun _ => S.cellI hp5 hx6⟩) ?_
    refine D_v E rfl rfl rfl (fun w hC => (R_move E rfl)) ?_
    clear E a; intro a E
    refine D_v E rfl rfl rfl (fun w hC => (R_move E rfl)) ?_
    clear E a; intro a E
    refine D_v E rfl rfl rfl (fun w hC => (R_move E rfl)) ?_
    clear E a; intro a E
    refine D_v E rfl rfl rfl (fun w hC => (R_move E rfl)) ?_
    clear E a; intro a E
    refine D_v E rfl rfl rfl (fun w hC => (R_move E rfl)) ?_
    clear E a; intro a E
    refine D_v E rfl rfl rfl (fun w hC => (R_move E rfl)) ?_
    clear E a; intro a E
    refine D_v E rfl rfl rfl (fun w hC => (R_idx E rfl rfl T22 hp3 rfl)) ?_
    clear E a; intro a E
    refine D_v E rfl rfl rfl (fun w hC => (R_load E rfl (Try.isAgg3 _) (hC.2.1 rfl))) ?_
    clear E a; intro a E
    refine D_v E rfl rfl rfl (fun w hC => (R_move E rfl)) ?_
    clear E a; intro a E
    refine D_v E rfl rfl rfl (fun w hC => (R_move E rfl)) ?_
    clear E a; intro a E
    refine D_v E rfl rfl rfl (fun w hC => (R_idx E rfl rfl T22 hp5 rfl)) ?_
    clear E a; intro a E
    refine D_v E rfl rfl rfl (fun w hC => (R_load E rfl (Try.isAgg3 _) (hC.2.2 rfl))) ?_
    clear E a; intro a E
    refine D_v E rfl rfl rfl (fun w hC => (R_idx E rfl rfl T22 hp5 rfl)) ?_
    clear E a; intro a E
    refine D_x rfl rfl rfl (X_storeI E S rfl rfl (Try.sizeOf3 _) hp5 ?_)
    clear E a S; rintro a w E S
    refine ⟨fun x hq hb => ⟨(agree_le (Hp.le.refl _) S.imm), (fun e => by subst e; exact absurd hb (by decide)), (fun e => by subst e; exact absurd hb (by decide))⟩, ?_⟩
    refine D_x rfl rfl rfl (X_val E rfl rfl (R_idx E rfl rfl T22 hp3 rfl) fun a E => ⟨fun x hq hb => ⟨(agree_le (Hp.le.refl _) S.imm), (fun e => by subst e; exact absurd hb (by decide)), (fun e => by subst e; exact absurd hb (by decide))⟩, ?_⟩)
    refine D_x rfl rfl rfl (X_storeI E S rfl rfl (Try.sizeOf3 _) hp3 ?_)
    clear E a S; rintro a w E S
    refine ⟨fun x hq hb => ⟨(agree_le (Hp.le.refl _) S.imm), (fun e => by subst e; exact absurd hb (by decide)), (fun e => by subst e; exact absurd hb (by decide))⟩, ?_⟩
    refine D_end (NoP_n ?_)
    refine B_n ?_
    refine T_n ?_
    refine WP_region ?_
    refine S_v E rfl (R_move E rfl) rfl ?_
    clear E a; intro a E
    refine S_v E rfl (R_addx (m := ((k + 1 : Nat) : Int)) E rfl rfl (by omega) (by omega)) rfl ?_
    clear E a; intro a E
    refine S_v E rfl (R_assign E rfl) rfl ?_
    clear E a; intro a E
    refine WL_nil ?_
    refine T_n ?_
    replace S := S.re1 (l' := swapK l0 (k + 1)) (by first | exact swapK_zero _ | (refine swapK_succ ?_ ?_ (by assumption) (by assumption); omega; omega))
    exact ⟨k + 1, ⟨M_1, hM_1, S, E.keep ⟨rfl, rfl, rfl, rfl, trivial⟩, by ((try clear S); (try clear E); first | assumption | omega | rfl | (simp; done) | (simp_all; done) | (simp [List.take_add_one, *]; done) | grind [List.take_add_one])⟩, by omega⟩
  · replace hc2 := of_decide_eq_false hc2
    refine WP_exit ?_
    refine T_x ?_
    refine T_x ?_
    refine B_x ?_
    refine F_nrm ?_
    replace S := S.re1 (l' := (l0).reverse) (by (exact swapK_half (by omega)))
    exact F_ret0 E Try.results100 ⟨_, rfl, M_1, _, hM_1, rfl, S⟩

set_option maxHeartbeats 4000000 in
theorem lo_Reverse {M : Hp} {v0 : Value} {l0 : List Int} (b0 : l0.length ≤ 1000000000000) :
    Sp Try.prog (.func (.func 67) #[] #[]) M [v0] [OwnI 3 v0 l0] (fun r M' C' => C' = [OwnI 3 r ((l0).reverse)]) := by
  refine Sp_enter Try.func67 rfl Try.ntmps67 rfl Try.call67 ?_
  intro a w M1 H hM1 S E
  replace S : St w M1 (OwnI 3 v0 l0 :: _) := S
  refine WP_seq ?_
  refine WP_region ?_
  refine S_v E rfl (R_assign E rfl) rfl ?_
  clear E a; intro a E
  refine WL_nil ?_
  refine T_n ?_
  refine WP_seq ?_
  refine WP_region ?_
  refine S_v E rfl (R_move E rfl) rfl ?_
  clear E a; intro a E
  refine S_x (X_sp (p := [OwnI 3 v0 l0]) E S rfl rfl rfl (mutable_Reverse (by (first | omega | (simp; omega) | (simp; done) | (simp_all; omega) | grind))) (Hp.le.refl _) ?_)
  clear E a S; rintro a v2 w M_1 _ hM_1 rfl S E
  replace S : St w M_1 (OwnI 3 v0 ((l0).reverse) :: _) := S
  refine WL_nil ?_
  refine T_n ?_
  refine WP_seq ?_
  refine WP_region ?_
  refine S_v E rfl (R_move E rfl) rfl ?_
  clear E a; intro a E
  refine S_v E rfl (R_assign E rfl) rfl ?_
  clear E a; intro a E
  refine WL_nil ?_
  refine T_n ?_
  refine WP_ret ?_
  exact F_ret1 E Try.results67 rfl ⟨_, rfl, M_1, _, hM_1, rfl, S⟩

set_option maxHeartbeats 4000000 in
theorem impl_Reverse {M : Hp} {v0 : Value} {l0 : List Int} (h0 : RdI M v0 l0)(hb : l0.length ≤ 1000000000000) :
    Pu Try.prog (.func (.func 28) #[] #[]) M [v0] (fun r M' => RdI M' r ((l0).reverse)) := by
  refine Pu_enter Try.func28 rfl Try.ntmps28 rfl Try.call28 ?_
  intro a w M1 H hM1 S E
  replace h0 := h0.le hM1
  have b0 := h0.bound
  refine WP_seq ?_
  refine WP_region ?_
  refine S_v E rfl (R_assign E rfl) rfl ?_
  clear E a; intro a E
  refine WL_nil ?_
  refine T_n ?_
  refine WP_seq ?_
  refine WP_region ?_
  refine S_v E rfl (R_move E rfl) rfl ?_
  clear E a; intro a E
  refine S_x (X_sp (p := []) E S rfl rfl rfl (impl_fresh h0 (by (first | omega | (simp; omega) | (simp; done) | (simp_all; omega) | grind))) (Hp.le.refl _) ?_)
  clear E a S; rintro a v2 w M_1 _ hM_1 rfl S E
  replace S : St w M_1 (OwnI 3 v2 l0 :: _) := S
  replace h0 := h0.le hM_1
  refine S_x (X_sp (p := [OwnI 3 v2 l0]) E S rfl rfl rfl (lo_Reverse (by (first | omega | (simp; omega) | (simp; done) | (simp_all; omega) | grind))) (Hp.le.refl _) ?_)
  clear E a S; rintro a v4 w M_3 _ hM_3 rfl S E
  replace S : St w M_3 (OwnI 3 v4 ((l0).reverse) :: _) := S
  replace h0 := h0.le hM_3
  refine S_v E rfl (R_assign E rfl) rfl ?_
  clear E a; intro a E
  refine WL_nil ?_
  refine T_n ?_
  refine WP_ret ?_
  have S0 := S; clear S
  obtain ⟨M_5, hM_5, hz6, S⟩ := S0.freezeI (by (first | omega | (simp; omega) | (simp; done) | (simp_all; omega) | grind))
  clear S0
  replace h0 := h0.le hM_5
  exact F_ret1 E Try.results28 rfl ⟨_, rfl, M_5, (hM_1.trans (hM_3.trans hM_5)), hz6, S⟩

set_option maxHeartbeats 4000000 in
theorem laws_few {M : Hp} {v0 : Value} {l0 : List (List Int)} (h0 : RdII M v0 l0) :
    Pu Try.prog (.func (.func 13) #[] #[]) M [v0] (fun r M' => r = .bool (decide (∀ x ∈ l0, x.length ≤ 300))) := by
  refine Pu_enter Try.func13 rfl Try.ntmps13 rfl Try.call13 ?_
  intro a w M1 H hM1 S E
  replace h0 := h0.le hM1
  have b0 := h0.bound
  refine WP_seq ?_
  refine WP_region ?_
  refine S_v E rfl (R_assign E rfl) rfl ?_
  clear E a; intro a E
  refine WL_nil ?_
  refine T_n ?_
  refine WP_seq ?_
  refine WP_seq ?_
  refine WP_region ?_
  refine S_v E rfl (R_move E rfl) rfl ?_
  clear E a; intro a E
  refine S_v E rfl (R_lenV E rfl T31 h0.len) rfl ?_
  clear E a; intro a E
  refine S_v E rfl (R_move E rfl) rfl ?_
  clear E a; intro a E
  refine WL_nil ?_
  refine T_n ?_
  refine WP_block ?_
  refine WP_loop (γ := Nat) (fun (k : Nat) a w => ∃ (M_1 : Hp), Hp.le M1 M_1 ∧ St w M_1 (H) ∧ Env a 15 [] [(5, v0), (6, .int .i64 (((l0).length : Nat) : Int)), (7, .int .i64 ((k : Nat) : Int))] ∧ (k ≤ (l0).length) ∧ (∀ x ∈ l0.take k, x.length ≤ 300)) (fun k => ((l0).length) - k) 0 ⟨M1, Hp.le.refl _, S, E.keep ⟨rfl, rfl, rfl, trivial⟩, by ((try clear S); (try clear E); first | assumption | omega | rfl | (simp; done) | (simp_all; done) | (simp [List.take_add_one, *]; done) | grind [List.take_add_one]), by ((try clear S); (try clear E); first | assumption | omega | rfl | (simp; done) | (simp_all; done) | (simp [List.take_add_one, *]; done) | grind [List.take_add_one])⟩ ?_
  try clear E
  try clear S
  try clear a
  try clear w
  rintro k a w ⟨M_1, hM_1, S, E, hL0_0, hL0_1⟩
  replace h0 := h0.le hM_1
  refine WP_seq ?_
  refine WP_region ?_
  refine S_v E rfl (R_lss E rfl rfl) rfl ?_
  clear E a; intro a E
  refine WL_nil ?_
  refine T_n ?_
  refine WP_seq ?_
  refine WP_cond E rfl (fun hc2 => ?_) (fun hc2 => ?_)
  · replace hc2 := of_decide_eq_true hc2
    refine WP_skip ?_
    refine T_n ?_
    refine WP_seq ?_
    refine WP_block ?_
    refine WP_seq ?_
    refine WP_region ?_
    obtain ⟨x3, hx3⟩ : ∃ x, (l0)[k]? = some x := ⟨_, List.getElem?_eq_getElem (by first | omega | (simp; omega) | (simp_all; omega))⟩
    obtain ⟨p4, u5, hp4, qp4, hu5⟩ := h0.at hx3
    have bu5 := hu5.bound
    refine S_v E rfl (R_idx E rfl rfl T31 hp4 rfl) rfl ?_
    clear E a; intro a E
    refine S_v E rfl (R_loadM E rfl Try.isAgg22 S.imm qp4) rfl ?_
    clear E a; intro a E
    refine S_v E rfl (R_assign E rfl) rfl ?_
    clear E a; intro a E
    refine WL_nil ?_
    refine T_n ?_
    refine WP_seq ?_
    refine WP_region ?_
    refine S_v E rfl (R_move E rfl) rfl ?_
    clear E a; intro a E
    refine S_v E rfl (R_lenV E rfl T22 hu5.len) rfl ?_
    clear E a; intro a E
    refine S_v E rfl (R_gtr E rfl rfl) rfl ?_
    clear E a; intro a E
    refine WL_nil ?_
    refine T_n ?_
    refine WP_cond E rfl (fun hc6 => ?_) (fun hc6 => ?_)
    · replace hc6 := of_decide_eq_true hc6
      refine WP_seq ?_
      refine WP_region ?_
      refine S_v E rfl (R_assign E rfl) rfl ?_
      clear E a; intro a E
      refine WL_nil ?_
      refine T_n ?_
      refine WP_ret ?_
      refine B_r ?_
      refine T_r ?_
      refine T_r ?_
      refine B_r ?_
      refine T_r ?_
      exact F_ret1 E Try.results13 rfl ⟨_, rfl, M_1, hM_1, (bF (by ((try clear S); (try clear E); first | assumption | omega | rfl | (simp; done) | (simp_all; done) | (simp [List.take_add_one, *]; done) | grind [List.take_add_one]))), S⟩
    · replace hc6 := of_decide_eq_false hc6
      refine WP_skip ?_
      refine B_n ?_
      refine T_n ?_
      refine WP_region ?_
      refine S_v E rfl (R_addx (m := ((k + 1 : Nat) : Int)) E rfl rfl (by omega) (by omega)) rfl ?_
      clear E a; intro a E
      refine S_v E rfl (R_move E rfl) rfl ?_
      clear E a; intro a E
      refine WL_nil ?_
      refine T_n ?_
      exact ⟨k + 1, ⟨M_1, hM_1, S, E.keep ⟨rfl, rfl, rfl, trivial⟩, by ((try clear S); (try clear E); first | assumption | omega | rfl | (simp; done) | (simp_all; done) | (simp [List.take_add_one, *]; done) | grind [List.take_add_one]), by ((try clear S); (try clear E); first | assumption | omega | rfl | (simp; done) | (simp_all; done) | (simp [List.take_add_one, *]; done) | grind [List.take_add_one])⟩, by omega⟩
  · replace hc2 := of_decide_eq_false hc2
    refine WP_exit ?_
    refine T_x ?_
    refine T_x ?_
    refine B_x ?_
    refine T_n ?_
    refine WP_seq ?_
    refine WP_region ?_
    refine S_v E rfl (R_assign E rfl) rfl ?_
    clear E a; intro a E
    refine WL_nil ?_
    refine T_n ?_
    refine WP_ret ?_
    exact F_ret1 E Try.results13 rfl ⟨_, rfl, M_1, hM_1, (bT (by ((try clear S); (try clear E); first | assumption | omega | rfl | (simp; done) | (simp_all; done) | (simp [List.take_add_one, *]; done) | grind [List.take_add_one]))), S⟩

set_option maxHeartbeats 4000000 in
theorem laws_both {M : Hp} {v0 v1 : Value} {l0 l1 : List Int} (h0 : RdI M v0 l0) (h1 : RdI M v1 l1)(hb : l0.length + l1.length ≤ 1000000000000) :
    Pu Try.prog (.func (.func 17) #[] #[]) M [v0, v1] (fun r M' => RdI M' r (l0 ++ l1)) := by
  refine Pu_enter Try.func17 rfl Try.ntmps17 rfl Try.call17 ?_
  intro a w M1 H hM1 S E
  replace h0 := h0.le hM1
  replace h1 := h1.le hM1
  have b0 := h0.bound
  have b1 := h1.bound
  refine WP_seq ?_
  refine WP_region ?_
  refine S_v E rfl (R_assign E rfl) rfl ?_
  clear E a; intro a E
  refine WL_nil ?_
  refine T_n ?_
  refine WP_seq ?_
  refine WP_region ?_
  refine S_x (X_buildI (ys := []) E S rfl T22 rfl rfl rfl ?_)
  clear E a S; rintro a w v1 E S
  refine S_v E rfl (R_move E rfl) rfl ?_
  clear E a; intro a E
  refine S_x (X_appendI (xs := ([] : List Int)) E S rfl rfl rfl T22 h0 (by first | omega | (simp; omega) | (simp_all; omega)) ?_)
  clear E a S; rintro a w v2 E S
  refine S_v E rfl (R_move E rfl) rfl ?_
  clear E a; intro a E
  refine S_x (X_appendI (xs := [] ++ l0) E S rfl rfl rfl T22 h1 (by first | omega | (simp; omega) | (simp_all; omega)) ?_)
  clear E a S; rintro a w v3 E S
  refine S_v E rfl (R_assign E rfl) rfl ?_
  clear E a; intro a E
  refine WL_nil ?_
  refine T_n ?_
  refine WP_ret ?_
  have S0 := S; clear S
  obtain ⟨M_4, hM_4, hz5, S⟩ := S0.freezeI (by (first | omega | (simp; omega) | (simp; done) | (simp_all; omega) | grind))
  clear S0
  replace h0 := h0.le hM_4
  replace h1 := h1.le hM_4
  exact F_ret1 E Try.results17 rfl ⟨_, rfl, M_4, hM_4, (by rw [show (l0 ++ l1) = (([] ++ l0) ++ l1) from by ((try clear S); (try clear E); first | rfl | (simp; done) | (simp_all; done) | grind [List.take_add_one])]; exact hz5), S⟩

set_option maxHeartbeats 4000000 in
theorem lo_First {M : Hp} {v0 : Value} {l0 : List Int} (h0 : RdI M v0 l0) :
    Pu Try.prog (.func (.func 68) #[] #[]) M [v0] (fun r M' => r = .tuple #[.int .i64 ((l0).headD 0), .bool (!(l0).isEmpty)]) := by
  refine Pu_enter Try.func68 rfl Try.ntmps68 rfl Try.call68 ?_
  intro a w M1 H hM1 S E
  replace h0 := h0.le hM1
  have b0 := h0.bound
  refine WP_seq ?_
  refine WP_region ?_
  refine S_v E rfl (R_assign E rfl) rfl ?_
  clear E a; intro a E
  refine S_v E rfl (R_assign E rfl) rfl ?_
  clear E a; intro a E
  refine WL_nil ?_
  refine T_n ?_
  refine WP_seq ?_
  refine WP_region ?_
  refine S_v E rfl (R_move E rfl) rfl ?_
  clear E a; intro a E
  refine S_v E rfl (R_lenV E rfl T22 h0.len) rfl ?_
  clear E a; intro a E
  refine S_v E rfl (R_assign E rfl) rfl ?_
  clear E a; intro a E
  refine WL_nil ?_
  refine T_n ?_
  refine WP_seq ?_
  refine WP_seq ?_
  refine WP_region ?_
  refine S_v E rfl (R_move E rfl) rfl ?_
  clear E a; intro a E
  refine S_v E rfl (R_eql E rfl rfl) rfl ?_
  clear E a; intro a E
  refine WL_nil ?_
  refine T_n ?_
  refine WP_cond E rfl (fun hc1 => ?_) (fun hc1 => ?_)
  · replace hc1 := of_decide_eq_true hc1
    refine WP_seq ?_
    refine WP_region ?_
    refine S_v E rfl (R_assign E rfl) rfl ?_
    clear E a; intro a E
    refine WL_nil ?_
    refine T_n ?_
    refine WP_seq ?_
    refine WP_region ?_
    refine S_v E rfl (R_move E rfl) rfl ?_
    clear E a; intro a E
    refine S_v E rfl (R_assign E rfl) rfl ?_
    clear E a; intro a E
    refine S_v E rfl (R_assign E rfl) rfl ?_
    clear E a; intro a E
    refine WL_nil ?_
    refine T_n ?_
    refine WP_ret ?_
    refine T_r ?_
    exact F_ret2 E Try.results68 rfl rfl ⟨_, rfl, M1, (Hp.le.refl _), (by have e := List.eq_nil_of_length_eq_zero (l := l0) (by omega); subst e; rfl), S⟩
  · replace hc1 := of_decide_eq_false hc1
    refine WP_skip ?_
    refine T_n ?_
    refine WP_seq ?_
    refine WP_region ?_
    refine S_v E rfl (R_move E rfl) rfl ?_
    clear E a; intro a E
    obtain ⟨x2, hx2⟩ : ∃ x, (l0)[0]? = some x := ⟨_, List.getElem?_eq_getElem (by first | omega | (simp; omega) | (simp_all; omega))⟩
    obtain ⟨p3, hp3, qp3⟩ := h0.at hx2
    refine S_v E rfl (R_idx E rfl rfl T22 hp3 (by omega)) rfl ?_
    clear E a; intro a E
    refine S_v E rfl (R_loadM E rfl Try.isAgg3 S.imm qp3) rfl ?_
    clear E a; intro a E
    refine S_v E rfl (R_assign E rfl) rfl ?_
    clear E a; intro a E
    refine S_v E rfl (R_assign E rfl) rfl ?_
    clear E a; intro a E
    refine WL_nil ?_
    refine T_n ?_
    refine WP_ret ?_
    exact F_ret2 E Try.results68 rfl rfl ⟨_, rfl, M1, (Hp.le.refl _), (by rw [(first_eq (by assumption)).1, (first_eq (l := l0) (by assumption)).2]; rfl), S⟩

set_option maxHeartbeats 4000000 in
theorem impl_First {M : Hp} {v0 : Value} {l0 : List Int} (h0 : RdI M v0 l0) :
    Pu Try.prog (.func (.func 29) #[] #[]) M [v0] (fun r M' => r = .tuple #[.int .i64 ((l0).headD 0), .bool (!(l0).isEmpty)]) := by
  refine Pu_enter Try.func29 rfl Try.ntmps29 rfl Try.call29 ?_
  intro a w M1 H hM1 S E
  replace h0 := h0.le hM1
  have b0 := h0.bound
  refine WP_seq ?_
  refine WP_region ?_
  refine S_v E rfl (R_assign E rfl) rfl ?_
  clear E a; intro a E
  refine S_v E rfl (R_assign E rfl) rfl ?_
  clear E a; intro a E
  refine WL_nil ?_
  refine T_n ?_
  refine WP_seq ?_
  refine WP_region ?_
  refine S_v E rfl (R_move E rfl) rfl ?_
  clear E a; intro a E
  refine S_x (X_pu E S rfl rfl rfl (lo_First h0) (Hp.le.refl _) ?_)
  clear E a S; rintro a _ w M_1 hM_1 rfl S E
  replace h0 := h0.le hM_1
  refine S_v E rfl (R_extract E rfl rfl) rfl ?_
  clear E a; intro a E
  refine S_v E rfl (R_extract E rfl rfl) rfl ?_
  clear E a; intro a E
  refine S_v E rfl (R_assign E rfl) rfl ?_
  clear E a; intro a E
  refine S_v E rfl (R_assign E rfl) rfl ?_
  clear E a; intro a E
  refine WL_nil ?_
  refine T_n ?_
  refine WP_ret ?_
  exact F_ret2 E Try.results29 rfl rfl ⟨_, rfl, M_1, hM_1, (by first | rfl | (simp; done) | (simp_all; done)), S⟩

set_option maxHeartbeats 4000000 in
theorem lo_Last {M : Hp} {v0 : Value} {l0 : List Int} (h0 : RdI M v0 l0) :
    Pu Try.prog (.func (.func 69) #[] #[]) M [v0] (fun r M' => r = .tuple #[.int .i64 ((l0).getLastD 0), .bool (!(l0).isEmpty)]) := by
  refine Pu_enter Try.func69 rfl Try.ntmps69 rfl Try.call69 ?_
  intro a w M1 H hM1 S E
  replace h0 := h0.le hM1
  have b0 := h0.bound
  refine WP_seq ?_
  refine WP_region ?_
  refine S_v E rfl (R_assign E rfl) rfl ?_
  clear E a; intro a E
  refine S_v E rfl (R_assign E rfl) rfl ?_
  clear E a; intro a E
  refine WL_nil ?_
  refine T_n ?_
  refine WP_seq ?_
  refine WP_region ?_
  refine S_v E rfl (R_move E rfl) rfl ?_
  clear E a; intro a E
  refine S_v E rfl (R_lenV E rfl T22 h0.len) rfl ?_
  clear E a; intro a E
  refine S_v E rfl (R_assign E rfl) rfl ?_
  clear E a; intro a E
  refine WL_nil ?_
  refine T_n ?_
  refine WP_seq ?_
  refine WP_seq ?_
  refine WP_region ?_
  refine S_v E rfl (R_move E rfl) rfl ?_
  clear E a; intro a E
  refine S_v E rfl (R_eql E rfl rfl) rfl ?_
  clear E a; intro a E
  refine WL_nil ?_
  refine T_n ?_
  refine WP_cond E rfl (fun hc1 => ?_) (fun hc1 => ?_)
  · replace hc1 := of_decide_eq_true hc1
    refine WP_seq ?_
    refine WP_region ?_
    refine S_v E rfl (R_assign E rfl) rfl ?_
    clear E a; intro a E
    refine WL_nil ?_
    refine T_n ?_
    refine WP_seq ?_
    refine WP_region ?_
    refine S_v E rfl (R_move E rfl) rfl ?_
    clear E a; intro a E
    refine S_v E rfl (R_assign E rfl) rfl ?_
    clear E a; intro a E
    refine S_v E rfl (R_assign E rfl) rfl ?_
    clear E a; intro a E
    refine WL_nil ?_
    refine T_n ?_
    refine WP_ret ?_
    refine T_r ?_
    exact F_ret2 E Try.results69 rfl rfl ⟨_, rfl, M1, (Hp.le.refl _), (by first | (have e := List.eq_nil_of_length_eq_zero (l := l0) (by omega); subst e; rfl) | (have e1 := last_eq (l := l0) (by assumption) (by omega); rw [e1.1, e1.2]; rfl)), S⟩
  · replace hc1 := of_decide_eq_false hc1
    refine WP_skip ?_
    refine T_n ?_
    refine WP_seq ?_
    refine WP_region ?_
    refine S_v E rfl (R_move E rfl) rfl ?_
    clear E a; intro a E
    refine S_v E rfl (R_move E rfl) rfl ?_
    clear E a; intro a E
    refine S_v E rfl (R_subx (m := (((l0).length - 1 : Nat) : Int)) E rfl rfl (by omega) (by omega)) rfl ?_
    clear E a; intro a E
    obtain ⟨x2, hx2⟩ : ∃ x, (l0)[(l0).length - 1]? = some x := ⟨_, List.getElem?_eq_getElem (by first | omega | (simp; omega) | (simp_all; omega))⟩
    obtain ⟨p3, hp3, qp3⟩ := h0.at hx2
    refine S_v E rfl (R_idx E rfl rfl T22 hp3 rfl) rfl ?_
    clear E a; intro a E
    refine S_v E rfl (R_loadM E rfl Try.isAgg3 S.imm qp3) rfl ?_
    clear E a; intro a E
    refine S_v E rfl (R_assign E rfl) rfl ?_
    clear E a; intro a E
    refine S_v E rfl (R_assign E rfl) rfl ?_
    clear E a; intro a E
    refine WL_nil ?_
    refine T_n ?_
    refine WP_ret ?_
    exact F_ret2 E Try.results69 rfl rfl ⟨_, rfl, M1, (Hp.le.refl _), (by first | (have e := List.eq_nil_of_length_eq_zero (l := l0) (by omega); subst e; rfl) | (have e1 := last_eq (l := l0) (by assumption) (by omega); rw [e1.1, e1.2]; rfl)), S⟩

set_option maxHeartbeats 4000000 in
theorem impl_Last {M : Hp} {v0 : Value} {l0 : List Int} (h0 : RdI M v0 l0) :
    Pu Try.prog (.func (.func 30) #[] #[]) M [v0] (fun r M' => r = .tuple #[.int .i64 ((l0).getLastD 0), .bool (!(l0).isEmpty)]) := by
  refine Pu_enter Try.func30 rfl Try.ntmps30 rfl Try.call30 ?_
  intro a w M1 H hM1 S E
  replace h0 := h0.le hM1
  have b0 := h0.bound
  refine WP_seq ?_
  refine WP_region ?_
  refine S_v E rfl (R_assign E rfl) rfl ?_
  clear E a; intro a E
  refine S_v E rfl (R_assign E rfl) rfl ?_
  clear E a; intro a E
  refine WL_nil ?_
  refine T_n ?_
  refine WP_seq ?_
  refine WP_region ?_
  refine S_v E rfl (R_move E rfl) rfl ?_
  clear E a; intro a E
  refine S_x (X_pu E S rfl rfl rfl (lo_Last h0) (Hp.le.refl _) ?_)
  clear E a S; rintro a _ w M_1 hM_1 rfl S E
  replace h0 := h0.le hM_1
  refine S_v E rfl (R_extract E rfl rfl) rfl ?_
  clear E a; intro a E
  refine S_v E rfl (R_extract E rfl rfl) rfl ?_
  clear E a; intro a E
  refine S_v E rfl (R_assign E rfl) rfl ?_
  clear E a; intro a E
  refine S_v E rfl (R_assign E rfl) rfl ?_
  clear E a; intro a E
  refine WL_nil ?_
  refine T_n ?_
  refine WP_ret ?_
  exact F_ret2 E Try.results30 rfl rfl ⟨_, rfl, M_1, hM_1, (by first | rfl | (simp; done) | (simp_all; done)), S⟩

set_option maxHeartbeats 4000000 in
theorem spec_Reverse {M : Hp} {v0 : Value} {l0 : List Int} (h0 : RdI M v0 l0)(hb : l0.length ≤ 1000000000000) :
    Pu Try.prog (.func (.func 31) #[] #[]) M [v0] (fun r M' => RdI M' r ((l0).reverse)) := by
  refine Pu_enter Try.func31 rfl Try.ntmps31 rfl Try.call31 ?_
  intro a w M1 H hM1 S E
  replace h0 := h0.le hM1
  have b0 := h0.bound
  refine WP_seq ?_
  refine WP_region ?_
  refine S_v E rfl (R_assign E rfl) rfl ?_
  clear E a; intro a E
  refine WL_nil ?_
  refine T_n ?_
  refine WP_seq ?_
  refine WP_region ?_
  refine S_v E rfl (R_assign E rfl) rfl ?_
  clear E a; intro a E
  refine WL_nil ?_
  refine T_n ?_
  refine WP_seq ?_
  refine WP_seq ?_
  refine WP_region ?_
  refine S_v E rfl (R_move E rfl) rfl ?_
  clear E a; intro a E
  refine S_v E rfl (R_lenV E rfl T22 h0.len) rfl ?_
  clear E a; intro a E
  refine S_v E rfl (R_subx (m := (((l0).length : Nat) : Int) - 1) E rfl rfl (by omega) (by omega)) rfl ?_
  clear E a; intro a E
  refine S_v E rfl (R_assign E rfl) rfl ?_
  clear E a; intro a E
  refine WL_nil ?_
  refine T_n ?_
  refine WP_block ?_
  replace S := (S.ownNil (e := 3) (sz := 1)).made0
  replace S := S.re1 (l' := (l0.drop (l0.length - 0)).reverse) (by first | (simp; done) | (rw [show l0.length - k = 0 by omega]; simp; done) | (refine rev_step ?_ ?_ (by assumption); omega; omega))
  refine WP_loop (γ := Nat) (fun (k : Nat) a w => ∃ (M_2 : Hp) (u3 : Value), Hp.le M1 M_2 ∧ St w M_2 (OwnI 3 u3 ((l0.drop (l0.length - k)).reverse) :: H) ∧ Env a 20 [] [(0, v0), (3, u3), (4, .int .i64 ((l0.length : Int) - 1 - (k : Int)))] ∧ (k ≤ l0.length)) (fun k => l0.length - k) 0 ⟨M1, _, Hp.le.refl _, S, E.keep ⟨rfl, rfl, look_int (i := (((l0).length : Nat) : Int) - 1) rfl (by ((try clear S); (try clear E); first | assumption | omega | rfl | (simp; done) | (simp_all; done) | (simp [List.take_add_one, *]; done) | grind [List.take_add_one])), trivial⟩, by ((try clear S); (try clear E); first | assumption | omega | rfl | (simp; done) | (simp_all; done) | (simp [List.take_add_one, *]; done) | grind [List.take_add_one])⟩ ?_
  try clear E
  try clear S
  try clear a
  try clear w
  rintro k a w ⟨M_2, u3, hM_2, S, E, hL0_0⟩
  replace h0 := h0.le hM_2
  refine WP_seq ?_
  refine WP_seq ?_
  refine WP_region ?_
  refine S_v E rfl (R_move E rfl) rfl ?_
  clear E a; intro a E
  refine S_v E rfl (R_geq E rfl rfl) rfl ?_
  clear E a; intro a E
  refine WL_nil ?_
  refine T_n ?_
  refine WP_cond E rfl (fun hc3 => ?_) (fun hc3 => ?_)
  · replace hc3 := of_decide_eq_true hc3
    refine WP_skip ?_
    refine T_n ?_
    refine WP_seq ?_
    refine WP_block ?_
    refine WP_region ?_
    refine S_v E rfl (R_move E rfl) rfl ?_
    clear E a; intro a E
    refine S_v E rfl (R_move E rfl) rfl ?_
    clear E a; intro a E
    refine S_v E rfl (R_move E rfl) rfl ?_
    clear E a; intro a E
    obtain ⟨x4, hx4⟩ : ∃ x, (l0)[(((l0.length : Int) - 1 - (k : Int))).toNat]? = some x := ⟨_, List.getElem?_eq_getElem (by first | omega | (simp; omega) | (simp_all; omega))⟩
    obtain ⟨p5, hp5, qp5⟩ := h0.at hx4
    refine S_v E rfl (R_idx E rfl rfl T22 hp5 (by omega)) rfl ?_
    clear E a; intro a E
    refine S_v E rfl (R_loadM E rfl Try.isAgg3 S.imm qp5) rfl ?_
    clear E a; intro a E
    refine S_x (X_buildI (ys := [x4]) E S rfl T22 rfl rfl rfl ?_)
    clear E a S; rintro a w v6 E S
    replace S := S.front1
    replace S := S.front1
    refine S_x (X_appendB (xs := (l0.drop (l0.length - k)).reverse) (ys := [x4]) E S rfl rfl rfl T22 (by first | omega | (simp; omega) | (simp_all; omega)) ?_)
    clear E a S; rintro a w v7 E S
    refine S_v E rfl (R_assign E rfl) rfl ?_
    clear E a; intro a E
    refine WL_nil ?_
    refine B_n ?_
    refine T_n ?_
    refine WP_region ?_
    refine S_v E rfl (R_move E rfl) rfl ?_
    clear E a; intro a E
    refine S_v E rfl (R_subx (m := ((l0.length : Int) - 1 - (k : Int)) - 1) E rfl rfl (by omega) (by omega)) rfl ?_
    clear E a; intro a E
    refine S_v E rfl (R_assign E rfl) rfl ?_
    clear E a; intro a E
    refine WL_nil ?_
    refine T_n ?_
    replace S := S.re1 (l' := (l0.drop (l0.length - (k + 1))).reverse) (by first | (simp; done) | (rw [show l0.length - k = 0 by omega]; simp; done) | (refine rev_step ?_ ?_ (by assumption); omega; omega))
    exact ⟨k + 1, ⟨M_2, _, hM_2, S, E.keep ⟨rfl, rfl, look_int (i := ((l0.length : Int) - 1 - (k : Int)) - 1) rfl (by ((try clear S); (try clear E); first | assumption | omega | rfl | (simp; done) | (simp_all; done) | (simp [List.take_add_one, *]; done) | grind [List.take_add_one])), trivial⟩, by ((try clear S); (try clear E); first | assumption | omega | rfl | (simp; done) | (simp_all; done) | (simp [List.take_add_one, *]; done) | grind [List.take_add_one])⟩, by omega⟩
  · replace hc3 := of_decide_eq_false hc3
    refine WP_exit ?_
    refine T_x ?_
    refine T_x ?_
    refine B_x ?_
    refine T_n ?_
    refine WP_seq ?_
    refine WP_region ?_
    refine S_v E rfl (R_move E rfl) rfl ?_
    clear E a; intro a E
    refine S_v E rfl (R_assign E rfl) rfl ?_
    clear E a; intro a E
    refine WL_nil ?_
    refine T_n ?_
    refine WP_ret ?_
    have S0 := S; clear S
    obtain ⟨M_8, hM_8, hz9, S⟩ := S0.freezeI (by (first | omega | (simp; omega) | (simp; done) | (simp_all; omega) | grind))
    clear S0
    replace h0 := h0.le hM_8
    exact F_ret1 E Try.results31 rfl ⟨_, rfl, M_8, (hM_2.trans hM_8), (by rw [show ((l0).reverse) = ((l0.drop (l0.length - k)).reverse) from by first | (simp; done) | (rw [show l0.length - k = 0 by omega]; simp; done) | (refine rev_step ?_ ?_ (by assumption); omega; omega)]; exact hz9), S⟩

set_option maxHeartbeats 4000000 in
theorem laws_eq {M : Hp} {v0 v1 : Value} {l0 l1 : List Int} (h0 : RdI M v0 l0) (h1 : RdI M v1 l1) :
    Pu Try.prog (.func (.func 14) #[] #[]) M [v0, v1] (fun r M' => r = .bool (decide (l0 = l1))) := by
  refine Pu_enter Try.func14 rfl Try.ntmps14 rfl Try.call14 ?_
  intro a w M1 H hM1 S E
  replace h0 := h0.le hM1
  replace h1 := h1.le hM1
  have b0 := h0.bound
  have b1 := h1.bound
  refine WP_seq ?_
  refine WP_region ?_
  refine S_v E rfl (R_assign E rfl) rfl ?_
  clear E a; intro a E
  refine WL_nil ?_
  refine T_n ?_
  refine WP_seq ?_
  refine WP_seq ?_
  refine WP_region ?_
  refine S_v E rfl (R_move E rfl) rfl ?_
  clear E a; intro a E
  refine S_v E rfl (R_lenV E rfl T22 h0.len) rfl ?_
  clear E a; intro a E
  refine S_v E rfl (R_move E rfl) rfl ?_
  clear E a; intro a E
  refine S_v E rfl (R_lenV E rfl T22 h1.len) rfl ?_
  clear E a; intro a E
  refine S_v E rfl (R_neq E rfl rfl) rfl ?_
  clear E a; intro a E
  refine WL_nil ?_
  refine T_n ?_
  refine WP_cond E rfl (fun hc1 => ?_) (fun hc1 => ?_)
  · replace hc1 := of_decide_eq_true hc1
    refine WP_seq ?_
    refine WP_region ?_
    refine S_v E rfl (R_assign E rfl) rfl ?_
    clear E a; intro a E
    refine WL_nil ?_
    refine T_n ?_
    refine WP_ret ?_
    refine T_r ?_
    exact F_ret1 E Try.results14 rfl ⟨_, rfl, M1, (Hp.le.refl _), (bF (by ((try clear S); (try clear E); first | assumption | omega | rfl | (simp; done) | (simp_all; done) | (simp [List.take_add_one, *]; done) | grind [List.take_add_one]))), S⟩
  · replace hc1 := of_decide_eq_false hc1
    refine WP_skip ?_
    refine T_n ?_
    refine WP_seq ?_
    refine WP_seq ?_
    refine WP_region ?_
    refine S_v E rfl (R_move E rfl) rfl ?_
    clear E a; intro a E
    refine S_v E rfl (R_lenV E rfl T22 h0.len) rfl ?_
    clear E a; intro a E
    refine S_v E rfl (R_move E rfl) rfl ?_
    clear E a; intro a E
    refine WL_nil ?_
    refine T_n ?_
    refine WP_block ?_
    refine WP_loop (γ := Nat) (fun (k : Nat) a w => ∃ (M_2 : Hp), Hp.le M1 M_2 ∧ St w M_2 (H) ∧ Env a 26 [] [(0, v0), (1, v1), (12, .int .i64 (((l0).length : Nat) : Int)), (13, .int .i64 ((k : Nat) : Int))] ∧ (k ≤ (l0).length) ∧ (l0.length = l1.length) ∧ (l0.take k = l1.take k)) (fun k => ((l0).length) - k) 0 ⟨M1, Hp.le.refl _, S, E.keep ⟨rfl, rfl, rfl, rfl, trivial⟩, by ((try clear S); (try clear E); first | assumption | omega | rfl | (simp; done) | (simp_all; done) | (simp [List.take_add_one, *]; done) | grind [List.take_add_one]), by ((try clear S); (try clear E); first | assumption | omega | rfl | (simp; done) | (simp_all; done) | (simp [List.take_add_one, *]; done) | grind [List.take_add_one]), by ((try clear S); (try clear E); first | assumption | omega | rfl | (simp; done) | (simp_all; done) | (simp [List.take_add_one, *]; done) | grind [List.take_add_one])⟩ ?_
    try clear E
    try clear S
    try clear a
    try clear w
    rintro k a w ⟨M_2, hM_2, S, E, hL0_0, hL0_1, hL0_2⟩
    replace h0 := h0.le hM_2
    replace h1 := h1.le hM_2
    refine WP_seq ?_
    refine WP_region ?_
    refine S_v E rfl (R_lss E rfl rfl) rfl ?_
    clear E a; intro a E
    refine WL_nil ?_
    refine T_n ?_
    refine WP_seq ?_
    refine WP_cond E rfl (fun hc3 => ?_) (fun hc3 => ?_)
    · replace hc3 := of_decide_eq_true hc3
      refine WP_skip ?_
      refine T_n ?_
      refine WP_seq ?_
      refine WP_block ?_
      refine WP_seq ?_
      refine WP_region ?_
      refine S_v E rfl (R_move E rfl) rfl ?_
      clear E a; intro a E
      refine S_v E rfl (R_assign E rfl) rfl ?_
      clear E a; intro a E
      refine WL_nil ?_
      refine T_n ?_
      refine WP_seq ?_
      replace S := S.mono_heap (w' := World.drew _) rfl
      refine WP_drawn (C := fun x w => agree M_2 w) (bf := (fun i => [])) [0, 1, 2, 3, 4, 5, 6, 7, 8] [0, 1, 2, 3, 4, 5, 6, 7, 8] Try.mixed (by kernel_rfl) (fun x hq => S.imm) ?_
      refine D_v E rfl rfl rfl (fun w hC => (R_move E rfl)) ?_
      clear E a; intro a E
      refine D_v E rfl rfl rfl (fun w hC => (R_move E rfl)) ?_
      clear E a; intro a E
      obtain ⟨x4, hx4⟩ : ∃ x, (l0)[k]? = some x := ⟨_, List.getElem?_eq_getElem (by first | omega | (simp; omega) | (simp_all; omega))⟩
      obtain ⟨p5, hp5, qp5⟩ := h0.at hx4
      refine D_v E rfl rfl rfl (fun w hC => (R_idx E rfl rfl T22 hp5 rfl)) ?_
      clear E a; intro a E
      refine D_v E rfl rfl rfl (fun w hC => (R_loadM E rfl Try.isAgg3 hC qp5)) ?_
      clear E a; intro a E
      refine D_v E rfl rfl rfl (fun w hC => (R_move E rfl)) ?_
      clear E a; intro a E
      refine D_v E rfl rfl rfl (fun w hC => (R_move E rfl)) ?_
      clear E a; intro a E
      obtain ⟨x6, hx6⟩ : ∃ x, (l1)[k]? = some x := ⟨_, List.getElem?_eq_getElem (by first | omega | (simp; omega) | (simp_all; omega))⟩
      obtain ⟨p7, hp7, qp7⟩ := h1.at hx6
      refine D_v E rfl rfl rfl (fun w hC => (R_idx E rfl rfl T22 hp7 rfl)) ?_
      clear E a; intro a E
      refine D_v E rfl rfl rfl (fun w hC => (R_loadM E rfl Try.isAgg3 hC qp7)) ?_
      clear E a; intro a E
      refine D_v E rfl rfl rfl (fun w hC => (R_neq E rfl rfl)) ?_
      clear E a; intro a E
      refine D_end (NoP_n ?_)
      refine T_n ?_
      refine WP_cond E rfl (fun hc8 => ?_) (fun hc8 => ?_)
      · replace hc8 := of_decide_eq_true hc8
        refine WP_seq ?_
        refine WP_region ?_
        refine S_v E rfl (R_assign E rfl) rfl ?_
        clear E a; intro a E
        refine WL_nil ?_
        refine T_n ?_
        refine WP_ret ?_
        refine B_r ?_
        refine T_r ?_
        refine T_r ?_
        refine B_r ?_
        refine T_r ?_
        exact F_ret1 E Try.results14 rfl ⟨_, rfl, M_2, hM_2, (bF (by ((try clear S); (try clear E); first | assumption | omega | rfl | (simp; done) | (simp_all; done) | (simp [List.take_add_one, *]; done) | grind [List.take_add_one]))), S⟩
      · replace hc8 := of_decide_eq_false hc8
        refine WP_skip ?_
        refine B_n ?_
        refine T_n ?_
        refine WP_region ?_
        refine S_v E rfl (R_addx (m := ((k + 1 : Nat) : Int)) E rfl rfl (by omega) (by omega)) rfl ?_
        clear E a; intro a E
        refine S_v E rfl (R_move E rfl) rfl ?_
        clear E a; intro a E
        refine WL_nil ?_
        refine T_n ?_
        exact ⟨k + 1, ⟨M_2, hM_2, S, E.keep ⟨rfl, rfl, rfl, rfl, trivial⟩, by ((try clear S); (try clear E); first | assumption | omega | rfl | (simp; done) | (simp_all; done) | (simp [List.take_add_one, *]; done) | grind [List.take_add_one]), by ((try clear S); (try clear E); first | assumption | omega | rfl | (simp; done) | (simp_all; done) | (simp [List.take_add_one, *]; done) | grind [List.take_add_one]), by ((try clear S); (try clear E); first | assumption | omega | rfl | (simp; done) | (simp_all; done) | (simp [List.take_add_one, *]; done) | grind [List.take_add_one])⟩, by omega⟩
    · replace hc3 := of_decide_eq_false hc3
      refine WP_exit ?_
      refine T_x ?_
      refine T_x ?_
      refine B_x ?_
      refine T_n ?_
      refine WP_seq ?_
      refine WP_region ?_
      refine S_v E rfl (R_assign E rfl) rfl ?_
      clear E a; intro a E
      refine WL_nil ?_
      refine T_n ?_
      refine WP_ret ?_
      exact F_ret1 E Try.results14 rfl ⟨_, rfl, M_2, hM_2, (bT (by ((try clear S); (try clear E); first | assumption | omega | rfl | (simp; done) | (simp_all; done) | (simp [List.take_add_one, *]; done) | grind [List.take_add_one]))), S⟩

set_option maxHeartbeats 4000000 in
theorem slices_Values1 {M : Hp} {v0 : Value} {l0 : List Int} (h0 : RdI M v0 l0){bx1 : Nat} (hbx1 : M bx1 = some (.cells #[v0] 22)) :
    SeqV Try.prog (.func (.func 102) #[] #[.pointer (some ⟨bx1, 0, none⟩)]) M (RInt) l0 := by
  refine SeqV_enter Try.func102 rfl Try.ntmps102 rfl Try.call102 ?_
  intro y J X a w M1 c H hJM hM1 hY hJ S E
  replace hbx1 := hM1.2 _ _ hbx1
  replace h0 := h0.le hM1
  have b0 := h0.bound
  refine WP_seq ?_
  refine WP_region ?_
  refine S_v E rfl (R_loadM E rfl Try.isAgg22 S.imm (cellM_box hbx1)) rfl ?_
  clear E a; intro a E
  refine S_v E rfl (R_lenV E rfl T22 h0.len) rfl ?_
  clear E a; intro a E
  refine S_v E rfl (R_move E rfl) rfl ?_
  clear E a; intro a E
  refine WL_nil ?_
  refine T_n ?_
  refine WP_block ?_
  refine WP_loop (γ := Nat) (fun (k : Nat) a w => ∃ (M_1 : Hp) (cL0 : HProp), Hp.le M1 M_1 ∧ St w M_1 (mks [] :: cL0 :: H) ∧ Env a 16 (([] : List Nat).map mk) [(0, y), (5, v0), (6, .int .i64 (((l0).length : Nat) : Int)), (7, .int .i64 ((k : Nat) : Int))] ∧ (k ≤ (l0).length) ∧ J (l0.take k) M_1 cL0) (fun k => ((l0).length) - k) 0 ⟨M1, _, Hp.le.refl _, S, E.keep ⟨rfl, rfl, rfl, rfl, trivial⟩, by ((try clear S); (try clear E); first | assumption | omega | rfl | (simp; done) | (simp_all; done) | (simp [List.take_add_one, *]; done) | grind [List.take_add_one]), J_eq hJ (by ((try clear S); (try clear E); first | assumption | omega | rfl | (simp; done) | (simp_all; done) | (simp [List.take_add_one, *]; done) | grind [List.take_add_one]))⟩ ?_
  try clear E
  try clear S
  try clear a
  try clear w
  rintro k a w ⟨M_1, cL0, hM_1, S, E, hL0_0, hJ⟩
  replace hbx1 := hM_1.2 _ _ hbx1
  replace h0 := h0.le hM_1
  refine WP_seq ?_
  refine WP_region ?_
  refine S_v E rfl (R_lss E rfl rfl) rfl ?_
  clear E a; intro a E
  refine WL_nil ?_
  refine T_n ?_
  refine WP_seq ?_
  refine WP_cond E rfl (fun hc2 => ?_) (fun hc2 => ?_)
  · replace hc2 := of_decide_eq_true hc2
    refine WP_skip ?_
    refine T_n ?_
    refine WP_seq ?_
    refine WP_block ?_
    refine WP_seq ?_
    refine WP_region ?_
    obtain ⟨x3, hx3⟩ : ∃ x, (l0)[k]? = some x := ⟨_, List.getElem?_eq_getElem (by first | omega | (simp; omega) | (simp_all; omega))⟩
    obtain ⟨p4, hp4, qp4⟩ := h0.at hx3
    refine S_v E rfl (R_idx E rfl rfl T22 hp4 rfl) rfl ?_
    clear E a; intro a E
    refine S_v E rfl (R_loadM E rfl Try.isAgg3 S.imm qp4) rfl ?_
    clear E a; intro a E
    refine S_v E rfl (R_assign E rfl) rfl ?_
    clear E a; intro a E
    refine WL_nil ?_
    refine T_n ?_
    refine WP_seq ?_
    refine WP_region ?_
    refine S_v E rfl (R_move E rfl) rfl ?_
    clear E a; intro a E
    refine S_v E rfl (R_move E rfl) rfl ?_
    clear E a; intro a E
    replace S := S.front1
    refine S_x (X_yield (x := x3) E S rfl rfl rfl hY hM_1 (by (first | (simp; done) | exact List.prefix_refl _ | (rw [pre_take (by assumption)]; exact List.take_prefix _ _) | exact pre_take_lt (by assumption))) rfl hJ ?_)
    clear E a S; rintro a w M_5 c6 go7 hM_5 hJ S E
    replace hbx1 := hM_5.2 _ _ hbx1
    replace h0 := h0.le hM_5
    cases go7
    · replace hJ : X (l0.take k ++ [x3]) M_5 c6 := hJ
      refine S_v E rfl (R_not E rfl) rfl ?_
      clear E a; intro a E
      refine WL_nil ?_
      refine T_n ?_
      refine WP_condT E rfl rfl ?_
      refine WP_ret ?_
      refine B_r ?_
      refine T_r ?_
      refine T_r ?_
      refine B_r ?_
      replace S := S.front1
      exact F_retM0 E S Try.results102 (fun w S => ⟨_, rfl, M_5, _, (hM_1.trans hM_5), .inr ⟨(l0.take k ++ [x3]), (by (first | (simp; done) | exact List.prefix_refl _ | (rw [pre_take (by assumption)]; exact List.take_prefix _ _) | exact pre_take_lt (by assumption))), hJ⟩, S⟩)
    · replace hJ : J (l0.take k ++ [x3]) M_5 c6 := hJ
      refine S_v E rfl (R_not E rfl) rfl ?_
      clear E a; intro a E
      refine WL_nil ?_
      refine T_n ?_
      refine WP_condF E rfl rfl ?_
      refine WP_skip ?_
      refine B_n ?_
      refine T_n ?_
      refine WP_region ?_
      refine S_v E rfl (R_addx (m := ((k + 1 : Nat) : Int)) E rfl rfl (by omega) (by omega)) rfl ?_
      clear E a; intro a E
      refine S_v E rfl (R_move E rfl) rfl ?_
      clear E a; intro a E
      refine WL_nil ?_
      refine T_n ?_
      replace S := S.front1
      exact ⟨k + 1, ⟨M_5, _, (hM_1.trans hM_5), S, E.keep ⟨rfl, rfl, rfl, rfl, trivial⟩, by ((try clear S); (try clear E); first | assumption | omega | rfl | (simp; done) | (simp_all; done) | (simp [List.take_add_one, *]; done) | grind [List.take_add_one]), J_eq hJ (by ((try clear S); (try clear E); first | assumption | omega | rfl | (simp; done) | (simp_all; done) | (simp [List.take_add_one, *]; done) | grind [List.take_add_one]))⟩, by omega⟩
  · replace hc2 := of_decide_eq_false hc2
    refine WP_exit ?_
    refine T_x ?_
    refine T_x ?_
    refine B_x ?_
    refine F_nrm ?_
    replace S := S.front1
    replace S := S.front1
    have hpre : l0.take k = l0 := by ((try clear S); (try clear E); first | rfl | (simp; done) | (simp_all; done) | grind [List.take_add_one])
    rw [hpre] at hJ
    exact F_retM0 E S Try.results102 (fun w S => ⟨_, rfl, M_1, _, hM_1, .inl hJ, S⟩)

set_option maxHeartbeats 4000000 in
theorem slices_Values {M : Hp} {v0 : Value} {l0 : List Int} (h0 : RdI M v0 l0) :
    Pu Try.prog (.func (.func 71) #[] #[]) M [v0] (fun r M' => SeqV Try.prog r M' RInt l0) := by
  refine Pu_enter Try.func71 rfl Try.ntmps71 rfl Try.call71 ?_
  intro a w M1 H hM1 S E
  replace h0 := h0.le hM1
  have b0 := h0.bound
  refine WP_seq ?_
  refine WP_region ?_
  refine S_x (X_box (cs := #[v0]) E S rfl rfl (cells_one (RdS.one' h0)) ?_)
  clear E a S; rintro a w b1 E S
  obtain ⟨M_2, hM_2, hb1, S⟩ := S.freezeB
  replace h0 := h0.le hM_2
  refine S_v E rfl (R_assign E rfl) rfl ?_
  clear E a; intro a E
  refine WL_nil ?_
  refine T_n ?_
  refine WP_seq ?_
  refine WP_region ?_
  refine S_v E rfl (R_makeFunc E rfl rfl) rfl ?_
  clear E a; intro a E
  refine S_v E rfl (R_assign E rfl) rfl ?_
  clear E a; intro a E
  refine WL_nil ?_
  refine T_n ?_
  refine WP_ret ?_
  exact F_ret1 E Try.results71 rfl ⟨_, rfl, M_2, hM_2, (SeqV_eq (slices_Values1 h0 hb1) (by ((try clear S); (try clear E); first | rfl | (simp; done) | (simp_all; done) | grind [List.take_add_one]))), S⟩

set_option maxHeartbeats 4000000 in
theorem slices_AppendSeq {M : Hp} {v1 : Value} {l1 : List Int} (h1 : SeqV Try.prog v1 M (RInt) l1)(hb : l1.length ≤ 1000000000000) :
    Pu Try.prog (.func (.func 98) #[] #[]) M [.slice none 0 0, v1] (fun r M' => RdI M' r l1) := by
  refine Pu_enter Try.func98 rfl Try.ntmps98 rfl Try.call98 ?_
  intro a w M1 H hM1 S E
  replace h1 := h1.le hM1
  replace S : St w M1 (mks [] :: _) := S.empty
  replace E : Env a 13 (([] : List Nat).map mk) _ := E
  refine WP_seq ?_
  refine WP_region ?_
  refine S_x (X_box (cs := #[.slice none 0 0]) E S rfl rfl rfl ?_)
  clear E a S; rintro a w b1 E S
  refine S_v E rfl (R_assign E rfl) rfl ?_
  clear E a; intro a E
  refine WL_nil ?_
  refine T_n ?_
  refine WP_seq ?_
  refine WP_seq ?_
  refine WP_region ?_
  refine S_v E rfl (R_move E rfl) rfl ?_
  clear E a; intro a E
  refine WL_nil ?_
  refine T_n ?_
  refine WP_block ?_
  replace S := (S.ownNil (e := 3) (sz := 1)).made0
  replace S := S.front1
  replace E := E.keep (l' := [(2, .pointer (some ⟨b1, 0, none⟩)), (6, v1)]) ⟨rfl, rfl, trivial⟩
  replace S := S.front1
  replace S := S.front1
  have S0 := S; clear S; have S := St.pack [blk b1 (.cells #[(.slice none 0 0)] 22), OwnI 3 (.slice none 0 0) []] S0; clear S0
  refine WP_range (RV := RInt) (l := l1) (fun pre M c => ∃ (u2 : Value), c = bigs [blk b1 (.cells #[u2] 22), OwnI 3 u2 pre]) (fun _ _ _ _ => False) E S rfl h1 (Hp.le.refl _) (fun _ _ _ h => by rw [h]; rfl) (by decide) (by rintro _ M M' c hM ⟨u2, rfl⟩; exact ⟨_, rfl⟩) ⟨_, rfl⟩ ?_ ?_ ?_
  clear E S
  · rintro lb4 rec5 pre x _ a w M_3 _ G hM_3 hp6 rfl ⟨u2, rfl⟩ E S
    replace E : Env a 13 [] [(7, .int .i64 x), (2, .pointer (some ⟨b1, 0, none⟩)), (6, v1)] := E
    replace S := S.swap.unpack2
    have hq0 := prefix_lt hp6
    replace h1 := h1.le hM_3
    refine WP_region ?_
    refine S_v E rfl (R_assign E rfl) rfl ?_
    clear E a; intro a E
    refine WL_nil ?_
    refine T_n ?_
    replace S := S.front2
    refine rb S ?_
    clear S; intro w S
    refine WP_block ?_
    refine WP_region ?_
    refine S_v E rfl (R_load E rfl (Try.isAgg22 _) (cell_blk (S.mem (.tail _ (.head _))))) rfl ?_
    clear E a; intro a E
    refine S_v E rfl (R_move E rfl) rfl ?_
    clear E a; intro a E
    refine S_x (X_buildI (ys := [x]) E S rfl T22 rfl rfl rfl ?_)
    clear E a S; rintro a w v8 E S
    replace S := S.front3
    replace S := S.front1
    refine S_x (X_appendB (xs := pre) (ys := [x]) E S rfl rfl rfl T22 (by first | omega | (simp; omega) | (simp_all; omega)) ?_)
    clear E a S; rintro a w v9 E S
    have ho10 := S.oneI
    replace S := S.front2
    refine S_x0 (X_store E S rfl rfl (Try.sizeOf22 _) ho10 ?_)
    clear E a S; rintro a w E S
    refine WL_nil ?_
    refine B_n ?_
    replace S := S.front1
    replace S := S.front1
    replace S := S.front1
    replace S := S.front1
    have S0 := S; clear S; have S := (St.pack [blk b1 (.cells #[v9] 22), OwnI 3 v9 (pre ++ [x])] S0).swap; clear S0
    exact ⟨M_3, _, (Hp.le.refl _), ⟨_, rfl⟩, S⟩
  · rintro a w M_11 _ D12 hM_11 ⟨u2, rfl⟩ S E
    replace S := S.unpack2
    replace h1 := h1.le hM_11
    refine B_n ?_
    refine T_n ?_
    refine WP_seq ?_
    refine WP_region ?_
    refine S_v E rfl (R_load E rfl (Try.isAgg22 _) (cell_blk (S.mem (.head _)))) rfl ?_
    clear E a; intro a E
    refine S_v E rfl (R_assign E rfl) rfl ?_
    clear E a; intro a E
    refine WL_nil ?_
    refine T_n ?_
    refine WP_ret ?_
    replace S := S.front1
    have S0 := S; clear S
    obtain ⟨M_13, hM_13, hz14, S⟩ := S0.freezeI (by (first | omega | (simp; omega) | (simp; done) | (simp_all; omega) | grind))
    clear S0
    replace h1 := h1.le hM_13
    replace S := S.drop
    exact F_retM1 E S Try.results98 rfl (fun w S => ⟨_, rfl, M_13, (hM_11.trans hM_13), hz14, S⟩)
  · rintro _ _ _ _ _ _ _ _ _ hX; exact hX.elim

set_option maxHeartbeats 4000000 in
theorem slices_Collect {M : Hp} {v0 : Value} {l0 : List Int} (h0 : SeqV Try.prog v0 M (RInt) l0)(hb : l0.length ≤ 1000000000000) :
    Pu Try.prog (.func (.func 64) #[] #[]) M [v0] (fun r M' => RdI M' r l0) := by
  refine Pu_enter Try.func64 rfl Try.ntmps64 rfl Try.call64 ?_
  intro a w M1 H hM1 S E
  replace h0 := h0.le hM1
  refine WP_seq ?_
  refine WP_region ?_
  refine S_v E rfl (R_assign E rfl) rfl ?_
  clear E a; intro a E
  refine WL_nil ?_
  refine T_n ?_
  refine WP_seq ?_
  refine WP_region ?_
  refine S_v E rfl (R_move E rfl) rfl ?_
  clear E a; intro a E
  refine S_x (X_pu E S rfl rfl rfl (slices_AppendSeq h0 (by (first | omega | (simp; omega) | (simp; done) | (simp_all; omega) | grind))) (Hp.le.refl _) ?_)
  clear E a S; rintro a v2 w M_1 hM_1 hv2 S E
  replace h0 := h0.le hM_1
  refine S_v E rfl (R_assign E rfl) rfl ?_
  clear E a; intro a E
  refine WL_nil ?_
  refine T_n ?_
  refine WP_ret ?_
  exact F_ret1 E Try.results64 rfl ⟨_, rfl, M_1, hM_1, hv2, S⟩

set_option maxHeartbeats 4000000 in
theorem it_Reverse1 {M : Hp} {v0 : Value} {l0 : List Int} (h0 : RdI M v0 l0){bx1 : Nat} (hbx1 : M bx1 = some (.cells #[v0] 22)) :
    SeqV Try.prog (.func (.func 101) #[] #[.pointer (some ⟨bx1, 0, none⟩)]) M (RInt) ((l0).reverse) := by
  refine SeqV_enter Try.func101 rfl Try.ntmps101 rfl Try.call101 ?_
  intro y J X a w M1 c H hJM hM1 hY hJ S E
  replace hbx1 := hM1.2 _ _ hbx1
  replace h0 := h0.le hM1
  have b0 := h0.bound
  refine WP_seq ?_
  refine WP_region ?_
  refine S_v E rfl (R_loadM E rfl Try.isAgg22 S.imm (cellM_box hbx1)) rfl ?_
  clear E a; intro a E
  refine S_v E rfl (R_lenV E rfl T22 h0.len) rfl ?_
  clear E a; intro a E
  refine S_v E rfl (R_subx (m := (((l0).length : Nat) : Int) - 1) E rfl rfl (by omega) (by omega)) rfl ?_
  clear E a; intro a E
  refine S_v E rfl (R_assign E rfl) rfl ?_
  clear E a; intro a E
  refine WL_nil ?_
  refine T_n ?_
  refine WP_block ?_
  refine WP_loop (γ := Nat) (fun (k : Nat) a w => ∃ (M_1 : Hp) (cL0 : HProp), Hp.le M1 M_1 ∧ St w M_1 (mks [] :: cL0 :: H) ∧ Env a 18 (([] : List Nat).map mk) [(0, y), (1, .pointer (some ⟨bx1, 0, none⟩)), (3, .int .i64 ((l0.length : Int) - 1 - (k : Int)))] ∧ (k ≤ l0.length) ∧ J ((l0.drop (l0.length - k)).reverse) M_1 cL0) (fun k => l0.length - k) 0 ⟨M1, _, Hp.le.refl _, S, E.keep ⟨rfl, rfl, look_int (i := (((l0).length : Nat) : Int) - 1) rfl (by ((try clear S); (try clear E); first | assumption | omega | rfl | (simp; done) | (simp_all; done) | (simp [List.take_add_one, *]; done) | grind [List.take_add_one])), trivial⟩, by ((try clear S); (try clear E); first | assumption | omega | rfl | (simp; done) | (simp_all; done) | (simp [List.take_add_one, *]; done) | grind [List.take_add_one]), J_eq hJ (by (simp; done))⟩ ?_
  try clear E
  try clear S
  try clear a
  try clear w
  rintro k a w ⟨M_1, cL0, hM_1, S, E, hL0_0, hJ⟩
  replace hbx1 := hM_1.2 _ _ hbx1
  replace h0 := h0.le hM_1
  refine WP_seq ?_
  refine WP_seq ?_
  refine WP_region ?_
  refine S_v E rfl (R_move E rfl) rfl ?_
  clear E a; intro a E
  refine S_v E rfl (R_geq E rfl rfl) rfl ?_
  clear E a; intro a E
  refine WL_nil ?_
  refine T_n ?_
  refine WP_cond E rfl (fun hc2 => ?_) (fun hc2 => ?_)
  · replace hc2 := of_decide_eq_true hc2
    refine WP_skip ?_
    refine T_n ?_
    refine WP_seq ?_
    refine WP_block ?_
    refine WP_seq ?_
    refine WP_region ?_
    refine S_v E rfl (R_move E rfl) rfl ?_
    clear E a; intro a E
    refine S_v E rfl (R_loadM E rfl Try.isAgg22 S.imm (cellM_box hbx1)) rfl ?_
    clear E a; intro a E
    refine S_v E rfl (R_move E rfl) rfl ?_
    clear E a; intro a E
    obtain ⟨x3, hx3⟩ : ∃ x, (l0)[(((l0.length : Int) - 1 - (k : Int))).toNat]? = some x := ⟨_, List.getElem?_eq_getElem (by first | omega | (simp; omega) | (simp_all; omega))⟩
    obtain ⟨p4, hp4, qp4⟩ := h0.at hx3
    refine S_v E rfl (R_idx E rfl rfl T22 hp4 (by omega)) rfl ?_
    clear E a; intro a E
    refine S_v E rfl (R_loadM E rfl Try.isAgg3 S.imm qp4) rfl ?_
    clear E a; intro a E
    replace S := S.front1
    refine S_x (X_yield (x := x3) E S rfl rfl rfl hY hM_1 (by (refine rev_prefix ?_ ?_ (by assumption); omega; omega)) rfl hJ ?_)
    clear E a S; rintro a w M_5 c6 go7 hM_5 hJ S E
    replace hbx1 := hM_5.2 _ _ hbx1
    replace h0 := h0.le hM_5
    cases go7
    · replace hJ : X ((l0.drop (l0.length - k)).reverse ++ [x3]) M_5 c6 := hJ
      refine S_v E rfl (R_not E rfl) rfl ?_
      clear E a; intro a E
      refine WL_nil ?_
      refine T_n ?_
      refine WP_condT E rfl rfl ?_
      refine WP_ret ?_
      refine B_r ?_
      refine T_r ?_
      refine T_r ?_
      refine B_r ?_
      replace S := S.front1
      exact F_retM0 E S Try.results101 (fun w S => ⟨_, rfl, M_5, _, (hM_1.trans hM_5), .inr ⟨((l0.drop (l0.length - k)).reverse ++ [x3]), (by (refine rev_prefix ?_ ?_ (by assumption); omega; omega)), hJ⟩, S⟩)
    · replace hJ : J ((l0.drop (l0.length - k)).reverse ++ [x3]) M_5 c6 := hJ
      refine S_v E rfl (R_not E rfl) rfl ?_
      clear E a; intro a E
      refine WL_nil ?_
      refine T_n ?_
      refine WP_condF E rfl rfl ?_
      refine WP_skip ?_
      refine B_n ?_
      refine T_n ?_
      refine WP_region ?_
      refine S_v E rfl (R_move E rfl) rfl ?_
      clear E a; intro a E
      refine S_v E rfl (R_subx (m := ((l0.length : Int) - 1 - (k : Int)) - 1) E rfl rfl (by omega) (by omega)) rfl ?_
      clear E a; intro a E
      refine S_v E rfl (R_assign E rfl) rfl ?_
      clear E a; intro a E
      refine WL_nil ?_
      refine T_n ?_
      replace S := S.front1
      exact ⟨k + 1, ⟨M_5, _, (hM_1.trans hM_5), S, E.keep ⟨rfl, rfl, look_int (i := ((l0.length : Int) - 1 - (k : Int)) - 1) rfl (by ((try clear S); (try clear E); first | assumption | omega | rfl | (simp; done) | (simp_all; done) | (simp [List.take_add_one, *]; done) | grind [List.take_add_one])), trivial⟩, by ((try clear S); (try clear E); first | assumption | omega | rfl | (simp; done) | (simp_all; done) | (simp [List.take_add_one, *]; done) | grind [List.take_add_one]), J_eq hJ (by first | (simp; done) | (rw [show l0.length - k = 0 by omega]; simp; done) | (refine rev_step ?_ ?_ (by assumption); omega; omega))⟩, by omega⟩
  · replace hc2 := of_decide_eq_false hc2
    refine WP_exit ?_
    refine T_x ?_
    refine T_x ?_
    refine B_x ?_
    refine F_nrm ?_
    replace S := S.front1
    replace S := S.front1
    have hpre : (l0.drop (l0.length - k)).reverse = (l0).reverse := by first | (simp; done) | (rw [show l0.length - k = 0 by omega]; simp; done) | (refine rev_step ?_ ?_ (by assumption); omega; omega)
    rw [hpre] at hJ
    exact F_retM0 E S Try.results101 (fun w S => ⟨_, rfl, M_1, _, hM_1, .inl hJ, S⟩)

set_option maxHeartbeats 4000000 in
theorem it_Reverse {M : Hp} {v0 : Value} {l0 : List Int} (h0 : SeqV Try.prog v0 M (RInt) l0)(hb : l0.length ≤ 1000000000000) :
    Pu Try.prog (.func (.func 70) #[] #[]) M [v0] (fun r M' => SeqV Try.prog r M' RInt ((l0).reverse)) := by
  refine Pu_enter Try.func70 rfl Try.ntmps70 rfl Try.call70 ?_
  intro a w M1 H hM1 S E
  replace h0 := h0.le hM1
  refine WP_seq ?_
  refine WP_region ?_
  refine S_v E rfl (R_assign E rfl) rfl ?_
  clear E a; intro a E
  refine WL_nil ?_
  refine T_n ?_
  refine WP_seq ?_
  refine WP_region ?_
  refine S_v E rfl (R_move E rfl) rfl ?_
  clear E a; intro a E
  refine S_x (X_pu E S rfl rfl rfl (slices_Collect h0 (by (first | omega | (simp; omega) | (simp; done) | (simp_all; omega) | grind))) (Hp.le.refl _) ?_)
  clear E a S; rintro a v2 w M_1 hM_1 hv2 S E
  replace h0 := h0.le hM_1
  refine S_x (X_alloc (cs := #[.slice none 0 0]) E S rfl Try.zeroValue22 rfl ?_)
  clear E a S; rintro a w b3 E S
  refine S_x0 (X_store E S rfl rfl (Try.sizeOf22 _) (RdS.one' hv2) ?_)
  clear E a S; rintro a w E S
  refine WL_nil ?_
  refine T_n ?_
  refine WP_seq ?_
  refine WP_region ?_
  have S0 := S; clear S
  obtain ⟨M_4, hM_4, hb5, S⟩ := S0.freezeB
  clear S0
  replace h0 := h0.le hM_4
  replace hv2 := hv2.le hM_4
  refine S_v E rfl (R_makeFunc E rfl rfl) rfl ?_
  clear E a; intro a E
  refine S_v E rfl (R_assign E rfl) rfl ?_
  clear E a; intro a E
  refine WL_nil ?_
  refine T_n ?_
  refine WP_ret ?_
  exact F_ret1 E Try.results70 rfl ⟨_, rfl, M_4, (hM_1.trans hM_4), (SeqV_eq (it_Reverse1 hv2 hb5) (by ((try clear S); (try clear E); first | rfl | (simp; done) | (simp_all; done) | grind [List.take_add_one]))), S⟩

set_option maxHeartbeats 4000000 in
theorem impl_ReverseSeq {M : Hp} {v0 : Value} {l0 : List Int} (h0 : RdI M v0 l0)(hb : l0.length ≤ 1000000000000) :
    Pu Try.prog (.func (.func 32) #[] #[]) M [v0] (fun r M' => RdI M' r ((l0).reverse)) := by
  refine Pu_enter Try.func32 rfl Try.ntmps32 rfl Try.call32 ?_
  intro a w M1 H hM1 S E
  replace h0 := h0.le hM1
  have b0 := h0.bound
  refine WP_seq ?_
  refine WP_region ?_
  refine S_v E rfl (R_assign E rfl) rfl ?_
  clear E a; intro a E
  refine WL_nil ?_
  refine T_n ?_
  refine WP_seq ?_
  refine WP_region ?_
  refine S_v E rfl (R_move E rfl) rfl ?_
  clear E a; intro a E
  refine S_x (X_pu E S rfl rfl rfl (slices_Values h0) (Hp.le.refl _) ?_)
  clear E a S; rintro a v2 w M_1 hM_1 hv2 S E
  replace h0 := h0.le hM_1
  refine S_x (X_pu E S rfl rfl rfl (it_Reverse hv2 (by (first | omega | (simp; omega) | (simp; done) | (simp_all; omega) | grind))) (Hp.le.refl _) ?_)
  clear E a S; rintro a v4 w M_3 hM_3 hv4 S E
  replace h0 := h0.le hM_3
  replace hv2 := hv2.le hM_3
  refine S_x (X_pu E S rfl rfl rfl (slices_Collect hv4 (by (first | omega | (simp; omega) | (simp; done) | (simp_all; omega) | grind))) (Hp.le.refl _) ?_)
  clear E a S; rintro a v6 w M_5 hM_5 hv6 S E
  replace h0 := h0.le hM_5
  replace hv2 := hv2.le hM_5
  replace hv4 := hv4.le hM_5
  refine S_v E rfl (R_assign E rfl) rfl ?_
  clear E a; intro a E
  refine WL_nil ?_
  refine T_n ?_
  refine WP_ret ?_
  exact F_ret1 E Try.results32 rfl ⟨_, rfl, M_5, (hM_1.trans (hM_3.trans hM_5)), hv6, S⟩

set_option maxHeartbeats 4000000 in
theorem laws_turned {M : Hp} {v0 : Value} {l0 : List Int} (h0 : RdI M v0 l0)(hb : l0.length ≤ 1000000000000) :
    Pu Try.prog (.func (.func 33) #[] #[]) M [v0] (fun r M' => RdI M' r ((l0).reverse)) := by
  refine Pu_enter Try.func33 rfl Try.ntmps33 rfl Try.call33 ?_
  intro a w M1 H hM1 S E
  replace h0 := h0.le hM1
  have b0 := h0.bound
  refine WP_seq ?_
  refine WP_region ?_
  refine S_v E rfl (R_assign E rfl) rfl ?_
  clear E a; intro a E
  refine WL_nil ?_
  refine T_n ?_
  refine WP_seq ?_
  refine WP_region ?_
  refine S_v E rfl (R_assign E rfl) rfl ?_
  clear E a; intro a E
  refine WL_nil ?_
  refine T_n ?_
  refine WP_seq ?_
  refine WP_seq ?_
  refine WP_region ?_
  refine S_v E rfl (R_move E rfl) rfl ?_
  clear E a; intro a E
  refine S_v E rfl (R_lenV E rfl T22 h0.len) rfl ?_
  clear E a; intro a E
  refine S_v E rfl (R_subx (m := (((l0).length : Nat) : Int) - 1) E rfl rfl (by omega) (by omega)) rfl ?_
  clear E a; intro a E
  refine S_v E rfl (R_assign E rfl) rfl ?_
  clear E a; intro a E
  refine WL_nil ?_
  refine T_n ?_
  refine WP_block ?_
  replace S := (S.ownNil (e := 3) (sz := 1)).made0
  replace S := S.re1 (l' := (l0.drop (l0.length - 0)).reverse) (by first | (simp; done) | (rw [show l0.length - k = 0 by omega]; simp; done) | (refine rev_step ?_ ?_ (by assumption); omega; omega))
  refine WP_loop (γ := Nat) (fun (k : Nat) a w => ∃ (M_2 : Hp) (u3 : Value), Hp.le M1 M_2 ∧ St w M_2 (OwnI 3 u3 ((l0.drop (l0.length - k)).reverse) :: H) ∧ Env a 20 [] [(0, v0), (3, u3), (4, .int .i64 ((l0.length : Int) - 1 - (k : Int)))] ∧ (k ≤ l0.length)) (fun k => l0.length - k) 0 ⟨M1, _, Hp.le.refl _, S, E.keep ⟨rfl, rfl, look_int (i := (((l0).length : Nat) : Int) - 1) rfl (by ((try clear S); (try clear E); first | assumption | omega | rfl | (simp; done) | (simp_all; done) | (simp [List.take_add_one, *]; done) | grind [List.take_add_one])), trivial⟩, by ((try clear S); (try clear E); first | assumption | omega | rfl | (simp; done) | (simp_all; done) | (simp [List.take_add_one, *]; done) | grind [List.take_add_one])⟩ ?_
  try clear E
  try clear S
  try clear a
  try clear w
  rintro k a w ⟨M_2, u3, hM_2, S, E, hL0_0⟩
  replace h0 := h0.le hM_2
  refine WP_seq ?_
  refine WP_seq ?_
  refine WP_region ?_
  refine S_v E rfl (R_move E rfl) rfl ?_
  clear E a; intro a E
  refine S_v E rfl (R_geq E rfl rfl) rfl ?_
  clear E a; intro a E
  refine WL_nil ?_
  refine T_n ?_
  refine WP_cond E rfl (fun hc3 => ?_) (fun hc3 => ?_)
  · replace hc3 := of_decide_eq_true hc3
    refine WP_skip ?_
    refine T_n ?_
    refine WP_seq ?_
    refine WP_block ?_
    refine WP_region ?_
    refine S_v E rfl (R_move E rfl) rfl ?_
    clear E a; intro a E
    refine S_v E rfl (R_move E rfl) rfl ?_
    clear E a; intro a E
    refine S_v E rfl (R_move E rfl) rfl ?_
    clear E a; intro a E
    obtain ⟨x4, hx4⟩ : ∃ x, (l0)[(((l0.length : Int) - 1 - (k : Int))).toNat]? = some x := ⟨_, List.getElem?_eq_getElem (by first | omega | (simp; omega) | (simp_all; omega))⟩
    obtain ⟨p5, hp5, qp5⟩ := h0.at hx4
    refine S_v E rfl (R_idx E rfl rfl T22 hp5 (by omega)) rfl ?_
    clear E a; intro a E
    refine S_v E rfl (R_loadM E rfl Try.isAgg3 S.imm qp5) rfl ?_
    clear E a; intro a E
    refine S_x (X_buildI (ys := [x4]) E S rfl T22 rfl rfl rfl ?_)
    clear E a S; rintro a w v6 E S
    replace S := S.front1
    replace S := S.front1
    refine S_x (X_appendB (xs := (l0.drop (l0.length - k)).reverse) (ys := [x4]) E S rfl rfl rfl T22 (by first | omega | (simp; omega) | (simp_all; omega)) ?_)
    clear E a S; rintro a w v7 E S
    refine S_v E rfl (R_assign E rfl) rfl ?_
    clear E a; intro a E
    refine WL_nil ?_
    refine B_n ?_
    refine T_n ?_
    refine WP_region ?_
    refine S_v E rfl (R_move E rfl) rfl ?_
    clear E a; intro a E
    refine S_v E rfl (R_subx (m := ((l0.length : Int) - 1 - (k : Int)) - 1) E rfl rfl (by omega) (by omega)) rfl ?_
    clear E a; intro a E
    refine S_v E rfl (R_assign E rfl) rfl ?_
    clear E a; intro a E
    refine WL_nil ?_
    refine T_n ?_
    replace S := S.re1 (l' := (l0.drop (l0.length - (k + 1))).reverse) (by first | (simp; done) | (rw [show l0.length - k = 0 by omega]; simp; done) | (refine rev_step ?_ ?_ (by assumption); omega; omega))
    exact ⟨k + 1, ⟨M_2, _, hM_2, S, E.keep ⟨rfl, rfl, look_int (i := ((l0.length : Int) - 1 - (k : Int)) - 1) rfl (by ((try clear S); (try clear E); first | assumption | omega | rfl | (simp; done) | (simp_all; done) | (simp [List.take_add_one, *]; done) | grind [List.take_add_one])), trivial⟩, by ((try clear S); (try clear E); first | assumption | omega | rfl | (simp; done) | (simp_all; done) | (simp [List.take_add_one, *]; done) | grind [List.take_add_one])⟩, by omega⟩
  · replace hc3 := of_decide_eq_false hc3
    refine WP_exit ?_
    refine T_x ?_
    refine T_x ?_
    refine B_x ?_
    refine T_n ?_
    refine WP_seq ?_
    refine WP_region ?_
    refine S_v E rfl (R_move E rfl) rfl ?_
    clear E a; intro a E
    refine S_v E rfl (R_assign E rfl) rfl ?_
    clear E a; intro a E
    refine WL_nil ?_
    refine T_n ?_
    refine WP_ret ?_
    have S0 := S; clear S
    obtain ⟨M_8, hM_8, hz9, S⟩ := S0.freezeI (by (first | omega | (simp; omega) | (simp; done) | (simp_all; omega) | grind))
    clear S0
    replace h0 := h0.le hM_8
    exact F_ret1 E Try.results33 rfl ⟨_, rfl, M_8, (hM_2.trans hM_8), (by rw [show ((l0).reverse) = ((l0.drop (l0.length - k)).reverse) from by first | (simp; done) | (rw [show l0.length - k = 0 by omega]; simp; done) | (refine rev_step ?_ ?_ (by assumption); omega; omega)]; exact hz9), S⟩

set_option maxHeartbeats 4000000 in
theorem laws_FnTurned {M : Hp} {v0 v1 : Value} {l0 l1 : List Int} (h0 : RdI M v0 l0) (h1 : RdI M v1 l1) :
    PuC Try.prog 7 M [v0, v1] (fun r M' => r = .bool true) := by
  refine PuC_enter Try.func7 rfl Try.ntmps7 rfl ?_
  intro a w M1 H hM1 S E
  replace h0 := h0.le hM1
  replace h1 := h1.le hM1
  have b0 := h0.bound
  have b1 := h1.bound
  refine WP_seq ?_
  refine WP_region ?_
  refine S_v E rfl (R_assign E rfl) rfl ?_
  clear E a; intro a E
  refine WL_nil ?_
  refine T_n ?_
  refine WP_seq ?_
  refine WP_seq ?_
  refine WP_region ?_
  refine S_v E rfl (R_move E rfl) rfl ?_
  clear E a; intro a E
  refine S_v E rfl (R_lenV E rfl T22 h0.len) rfl ?_
  clear E a; intro a E
  refine S_v E rfl (R_gtr E rfl rfl) rfl ?_
  clear E a; intro a E
  refine S_v E rfl (R_move E rfl) rfl ?_
  clear E a; intro a E
  refine split_bool (decide (2147483647 < (((l0).length : Nat) : Int))) (fun hc1 => ?_) (fun hc1 => ?_)
  · rw [hc1] at E
    replace hc1 := of_decide_eq_true hc1
    refine WL_guard_no E rfl rfl rfl rfl fun a E => ?_
    refine WL_guard_no E rfl rfl rfl rfl fun a E => ?_
    refine WL_guard_no E rfl rfl rfl rfl fun a E => ?_
    refine S_v E rfl (R_pickT E rfl rfl) rfl ?_
    clear E a; intro a E
    refine WL_nil ?_
    refine T_n ?_
    refine WP_condT E rfl rfl ?_
    refine WP_seq ?_
    refine WP_region ?_
    refine S_v E rfl (R_assign E rfl) rfl ?_
    clear E a; intro a E
    refine WL_nil ?_
    refine T_n ?_
    refine WP_ret ?_
    refine T_r ?_
    exact F_ret1 E Try.results7 rfl ⟨_, rfl, M1, (Hp.le.refl _), rfl, S⟩
  · rw [hc1] at E
    replace hc1 := of_decide_eq_false hc1
    refine WL_guard_yes E rfl rfl ?_
    refine S_v E rfl (R_move E rfl) rfl ?_
    clear E a; intro a E
    refine WL_guard_yes E rfl rfl ?_
    refine S_v E rfl (R_lenV E rfl T22 h1.len) rfl ?_
    clear E a; intro a E
    refine WL_guard_yes E rfl rfl ?_
    refine S_v E rfl (R_gtr E rfl rfl) rfl ?_
    clear E a; intro a E
    refine S_v E rfl (R_pickF E rfl rfl) rfl ?_
    clear E a; intro a E
    refine WL_nil ?_
    refine T_n ?_
    refine WP_cond E rfl (fun hc2 => ?_) (fun hc2 => ?_)
    · replace hc2 := of_decide_eq_true hc2
      refine WP_seq ?_
      refine WP_region ?_
      refine S_v E rfl (R_assign E rfl) rfl ?_
      clear E a; intro a E
      refine WL_nil ?_
      refine T_n ?_
      refine WP_ret ?_
      refine T_r ?_
      exact F_ret1 E Try.results7 rfl ⟨_, rfl, M1, (Hp.le.refl _), rfl, S⟩
    · replace hc2 := of_decide_eq_false hc2
      refine WP_skip ?_
      refine T_n ?_
      refine WP_seq ?_
      refine WP_seq ?_
      refine WP_region ?_
      refine S_x (X_buildI (ys := [1]) E S rfl T22 rfl rfl rfl ?_)
      clear E a S; rintro a w v3 E S
      have S0 := S; clear S
      obtain ⟨M_4, hM_4, hz5, S⟩ := S0.freezeI (by (first | omega | (simp; omega) | (simp; done) | (simp_all; omega) | grind))
      clear S0
      replace h0 := h0.le hM_4
      replace h1 := h1.le hM_4
      refine S_x (X_pu E S rfl rfl rfl (impl_Reverse hz5 (by (first | omega | (simp; omega) | (simp; done) | (simp_all; omega) | grind))) (Hp.le.refl _) ?_)
      clear E a S; rintro a v7 w M_6 hM_6 hv7 S E
      replace h0 := h0.le hM_6
      replace h1 := h1.le hM_6
      replace hz5 := hz5.le hM_6
      refine S_v E rfl (R_lenV E rfl T22 hv7.len) rfl ?_
      clear E a; intro a E
      refine S_v E rfl (R_neq E rfl rfl) rfl ?_
      clear E a; intro a E
      refine WL_nil ?_
      refine T_n ?_
      have hc8 : (decide ((((([1]).reverse).length : Nat) : Int) ≠ 1)) = false := by first | (simp; done) | decide | (rw [turn_head]; simp; done) | (generalize l0 ++ l1 = z; cases z with | nil => rfl | cons a b => (first | (simp; done) | (simp; omega)))
      refine WP_condF E rfl hc8 ?_
      refine WP_skip ?_
      refine T_n ?_
      refine WP_seq ?_
      refine WP_seq ?_
      refine WP_region ?_
      refine S_v E rfl (R_move E rfl) rfl ?_
      clear E a; intro a E
      refine S_v E rfl (R_move E rfl) rfl ?_
      clear E a; intro a E
      refine S_x (X_buildM (R := RSl 1 RInt) (vs := [v0, v1]) (xs := [l0, l1]) (RSl_mono RInt_mono) E S rfl T31 rfl rfl rfl (by intro u hu; simp only [List.mem_cons, List.not_mem_nil, or_false] at hu; rcases hu with rfl | rfl <;> first | exact RdI.one h0 | exact RdI.one h1 | rfl) rfl (rowsC (R := RSl 1 RInt) (RdI.row h0) (rowsC (R := RSl 1 RInt) (RdI.row h1) rowsN)) ?_)
      clear E a S; rintro a v9 w M_10 hM_10 hv9 S E
      replace hv9 : RdII M_10 v9 [l0, l1] := hv9
      replace h0 := h0.le hM_10
      replace h1 := h1.le hM_10
      replace hz5 := hz5.le hM_10
      replace hv7 := hv7.le hM_10
      refine S_x (X_pu E S rfl rfl rfl (laws_few hv9) (Hp.le.refl _) ?_)
      clear E a S; rintro a _ w M_11 hM_11 rfl S E
      replace h0 := h0.le hM_11
      replace h1 := h1.le hM_11
      replace hz5 := hz5.le hM_11
      replace hv7 := hv7.le hM_11
      replace hv9 := hv9.le hM_11
      refine S_v E rfl (R_not E rfl) rfl ?_
      clear E a; intro a E
      refine WL_nil ?_
      refine T_n ?_
      refine WP_cond E rfl (fun hc12 => ?_) (fun hc12 => ?_)
      · refine WP_seq ?_
        refine WP_region ?_
        refine S_v E rfl (R_assign E rfl) rfl ?_
        clear E a; intro a E
        refine WL_nil ?_
        refine T_n ?_
        refine WP_ret ?_
        refine T_r ?_
        exact F_ret1 E Try.results7 rfl ⟨_, rfl, M_11, (hM_4.trans (hM_6.trans (hM_10.trans hM_11))), rfl, S⟩
      · refine WP_skip ?_
        refine T_n ?_
        refine WP_seq ?_
        refine WP_region ?_
        refine S_v E rfl (R_move E rfl) rfl ?_
        clear E a; intro a E
        refine S_v E rfl (R_move E rfl) rfl ?_
        clear E a; intro a E
        refine S_x (X_pu E S rfl rfl rfl (laws_both h0 h1 (by first | omega | (simp; omega) | (simp_all; omega))) (Hp.le.refl _) ?_)
        clear E a S; rintro a v14 w M_13 hM_13 hv14 S E
        replace h0 := h0.le hM_13
        replace h1 := h1.le hM_13
        replace hz5 := hz5.le hM_13
        replace hv7 := hv7.le hM_13
        replace hv9 := hv9.le hM_13
        refine S_v E rfl (R_assign E rfl) rfl ?_
        clear E a; intro a E
        refine WL_nil ?_
        refine T_n ?_
        refine WP_seq ?_
        refine WP_region ?_
        refine S_v E rfl (R_move E rfl) rfl ?_
        clear E a; intro a E
        refine S_x (X_pu E S rfl rfl rfl (impl_Reverse hv14 (by (first | omega | (simp; omega) | (simp; done) | (simp_all; omega) | grind))) (Hp.le.refl _) ?_)
        clear E a S; rintro a v16 w M_15 hM_15 hv16 S E
        replace h0 := h0.le hM_15
        replace h1 := h1.le hM_15
        replace hz5 := hz5.le hM_15
        replace hv7 := hv7.le hM_15
        replace hv9 := hv9.le hM_15
        replace hv14 := hv14.le hM_15
        refine S_v E rfl (R_assign E rfl) rfl ?_
        clear E a; intro a E
        refine WL_nil ?_
        refine T_n ?_
        refine WP_seq ?_
        refine WP_region ?_
        refine S_v E rfl (R_move E rfl) rfl ?_
        clear E a; intro a E
        refine S_x (X_pu E S rfl rfl rfl (impl_First hv14) (Hp.le.refl _) ?_)
        clear E a S; rintro a _ w M_17 hM_17 rfl S E
        replace h0 := h0.le hM_17
        replace h1 := h1.le hM_17
        replace hz5 := hz5.le hM_17
        replace hv7 := hv7.le hM_17
        replace hv9 := hv9.le hM_17
        replace hv14 := hv14.le hM_17
        replace hv16 := hv16.le hM_17
        refine S_v E rfl (R_move E rfl) rfl ?_
        clear E a; intro a E
        refine S_v E rfl (R_extract E rfl rfl) rfl ?_
        clear E a; intro a E
        refine S_v E rfl (R_extract E rfl rfl) rfl ?_
        clear E a; intro a E
        refine S_v E rfl (R_assign E rfl) rfl ?_
        clear E a; intro a E
        refine S_v E rfl (R_assign E rfl) rfl ?_
        clear E a; intro a E
        refine WL_nil ?_
        refine T_n ?_
        refine WP_seq ?_
        refine WP_region ?_
        refine S_v E rfl (R_move E rfl) rfl ?_
        clear E a; intro a E
        refine S_x (X_pu E S rfl rfl rfl (impl_Last hv16) (Hp.le.refl _) ?_)
        clear E a S; rintro a _ w M_18 hM_18 rfl S E
        replace h0 := h0.le hM_18
        replace h1 := h1.le hM_18
        replace hz5 := hz5.le hM_18
        replace hv7 := hv7.le hM_18
        replace hv9 := hv9.le hM_18
        replace hv14 := hv14.le hM_18
        replace hv16 := hv16.le hM_18
        refine S_v E rfl (R_move E rfl) rfl ?_
        clear E a; intro a E
        refine S_v E rfl (R_extract E rfl rfl) rfl ?_
        clear E a; intro a E
        refine S_v E rfl (R_extract E rfl rfl) rfl ?_
        clear E a; intro a E
        refine S_v E rfl (R_assign E rfl) rfl ?_
        clear E a; intro a E
        refine S_v E rfl (R_assign E rfl) rfl ?_
        clear E a; intro a E
        refine WL_nil ?_
        refine T_n ?_
        refine WP_seq ?_
        refine WP_region ?_
        refine S_v E rfl (R_move E rfl) rfl ?_
        clear E a; intro a E
        refine S_x (X_pu E S rfl rfl rfl (spec_Reverse hv14 (by (first | omega | (simp; omega) | (simp; done) | (simp_all; omega) | grind))) (Hp.le.refl _) ?_)
        clear E a S; rintro a v20 w M_19 hM_19 hv20 S E
        replace h0 := h0.le hM_19
        replace h1 := h1.le hM_19
        replace hz5 := hz5.le hM_19
        replace hv7 := hv7.le hM_19
        replace hv9 := hv9.le hM_19
        replace hv14 := hv14.le hM_19
        replace hv16 := hv16.le hM_19
        refine S_v E rfl (R_move E rfl) rfl ?_
        clear E a; intro a E
        refine S_x (X_pu E S rfl rfl rfl (laws_eq hv20 hv16) (Hp.le.refl _) ?_)
        clear E a S; rintro a _ w M_21 hM_21 rfl S E
        replace h0 := h0.le hM_21
        replace h1 := h1.le hM_21
        replace hz5 := hz5.le hM_21
        replace hv7 := hv7.le hM_21
        replace hv9 := hv9.le hM_21
        replace hv14 := hv14.le hM_21
        replace hv16 := hv16.le hM_21
        replace hv20 := hv20.le hM_21
        refine S_v E rfl (R_move E rfl) rfl ?_
        clear E a; intro a E
        have hc22 : (decide ((l0 ++ l1).reverse = (l0 ++ l1).reverse)) = true := by first | (simp; done) | decide | (rw [turn_head]; simp; done) | (generalize l0 ++ l1 = z; cases z with | nil => rfl | cons a b => (first | (simp; done) | (simp; omega)))
        rw [hc22] at E
        refine WL_guard_yes E rfl rfl ?_
        refine S_v E rfl (R_move E rfl) rfl ?_
        clear E a; intro a E
        refine WL_guard_yes E rfl rfl ?_
        refine S_x (X_pu E S rfl rfl rfl (impl_Reverse hv16 (by (first | omega | (simp; omega) | (simp; done) | (simp_all; omega) | grind))) (Hp.le.refl _) ?_)
        clear E a S; rintro a v24 w M_23 hM_23 hv24 S E
        replace h0 := h0.le hM_23
        replace h1 := h1.le hM_23
        replace hz5 := hz5.le hM_23
        replace hv7 := hv7.le hM_23
        replace hv9 := hv9.le hM_23
        replace hv14 := hv14.le hM_23
        replace hv16 := hv16.le hM_23
        replace hv20 := hv20.le hM_23
        refine WL_guard_yes E rfl rfl ?_
        refine S_v E rfl (R_move E rfl) rfl ?_
        clear E a; intro a E
        refine WL_guard_yes E rfl rfl ?_
        refine S_x (X_pu E S rfl rfl rfl (laws_eq hv24 hv14) (Hp.le.refl _) ?_)
        clear E a S; rintro a _ w M_25 hM_25 rfl S E
        replace h0 := h0.le hM_25
        replace h1 := h1.le hM_25
        replace hz5 := hz5.le hM_25
        replace hv7 := hv7.le hM_25
        replace hv9 := hv9.le hM_25
        replace hv14 := hv14.le hM_25
        replace hv16 := hv16.le hM_25
        replace hv20 := hv20.le hM_25
        replace hv24 := hv24.le hM_25
        refine S_v E rfl (R_pickT E rfl rfl) rfl ?_
        clear E a; intro a E
        refine S_v E rfl (R_move E rfl) rfl ?_
        clear E a; intro a E
        have hc26 : (decide (((l0 ++ l1).reverse).reverse = l0 ++ l1)) = true := by first | (simp; done) | decide | (rw [turn_head]; simp; done) | (generalize l0 ++ l1 = z; cases z with | nil => rfl | cons a b => (first | (simp; done) | (simp; omega)))
        rw [hc26] at E
        refine WL_guard_yes E rfl rfl ?_
        refine S_v E rfl (R_move E rfl) rfl ?_
        clear E a; intro a E
        refine WL_guard_yes E rfl rfl ?_
        refine S_v E rfl (R_move E rfl) rfl ?_
        clear E a; intro a E
        refine WL_guard_yes E rfl rfl ?_
        refine S_x (X_pu E S rfl rfl rfl (impl_Reverse h1 (by (first | omega | (simp; omega) | (simp; done) | (simp_all; omega) | grind))) (Hp.le.refl _) ?_)
        clear E a S; rintro a v28 w M_27 hM_27 hv28 S E
        replace h0 := h0.le hM_27
        replace h1 := h1.le hM_27
        replace hz5 := hz5.le hM_27
        replace hv7 := hv7.le hM_27
        replace hv9 := hv9.le hM_27
        replace hv14 := hv14.le hM_27
        replace hv16 := hv16.le hM_27
        replace hv20 := hv20.le hM_27
        replace hv24 := hv24.le hM_27
        refine WL_guard_yes E rfl rfl ?_
        refine S_v E rfl (R_move E rfl) rfl ?_
        clear E a; intro a E
        refine WL_guard_yes E rfl rfl ?_
        refine S_x (X_pu E S rfl rfl rfl (impl_Reverse h0 (by (first | omega | (simp; omega) | (simp; done) | (simp_all; omega) | grind))) (Hp.le.refl _) ?_)
        clear E a S; rintro a v30 w M_29 hM_29 hv30 S E
        replace h0 := h0.le hM_29
        replace h1 := h1.le hM_29
        replace hz5 := hz5.le hM_29
        replace hv7 := hv7.le hM_29
        replace hv9 := hv9.le hM_29
        replace hv14 := hv14.le hM_29
        replace hv16 := hv16.le hM_29
        replace hv20 := hv20.le hM_29
        replace hv24 := hv24.le hM_29
        replace hv28 := hv28.le hM_29
        refine WL_guard_yes E rfl rfl ?_
        refine S_x (X_pu E S rfl rfl rfl (laws_both hv28 hv30 (by first | omega | (simp; omega) | (simp_all; omega))) (Hp.le.refl _) ?_)
        clear E a S; rintro a v32 w M_31 hM_31 hv32 S E
        replace h0 := h0.le hM_31
        replace h1 := h1.le hM_31
        replace hz5 := hz5.le hM_31
        replace hv7 := hv7.le hM_31
        replace hv9 := hv9.le hM_31
        replace hv14 := hv14.le hM_31
        replace hv16 := hv16.le hM_31
        replace hv20 := hv20.le hM_31
        replace hv24 := hv24.le hM_31
        replace hv28 := hv28.le hM_31
        replace hv30 := hv30.le hM_31
        refine WL_guard_yes E rfl rfl ?_
        refine S_x (X_pu E S rfl rfl rfl (laws_eq hv16 hv32) (Hp.le.refl _) ?_)
        clear E a S; rintro a _ w M_33 hM_33 rfl S E
        replace h0 := h0.le hM_33
        replace h1 := h1.le hM_33
        replace hz5 := hz5.le hM_33
        replace hv7 := hv7.le hM_33
        replace hv9 := hv9.le hM_33
        replace hv14 := hv14.le hM_33
        replace hv16 := hv16.le hM_33
        replace hv20 := hv20.le hM_33
        replace hv24 := hv24.le hM_33
        replace hv28 := hv28.le hM_33
        replace hv30 := hv30.le hM_33
        replace hv32 := hv32.le hM_33
        refine S_v E rfl (R_pickT E rfl rfl) rfl ?_
        clear E a; intro a E
        refine S_v E rfl (R_move E rfl) rfl ?_
        clear E a; intro a E
        have hc34 : (decide ((l0 ++ l1).reverse = ((l1).reverse) ++ ((l0).reverse))) = true := by first | (simp; done) | decide | (rw [turn_head]; simp; done) | (generalize l0 ++ l1 = z; cases z with | nil => rfl | cons a b => (first | (simp; done) | (simp; omega)))
        rw [hc34] at E
        refine WL_guard_yes E rfl rfl ?_
        refine S_v E rfl (R_move E rfl) rfl ?_
        clear E a; intro a E
        refine WL_guard_yes E rfl rfl ?_
        refine S_x (X_pu E S rfl rfl rfl (impl_ReverseSeq hv14 (by (first | omega | (simp; omega) | (simp; done) | (simp_all; omega) | grind))) (Hp.le.refl _) ?_)
        clear E a S; rintro a v36 w M_35 hM_35 hv36 S E
        replace h0 := h0.le hM_35
        replace h1 := h1.le hM_35
        replace hz5 := hz5.le hM_35
        replace hv7 := hv7.le hM_35
        replace hv9 := hv9.le hM_35
        replace hv14 := hv14.le hM_35
        replace hv16 := hv16.le hM_35
        replace hv20 := hv20.le hM_35
        replace hv24 := hv24.le hM_35
        replace hv28 := hv28.le hM_35
        replace hv30 := hv30.le hM_35
        replace hv32 := hv32.le hM_35
        refine WL_guard_yes E rfl rfl ?_
        refine S_v E rfl (R_move E rfl) rfl ?_
        clear E a; intro a E
        refine WL_guard_yes E rfl rfl ?_
        refine S_x (X_pu E S rfl rfl rfl (laws_eq hv36 hv16) (Hp.le.refl _) ?_)
        clear E a S; rintro a _ w M_37 hM_37 rfl S E
        replace h0 := h0.le hM_37
        replace h1 := h1.le hM_37
        replace hz5 := hz5.le hM_37
        replace hv7 := hv7.le hM_37
        replace hv9 := hv9.le hM_37
        replace hv14 := hv14.le hM_37
        replace hv16 := hv16.le hM_37
        replace hv20 := hv20.le hM_37
        replace hv24 := hv24.le hM_37
        replace hv28 := hv28.le hM_37
        replace hv30 := hv30.le hM_37
        replace hv32 := hv32.le hM_37
        replace hv36 := hv36.le hM_37
        refine S_v E rfl (R_pickT E rfl rfl) rfl ?_
        clear E a; intro a E
        refine S_v E rfl (R_move E rfl) rfl ?_
        clear E a; intro a E
        have hc38 : (decide ((l0 ++ l1).reverse = (l0 ++ l1).reverse)) = true := by first | (simp; done) | decide | (rw [turn_head]; simp; done) | (generalize l0 ++ l1 = z; cases z with | nil => rfl | cons a b => (first | (simp; done) | (simp; omega)))
        rw [hc38] at E
        refine WL_guard_yes E rfl rfl ?_
        refine S_v E rfl (R_move E rfl) rfl ?_
        clear E a; intro a E
        refine WL_guard_yes E rfl rfl ?_
        refine S_v E rfl (R_move E rfl) rfl ?_
        clear E a; intro a E
        refine WL_guard_yes E rfl rfl ?_
        refine S_v E rfl (R_eql E rfl rfl) rfl ?_
        clear E a; intro a E
        refine S_v E rfl (R_pickT E rfl rfl) rfl ?_
        clear E a; intro a E
        refine S_v E rfl (R_move E rfl) rfl ?_
        clear E a; intro a E
        have hc39 : (decide ((l0 ++ l1).headD 0 = ((l0 ++ l1).reverse).getLastD 0)) = true := by first | (simp; done) | decide | (rw [turn_head]; simp; done) | (generalize l0 ++ l1 = z; cases z with | nil => rfl | cons a b => (first | (simp; done) | (simp; omega)))
        rw [hc39] at E
        refine WL_guard_yes E rfl rfl ?_
        refine S_v E rfl (R_move E rfl) rfl ?_
        clear E a; intro a E
        refine WL_guard_yes E rfl rfl ?_
        refine S_v E rfl (R_move E rfl) rfl ?_
        clear E a; intro a E
        refine WL_guard_yes E rfl rfl ?_
        refine S_v E rfl (R_eqlB E rfl rfl Try.underlying4) rfl ?_
        clear E a; intro a E
        refine S_v E rfl (R_pickT E rfl rfl) rfl ?_
        clear E a; intro a E
        refine S_v E rfl (R_move E rfl) rfl ?_
        clear E a; intro a E
        have hc40 : ((!(l0 ++ l1).isEmpty) == (!((l0 ++ l1).reverse).isEmpty)) = true := by first | (simp; done) | decide | (rw [turn_head]; simp; done) | (generalize l0 ++ l1 = z; cases z with | nil => rfl | cons a b => (first | (simp; done) | (simp; omega)))
        rw [hc40] at E
        refine WL_guard_yes E rfl rfl ?_
        refine S_v E rfl (R_move E rfl) rfl ?_
        clear E a; intro a E
        refine WL_guard_yes E rfl rfl ?_
        refine S_v E rfl (R_move E rfl) rfl ?_
        clear E a; intro a E
        refine WL_guard_yes E rfl rfl ?_
        refine S_v E rfl (R_lenV E rfl T22 hv14.len) rfl ?_
        clear E a; intro a E
        refine WL_guard_yes E rfl rfl ?_
        refine S_v E rfl (R_gtr E rfl rfl) rfl ?_
        clear E a; intro a E
        refine WL_guard_yes E rfl rfl ?_
        refine S_v E rfl (R_eqlB E rfl rfl Try.underlying4) rfl ?_
        clear E a; intro a E
        refine S_v E rfl (R_pickT E rfl rfl) rfl ?_
        clear E a; intro a E
        refine S_v E rfl (R_move E rfl) rfl ?_
        clear E a; intro a E
        have hc41 : ((!(l0 ++ l1).isEmpty) == (decide (0 < (((l0 ++ l1).length : Nat) : Int)))) = true := by first | (simp; done) | decide | (rw [turn_head]; simp; done) | (generalize l0 ++ l1 = z; cases z with | nil => rfl | cons a b => (first | (simp; done) | (simp; omega)))
        rw [hc41] at E
        refine WL_guard_yes E rfl rfl ?_
        refine S_v E rfl (R_move E rfl) rfl ?_
        clear E a; intro a E
        refine WL_guard_yes E rfl rfl ?_
        refine S_v E rfl (R_move E rfl) rfl ?_
        clear E a; intro a E
        refine WL_guard_yes E rfl rfl ?_
        refine S_x (X_pu E S rfl rfl rfl (laws_turned hv14 (by (first | omega | (simp; omega) | (simp; done) | (simp_all; omega) | grind))) (Hp.le.refl _) ?_)
        clear E a S; rintro a v43 w M_42 hM_42 hv43 S E
        replace h0 := h0.le hM_42
        replace h1 := h1.le hM_42
        replace hz5 := hz5.le hM_42
        replace hv7 := hv7.le hM_42
        replace hv9 := hv9.le hM_42
        replace hv14 := hv14.le hM_42
        replace hv16 := hv16.le hM_42
        replace hv20 := hv20.le hM_42
        replace hv24 := hv24.le hM_42
        replace hv28 := hv28.le hM_42
        replace hv30 := hv30.le hM_42
        replace hv32 := hv32.le hM_42
        replace hv36 := hv36.le hM_42
        refine WL_guard_yes E rfl rfl ?_
        refine S_x (X_pu E S rfl rfl rfl (laws_eq hv16 hv43) (Hp.le.refl _) ?_)
        clear E a S; rintro a _ w M_44 hM_44 rfl S E
        replace h0 := h0.le hM_44
        replace h1 := h1.le hM_44
        replace hz5 := hz5.le hM_44
        replace hv7 := hv7.le hM_44
        replace hv9 := hv9.le hM_44
        replace hv14 := hv14.le hM_44
        replace hv16 := hv16.le hM_44
        replace hv20 := hv20.le hM_44
        replace hv24 := hv24.le hM_44
        replace hv28 := hv28.le hM_44
        replace hv30 := hv30.le hM_44
        replace hv32 := hv32.le hM_44
        replace hv36 := hv36.le hM_44
        replace hv43 := hv43.le hM_44
        refine S_v E rfl (R_pickT E rfl rfl) rfl ?_
        clear E a; intro a E
        refine S_v E rfl (R_assign E rfl) rfl ?_
        clear E a; intro a E
        refine WL_nil ?_
        refine T_n ?_
        refine WP_ret ?_
        exact F_ret1 E Try.results7 rfl ⟨_, rfl, M_44, (hM_4.trans (hM_6.trans (hM_10.trans (hM_11.trans (hM_13.trans (hM_15.trans (hM_17.trans (hM_18.trans (hM_19.trans (hM_21.trans (hM_23.trans (hM_25.trans (hM_27.trans (hM_29.trans (hM_31.trans (hM_33.trans (hM_35.trans (hM_37.trans (hM_42.trans hM_44))))))))))))))))))), (congrArg Value.bool (by first | (simp; done) | decide | (rw [turn_head]; simp; done) | (generalize l0 ++ l1 = z; cases z with | nil => rfl | cons a b => (first | (simp; done) | (simp; omega))))), S⟩

end Go.Proofs.Ytnoekjegpolfoaa.wFnTurned
