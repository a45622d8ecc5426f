/- Walks through the functions that laws.FnEnds reaches: what each computes; no conditions beyond what each theorem states. -/
import Derived.Test.YtllmbopajlfneaaProg
import Derived.Test.YtllmbopajlfneaaSlN
set_option linter.unusedVariables false
set_option linter.unusedSimpArgs false
namespace Go.Proofs.Ytllmbopajlfneaa.wFnEnds
open Go Go.Sl
theorem Try.mixed : Try.prog.follows .mixedOrders = true := by kernel_rfl
theorem T22 : SlT Try.prog 22 3 1 8 (.int .i64 0) := ⟨Try.underlying22, ⟨Try.t3, by kernel_rfl, rfl, rfl, rfl⟩, rfl, by decide⟩
theorem T95 : SlT Try.prog 95 22 1 24 (.slice none 0 0) := ⟨Try.underlying95, ⟨Try.t22, by kernel_rfl, rfl, rfl, rfl⟩, rfl, by decide⟩

def spliceL (l : List Int) (i : Int) (m : List Int) : List Int :=
  let j := min (if i < 0 then (i + l.length).toNat else i.toNat) l.length
  l.take j ++ m ++ l.drop j

theorem splice_same (l m : List Int) (i : Int) : (spliceL l i m).length = (l ++ m).length ∧ ∀ x ∈ spliceL l i m, (spliceL l i m).count x = (l ++ m).count x := by
  have h : (spliceL l i m).Perm (l ++ m) := by
    unfold spliceL
    generalize min (if i < 0 then (i + l.length).toNat else i.toNat) l.length = j
    have e : l ++ m = l.take j ++ l.drop j ++ m := by rw [List.take_append_drop]
    rw [e, List.append_assoc, List.append_assoc]
    exact List.Perm.append_left _ List.perm_append_comm
  exact ⟨h.length_eq, fun x _ => h.count_eq x⟩

def cutAt (l b : List Int) : Option Nat := (List.range (l.length + 1)).find? (fun i => decide ((l.drop i).take b.length = b))
def cutL (l b : List Int) : List Int × List Int × Bool :=
  match cutAt l b with
  | some k => (l.take k, l.drop (k + b.length), true)
  | none => (l, [], false)
theorem cutAt_some {l b : List Int} {k : Nat} (hk : k ≤ l.length) (h : (l.drop k).take b.length = b) (hn : ∀ j, j < k → ¬ (l.drop j).take b.length = b) : cutAt l b = some k := by
  unfold cutAt
  rw [List.find?_range_eq_some]
  exact ⟨by simpa using h, by simp; omega, fun j hj => by simpa using hn j hj⟩
theorem cutAt_none {l b : List Int} (hn : ∀ j, j ≤ l.length → ¬ (l.drop j).take b.length = b) : cutAt l b = none := by
  unfold cutAt
  rw [List.find?_range_eq_none]
  intro j hj
  simpa using hn j (by omega)
theorem cutL_some {l b : List Int} {k : Nat} (hk : k ≤ l.length) (h : (l.drop k).take b.length = b) (hn : ∀ j, j < k → ¬ (l.drop j).take b.length = b) : cutL l b = (l.take k, l.drop (k + b.length), true) := by
  unfold cutL; rw [cutAt_some hk h hn]
theorem cutL_none {l b : List Int} {k : Nat} (hk : l.length < k + b.length) (hn : ∀ j, j < k → ¬ (l.drop j).take b.length = b) : cutL l b = (l, [], false) := by
  unfold cutL; rw [cutAt_none]
  intro j hj e
  by_cases h : j < k
  · exact hn j h e
  · have := congrArg List.length e
    simp at this; omega
theorem cut_len {l b : List Int} : (cutL l b).1.length ≤ l.length ∧ (cutL l b).2.1.length ≤ l.length := by
  unfold cutL; split <;> simp <;> omega
theorem take_ne {l b : List Int} {k j : Nat} {x y : Int} (hx : l[k + j]? = some x) (hy : b[j]? = some y) (h : x ≠ y) : ¬ (l.drop k).take b.length = b := by
  intro e
  have hj := (List.getElem?_eq_some_iff.1 hy).1
  have : ((l.drop k).take b.length)[j]? = some x := by rw [List.getElem?_take, if_pos hj, List.getElem?_drop]; exact hx
  rw [e, hy] at this; exact h (Option.some.inj this).symm

def AtL (l b : List Int) (i xa : Int) : Prop :=
  (xa = -1 ∧ ∀ j : Nat, i < j → ¬ (l.drop j).take b.length = b) ∨ (∃ p : Nat, xa = p ∧ i < p ∧ p ≤ l.length ∧ (l.drop p).take b.length = b ∧ ∀ j : Nat, i < j → j < p → ¬ (l.drop j).take b.length = b)
theorem AtL_start {l b : List Int} {i : Int} (hb : ¬ (b.length : Int) = 0) (hi : i = (l.length : Int) - b.length) : AtL l b i (-1) := by
  refine .inl ⟨rfl, fun j hj e => ?_⟩
  have := congrArg List.length e
  simp at this; omega
theorem AtL_yes {l b : List Int} {i j xa : Int} (h : AtL l b i xa) (h0 : 0 ≤ i) (h1 : i ≤ l.length) (hj : j = i - 1) (hp : (l.drop i.toNat).take b.length = b) : AtL l b j i := by
  refine .inr ⟨i.toNat, by omega, by omega, by omega, hp, fun k h1 h2 => by omega⟩
theorem AtL_no {l b : List Int} {i j xa : Int} (h : AtL l b i xa) (h0 : 0 ≤ i) (hj : j = i - 1) (hp : ¬ (l.drop i.toNat).take b.length = b) : AtL l b j xa := by
  rcases h with ⟨rfl, h⟩ | ⟨p, rfl, h1, h2, h3, h4⟩
  · refine .inl ⟨rfl, fun k hk => ?_⟩
    by_cases e : (k : Int) = i
    · rw [show k = i.toNat by omega]; exact hp
    · exact h k (by omega)
  · refine .inr ⟨p, rfl, by omega, h2, h3, fun k hk hkp => ?_⟩
    by_cases e : (k : Int) = i
    · rw [show k = i.toNat by omega]; exact hp
    · exact h4 k (by omega) hkp
theorem AtL_end {l b : List Int} {i xa : Int} (h : AtL l b i xa) (h0 : i < 0) :
    (xa = -1 ∧ cutL l b = (l, [], false)) ∨ (∃ p : Nat, xa = p ∧ p ≤ l.length ∧ p + b.length ≤ l.length ∧ cutL l b = (l.take p, l.drop (p + b.length), true) ∧ l.take p ++ b ++ l.drop (p + b.length) = l) := by
  rcases h with ⟨rfl, h⟩ | ⟨p, rfl, h1, h2, h3, h4⟩
  · exact .inl ⟨rfl, cutL_none (k := l.length + 1) (by omega) fun j _ => h j (by omega)⟩
  · refine .inr ⟨p, rfl, h2, ?_, cutL_some h2 h3 fun j hj => h4 j (by omega) hj, ?_⟩
    · have := congrArg List.length h3
      simp at this; omega
    · have e : l.drop p = b ++ l.drop (p + b.length) := by
        conv => lhs; rw [← List.take_append_drop b.length (l.drop p), h3, List.drop_drop]
      rw [List.append_assoc, ← e, List.take_append_drop]

def maxLen (ll : List (List Int)) : Nat := ll.foldl (fun a x => max a x.length) 0
def rowI (i : Nat) (ll : List (List Int)) : List Int := ll.filterMap (fun l => l[i]?)
def interP (k : Nat) (ll : List (List Int)) : List Int := (List.range k).flatMap (fun i => rowI i ll)
def total (ll : List (List Int)) : Nat := (ll.map List.length).sum
theorem maxLen_succ {ll : List (List Int)} {k : Nat} {x : List Int} (h : ll[k]? = some x) : maxLen (ll.take (k + 1)) = max (maxLen (ll.take k)) x.length := by
  simp [maxLen, List.take_add_one, h]
theorem foldl_max_le (ll : List (List Int)) : ∀ a, a ≤ ll.foldl (fun a x => max a x.length) a ∧ ∀ x ∈ ll, x.length ≤ ll.foldl (fun a x => max a x.length) a := by
  induction ll with
  | nil => intro a; simp
  | cons y ll ih =>
    intro a
    obtain ⟨h1, h2⟩ := ih (max a y.length)
    simp only [List.foldl_cons, List.mem_cons]
    refine ⟨by omega, fun x hx => ?_⟩
    rcases hx with rfl | hx
    · omega
    · exact h2 x hx
theorem le_maxLen {ll : List (List Int)} {x : List Int} (h : x ∈ ll) : x.length ≤ maxLen ll := (foldl_max_le ll 0).2 x h
theorem maxLen_le {ll : List (List Int)} {b : Nat} (h : ∀ x ∈ ll, x.length ≤ b) : maxLen ll ≤ b := by
  unfold maxLen
  suffices ∀ a, a ≤ b → ll.foldl (fun a x => max a x.length) a ≤ b from this 0 (by omega)
  induction ll with
  | nil => intro a ha; exact ha
  | cons y ll ih => intro a ha; exact ih (fun x hx => h x (by simp [hx])) _ (by have := h y (by simp); show max a y.length ≤ b; omega)
theorem total_succ {ll : List (List Int)} {k : Nat} {x : List Int} (h : ll[k]? = some x) : total (ll.take (k + 1)) = total (ll.take k) + x.length := by
  simp [total, List.take_add_one, h]
theorem total_take_le (ll : List (List Int)) (k : Nat) : total (ll.take k) ≤ total ll := by
  unfold total
  conv => rhs; rw [← List.take_append_drop k ll]
  rw [List.map_append, List.sum_append]; omega
theorem total_le {ll : List (List Int)} {b : Nat} (h : ∀ x ∈ ll, x.length ≤ b) : total ll ≤ ll.length * b := by
  induction ll with
  | nil => simp [total]
  | cons y ll ih =>
    have h1 := h y (by simp)
    have h2 := ih (fun x hx => h x (by simp [hx]))
    simp only [total, List.map_cons, List.sum_cons, List.length_cons, Nat.succ_mul] at *; omega
theorem interP_succ (k : Nat) (ll : List (List Int)) : interP (k + 1) ll = interP k ll ++ rowI k ll := by
  simp [interP, List.range_succ, List.flatMap_append]
theorem rowI_cons (k : Nat) (x : List Int) (ll : List (List Int)) : (rowI k (x :: ll)).length = (if k < x.length then 1 else 0) + (rowI k ll).length := by
  unfold rowI
  by_cases h : k < x.length
  · rw [List.filterMap_cons, List.getElem?_eq_getElem h]; simp [h]; omega
  · rw [List.filterMap_cons, List.getElem?_eq_none (by omega)]; simp [h]
theorem interP_nil (k : Nat) : interP k [] = [] := by simp [interP, rowI, List.flatMap_eq_nil_iff]
theorem interP_cons (k : Nat) (x : List Int) (ll : List (List Int)) : (interP k (x :: ll)).length = min k x.length + (interP k ll).length := by
  induction k with
  | zero => simp [interP]
  | succ k ih => rw [interP_succ, interP_succ, List.length_append, List.length_append, ih, rowI_cons]; split <;> omega
theorem interP_le (k : Nat) (ll : List (List Int)) : (interP k ll).length ≤ total ll := by
  induction ll with
  | nil => simp [interP_nil, total]
  | cons x ll ih => rw [interP_cons]; simp only [total, List.map_cons, List.sum_cons] at *; omega
theorem interP_full {k : Nat} {ll : List (List Int)} (h : ∀ x ∈ ll, x.length ≤ k) : (interP k ll).length = total ll := by
  induction ll with
  | nil => simp [interP_nil, total]
  | cons x ll ih =>
    have h1 := h x (by simp)
    have h2 := ih fun y hy => h y (by simp [hy])
    rw [interP_cons]; simp only [total, List.map_cons, List.sum_cons] at *; omega
theorem rowI_succ {ll : List (List Int)} {j i : Nat} {x : List Int} (h : ll[j]? = some x) : rowI i (ll.take (j + 1)) = rowI i (ll.take j) ++ x[i]?.toList := by
  unfold rowI
  rw [List.take_add_one, h, List.filterMap_append]
  cases e : x[i]? <;> simp [e]
theorem rowI_take_le (i j : Nat) (ll : List (List Int)) : (rowI i (ll.take j)).length ≤ (rowI i ll).length := by
  unfold rowI
  conv => rhs; rw [← List.take_append_drop j ll, List.filterMap_append, List.length_append]
  omega
theorem inter_row_le (i j : Nat) (ll : List (List Int)) : (interP i ll).length + (rowI i (ll.take j)).length ≤ total ll := by
  have h := interP_le (i + 1) ll
  rw [interP_succ, List.length_append] at h
  have := rowI_take_le i j ll; omega
theorem inter_row_lt {i j : Nat} {ll : List (List Int)} {x : List Int} (h : ll[j]? = some x) (hi : i < x.length) : (interP i ll).length + (rowI i (ll.take j)).length < total ll := by
  have h1 := inter_row_le i (j + 1) ll
  rw [rowI_succ h, List.getElem?_eq_getElem hi] at h1
  simp at h1; omega
theorem rowI_out {i : Nat} {ll : List (List Int)} (h : ∀ x ∈ ll, x.length ≤ i) : rowI i ll = [] := by
  unfold rowI
  rw [List.filterMap_eq_nil_iff]
  intro x hx
  exact List.getElem?_eq_none (h x hx)
theorem interP_stable {ll : List (List Int)} {m : Nat} (h : ∀ x ∈ ll, x.length ≤ m) : ∀ k, m ≤ k → interP k ll = interP m ll := by
  intro k hk
  induction k with
  | zero => rw [show m = 0 by omega]
  | succ k ih =>
    by_cases e : m = k + 1
    · rw [e]
    · rw [interP_succ, ih (by omega), rowI_out fun x hx => by have := h x hx; omega, List.append_nil]
def interL (ll : List (List Int)) : List Int := interP (maxLen ll) ll
theorem interL_eq {ll : List (List Int)} {k : Nat} (h : maxLen ll ≤ k) : interP k ll = interL ll :=
  interP_stable (fun x hx => le_maxLen hx) k h
theorem maxLen_total (ll : List (List Int)) : maxLen ll ≤ total ll := by
  refine maxLen_le fun x hx => ?_
  obtain ⟨k, hk⟩ := List.getElem?_of_mem hx
  have := total_take_le ll (k + 1)
  rw [total_succ hk] at this; omega
theorem interL_length (ll : List (List Int)) : (interL ll).length = total ll := interP_full fun x hx => le_maxLen hx
theorem rowI_perm (ll : List (List Int)) (k : Nat) : (rowI k ll ++ (ll.map (List.drop (k + 1))).flatten).Perm (ll.map (List.drop k)).flatten := by
  induction ll with
  | nil => simp [rowI]
  | cons x ll ih =>
    unfold rowI at *
    rw [List.filterMap_cons]
    simp only [List.map_cons, List.flatten_cons]
    cases e : x[k]? with
    | none =>
      have hk : x.length ≤ k := by simpa using e
      simp only [List.drop_eq_nil_of_le hk, List.drop_eq_nil_of_le (Nat.le_succ_of_le hk), List.nil_append]
      exact ih
    | some y =>
      have hk := (List.getElem?_eq_some_iff.1 e)
      obtain ⟨h1, h2⟩ := hk
      rw [List.drop_eq_getElem_cons h1, h2]
      simp only [List.cons_append]
      refine List.Perm.cons y ?_
      rw [← List.append_assoc]
      refine (List.Perm.append_right _ List.perm_append_comm).trans ?_
      rw [List.append_assoc]
      exact List.Perm.append_left _ ih
theorem interP_perm (ll : List (List Int)) : ∀ k, (interP k ll ++ (ll.map (List.drop k)).flatten).Perm ll.flatten := by
  intro k
  induction k with
  | zero => simp [interP, show (List.drop 0 : List Int → List Int) = id from funext fun _ => rfl]
  | succ k ih =>
    rw [interP_succ, List.append_assoc]
    exact (List.Perm.append_left _ (rowI_perm ll k)).trans ih
theorem interL_perm (ll : List (List Int)) : (interL ll).Perm ll.flatten := by
  have h := interP_perm ll (maxLen ll)
  have e : (ll.map (List.drop (maxLen ll))).flatten = [] := by
    rw [List.flatten_eq_nil_iff]
    intro l hl
    obtain ⟨x, hx, rfl⟩ := List.mem_map.1 hl
    exact List.drop_eq_nil_of_le (le_maxLen hx)
  rw [e, List.append_nil] at h; exact h
theorem inter_same (ll : List (List Int)) : (interL ll).length = ll.flatten.length ∧ ∀ x ∈ interL ll, (interL ll).count x = ll.flatten.count x :=
  ⟨(interL_perm ll).length_eq, fun x _ => (interL_perm ll).count_eq x⟩
theorem flatten_len (ll : List (List Int)) : ll.flatten.length = total ll := by simp [total, List.length_flatten]
theorem flatten_succ {ll : List (List Int)} {k : Nat} {x : List Int} (h : ll[k]? = some x) : (ll.take (k + 1)).flatten = (ll.take k).flatten ++ x := by
  simp [List.take_add_one, h]
theorem set_fill {p q : List Int} {n : Nat} {y : Int} (h : p.length < n) (hq : q = p ++ [y]) : (p ++ List.replicate (n - p.length) (0 : Int)).set p.length y = q ++ List.replicate (n - q.length) (0 : Int) := by
  subst hq
  rw [List.set_append_right _ _ (Nat.le_refl _), Nat.sub_self]
  obtain ⟨m, hm⟩ : ∃ m, n - p.length = m + 1 := ⟨n - p.length - 1, by omega⟩
  rw [hm, List.replicate_succ, List.set_cons_zero]
  simp; omega

theorem List.mem_take_succ_of {α : Type} {l : List α} {k : Nat} {x : α} (h : l[k]? = some x) : x ∈ l.take (k + 1) := by
  rw [List.take_add_one, h]; simp
theorem take_mem_exists {α : Type} {l : List α} {k : Nat} {x : α} {p : α → Prop} (h : l[k]? = some x) : (∃ y ∈ l.take (k + 1), p y) ↔ (∃ y ∈ l.take k, p y) ∨ p x := by
  rw [List.take_add_one, h]
  simp only [Option.toList_some, List.mem_append, List.mem_singleton]
  constructor
  · rintro ⟨y, hy | rfl, hp⟩
    · exact .inl ⟨y, hy, hp⟩
    · exact .inr hp
  · rintro (⟨y, hy, hp⟩ | hp)
    · exact ⟨y, .inl hy, hp⟩
    · exact ⟨x, .inr rfl, hp⟩

theorem flat_prefix {l : List (List Int)} {k : Nat} {xk p : List Int} {x : Int} (h : l[k]? = some xk) (hp : p ++ [x] <+: xk) : ((l.take k).flatten ++ p) ++ [x] <+: l.flatten := by
  have h1 : (l.take (k + 1)).flatten <+: l.flatten := by
    conv => rhs; rw [← List.take_append_drop (k + 1) l, List.flatten_append]
    exact List.prefix_append _ _
  rw [flatten_succ h] at h1
  rw [List.append_assoc]
  exact ((List.prefix_append_right_inj _).2 hp).trans h1
theorem flat_prefix0 {l : List (List Int)} {k : Nat} {xk p : List Int} (h : l[k]? = some xk) (hp : p <+: xk) : ((l.take k).flatten ++ p) <+: l.flatten := by
  have h1 : (l.take (k + 1)).flatten <+: l.flatten := by
    conv => rhs; rw [← List.take_append_drop (k + 1) l, List.flatten_append]
    exact List.prefix_append _ _
  rw [flatten_succ h] at h1
  exact ((List.prefix_append_right_inj _).2 hp).trans h1
theorem total_append (a b : List (List Int)) : total (a ++ b) = total a + total b := by simp [total]

/-- the first k items and the last k ones have changed their places -/
def swapK (l : List Int) (k : Nat) : List Int := (List.range l.length).map fun i => if i < k ∨ l.length ≤ i + k then l.getD (l.length - 1 - i) 0 else l.getD i 0
theorem swapK_zero (l : List Int) : l = swapK l 0 := by
  apply List.ext_getElem?
  intro i
  unfold swapK
  rw [List.getElem?_map]
  by_cases h : i < l.length
  · rw [List.getElem?_range h, Option.map_some, if_neg (by omega), List.getElem?_eq_getElem h]; simp [List.getD_eq_getElem?_getD, h]
  · rw [List.getElem?_eq_none (by omega), List.getElem?_eq_none (by simp; omega)]; rfl
theorem swapK_length (l : List Int) (k : Nat) : (swapK l k).length = l.length := by simp [swapK]
theorem swapK_get {l : List Int} {k i : Nat} (h : i < l.length) : (swapK l k)[i]? = some (if i < k ∨ l.length ≤ i + k then l.getD (l.length - 1 - i) 0 else l.getD i 0) := by
  unfold swapK; rw [List.getElem?_map, List.getElem?_range h]; rfl
theorem swapK_succ {l : List Int} {k j : Nat} {x y : Int} (hk : 2 * k + 1 < l.length) (hj : j = l.length - 1 - k) (hx : (swapK l k)[j]? = some x) (hy : (swapK l k)[k]? = some y) : ((swapK l k).set k x).set j y = swapK l (k + 1) := by
  subst hj
  rw [swapK_get (by omega)] at hx hy
  rw [if_neg (by omega)] at hx hy
  apply List.ext_getElem?
  intro i
  by_cases h : i < l.length
  · rw [swapK_get h, List.getElem?_set, List.getElem?_set, swapK_length, List.length_set, swapK_length]
    by_cases h1 : l.length - 1 - k = i
    · rw [if_pos h1, if_pos (by omega), if_pos (by omega), ← hy, ← h1]; congr 2; omega
    · rw [if_neg h1]
      by_cases h2 : k = i
      · rw [if_pos h2, if_pos (by omega), if_pos (by omega), ← hx, ← h2]
      · rw [if_neg h2, swapK_get h]
        by_cases h3 : i < k ∨ l.length ≤ i + k
        · rw [if_pos h3, if_pos (by omega)]
        · rw [if_neg h3, if_neg (by omega)]
  · rw [List.getElem?_eq_none (by simp [swapK_length]; omega), List.getElem?_eq_none (by simp [swapK_length]; omega)]
theorem swapK_half {l : List Int} {k : Nat} (h : l.length / 2 ≤ k) : swapK l k = l.reverse := by
  apply List.ext_getElem?
  intro i
  by_cases hi : i < l.length
  · rw [swapK_get hi, List.getElem?_reverse hi]
    by_cases h3 : i < k ∨ l.length ≤ i + k
    · rw [if_pos h3, List.getElem?_eq_getElem (by omega)]; simp [List.getD_eq_getElem?_getD, List.getElem?_eq_getElem (show l.length - 1 - i < l.length by omega)]
    · rw [if_neg h3, List.getElem?_eq_getElem (by omega)]
      have : l.length - 1 - i = i := by omega
      simp [List.getD_eq_getElem?_getD, List.getElem?_eq_getElem hi, this]
  · rw [List.getElem?_eq_none (by simp [swapK_length]; omega), List.getElem?_eq_none (by simp; omega)]
theorem tdiv2 (n : Nat) : IntKind.i64.wrap (Int.tdiv (n : Int) 2) = IntKind.i64.wrap ((n / 2 : Nat) : Int) := by congr 1

theorem first_eq {l : List Int} {x : Int} (h : l[0]? = some x) : l.headD 0 = x ∧ l.isEmpty = false := by
  cases l with
  | nil => cases h
  | cons y l => cases h; exact ⟨rfl, rfl⟩
theorem last_eq {l : List Int} {x : Int} {k : Nat} (h : l[k]? = some x) (hk : k + 1 = l.length) : l.getLastD 0 = x ∧ l.isEmpty = false := by
  cases l with
  | nil => cases h
  | cons y l =>
    refine ⟨?_, rfl⟩
    have : k = l.length := by simpa using hk
    subst this
    rw [List.getLastD_cons, List.getLastD_eq_getLast?, List.getLast?_eq_getElem?]
    cases l with
    | nil => cases h; rfl
    | cons z l => rw [show (z :: l).length - 1 = l.length by simp]; rw [show (y :: z :: l)[(z :: l).length]? = (z :: l)[l.length]? by simp] at h; rw [h]; rfl

theorem rev_step {l : List Int} {k j : Nat} {x : Int} (hk : k < l.length) (hj : (j : Int) = (l.length : Int) - 1 - k) (h : l[j]? = some x) : (l.drop (l.length - k)).reverse ++ [x] = (l.drop (l.length - (k + 1))).reverse := by
  have e : j = l.length - (k + 1) := by omega
  subst e
  rw [List.drop_eq_getElem_cons (show l.length - (k + 1) < l.length by omega), show l.length - (k + 1) + 1 = l.length - k by omega, List.reverse_cons]
  rw [List.getElem?_eq_getElem (by omega)] at h
  rw [Option.some.inj h]
theorem rev_prefix {l : List Int} {k j : Nat} {x : Int} (hk : k < l.length) (hj : (j : Int) = (l.length : Int) - 1 - k) (h : l[j]? = some x) : (l.drop (l.length - k)).reverse ++ [x] <+: l.reverse := by
  rw [rev_step hk hj h]
  conv => rhs; rw [← List.take_append_drop (l.length - (k + 1)) l, List.reverse_append]
  exact List.prefix_append _ _

theorem turn_head (l : List Int) : l.headD 0 = l.reverse.getLastD 0 := by cases l <;> simp [List.getLastD_eq_getLast?]

def predAt (k n : Int) (l : List Int) (x i : Int) : Bool :=
  if k = 0 then decide (x < n) else if k = 1 then (decide (n ≠ 0) && decide (x % n = l.headD 0)) else if k = 2 then decide (x ∈ l) else if k = 3 then decide (Int.tmod i 2 = 0) else decide (k = 4)
theorem tmod_emod (a b : Int) (hb : b ≠ 0) : (Int.tmod a b = a % b ∨ Int.tmod a b = a % b - b.natAbs) ∧ 0 ≤ a % b ∧ a % b < b.natAbs := by
  refine ⟨?_, Int.emod_nonneg _ hb, ?_⟩
  · rw [Int.tmod_eq_emod]; split <;> simp
  · have := Int.emod_lt a hb; omega
def filtI (f : Int → Int → Bool) : Nat → List Int → List Int
  | _, [] => []
  | i, x :: l => if f x i then x :: filtI f (i + 1) l else filtI f (i + 1) l
theorem filtI_append (f : Int → Int → Bool) : ∀ (a b : List Int) (i : Nat), filtI f i (a ++ b) = filtI f i a ++ filtI f (i + a.length) b
  | [], b, i => by simp [filtI]
  | x :: a, b, i => by
    simp only [List.cons_append, filtI, filtI_append f a b (i + 1), List.length_cons]
    rw [show i + 1 + a.length = i + (a.length + 1) by omega]
    split <;> rfl
theorem filtI_succ {f : Int → Int → Bool} {l : List Int} {k : Nat} {x : Int} (h : l[k]? = some x) : filtI f 0 (l.take (k + 1)) = filtI f 0 (l.take k) ++ (if f x k then [x] else []) := by
  have hk := (List.getElem?_eq_some_iff.1 h).1
  rw [List.take_add_one, h, filtI_append]
  simp only [Option.toList_some, filtI, List.length_take, Nat.zero_add, Nat.min_eq_left (Nat.le_of_lt hk)]
theorem filtI_len (f : Int → Int → Bool) : ∀ (l : List Int) (i : Nat), (filtI f i l).length ≤ l.length
  | [], i => by simp [filtI]
  | x :: l, i => by have := filtI_len f l (i + 1); unfold filtI; split <;> simp <;> omega
theorem filtI_filter {f : Int → Int → Bool} {g : Int → Bool} (h : ∀ x i, f x i = g x) : ∀ (l : List Int) (i : Nat), filtI f i l = l.filter g
  | [], i => rfl
  | x :: l, i => by unfold filtI; rw [h, List.filter_cons, filtI_filter h l (i + 1)]
theorem predAt_free {k n : Int} {l : List Int} (h : ¬ k = 3) (x i : Int) : predAt k n l x i = predAt k n l x 0 := by
  unfold predAt; simp [h]
theorem countP_succ {g : Int → Bool} {l : List Int} {k : Nat} {x : Int} (h : l[k]? = some x) : (l.take (k + 1)).countP g = (l.take k).countP g + (if g x then 1 else 0) := by
  rw [List.take_add_one, h, List.countP_append]; simp [List.countP_cons]

/-- the first place of an item, -1 if there is none -/
def idxOf (l : List Int) (x : Int) : Int := match (List.range l.length).find? (fun i => decide (l[i]? = some x)) with | some i => (i : Int) | none => -1
theorem idxOf_some {l : List Int} {x : Int} {k : Nat} (h : l[k]? = some x) (hn : ∀ j, j < k → l[j]? ≠ some x) : idxOf l x = (k : Int) := by
  have hk := (List.getElem?_eq_some_iff.1 h).1
  have : (List.range l.length).find? (fun i => decide (l[i]? = some x)) = some k := by
    rw [List.find?_range_eq_some]
    exact ⟨by simpa using h, by simpa using hk, fun j hj => by simpa using hn j hj⟩
  unfold idxOf; rw [this]
theorem idxOf_none {l : List Int} {x : Int} (hn : ∀ j : Nat, l[j]? ≠ some x) : idxOf l x = -1 := by
  have : (List.range l.length).find? (fun i => decide (l[i]? = some x)) = none := by
    rw [List.find?_range_eq_none]
    intro i hi; simpa using hn i
  unfold idxOf; rw [this]
theorem idxOf_mem (l : List Int) (x : Int) : decide (0 ≤ idxOf l x) = decide (x ∈ l) := by
  by_cases h : x ∈ l
  · rw [decide_eq_true h]
    cases e : (List.range l.length).find? (fun i => decide (l[i]? = some x)) with
    | some i => unfold idxOf; rw [e]; simp
    | none =>
      rw [List.find?_range_eq_none] at e
      obtain ⟨k, hk⟩ := List.getElem?_of_mem h
      have := e k (List.getElem?_eq_some_iff.1 hk).1
      simp [hk] at this
  · rw [decide_eq_false h, idxOf_none (fun j e => h (List.mem_of_getElem? e))]; rfl

theorem filt_twice (f g : Int → Int → Bool) (hf : ∀ x i, f x i = f x 0) (hg : ∀ x i, g x i = g x 0) (l : List Int) :
    filtI g 0 (filtI f 0 l) = filtI f 0 (filtI g 0 l) ∧ filtI f 0 (filtI g 0 (filtI f 0 l)) = filtI g 0 (filtI f 0 l) ∧ filtI (fun x i => !g x i) 0 (filtI g 0 (filtI f 0 l)) = [] ∧
    filtI f 0 (filtI (fun x i => !f x i) 0 l) = [] ∧ (filtI f 0 l).length = l.countP (fun x => f x 0) ∧ l.length = l.countP (fun x => f x 0) + (filtI (fun x i => !f x i) 0 l).length := by
  have h1 := fun l i => filtI_filter hf l i
  have h2 := fun l i => filtI_filter hg l i
  have h3 := fun l i => filtI_filter (f := fun x i => !f x i) (g := fun x => !f x 0) (fun x i => by rw [hf]) l i
  have h4 := fun l i => filtI_filter (f := fun x i => !g x i) (g := fun x => !g x 0) (fun x i => by rw [hg]) l i
  simp only [h1, h2, h3, h4, List.filter_filter]
  refine ⟨List.filter_congr fun x _ => Bool.and_comm _ _, List.filter_congr fun x _ => by cases f x 0 <;> cases g x 0 <;> rfl, ?_, ?_, (List.countP_eq_length_filter).symm, ?_⟩
  · rw [List.filter_eq_nil_iff]; intro x _; cases f x 0 <;> cases g x 0 <;> simp
  · rw [List.filter_eq_nil_iff]; intro x _; cases f x 0 <;> simp
  · have e : (fun x => !f x 0) = (fun a => decide ¬f a 0 = true) := funext fun x => by cases f x 0 <;> rfl
    rw [← List.countP_eq_length_filter, e]; exact List.length_eq_countP_add_countP _

theorem head_prefix {p l : List Int} {x : Int} (h : p.head? = some x) (hp : p <+: l) : l.headD 0 = x ∧ l.isEmpty = false := by
  obtain ⟨t, rfl⟩ := hp
  cases p with
  | nil => cases h
  | cons y p => cases h; exact ⟨rfl, rfl⟩

theorem getLastD_append1 (l : List Int) (x : Int) : (l ++ [x]).getLastD 0 = x := by rw [List.getLastD_eq_getLast?, List.getLast?_append]; rfl
def nthL (l : List Int) (i : Int) : Option Int := if 0 ≤ i then l[i.toNat]? else if -(l.length : Int) ≤ i then l[((l.length : Int) + i).toNat]? else none
def nthS (l : List Int) (i : Int) : Option Int := if 0 ≤ i then l[i.toNat]? else none
theorem nthL_none {l : List Int} {i : Int} (h : (l.length : Int) ≤ i ∨ i < -(l.length : Int)) : nthL l i = none := by
  unfold nthL
  split
  · exact List.getElem?_eq_none (by omega)
  · rw [if_neg (by omega)]
theorem nthL_pos {l : List Int} {i x : Int} (h : 0 ≤ i) (hx : l[i.toNat]? = some x) : nthL l i = some x := by unfold nthL; rw [if_pos h, hx]
theorem nthL_neg {l : List Int} {i x : Int} (h : ¬ 0 ≤ i) (h2 : -(l.length : Int) ≤ i) (hx : l[((l.length : Int) + i).toNat]? = some x) : nthL l i = some x := by unfold nthL; rw [if_neg h, if_pos h2, hx]
theorem nthS_stop {p l : List Int} {i x : Int} (h : 0 ≤ i) (hx : p[i.toNat]? = some x) (hp : p <+: l) : nthS l i = some x := by
  obtain ⟨t, rfl⟩ := hp
  unfold nthS; rw [if_pos h, List.getElem?_append_left (List.getElem?_eq_some_iff.1 hx).1, hx]
theorem nthS_out {l : List Int} {i : Int} (h : i < 0 ∨ (l.length : Int) ≤ i) : nthS l i = none := by
  unfold nthS; split
  · exact List.getElem?_eq_none (by omega)
  · rfl
theorem nthS_L {l : List Int} {i : Int} (h : ¬ i < 0) : nthS l i = nthL l i := by unfold nthS nthL; rw [if_pos (by omega), if_pos (by omega)]

set_option maxRecDepth 100000 in
set_option maxHeartbeats 4000000 in
theorem lo_First {M : Hp} {v0 : Value} {l0 : List Int} (h0 : RdI M v0 l0) :
    Pu Try.prog (.func (.func 113) #[] #[]) M [v0] (fun r M' => r = .tuple #[.int .i64 ((l0).headD 0), .bool (!(l0).isEmpty)]) := by
  refine Pu_enter Try.func113 rfl Try.ntmps113 rfl Try.call113 ?_
  intro a w M1 H hM1 S E
  replace h0 := h0.le hM1
  have b0 := h0.bound
  refine WP_seq ?_
  refine WP_region ?_
  refine S_v E rfl (R_assign E rfl) rfl ?_
  clear E a; intro a E
  refine S_v E rfl (R_assign E rfl) rfl ?_
  clear E a; intro a E
  refine WL_nil ?_
  refine T_n ?_
  refine WP_seq ?_
  refine WP_region ?_
  refine S_v E rfl (R_move E rfl) rfl ?_
  clear E a; intro a E
  refine S_v E rfl (R_lenV E rfl T22 h0.len) rfl ?_
  clear E a; intro a E
  refine S_v E rfl (R_assign E rfl) rfl ?_
  clear E a; intro a E
  refine WL_nil ?_
  refine T_n ?_
  refine WP_seq ?_
  refine WP_seq ?_
  refine WP_region ?_
  refine S_v E rfl (R_move E rfl) rfl ?_
  clear E a; intro a E
  refine S_v E rfl (R_eql E rfl rfl) rfl ?_
  clear E a; intro a E
  refine WL_nil ?_
  refine T_n ?_
  refine WP_cond E rfl (fun hc_1 => ?_) (fun hc_1 => ?_)
  · replace hc_1 := of_decide_eq_true hc_1
    refine WP_seq ?_
    refine WP_region ?_
    refine S_v E rfl (R_assign E rfl) rfl ?_
    clear E a; intro a E
    refine WL_nil ?_
    refine T_n ?_
    refine WP_seq ?_
    refine WP_region ?_
    refine S_v E rfl (R_move E rfl) rfl ?_
    clear E a; intro a E
    refine S_v E rfl (R_assign E rfl) rfl ?_
    clear E a; intro a E
    refine S_v E rfl (R_assign E rfl) rfl ?_
    clear E a; intro a E
    refine WL_nil ?_
    refine T_n ?_
    refine WP_ret ?_
    refine T_r ?_
    exact F_ret2 E Try.results113 rfl rfl ⟨_, rfl, M1, (Hp.le.refl _), (by have e := List.eq_nil_of_length_eq_zero (l := l0) (by omega); subst e; rfl), S⟩
  · replace hc_1 := of_decide_eq_false hc_1
    refine WP_skip ?_
    refine T_n ?_
    refine WP_seq ?_
    refine WP_region ?_
    refine S_v E rfl (R_move E rfl) rfl ?_
    clear E a; intro a E
    obtain ⟨x_2, hx_2⟩ : ∃ x, (l0)[0]? = some x := ⟨_, List.getElem?_eq_getElem (by first | omega | (simp; omega) | (simp_all; omega))⟩
    obtain ⟨p_3, hp_3, qp_3⟩ := h0.at hx_2
    refine S_v E rfl (R_idx E rfl rfl T22 hp_3 (by omega)) rfl ?_
    clear E a; intro a E
    refine S_v E rfl (R_loadM E rfl Try.isAgg3 S.imm qp_3) rfl ?_
    clear E a; intro a E
    refine S_v E rfl (R_assign E rfl) rfl ?_
    clear E a; intro a E
    refine S_v E rfl (R_assign E rfl) rfl ?_
    clear E a; intro a E
    refine WL_nil ?_
    refine T_n ?_
    refine WP_ret ?_
    exact F_ret2 E Try.results113 rfl rfl ⟨_, rfl, M1, (Hp.le.refl _), (by rw [(first_eq (by assumption)).1, (first_eq (l := l0) (by assumption)).2]; rfl), S⟩

set_option maxRecDepth 100000 in
set_option maxHeartbeats 4000000 in
theorem impl_First {M : Hp} {v0 : Value} {l0 : List Int} (h0 : RdI M v0 l0) :
    Pu Try.prog (.func (.func 21) #[] #[]) M [v0] (fun r M' => r = .tuple #[.int .i64 ((l0).headD 0), .bool (!(l0).isEmpty)]) := by
  refine Pu_enter Try.func21 rfl Try.ntmps21 rfl Try.call21 ?_
  intro a w M1 H hM1 S E
  replace h0 := h0.le hM1
  have b0 := h0.bound
  refine WP_seq ?_
  refine WP_region ?_
  refine S_v E rfl (R_assign E rfl) rfl ?_
  clear E a; intro a E
  refine S_v E rfl (R_assign E rfl) rfl ?_
  clear E a; intro a E
  refine WL_nil ?_
  refine T_n ?_
  refine WP_seq ?_
  refine WP_region ?_
  refine S_v E rfl (R_move E rfl) rfl ?_
  clear E a; intro a E
  refine S_x (X_pu E S rfl rfl rfl (lo_First h0) (Hp.le.refl _) ?_)
  clear E a S; rintro a _ w M_1 hM_1 rfl S E
  replace h0 := h0.le hM_1
  refine S_v E rfl (R_extract E rfl rfl) rfl ?_
  clear E a; intro a E
  refine S_v E rfl (R_extract E rfl rfl) rfl ?_
  clear E a; intro a E
  refine S_v E rfl (R_assign E rfl) rfl ?_
  clear E a; intro a E
  refine S_v E rfl (R_assign E rfl) rfl ?_
  clear E a; intro a E
  refine WL_nil ?_
  refine T_n ?_
  refine WP_ret ?_
  exact F_ret2 E Try.results21 rfl rfl ⟨_, rfl, M_1, hM_1, (by first | rfl | (simp; done) | (simp_all; done)), S⟩

set_option maxRecDepth 100000 in
set_option maxHeartbeats 4000000 in
theorem laws_few {M : Hp} {v0 : Value} {l0 : List (List Int)} (h0 : RdII M v0 l0) :
    Pu Try.prog (.func (.func 16) #[] #[]) M [v0] (fun r M' => r = .bool (decide (∀ x ∈ l0, x.length ≤ 300))) := by
  refine Pu_enter Try.func16 rfl Try.ntmps16 rfl Try.call16 ?_
  intro a w M1 H hM1 S E
  replace h0 := h0.le hM1
  have b0 := h0.bound
  refine WP_seq ?_
  refine WP_region ?_
  refine S_v E rfl (R_assign E rfl) rfl ?_
  clear E a; intro a E
  refine WL_nil ?_
  refine T_n ?_
  refine WP_seq ?_
  refine WP_seq ?_
  refine WP_region ?_
  refine S_v E rfl (R_move E rfl) rfl ?_
  clear E a; intro a E
  refine S_v E rfl (R_lenV E rfl T95 h0.len) rfl ?_
  clear E a; intro a E
  refine S_v E rfl (R_move E rfl) rfl ?_
  clear E a; intro a E
  refine WL_nil ?_
  refine T_n ?_
  refine WP_block ?_
  refine WP_loop (γ := Nat) (fun (k : Nat) a w => ∃ (M_1 : Hp), Hp.le M1 M_1 ∧ St w M_1 (H) ∧ Env a 15 [] [(5, v0), (6, .int .i64 (((l0).length : Nat) : Int)), (7, .int .i64 ((k : Nat) : Int))] ∧ (k ≤ (l0).length) ∧ (∀ x ∈ l0.take k, x.length ≤ 300)) (fun k => ((l0).length) - k) 0 ⟨M1, Hp.le.refl _, S, E.keep ⟨rfl, rfl, rfl, trivial⟩, by ((try clear S); (try clear E); first | assumption | omega | rfl | (simp; done) | (simp_all; done) | (simp [List.take_add_one, *]; done) | grind [List.take_add_one]), by ((try clear S); (try clear E); first | assumption | omega | rfl | (simp; done) | (simp_all; done) | (simp [List.take_add_one, *]; done) | grind [List.take_add_one])⟩ ?_
  try clear E
  try clear S
  try clear a
  try clear w
  rintro k a w ⟨M_1, hM_1, S, E, hL0_0, hL0_1⟩
  replace h0 := h0.le hM_1
  refine WP_seq ?_
  refine WP_region ?_
  refine S_v E rfl (R_lss E rfl rfl) rfl ?_
  clear E a; intro a E
  refine WL_nil ?_
  refine T_n ?_
  refine WP_seq ?_
  refine WP_cond E rfl (fun hc_2 => ?_) (fun hc_2 => ?_)
  · replace hc_2 := of_decide_eq_true hc_2
    refine WP_skip ?_
    refine T_n ?_
    refine WP_seq ?_
    refine WP_block ?_
    refine WP_seq ?_
    refine WP_region ?_
    obtain ⟨x_3, hx_3⟩ : ∃ x, (l0)[k]? = some x := ⟨_, List.getElem?_eq_getElem (by first | omega | (simp; omega) | (simp_all; omega))⟩
    obtain ⟨p_4, u_5, hp_4, qp_4, hu_5⟩ := h0.at hx_3
    have bu_5 := hu_5.bound
    refine S_v E rfl (R_idx E rfl rfl T95 hp_4 rfl) rfl ?_
    clear E a; intro a E
    refine S_v E rfl (R_loadM E rfl Try.isAgg22 S.imm qp_4) rfl ?_
    clear E a; intro a E
    refine S_v E rfl (R_assign E rfl) rfl ?_
    clear E a; intro a E
    refine WL_nil ?_
    refine T_n ?_
    refine WP_seq ?_
    refine WP_region ?_
    refine S_v E rfl (R_move E rfl) rfl ?_
    clear E a; intro a E
    refine S_v E rfl (R_lenV E rfl T22 hu_5.len) rfl ?_
    clear E a; intro a E
    refine S_v E rfl (R_gtr E rfl rfl) rfl ?_
    clear E a; intro a E
    refine WL_nil ?_
    refine T_n ?_
    refine WP_cond E rfl (fun hc_6 => ?_) (fun hc_6 => ?_)
    · replace hc_6 := of_decide_eq_true hc_6
      refine WP_seq ?_
      refine WP_region ?_
      refine S_v E rfl (R_assign E rfl) rfl ?_
      clear E a; intro a E
      refine WL_nil ?_
      refine T_n ?_
      refine WP_ret ?_
      refine B_r ?_
      refine T_r ?_
      refine T_r ?_
      refine B_r ?_
      refine T_r ?_
      exact F_ret1 E Try.results16 rfl ⟨_, rfl, M_1, hM_1, (bF (by ((try clear S); (try clear E); first | assumption | omega | rfl | (simp; done) | (simp_all; done) | (simp [List.take_add_one, *]; done) | grind [List.take_add_one]))), S⟩
    · replace hc_6 := of_decide_eq_false hc_6
      refine WP_skip ?_
      refine B_n ?_
      refine T_n ?_
      refine WP_region ?_
      refine S_v E rfl (R_addx (m := ((k + 1 : Nat) : Int)) E rfl rfl (by omega) (by omega)) rfl ?_
      clear E a; intro a E
      refine S_v E rfl (R_move E rfl) rfl ?_
      clear E a; intro a E
      refine WL_nil ?_
      refine T_n ?_
      exact ⟨k + 1, ⟨M_1, hM_1, S, E.keep ⟨rfl, rfl, rfl, trivial⟩, by ((try clear S); (try clear E); first | assumption | omega | rfl | (simp; done) | (simp_all; done) | (simp [List.take_add_one, *]; done) | grind [List.take_add_one]), by ((try clear S); (try clear E); first | assumption | omega | rfl | (simp; done) | (simp_all; done) | (simp [List.take_add_one, *]; done) | grind [List.take_add_one])⟩, by omega⟩
  · replace hc_2 := of_decide_eq_false hc_2
    refine WP_exit ?_
    refine T_x ?_
    refine T_x ?_
    refine B_x ?_
    refine T_n ?_
    refine WP_seq ?_
    refine WP_region ?_
    refine S_v E rfl (R_assign E rfl) rfl ?_
    clear E a; intro a E
    refine WL_nil ?_
    refine T_n ?_
    refine WP_ret ?_
    exact F_ret1 E Try.results16 rfl ⟨_, rfl, M_1, hM_1, (bT (by ((try clear S); (try clear E); first | assumption | omega | rfl | (simp; done) | (simp_all; done) | (simp [List.take_add_one, *]; done) | grind [List.take_add_one]))), S⟩

set_option maxRecDepth 100000 in
set_option maxHeartbeats 4000000 in
theorem lo_Last {M : Hp} {v0 : Value} {l0 : List Int} (h0 : RdI M v0 l0) :
    Pu Try.prog (.func (.func 114) #[] #[]) M [v0] (fun r M' => r = .tuple #[.int .i64 ((l0).getLastD 0), .bool (!(l0).isEmpty)]) := by
  refine Pu_enter Try.func114 rfl Try.ntmps114 rfl Try.call114 ?_
  intro a w M1 H hM1 S E
  replace h0 := h0.le hM1
  have b0 := h0.bound
  refine WP_seq ?_
  refine WP_region ?_
  refine S_v E rfl (R_assign E rfl) rfl ?_
  clear E a; intro a E
  refine S_v E rfl (R_assign E rfl) rfl ?_
  clear E a; intro a E
  refine WL_nil ?_
  refine T_n ?_
  refine WP_seq ?_
  refine WP_region ?_
  refine S_v E rfl (R_move E rfl) rfl ?_
  clear E a; intro a E
  refine S_v E rfl (R_lenV E rfl T22 h0.len) rfl ?_
  clear E a; intro a E
  refine S_v E rfl (R_assign E rfl) rfl ?_
  clear E a; intro a E
  refine WL_nil ?_
  refine T_n ?_
  refine WP_seq ?_
  refine WP_seq ?_
  refine WP_region ?_
  refine S_v E rfl (R_move E rfl) rfl ?_
  clear E a; intro a E
  refine S_v E rfl (R_eql E rfl rfl) rfl ?_
  clear E a; intro a E
  refine WL_nil ?_
  refine T_n ?_
  refine WP_cond E rfl (fun hc_1 => ?_) (fun hc_1 => ?_)
  · replace hc_1 := of_decide_eq_true hc_1
    refine WP_seq ?_
    refine WP_region ?_
    refine S_v E rfl (R_assign E rfl) rfl ?_
    clear E a; intro a E
    refine WL_nil ?_
    refine T_n ?_
    refine WP_seq ?_
    refine WP_region ?_
    refine S_v E rfl (R_move E rfl) rfl ?_
    clear E a; intro a E
    refine S_v E rfl (R_assign E rfl) rfl ?_
    clear E a; intro a E
    refine S_v E rfl (R_assign E rfl) rfl ?_
    clear E a; intro a E
    refine WL_nil ?_
    refine T_n ?_
    refine WP_ret ?_
    refine T_r ?_
    exact F_ret2 E Try.results114 rfl rfl ⟨_, rfl, M1, (Hp.le.refl _), (by first | (have e := List.eq_nil_of_length_eq_zero (l := l0) (by omega); subst e; rfl) | (have e1 := last_eq (l := l0) (by assumption) (by omega); rw [e1.1, e1.2]; rfl)), S⟩
  · replace hc_1 := of_decide_eq_false hc_1
    refine WP_skip ?_
    refine T_n ?_
    refine WP_seq ?_
    refine WP_region ?_
    refine S_v E rfl (R_move E rfl) rfl ?_
    clear E a; intro a E
    refine S_v E rfl (R_move E rfl) rfl ?_
    clear E a; intro a E
    refine S_v E rfl (R_subx (m := (((l0).length - 1 : Nat) : Int)) E rfl rfl (by omega) (by omega)) rfl ?_
    clear E a; intro a E
    obtain ⟨x_2, hx_2⟩ : ∃ x, (l0)[(l0).length - 1]? = some x := ⟨_, List.getElem?_eq_getElem (by first | omega | (simp; omega) | (simp_all; omega))⟩
    obtain ⟨p_3, hp_3, qp_3⟩ := h0.at hx_2
    refine S_v E rfl (R_idx E rfl rfl T22 hp_3 rfl) rfl ?_
    clear E a; intro a E
    refine S_v E rfl (R_loadM E rfl Try.isAgg3 S.imm qp_3) rfl ?_
    clear E a; intro a E
    refine S_v E rfl (R_assign E rfl) rfl ?_
    clear E a; intro a E
    refine S_v E rfl (R_assign E rfl) rfl ?_
    clear E a; intro a E
    refine WL_nil ?_
    refine T_n ?_
    refine WP_ret ?_
    exact F_ret2 E Try.results114 rfl rfl ⟨_, rfl, M1, (Hp.le.refl _), (by first | (have e := List.eq_nil_of_length_eq_zero (l := l0) (by omega); subst e; rfl) | (have e1 := last_eq (l := l0) (by assumption) (by omega); rw [e1.1, e1.2]; rfl)), S⟩

set_option maxRecDepth 100000 in
set_option maxHeartbeats 4000000 in
theorem impl_Last {M : Hp} {v0 : Value} {l0 : List Int} (h0 : RdI M v0 l0) :
    Pu Try.prog (.func (.func 22) #[] #[]) M [v0] (fun r M' => r = .tuple #[.int .i64 ((l0).getLastD 0), .bool (!(l0).isEmpty)]) := by
  refine Pu_enter Try.func22 rfl Try.ntmps22 rfl Try.call22 ?_
  intro a w M1 H hM1 S E
  replace h0 := h0.le hM1
  have b0 := h0.bound
  refine WP_seq ?_
  refine WP_region ?_
  refine S_v E rfl (R_assign E rfl) rfl ?_
  clear E a; intro a E
  refine S_v E rfl (R_assign E rfl) rfl ?_
  clear E a; intro a E
  refine WL_nil ?_
  refine T_n ?_
  refine WP_seq ?_
  refine WP_region ?_
  refine S_v E rfl (R_move E rfl) rfl ?_
  clear E a; intro a E
  refine S_x (X_pu E S rfl rfl rfl (lo_Last h0) (Hp.le.refl _) ?_)
  clear E a S; rintro a _ w M_1 hM_1 rfl S E
  replace h0 := h0.le hM_1
  refine S_v E rfl (R_extract E rfl rfl) rfl ?_
  clear E a; intro a E
  refine S_v E rfl (R_extract E rfl rfl) rfl ?_
  clear E a; intro a E
  refine S_v E rfl (R_assign E rfl) rfl ?_
  clear E a; intro a E
  refine S_v E rfl (R_assign E rfl) rfl ?_
  clear E a; intro a E
  refine WL_nil ?_
  refine T_n ?_
  refine WP_ret ?_
  exact F_ret2 E Try.results22 rfl rfl ⟨_, rfl, M_1, hM_1, (by first | rfl | (simp; done) | (simp_all; done)), S⟩

set_option maxRecDepth 100000 in
set_option maxHeartbeats 4000000 in
theorem slices_Values1 {M : Hp} {v0 : Value} {l0 : List Int} (h0 : RdI M v0 l0){bx1 : Nat} (hbx1 : M bx1 = some (.cells #[v0] 22)) :
    SeqV Try.prog (.func (.func 187) #[] #[.pointer (some ⟨bx1, 0, none⟩)]) M (RInt) l0 := by
  refine SeqV_enter Try.func187 rfl Try.ntmps187 rfl Try.call187 ?_
  intro y J X a w M1 c H hJM hM1 hY hJ S E
  replace hbx1 := hM1.2 _ _ hbx1
  replace h0 := h0.le hM1
  have b0 := h0.bound
  refine WP_seq ?_
  refine WP_region ?_
  refine S_v E rfl (R_loadM E rfl Try.isAgg22 S.imm (cellM_box hbx1)) rfl ?_
  clear E a; intro a E
  refine S_v E rfl (R_lenV E rfl T22 h0.len) rfl ?_
  clear E a; intro a E
  refine S_v E rfl (R_move E rfl) rfl ?_
  clear E a; intro a E
  refine WL_nil ?_
  refine T_n ?_
  refine WP_block ?_
  refine WP_loop (γ := Nat) (fun (k : Nat) a w => ∃ (M_1 : Hp) (cL0 : HProp), Hp.le M1 M_1 ∧ St w M_1 (mks [] :: cL0 :: H) ∧ Env a 16 (([] : List Nat).map mk) [(0, y), (5, v0), (6, .int .i64 (((l0).length : Nat) : Int)), (7, .int .i64 ((k : Nat) : Int))] ∧ (k ≤ (l0).length) ∧ J (l0.take k) M_1 cL0) (fun k => ((l0).length) - k) 0 ⟨M1, _, Hp.le.refl _, S, E.keep ⟨rfl, rfl, rfl, rfl, trivial⟩, by ((try clear S); (try clear E); first | assumption | omega | rfl | (simp; done) | (simp_all; done) | (simp [List.take_add_one, *]; done) | grind [List.take_add_one]), J_eq hJ (by ((try clear S); (try clear E); first | assumption | omega | rfl | (simp; done) | (simp_all; done) | (simp [List.take_add_one, *]; done) | grind [List.take_add_one]))⟩ ?_
  try clear E
  try clear S
  try clear a
  try clear w
  rintro k a w ⟨M_1, cL0, hM_1, S, E, hL0_0, hJ⟩
  replace hbx1 := hM_1.2 _ _ hbx1
  replace h0 := h0.le hM_1
  refine WP_seq ?_
  refine WP_region ?_
  refine S_v E rfl (R_lss E rfl rfl) rfl ?_
  clear E a; intro a E
  refine WL_nil ?_
  refine T_n ?_
  refine WP_seq ?_
  refine WP_cond E rfl (fun hc_2 => ?_) (fun hc_2 => ?_)
  · replace hc_2 := of_decide_eq_true hc_2
    refine WP_skip ?_
    refine T_n ?_
    refine WP_seq ?_
    refine WP_block ?_
    refine WP_seq ?_
    refine WP_region ?_
    obtain ⟨x_3, hx_3⟩ : ∃ x, (l0)[k]? = some x := ⟨_, List.getElem?_eq_getElem (by first | omega | (simp; omega) | (simp_all; omega))⟩
    obtain ⟨p_4, hp_4, qp_4⟩ := h0.at hx_3
    refine S_v E rfl (R_idx E rfl rfl T22 hp_4 rfl) rfl ?_
    clear E a; intro a E
    refine S_v E rfl (R_loadM E rfl Try.isAgg3 S.imm qp_4) rfl ?_
    clear E a; intro a E
    refine S_v E rfl (R_assign E rfl) rfl ?_
    clear E a; intro a E
    refine WL_nil ?_
    refine T_n ?_
    refine WP_seq ?_
    refine WP_region ?_
    refine S_v E rfl (R_move E rfl) rfl ?_
    clear E a; intro a E
    refine S_v E rfl (R_move E rfl) rfl ?_
    clear E a; intro a E
    replace S := S.front1
    refine S_x (X_yield (x := x_3) E S rfl rfl rfl hY hM_1 (by (first | (simp; done) | exact List.prefix_refl _ | (rw [pre_take (by assumption)]; exact List.take_prefix _ _) | exact pre_take_lt (by assumption))) rfl hJ ?_)
    clear E a S; rintro a w M_5 c_6 go_7 hM_5 hJ S E
    replace hbx1 := hM_5.2 _ _ hbx1
    replace h0 := h0.le hM_5
    cases go_7
    · replace hJ : X (l0.take k ++ [x_3]) M_5 c_6 := hJ
      refine S_v E rfl (R_not E rfl) rfl ?_
      clear E a; intro a E
      refine WL_nil ?_
      refine T_n ?_
      refine WP_condT E rfl rfl ?_
      refine WP_ret ?_
      refine B_r ?_
      refine T_r ?_
      refine T_r ?_
      refine B_r ?_
      replace S := S.front1
      exact F_retM0 E S Try.results187 (fun w S => ⟨_, rfl, M_5, _, (hM_1.trans hM_5), .inr ⟨(l0.take k ++ [x_3]), (by (first | (simp; done) | exact List.prefix_refl _ | (rw [pre_take (by assumption)]; exact List.take_prefix _ _) | exact pre_take_lt (by assumption))), hJ⟩, S⟩)
    · replace hJ : J (l0.take k ++ [x_3]) M_5 c_6 := hJ
      refine S_v E rfl (R_not E rfl) rfl ?_
      clear E a; intro a E
      refine WL_nil ?_
      refine T_n ?_
      refine WP_condF E rfl rfl ?_
      refine WP_skip ?_
      refine B_n ?_
      refine T_n ?_
      refine WP_region ?_
      refine S_v E rfl (R_addx (m := ((k + 1 : Nat) : Int)) E rfl rfl (by omega) (by omega)) rfl ?_
      clear E a; intro a E
      refine S_v E rfl (R_move E rfl) rfl ?_
      clear E a; intro a E
      refine WL_nil ?_
      refine T_n ?_
      replace S := S.front1
      exact ⟨k + 1, ⟨M_5, _, (hM_1.trans hM_5), S, E.keep ⟨rfl, rfl, rfl, rfl, trivial⟩, by ((try clear S); (try clear E); first | assumption | omega | rfl | (simp; done) | (simp_all; done) | (simp [List.take_add_one, *]; done) | grind [List.take_add_one]), J_eq hJ (by ((try clear S); (try clear E); first | assumption | omega | rfl | (simp; done) | (simp_all; done) | (simp [List.take_add_one, *]; done) | grind [List.take_add_one]))⟩, by omega⟩
  · replace hc_2 := of_decide_eq_false hc_2
    refine WP_exit ?_
    refine T_x ?_
    refine T_x ?_
    refine B_x ?_
    refine F_nrm ?_
    replace S := S.front1
    replace S := S.front1
    have hpre : l0.take k = l0 := by ((try clear S); (try clear E); first | rfl | (simp; done) | (simp_all; done) | grind [List.take_add_one])
    rw [hpre] at hJ
    exact F_retM0 E S Try.results187 (fun w S => ⟨_, rfl, M_1, _, hM_1, .inl hJ, S⟩)

set_option maxRecDepth 100000 in
set_option maxHeartbeats 4000000 in
theorem slices_Values {M : Hp} {v0 : Value} {l0 : List Int} (h0 : RdI M v0 l0) :
    Pu Try.prog (.func (.func 111) #[] #[]) M [v0] (fun r M' => SeqV Try.prog r M' RInt l0) := by
  refine Pu_enter Try.func111 rfl Try.ntmps111 rfl Try.call111 ?_
  intro a w M1 H hM1 S E
  replace h0 := h0.le hM1
  have b0 := h0.bound
  refine WP_seq ?_
  refine WP_region ?_
  refine S_x (X_box (cs := #[v0]) E S rfl rfl (cells_one (RdS.one' h0)) ?_)
  clear E a S; rintro a w b_1 E S
  obtain ⟨M_2, hM_2, hb_1, S⟩ := S.freezeB
  replace h0 := h0.le hM_2
  refine S_v E rfl (R_assign E rfl) rfl ?_
  clear E a; intro a E
  refine WL_nil ?_
  refine T_n ?_
  refine WP_seq ?_
  refine WP_region ?_
  refine S_v E rfl (R_makeFunc E rfl rfl) rfl ?_
  clear E a; intro a E
  refine S_v E rfl (R_assign E rfl) rfl ?_
  clear E a; intro a E
  refine WL_nil ?_
  refine T_n ?_
  refine WP_ret ?_
  exact F_ret1 E Try.results111 rfl ⟨_, rfl, M_2, hM_2, (SeqV_eq (slices_Values1 h0 hb_1) (by ((try clear S); (try clear E); first | rfl | (simp; done) | (simp_all; done) | grind [List.take_add_one]))), S⟩

set_option maxRecDepth 100000 in
set_option maxHeartbeats 4000000 in
theorem lo_Empty {M : Hp}  :
    Pu Try.prog (.func (.func 188) #[] #[]) M [] (fun r M' => r = .int .i64 0) := by
  refine Pu_enter Try.func188 rfl Try.ntmps188 rfl Try.call188 ?_
  intro a w M1 H hM1 S E
  refine WP_seq ?_
  refine WP_region ?_
  refine S_v E rfl (R_assign E rfl) rfl ?_
  clear E a; intro a E
  refine WL_nil ?_
  refine T_n ?_
  refine WP_seq ?_
  refine WP_region ?_
  refine S_v E rfl (R_assign E rfl) rfl ?_
  clear E a; intro a E
  refine WL_nil ?_
  refine T_n ?_
  refine WP_seq ?_
  refine WP_region ?_
  refine S_v E rfl (R_move E rfl) rfl ?_
  clear E a; intro a E
  refine S_v E rfl (R_assign E rfl) rfl ?_
  clear E a; intro a E
  refine WL_nil ?_
  refine T_n ?_
  refine WP_ret ?_
  exact F_ret1 E Try.results188 rfl ⟨_, rfl, M1, (Hp.le.refl _), rfl, S⟩

set_option maxRecDepth 100000 in
set_option maxHeartbeats 4000000 in
theorem it_First {M : Hp} {v0 : Value} {l0 : List Int} (h0 : SeqV Try.prog v0 M (RInt) l0) :
    Pu Try.prog (.func (.func 115) #[] #[]) M [v0] (fun r M' => r = .tuple #[.int .i64 ((l0).headD 0), .bool (!(l0).isEmpty)]) := by
  refine Pu_enter Try.func115 rfl Try.ntmps115 rfl Try.call115 ?_
  intro a w M1 H hM1 S E
  replace h0 := h0.le hM1
  replace S : St w M1 (mks [] :: _) := S.empty
  replace E : Env a 9 (([] : List Nat).map mk) _ := E
  refine WP_seq ?_
  refine WP_region ?_
  refine S_x (X_alloc (cs := #[.int .i64 0]) E S rfl Try.zeroValue3 rfl ?_)
  clear E a S; rintro a w b_1 E S
  refine S_x (X_alloc (cs := #[.bool false]) E S rfl Try.zeroValue4 rfl ?_)
  clear E a S; rintro a w b_2 E S
  refine WL_nil ?_
  refine T_n ?_
  refine WP_seq ?_
  refine WP_seq ?_
  refine WP_region ?_
  refine S_v E rfl (R_move E rfl) rfl ?_
  clear E a; intro a E
  refine WL_nil ?_
  refine T_n ?_
  refine WP_block ?_
  replace S := S.front1
  replace S := S.front1
  replace E := E.keep (l' := [(2, .pointer (some ⟨b_1, 0, none⟩)), (3, .pointer (some ⟨b_2, 0, none⟩)), (5, v0)]) ⟨rfl, rfl, rfl, trivial⟩
  replace S := S.front1
  replace S := S.front1
  have S0 := S; clear S; have S := St.pack [blk b_2 (.cells #[.bool false] 4), blk b_1 (.cells #[.int .i64 0] 3)] S0; clear S0
  refine WP_range (RV := RInt) (l := l0) (fun pre M c => c = bigs [blk b_2 (.cells #[.bool false] 4), blk b_1 (.cells #[.int .i64 0] 3)] ∧ (pre = [])) (fun cd pre M c => (cd = .ret ∧ ∃ (xr : Int), c = bigs [blk b_2 (.cells #[.bool true] 4), blk b_1 (.cells #[.int .i64 xr] 3)] ∧ (pre.head? = some xr))) E S rfl h0 (Hp.le.refl _) (fun _ _ _ h => by rw [h]; rfl) (by decide) (by rintro _ M M' c hM ⟨rfl, f0⟩; exact ⟨rfl, f0⟩) ⟨rfl, (by ((try clear S); (try clear E); first | assumption | omega | rfl | (simp; done) | (simp_all; done) | (simp [List.take_add_one, *]; done) | grind [List.take_add_one]))⟩ ?_ ?_ ?_
  clear E S
  · rintro lb_4 rec_5 pre x _ a w M_3 _ G hM_3 hp_6 rfl ⟨rfl, f0⟩ E S
    replace E : Env a 9 [] [(6, .int .i64 x), (2, .pointer (some ⟨b_1, 0, none⟩)), (3, .pointer (some ⟨b_2, 0, none⟩)), (5, v0)] := E
    replace S := S.swap.unpack2
    have hq0 := prefix_lt hp_6
    replace h0 := h0.le hM_3
    refine WP_region ?_
    refine S_v E rfl (R_assign E rfl) rfl ?_
    clear E a; intro a E
    refine WL_nil ?_
    refine T_n ?_
    replace S := S.front2
    refine rb S ?_
    clear S; intro w S
    refine WP_block ?_
    refine WP_seq ?_
    refine WP_region ?_
    refine S_v E rfl (R_move E rfl) rfl ?_
    clear E a; intro a E
    replace S := S.front2
    refine S_x0 (X_store E S rfl rfl (Try.sizeOf3 _) rfl ?_)
    clear E a S; rintro a w E S
    replace S := S.front2
    refine S_x0 (X_store E S rfl rfl (Try.sizeOf4 _) rfl ?_)
    clear E a S; rintro a w E S
    refine WL_nil ?_
    refine T_n ?_
    refine WP_ret ?_
    refine B_r ?_
    replace S := S.front1
    replace S := S.front1
    replace S := S.front1
    replace S := S.front1
    have S0 := S; clear S; have S := (St.pack [blk b_2 (.cells #[.bool true] 4), blk b_1 (.cells #[.int .i64 x] 3)] S0).swap; clear S0
    exact ⟨M_3, _, (Hp.le.refl _), ⟨rfl, _, rfl, (by (subst_vars; rfl))⟩, S⟩
  · rintro a w M_8 _ D_9 hM_8 ⟨rfl, f0⟩ S E
    replace S := S.unpack2
    replace h0 := h0.le hM_8
    refine B_n ?_
    refine T_n ?_
    refine WP_seq ?_
    refine WP_region ?_
    refine S_x (X_pu E S rfl rfl rfl (lo_Empty ) (Hp.le.refl _) ?_)
    clear E a S; rintro a _ w M_10 hM_10 rfl S E
    replace h0 := h0.le hM_10
    replace S := S.front1
    refine S_x0 (X_store E S rfl rfl (Try.sizeOf3 _) rfl ?_)
    clear E a S; rintro a w E S
    replace S := S.front1
    refine S_x0 (X_store E S rfl rfl (Try.sizeOf4 _) rfl ?_)
    clear E a S; rintro a w E S
    refine WL_nil ?_
    refine T_n ?_
    refine WP_ret ?_
    replace S := S.front1
    replace S := S.front2
    exact F_retC2 E S Try.results115 rfl rfl (fun w => Try.isAgg3 w) (fun w => Try.isAgg4 w) (fun w S => ⟨_, rfl, M_10, (hM_8.trans hM_10), (by first | (have e : l0 = [] := (by assumption); subst e; rfl) | (rw [hh.1, hh.2]; rfl)), S.drop.drop⟩)
  · rintro a w M_11 _ D_12 p_13 _ hM_11 hp_14 (⟨rfl, xr, rfl, f0⟩) S E
    replace S := S.unpack2
    replace h0 := h0.le hM_11
    have hh := head_prefix f0 hp_14
    refine WP_ret ?_
    refine B_r ?_
    refine T_r ?_
    replace S := S.front1
    replace S := S.front2
    exact F_retC2 E S Try.results115 rfl rfl (fun w => Try.isAgg3 w) (fun w => Try.isAgg4 w) (fun w S => ⟨_, rfl, M_11, hM_11, (by first | (have e : l0 = [] := (by assumption); subst e; rfl) | (rw [hh.1, hh.2]; rfl)), S.drop.drop⟩)

set_option maxRecDepth 100000 in
set_option maxHeartbeats 4000000 in
theorem impl_FirstSeq {M : Hp} {v0 : Value} {l0 : List Int} (h0 : RdI M v0 l0) :
    Pu Try.prog (.func (.func 23) #[] #[]) M [v0] (fun r M' => r = .tuple #[.int .i64 ((l0).headD 0), .bool (!(l0).isEmpty)]) := by
  refine Pu_enter Try.func23 rfl Try.ntmps23 rfl Try.call23 ?_
  intro a w M1 H hM1 S E
  replace h0 := h0.le hM1
  have b0 := h0.bound
  refine WP_seq ?_
  refine WP_region ?_
  refine S_v E rfl (R_assign E rfl) rfl ?_
  clear E a; intro a E
  refine S_v E rfl (R_assign E rfl) rfl ?_
  clear E a; intro a E
  refine WL_nil ?_
  refine T_n ?_
  refine WP_seq ?_
  refine WP_region ?_
  refine S_v E rfl (R_move E rfl) rfl ?_
  clear E a; intro a E
  refine S_x (X_pu E S rfl rfl rfl (slices_Values h0) (Hp.le.refl _) ?_)
  clear E a S; rintro a v_2 w M_1 hM_1 hv_2 S E
  replace h0 := h0.le hM_1
  refine S_x (X_pu E S rfl rfl rfl (it_First hv_2) (Hp.le.refl _) ?_)
  clear E a S; rintro a _ w M_3 hM_3 rfl S E
  replace h0 := h0.le hM_3
  replace hv_2 := hv_2.le hM_3
  refine S_v E rfl (R_extract E rfl rfl) rfl ?_
  clear E a; intro a E
  refine S_v E rfl (R_extract E rfl rfl) rfl ?_
  clear E a; intro a E
  refine S_v E rfl (R_assign E rfl) rfl ?_
  clear E a; intro a E
  refine S_v E rfl (R_assign E rfl) rfl ?_
  clear E a; intro a E
  refine WL_nil ?_
  refine T_n ?_
  refine WP_ret ?_
  exact F_ret2 E Try.results23 rfl rfl ⟨_, rfl, M_3, (hM_1.trans hM_3), (by first | rfl | (simp; done) | (simp_all; done)), S⟩

set_option maxRecDepth 100000 in
set_option maxHeartbeats 4000000 in
theorem it_Last {M : Hp} {v0 : Value} {l0 : List Int} (h0 : SeqV Try.prog v0 M (RInt) l0) :
    Pu Try.prog (.func (.func 116) #[] #[]) M [v0] (fun r M' => r = .tuple #[.int .i64 ((l0).getLastD 0), .bool (!(l0).isEmpty)]) := by
  refine Pu_enter Try.func116 rfl Try.ntmps116 rfl Try.call116 ?_
  intro a w M1 H hM1 S E
  replace h0 := h0.le hM1
  replace S : St w M1 (mks [] :: _) := S.empty
  replace E : Env a 12 (([] : List Nat).map mk) _ := E
  refine WP_seq ?_
  refine WP_region ?_
  refine S_v E rfl (R_assign E rfl) rfl ?_
  clear E a; intro a E
  refine S_v E rfl (R_assign E rfl) rfl ?_
  clear E a; intro a E
  refine WL_nil ?_
  refine T_n ?_
  refine WP_seq ?_
  refine WP_region ?_
  refine S_x (X_alloc (cs := #[.int .i64 0]) E S rfl Try.zeroValue3 rfl ?_)
  clear E a S; rintro a w b_1 E S
  refine WL_nil ?_
  refine T_n ?_
  refine WP_seq ?_
  refine WP_region ?_
  refine S_x (X_alloc (cs := #[.bool false]) E S rfl Try.zeroValue4 rfl ?_)
  clear E a S; rintro a w b_2 E S
  refine WL_nil ?_
  refine T_n ?_
  refine WP_seq ?_
  refine WP_seq ?_
  refine WP_region ?_
  refine S_v E rfl (R_move E rfl) rfl ?_
  clear E a; intro a E
  refine WL_nil ?_
  refine T_n ?_
  refine WP_block ?_
  replace S := S.front1
  replace S := S.front1
  replace E := E.keep (l' := [(4, .pointer (some ⟨b_1, 0, none⟩)), (5, .pointer (some ⟨b_2, 0, none⟩)), (7, v0)]) ⟨rfl, rfl, rfl, trivial⟩
  replace S := S.front1
  replace S := S.blk_int (j := (([] : List Int)).getLastD 0) (by (first | rfl | (rw [getLastD_append1]; done) | (simp; done)))
  replace S := S.front1
  replace S := S.blk_bool (j := !(([] : List Int)).isEmpty) (by (first | rfl | (rw [getLastD_append1]; done) | (simp; done)))
  have S0 := S; clear S; have S := St.pack [blk b_2 (.cells #[.bool (!(([] : List Int)).isEmpty)] 4), blk b_1 (.cells #[.int .i64 ((([] : List Int)).getLastD 0)] 3)] S0; clear S0
  refine WP_range (RV := RInt) (l := l0) (fun pre M c => c = bigs [blk b_2 (.cells #[.bool (!(pre).isEmpty)] 4), blk b_1 (.cells #[.int .i64 ((pre).getLastD 0)] 3)]) (fun _ _ _ _ => False) E S rfl h0 (Hp.le.refl _) (fun _ _ _ h => by rw [h]; rfl) (by decide) (by rintro _ M M' c hM rfl; exact rfl) rfl ?_ ?_ ?_
  clear E S
  · rintro lb_4 rec_5 pre x _ a w M_3 _ G hM_3 hp_6 rfl rfl E S
    replace E : Env a 12 [] [(8, .int .i64 x), (4, .pointer (some ⟨b_1, 0, none⟩)), (5, .pointer (some ⟨b_2, 0, none⟩)), (7, v0)] := E
    replace S := S.swap.unpack2
    have hq0 := prefix_lt hp_6
    replace h0 := h0.le hM_3
    refine WP_region ?_
    refine S_v E rfl (R_assign E rfl) rfl ?_
    clear E a; intro a E
    refine WL_nil ?_
    refine T_n ?_
    replace S := S.front2
    refine rb S ?_
    clear S; intro w S
    refine WP_block ?_
    refine WP_seq ?_
    refine WP_region ?_
    refine S_v E rfl (R_move E rfl) rfl ?_
    clear E a; intro a E
    replace S := S.front2
    refine S_x0 (X_store E S rfl rfl (Try.sizeOf3 _) rfl ?_)
    clear E a S; rintro a w E S
    refine WL_nil ?_
    refine T_n ?_
    refine WP_region ?_
    replace S := S.front2
    refine S_x0 (X_store E S rfl rfl (Try.sizeOf4 _) rfl ?_)
    clear E a S; rintro a w E S
    refine WL_nil ?_
    refine B_n ?_
    replace S := S.front1
    replace S := S.front1
    replace S := S.front1
    replace S := S.blk_int (j := ((pre ++ [x])).getLastD 0) (by (first | rfl | (rw [getLastD_append1]; done) | (simp; done)))
    replace S := S.front1
    replace S := S.blk_bool (j := !((pre ++ [x])).isEmpty) (by (first | rfl | (rw [getLastD_append1]; done) | (simp; done)))
    have S0 := S; clear S; have S := (St.pack [blk b_2 (.cells #[.bool (!((pre ++ [x])).isEmpty)] 4), blk b_1 (.cells #[.int .i64 (((pre ++ [x])).getLastD 0)] 3)] S0).swap; clear S0
    exact ⟨M_3, _, (Hp.le.refl _), rfl, S⟩
  · rintro a w M_8 _ D_9 hM_8 rfl S E
    replace S := S.unpack2
    replace h0 := h0.le hM_8
    refine B_n ?_
    refine T_n ?_
    refine WP_seq ?_
    replace S := S.mono_heap (w' := World.drew _) rfl
    refine WP_drawn (C := fun x w => agree M_8 w ∧ w.heap[b_1]? = some (.cells #[.int .i64 ((l0).getLastD 0)] 3) ∧ w.heap[b_2]? = some (.cells #[.bool (!(l0).isEmpty)] 4)) (bf := (fun i => [])) [0, 1, 2, 3] [0, 1, 2, 3] Try.mixed (by kernel_rfl) (fun x hq => ⟨S.imm, (S.mem (.tail _ (.head _))), (S.mem (.head _))⟩) ?_
    refine D_v E rfl rfl rfl (fun w hC => (R_load E rfl (Try.isAgg3 _) (cell_blk hC.2.1))) ?_
    clear E a; intro a E
    refine D_v E rfl rfl rfl (fun w hC => (R_load E rfl (Try.isAgg4 _) (cell_blk hC.2.2))) ?_
    clear E a; intro a E
    refine D_v E rfl rfl rfl (fun w hC => (R_assign E rfl)) ?_
    clear E a; intro a E
    refine D_v E rfl rfl rfl (fun w hC => (R_assign E rfl)) ?_
    clear E a; intro a E
    refine D_end (NoP_n ?_)
    refine T_n ?_
    refine WP_ret ?_
    replace S := S.drop
    replace S := S.drop
    exact F_retM2 E S Try.results116 rfl rfl (fun w S => ⟨_, rfl, M_8, hM_8, (by first | rfl | (simp; done) | (simp_all; done)), S⟩)
  · rintro _ _ _ _ _ _ _ _ _ hX; exact hX.elim

set_option maxRecDepth 100000 in
set_option maxHeartbeats 4000000 in
theorem impl_LastSeq {M : Hp} {v0 : Value} {l0 : List Int} (h0 : RdI M v0 l0) :
    Pu Try.prog (.func (.func 24) #[] #[]) M [v0] (fun r M' => r = .tuple #[.int .i64 ((l0).getLastD 0), .bool (!(l0).isEmpty)]) := by
  refine Pu_enter Try.func24 rfl Try.ntmps24 rfl Try.call24 ?_
  intro a w M1 H hM1 S E
  replace h0 := h0.le hM1
  have b0 := h0.bound
  refine WP_seq ?_
  refine WP_region ?_
  refine S_v E rfl (R_assign E rfl) rfl ?_
  clear E a; intro a E
  refine S_v E rfl (R_assign E rfl) rfl ?_
  clear E a; intro a E
  refine WL_nil ?_
  refine T_n ?_
  refine WP_seq ?_
  refine WP_region ?_
  refine S_v E rfl (R_move E rfl) rfl ?_
  clear E a; intro a E
  refine S_x (X_pu E S rfl rfl rfl (slices_Values h0) (Hp.le.refl _) ?_)
  clear E a S; rintro a v_2 w M_1 hM_1 hv_2 S E
  replace h0 := h0.le hM_1
  refine S_x (X_pu E S rfl rfl rfl (it_Last hv_2) (Hp.le.refl _) ?_)
  clear E a S; rintro a _ w M_3 hM_3 rfl S E
  replace h0 := h0.le hM_3
  replace hv_2 := hv_2.le hM_3
  refine S_v E rfl (R_extract E rfl rfl) rfl ?_
  clear E a; intro a E
  refine S_v E rfl (R_extract E rfl rfl) rfl ?_
  clear E a; intro a E
  refine S_v E rfl (R_assign E rfl) rfl ?_
  clear E a; intro a E
  refine S_v E rfl (R_assign E rfl) rfl ?_
  clear E a; intro a E
  refine WL_nil ?_
  refine T_n ?_
  refine WP_ret ?_
  exact F_ret2 E Try.results24 rfl rfl ⟨_, rfl, M_3, (hM_1.trans hM_3), (by first | rfl | (simp; done) | (simp_all; done)), S⟩

set_option maxRecDepth 100000 in
set_option maxHeartbeats 4000000 in
theorem spec_NthOr {M : Hp} {v0 : Value} {l0 : List Int} (h0 : RdI M v0 l0){x1 : Int} (g1 : -1000000 ≤ x1 ∧ x1 ≤ 1000000) {x2 : Int} :
    Pu Try.prog (.func (.func 25) #[] #[]) M [v0, .int .i64 x1, .int .i64 x2] (fun r M' => r = .int .i64 ((nthL l0 x1).getD x2)) := by
  refine Pu_enter Try.func25 rfl Try.ntmps25 rfl Try.call25 ?_
  intro a w M1 H hM1 S E
  replace h0 := h0.le hM1
  have b0 := h0.bound
  refine WP_seq ?_
  refine WP_region ?_
  refine S_v E rfl (R_assign E rfl) rfl ?_
  clear E a; intro a E
  refine WL_nil ?_
  refine T_n ?_
  refine WP_seq ?_
  refine WP_seq ?_
  refine WP_region ?_
  refine S_v E rfl (R_move E rfl) rfl ?_
  clear E a; intro a E
  refine S_v E rfl (R_lss E rfl rfl) rfl ?_
  clear E a; intro a E
  refine WL_nil ?_
  refine T_n ?_
  refine WP_cond E rfl (fun hc_1 => ?_) (fun hc_1 => ?_)
  · replace hc_1 := of_decide_eq_true hc_1
    refine WP_region ?_
    refine S_v E rfl (R_move E rfl) rfl ?_
    clear E a; intro a E
    refine S_v E rfl (R_move E rfl) rfl ?_
    clear E a; intro a E
    refine S_v E rfl (R_lenV E rfl T22 h0.len) rfl ?_
    clear E a; intro a E
    refine S_v E rfl (R_addx (m := x1 + (((l0).length : Nat) : Int)) E rfl rfl (by omega) (by omega)) rfl ?_
    clear E a; intro a E
    refine S_v E rfl (R_assign E rfl) rfl ?_
    clear E a; intro a E
    refine WL_nil ?_
    refine T_n ?_
    refine WP_seq ?_
    refine WP_seq ?_
    refine WP_region ?_
    refine S_v E rfl (R_move E rfl) rfl ?_
    clear E a; intro a E
    refine S_v E rfl (R_lss E rfl rfl) rfl ?_
    clear E a; intro a E
    refine S_v E rfl (R_move E rfl) rfl ?_
    clear E a; intro a E
    refine split_bool (decide (x1 + (((l0).length : Nat) : Int) < 0)) (fun hc_2 => ?_) (fun hc_2 => ?_)
    · replace E := E.val (t := 14) rfl hc_2
      replace E := E.val (t := 15) rfl hc_2
      replace hc_2 := of_decide_eq_true hc_2
      refine WL_guard_no E rfl rfl rfl rfl fun a E => ?_
      refine WL_guard_no E rfl rfl rfl rfl fun a E => ?_
      refine WL_guard_no E rfl rfl rfl rfl fun a E => ?_
      refine WL_guard_no E rfl rfl rfl rfl fun a E => ?_
      refine S_v E rfl (R_pickT E rfl rfl) rfl ?_
      clear E a; intro a E
      refine WL_nil ?_
      refine T_n ?_
      refine WP_condT E rfl rfl ?_
      refine WP_seq ?_
      refine WP_region ?_
      refine S_v E rfl (R_move E rfl) rfl ?_
      clear E a; intro a E
      refine S_v E rfl (R_assign E rfl) rfl ?_
      clear E a; intro a E
      refine WL_nil ?_
      refine T_n ?_
      refine WP_ret ?_
      refine T_r ?_
      exact F_ret1 E Try.results25 rfl ⟨_, rfl, M1, (Hp.le.refl _), (congrArg (Value.int .i64) (by (rw [nthL_none (by omega)]; rfl))), S⟩
    · replace E := E.val (t := 14) rfl hc_2
      replace E := E.val (t := 15) rfl hc_2
      replace hc_2 := of_decide_eq_false hc_2
      refine WL_guard_yes E rfl rfl ?_
      refine S_v E rfl (R_move E rfl) rfl ?_
      clear E a; intro a E
      refine WL_guard_yes E rfl rfl ?_
      refine S_v E rfl (R_move E rfl) rfl ?_
      clear E a; intro a E
      refine WL_guard_yes E rfl rfl ?_
      refine S_v E rfl (R_lenV E rfl T22 h0.len) rfl ?_
      clear E a; intro a E
      refine WL_guard_yes E rfl rfl ?_
      refine S_v E rfl (R_geq E rfl rfl) rfl ?_
      clear E a; intro a E
      refine S_v E rfl (R_pickF E rfl rfl) rfl ?_
      clear E a; intro a E
      refine WL_nil ?_
      refine T_n ?_
      refine WP_cond E rfl (fun hc_3 => ?_) (fun hc_3 => ?_)
      · replace hc_3 := of_decide_eq_true hc_3
        refine WP_seq ?_
        refine WP_region ?_
        refine S_v E rfl (R_move E rfl) rfl ?_
        clear E a; intro a E
        refine S_v E rfl (R_assign E rfl) rfl ?_
        clear E a; intro a E
        refine WL_nil ?_
        refine T_n ?_
        refine WP_ret ?_
        refine T_r ?_
        exact F_ret1 E Try.results25 rfl ⟨_, rfl, M1, (Hp.le.refl _), (congrArg (Value.int .i64) (by (rw [nthL_none (by omega)]; rfl))), S⟩
      · replace hc_3 := of_decide_eq_false hc_3
        refine WP_skip ?_
        refine T_n ?_
        refine WP_seq ?_
        refine WP_region ?_
        refine S_v E rfl (R_move E rfl) rfl ?_
        clear E a; intro a E
        refine S_v E rfl (R_move E rfl) rfl ?_
        clear E a; intro a E
        obtain ⟨x_4, hx_4⟩ : ∃ x, (l0)[(x1 + (((l0).length : Nat) : Int)).toNat]? = some x := ⟨_, List.getElem?_eq_getElem (by first | omega | (simp; omega) | (simp_all; omega))⟩
        obtain ⟨p_5, hp_5, qp_5⟩ := h0.at hx_4
        refine S_v E rfl (R_idx E rfl rfl T22 hp_5 (by omega)) rfl ?_
        clear E a; intro a E
        refine S_v E rfl (R_loadM E rfl Try.isAgg3 S.imm qp_5) rfl ?_
        clear E a; intro a E
        refine S_v E rfl (R_assign E rfl) rfl ?_
        clear E a; intro a E
        refine WL_nil ?_
        refine T_n ?_
        refine WP_ret ?_
        exact F_ret1 E Try.results25 rfl ⟨_, rfl, M1, (Hp.le.refl _), (congrArg (Value.int .i64) (by (first | (rw [nthL_pos (by omega) (by assumption)]; rfl) | (rw [nthL_neg (by omega) (by omega) (by rw [show (↑l0.length + x1).toNat = (x1 + ↑l0.length).toNat by omega]; assumption)]; rfl)))), S⟩
  · replace hc_1 := of_decide_eq_false hc_1
    refine WP_skip ?_
    refine T_n ?_
    refine WP_seq ?_
    refine WP_seq ?_
    refine WP_region ?_
    refine S_v E rfl (R_move E rfl) rfl ?_
    clear E a; intro a E
    refine S_v E rfl (R_lss E rfl rfl) rfl ?_
    clear E a; intro a E
    refine S_v E rfl (R_move E rfl) rfl ?_
    clear E a; intro a E
    refine split_bool (decide (x1 < 0)) (fun hc_6 => ?_) (fun hc_6 => ?_)
    · replace E := E.val (t := 8) rfl hc_6
      replace E := E.val (t := 14) rfl hc_6
      replace E := E.val (t := 15) rfl hc_6
      replace hc_6 := of_decide_eq_true hc_6
      refine WL_guard_no E rfl rfl rfl rfl fun a E => ?_
      refine WL_guard_no E rfl rfl rfl rfl fun a E => ?_
      refine WL_guard_no E rfl rfl rfl rfl fun a E => ?_
      refine WL_guard_no E rfl rfl rfl rfl fun a E => ?_
      refine S_v E rfl (R_pickT E rfl rfl) rfl ?_
      clear E a; intro a E
      refine WL_nil ?_
      refine T_n ?_
      refine WP_condT E rfl rfl ?_
      refine WP_seq ?_
      refine WP_region ?_
      refine S_v E rfl (R_move E rfl) rfl ?_
      clear E a; intro a E
      refine S_v E rfl (R_assign E rfl) rfl ?_
      clear E a; intro a E
      refine WL_nil ?_
      refine T_n ?_
      refine WP_ret ?_
      refine T_r ?_
      exact F_ret1 E Try.results25 rfl ⟨_, rfl, M1, (Hp.le.refl _), (congrArg (Value.int .i64) (by (rw [nthL_none (by omega)]; rfl))), S⟩
    · replace E := E.val (t := 8) rfl hc_6
      replace E := E.val (t := 14) rfl hc_6
      replace E := E.val (t := 15) rfl hc_6
      replace hc_6 := of_decide_eq_false hc_6
      refine WL_guard_yes E rfl rfl ?_
      refine S_v E rfl (R_move E rfl) rfl ?_
      clear E a; intro a E
      refine WL_guard_yes E rfl rfl ?_
      refine S_v E rfl (R_move E rfl) rfl ?_
      clear E a; intro a E
      refine WL_guard_yes E rfl rfl ?_
      refine S_v E rfl (R_lenV E rfl T22 h0.len) rfl ?_
      clear E a; intro a E
      refine WL_guard_yes E rfl rfl ?_
      refine S_v E rfl (R_geq E rfl rfl) rfl ?_
      clear E a; intro a E
      refine S_v E rfl (R_pickF E rfl rfl) rfl ?_
      clear E a; intro a E
      refine WL_nil ?_
      refine T_n ?_
      refine WP_cond E rfl (fun hc_7 => ?_) (fun hc_7 => ?_)
      · replace hc_7 := of_decide_eq_true hc_7
        refine WP_seq ?_
        refine WP_region ?_
        refine S_v E rfl (R_move E rfl) rfl ?_
        clear E a; intro a E
        refine S_v E rfl (R_assign E rfl) rfl ?_
        clear E a; intro a E
        refine WL_nil ?_
        refine T_n ?_
        refine WP_ret ?_
        refine T_r ?_
        exact F_ret1 E Try.results25 rfl ⟨_, rfl, M1, (Hp.le.refl _), (congrArg (Value.int .i64) (by (rw [nthL_none (by omega)]; rfl))), S⟩
      · replace hc_7 := of_decide_eq_false hc_7
        refine WP_skip ?_
        refine T_n ?_
        refine WP_seq ?_
        refine WP_region ?_
        refine S_v E rfl (R_move E rfl) rfl ?_
        clear E a; intro a E
        refine S_v E rfl (R_move E rfl) rfl ?_
        clear E a; intro a E
        obtain ⟨x_8, hx_8⟩ : ∃ x, (l0)[(x1).toNat]? = some x := ⟨_, List.getElem?_eq_getElem (by first | omega | (simp; omega) | (simp_all; omega))⟩
        obtain ⟨p_9, hp_9, qp_9⟩ := h0.at hx_8
        refine S_v E rfl (R_idx E rfl rfl T22 hp_9 (by omega)) rfl ?_
        clear E a; intro a E
        refine S_v E rfl (R_loadM E rfl Try.isAgg3 S.imm qp_9) rfl ?_
        clear E a; intro a E
        refine S_v E rfl (R_assign E rfl) rfl ?_
        clear E a; intro a E
        refine WL_nil ?_
        refine T_n ?_
        refine WP_ret ?_
        exact F_ret1 E Try.results25 rfl ⟨_, rfl, M1, (Hp.le.refl _), (congrArg (Value.int .i64) (by (first | (rw [nthL_pos (by omega) (by assumption)]; rfl) | (rw [nthL_neg (by omega) (by omega) (by rw [show (↑l0.length + x1).toNat = (x1 + ↑l0.length).toNat by omega]; assumption)]; rfl)))), S⟩

set_option maxRecDepth 100000 in
set_option maxHeartbeats 4000000 in
theorem lo_sliceNth {M : Hp} {v0 : Value} {l0 : List Int} (h0 : RdI M v0 l0){x1 : Int} (g1 : -1000000 ≤ x1 ∧ x1 ≤ 1000000) :
    Pu Try.prog (.func (.func 189) #[] #[]) M [v0, .int .i64 x1] (fun r M' => r = .tuple #[.int .i64 ((nthL l0 x1).getD 0), .bool ((nthL l0 x1).isSome)]) := by
  refine Pu_enter Try.func189 rfl Try.ntmps189 rfl Try.call189 ?_
  intro a w M1 H hM1 S E
  replace h0 := h0.le hM1
  have b0 := h0.bound
  refine WP_seq ?_
  refine WP_region ?_
  refine S_v E rfl (R_assign E rfl) rfl ?_
  clear E a; intro a E
  refine S_v E rfl (R_assign E rfl) rfl ?_
  clear E a; intro a E
  refine WL_nil ?_
  refine T_n ?_
  refine WP_seq ?_
  refine WP_region ?_
  refine S_v E rfl (R_move E rfl) rfl ?_
  clear E a; intro a E
  refine S_v E rfl (R_assign E rfl) rfl ?_
  clear E a; intro a E
  refine WL_nil ?_
  refine T_n ?_
  refine WP_seq ?_
  refine WP_region ?_
  refine S_v E rfl (R_move E rfl) rfl ?_
  clear E a; intro a E
  refine S_v E rfl (R_lenV E rfl T22 h0.len) rfl ?_
  clear E a; intro a E
  refine S_v E rfl (R_assign E rfl) rfl ?_
  clear E a; intro a E
  refine WL_nil ?_
  refine T_n ?_
  refine WP_seq ?_
  refine WP_seq ?_
  refine WP_region ?_
  refine S_v E rfl (R_move E rfl) rfl ?_
  clear E a; intro a E
  refine S_v E rfl (R_move E rfl) rfl ?_
  clear E a; intro a E
  refine S_v E rfl (R_geq E rfl rfl) rfl ?_
  clear E a; intro a E
  refine S_v E rfl (R_move E rfl) rfl ?_
  clear E a; intro a E
  refine split_bool (decide ((((l0).length : Nat) : Int) ≤ x1)) (fun hc_1 => ?_) (fun hc_1 => ?_)
  · replace E := E.val (t := 13) rfl hc_1
    replace E := E.val (t := 14) rfl hc_1
    replace hc_1 := of_decide_eq_true hc_1
    refine WL_guard_no E rfl rfl rfl rfl fun a E => ?_
    refine WL_guard_no E rfl rfl rfl rfl fun a E => ?_
    refine WL_guard_no E rfl rfl rfl rfl fun a E => ?_
    refine WL_guard_no E rfl rfl rfl rfl fun a E => ?_
    refine S_v E rfl (R_pickT E rfl rfl) rfl ?_
    clear E a; intro a E
    refine WL_nil ?_
    refine T_n ?_
    refine WP_condT E rfl rfl ?_
    refine WP_seq ?_
    refine WP_region ?_
    refine S_x (X_pu E S rfl rfl rfl (lo_Empty ) (Hp.le.refl _) ?_)
    clear E a S; rintro a _ w M_2 hM_2 rfl S E
    replace h0 := h0.le hM_2
    refine S_v E rfl (R_assign E rfl) rfl ?_
    clear E a; intro a E
    refine S_v E rfl (R_assign E rfl) rfl ?_
    clear E a; intro a E
    refine WL_nil ?_
    refine T_n ?_
    refine WP_ret ?_
    refine T_r ?_
    exact F_ret2 E Try.results189 rfl rfl ⟨_, rfl, M_2, hM_2, (by rw [nthL_none (by omega)]; rfl), S⟩
  · replace E := E.val (t := 13) rfl hc_1
    replace E := E.val (t := 14) rfl hc_1
    replace hc_1 := of_decide_eq_false hc_1
    refine WL_guard_yes E rfl rfl ?_
    refine S_v E rfl (R_move E rfl) rfl ?_
    clear E a; intro a E
    refine WL_guard_yes E rfl rfl ?_
    refine S_v E rfl (R_negx (m := -x1) E rfl rfl (by omega)) rfl ?_
    clear E a; intro a E
    refine WL_guard_yes E rfl rfl ?_
    refine S_v E rfl (R_move E rfl) rfl ?_
    clear E a; intro a E
    refine WL_guard_yes E rfl rfl ?_
    refine S_v E rfl (R_gtr E rfl rfl) rfl ?_
    clear E a; intro a E
    refine S_v E rfl (R_pickF E rfl rfl) rfl ?_
    clear E a; intro a E
    refine WL_nil ?_
    refine T_n ?_
    refine WP_cond E rfl (fun hc_3 => ?_) (fun hc_3 => ?_)
    · replace hc_3 := of_decide_eq_true hc_3
      refine WP_seq ?_
      refine WP_region ?_
      refine S_x (X_pu E S rfl rfl rfl (lo_Empty ) (Hp.le.refl _) ?_)
      clear E a S; rintro a _ w M_4 hM_4 rfl S E
      replace h0 := h0.le hM_4
      refine S_v E rfl (R_assign E rfl) rfl ?_
      clear E a; intro a E
      refine S_v E rfl (R_assign E rfl) rfl ?_
      clear E a; intro a E
      refine WL_nil ?_
      refine T_n ?_
      refine WP_ret ?_
      refine T_r ?_
      exact F_ret2 E Try.results189 rfl rfl ⟨_, rfl, M_4, hM_4, (by rw [nthL_none (by omega)]; rfl), S⟩
    · replace hc_3 := of_decide_eq_false hc_3
      refine WP_skip ?_
      refine T_n ?_
      refine WP_seq ?_
      refine WP_seq ?_
      refine WP_region ?_
      refine S_v E rfl (R_move E rfl) rfl ?_
      clear E a; intro a E
      refine S_v E rfl (R_geq E rfl rfl) rfl ?_
      clear E a; intro a E
      refine WL_nil ?_
      refine T_n ?_
      refine WP_cond E rfl (fun hc_5 => ?_) (fun hc_5 => ?_)
      · replace hc_5 := of_decide_eq_true hc_5
        refine WP_seq ?_
        refine WP_region ?_
        refine S_v E rfl (R_move E rfl) rfl ?_
        clear E a; intro a E
        refine S_v E rfl (R_move E rfl) rfl ?_
        clear E a; intro a E
        obtain ⟨x_6, hx_6⟩ : ∃ x, (l0)[(x1).toNat]? = some x := ⟨_, List.getElem?_eq_getElem (by first | omega | (simp; omega) | (simp_all; omega))⟩
        obtain ⟨p_7, hp_7, qp_7⟩ := h0.at hx_6
        refine S_v E rfl (R_idx E rfl rfl T22 hp_7 (by omega)) rfl ?_
        clear E a; intro a E
        refine S_v E rfl (R_loadM E rfl Try.isAgg3 S.imm qp_7) rfl ?_
        clear E a; intro a E
        refine S_v E rfl (R_assign E rfl) rfl ?_
        clear E a; intro a E
        refine S_v E rfl (R_assign E rfl) rfl ?_
        clear E a; intro a E
        refine WL_nil ?_
        refine T_n ?_
        refine WP_ret ?_
        refine T_r ?_
        exact F_ret2 E Try.results189 rfl rfl ⟨_, rfl, M1, (Hp.le.refl _), (by rw [nthL_pos (by omega) (by assumption)]; rfl), S⟩
      · replace hc_5 := of_decide_eq_false hc_5
        refine WP_skip ?_
        refine T_n ?_
        refine WP_seq ?_
        refine WP_region ?_
        refine S_v E rfl (R_move E rfl) rfl ?_
        clear E a; intro a E
        refine S_v E rfl (R_move E rfl) rfl ?_
        clear E a; intro a E
        refine S_v E rfl (R_move E rfl) rfl ?_
        clear E a; intro a E
        refine S_v E rfl (R_addx (m := (((l0).length : Nat) : Int) + x1) E rfl rfl (by omega) (by omega)) rfl ?_
        clear E a; intro a E
        obtain ⟨x_8, hx_8⟩ : ∃ x, (l0)[((((l0).length : Nat) : Int) + x1).toNat]? = some x := ⟨_, List.getElem?_eq_getElem (by first | omega | (simp; omega) | (simp_all; omega))⟩
        obtain ⟨p_9, hp_9, qp_9⟩ := h0.at hx_8
        refine S_v E rfl (R_idx E rfl rfl T22 hp_9 (by omega)) rfl ?_
        clear E a; intro a E
        refine S_v E rfl (R_loadM E rfl Try.isAgg3 S.imm qp_9) rfl ?_
        clear E a; intro a E
        refine S_v E rfl (R_assign E rfl) rfl ?_
        clear E a; intro a E
        refine S_v E rfl (R_assign E rfl) rfl ?_
        clear E a; intro a E
        refine WL_nil ?_
        refine T_n ?_
        refine WP_ret ?_
        exact F_ret2 E Try.results189 rfl rfl ⟨_, rfl, M1, (Hp.le.refl _), (by rw [nthL_neg (by omega) (by omega) (by assumption)]; rfl), S⟩

set_option maxRecDepth 100000 in
set_option maxHeartbeats 4000000 in
theorem lo_NthOr {M : Hp} {v0 : Value} {l0 : List Int} (h0 : RdI M v0 l0){x1 : Int} (g1 : -1000000 ≤ x1 ∧ x1 ≤ 1000000) {x2 : Int} :
    Pu Try.prog (.func (.func 117) #[] #[]) M [v0, .int .i64 x1, .int .i64 x2] (fun r M' => r = .int .i64 ((nthL l0 x1).getD x2)) := by
  refine Pu_enter Try.func117 rfl Try.ntmps117 rfl Try.call117 ?_
  intro a w M1 H hM1 S E
  replace h0 := h0.le hM1
  have b0 := h0.bound
  refine WP_seq ?_
  refine WP_region ?_
  refine S_v E rfl (R_assign E rfl) rfl ?_
  clear E a; intro a E
  refine WL_nil ?_
  refine T_n ?_
  refine WP_seq ?_
  refine WP_region ?_
  refine S_v E rfl (R_move E rfl) rfl ?_
  clear E a; intro a E
  refine S_v E rfl (R_move E rfl) rfl ?_
  clear E a; intro a E
  refine S_x (X_pu E S rfl rfl rfl (lo_sliceNth h0 (by omega)) (Hp.le.refl _) ?_)
  clear E a S; rintro a _ w M_1 hM_1 rfl S E
  replace h0 := h0.le hM_1
  refine S_v E rfl (R_move E rfl) rfl ?_
  clear E a; intro a E
  refine S_v E rfl (R_extract E rfl rfl) rfl ?_
  clear E a; intro a E
  refine S_v E rfl (R_extract E rfl rfl) rfl ?_
  clear E a; intro a E
  refine S_v E rfl (R_assign E rfl) rfl ?_
  clear E a; intro a E
  refine S_v E rfl (R_assign E rfl) rfl ?_
  clear E a; intro a E
  refine WL_nil ?_
  refine T_n ?_
  refine WP_seq ?_
  refine WP_seq ?_
  refine WP_region ?_
  refine S_v E rfl (R_move E rfl) rfl ?_
  clear E a; intro a E
  refine S_v E rfl (R_not E rfl) rfl ?_
  clear E a; intro a E
  refine WL_nil ?_
  refine T_n ?_
  refine WP_cond E rfl (fun hc_2 => ?_) (fun hc_2 => ?_)
  · refine WP_seq ?_
    refine WP_region ?_
    refine S_v E rfl (R_move E rfl) rfl ?_
    clear E a; intro a E
    refine S_v E rfl (R_assign E rfl) rfl ?_
    clear E a; intro a E
    refine WL_nil ?_
    refine T_n ?_
    refine WP_ret ?_
    refine T_r ?_
    exact F_ret1 E Try.results117 rfl ⟨_, rfl, M_1, hM_1, (congrArg (Value.int .i64) (by (clear S E; first | (cases h : nthL l0 x1 <;> simp_all; done) | (cases h : nthS l0 x1 <;> simp_all; done)))), S⟩
  · refine WP_skip ?_
    refine T_n ?_
    refine WP_seq ?_
    refine WP_region ?_
    refine S_v E rfl (R_move E rfl) rfl ?_
    clear E a; intro a E
    refine S_v E rfl (R_assign E rfl) rfl ?_
    clear E a; intro a E
    refine WL_nil ?_
    refine T_n ?_
    refine WP_ret ?_
    exact F_ret1 E Try.results117 rfl ⟨_, rfl, M_1, hM_1, (congrArg (Value.int .i64) (by (clear S E; first | (cases h : nthL l0 x1 <;> simp_all; done) | (cases h : nthS l0 x1 <;> simp_all; done)))), S⟩

set_option maxRecDepth 100000 in
set_option maxHeartbeats 4000000 in
theorem impl_NthOr {M : Hp} {v0 : Value} {l0 : List Int} (h0 : RdI M v0 l0){x1 : Int} (g1 : -1000000 ≤ x1 ∧ x1 ≤ 1000000) {x2 : Int} :
    Pu Try.prog (.func (.func 26) #[] #[]) M [v0, .int .i64 x1, .int .i64 x2] (fun r M' => r = .int .i64 ((nthL l0 x1).getD x2)) := by
  refine Pu_enter Try.func26 rfl Try.ntmps26 rfl Try.call26 ?_
  intro a w M1 H hM1 S E
  replace h0 := h0.le hM1
  have b0 := h0.bound
  refine WP_seq ?_
  refine WP_region ?_
  refine S_v E rfl (R_assign E rfl) rfl ?_
  clear E a; intro a E
  refine WL_nil ?_
  refine T_n ?_
  refine WP_seq ?_
  refine WP_region ?_
  refine S_v E rfl (R_move E rfl) rfl ?_
  clear E a; intro a E
  refine S_v E rfl (R_move E rfl) rfl ?_
  clear E a; intro a E
  refine S_v E rfl (R_move E rfl) rfl ?_
  clear E a; intro a E
  refine S_x (X_pu E S rfl rfl rfl (lo_NthOr h0 (by omega)) (Hp.le.refl _) ?_)
  clear E a S; rintro a _ w M_1 hM_1 rfl S E
  replace h0 := h0.le hM_1
  refine S_v E rfl (R_assign E rfl) rfl ?_
  clear E a; intro a E
  refine WL_nil ?_
  refine T_n ?_
  refine WP_ret ?_
  exact F_ret1 E Try.results26 rfl ⟨_, rfl, M_1, hM_1, rfl, S⟩

set_option maxRecDepth 100000 in
set_option maxHeartbeats 4000000 in
theorem it_seqNth {M : Hp} {v0 : Value} {l0 : List Int} (h0 : SeqV Try.prog v0 M (RInt) l0){x1 : Int} (g1 : -1000000 ≤ x1 ∧ x1 ≤ 1000000) :
    Pu Try.prog (.func (.func 190) #[] #[]) M [v0, .int .i64 x1] (fun r M' => r = .tuple #[.int .i64 ((nthS l0 x1).getD 0), .bool ((nthS l0 x1).isSome)]) := by
  refine Pu_enter Try.func190 rfl Try.ntmps190 rfl Try.call190 ?_
  intro a w M1 H hM1 S E
  replace h0 := h0.le hM1
  replace S : St w M1 (mks [] :: _) := S.empty
  replace E : Env a 19 (([] : List Nat).map mk) _ := E
  refine WP_seq ?_
  refine WP_region ?_
  refine S_x (X_box (cs := #[.int .i64 x1]) E S rfl rfl rfl ?_)
  clear E a S; rintro a w b_1 E S
  obtain ⟨M_2, hM_2, hb_1, S⟩ := S.freezeB
  replace h0 := h0.le hM_2
  refine S_x (X_alloc (cs := #[.int .i64 0]) E S rfl Try.zeroValue3 rfl ?_)
  clear E a S; rintro a w b_3 E S
  refine S_x (X_alloc (cs := #[.bool false]) E S rfl Try.zeroValue4 rfl ?_)
  clear E a S; rintro a w b_4 E S
  refine WL_nil ?_
  refine T_n ?_
  refine WP_seq ?_
  refine WP_seq ?_
  refine WP_region ?_
  refine S_v E rfl (R_loadM E rfl Try.isAgg3 S.imm (cellM_box hb_1)) rfl ?_
  clear E a; intro a E
  refine S_v E rfl (R_geq E rfl rfl) rfl ?_
  clear E a; intro a E
  refine WL_nil ?_
  refine T_n ?_
  refine WP_cond E rfl (fun hc_5 => ?_) (fun hc_5 => ?_)
  · replace hc_5 := of_decide_eq_true hc_5
    refine WP_seq ?_
    refine WP_region ?_
    refine S_x (X_alloc (cs := #[.int .i64 0]) E S rfl Try.zeroValue3 rfl ?_)
    clear E a S; rintro a w b_6 E S
    refine WL_nil ?_
    refine T_n ?_
    refine WP_seq ?_
    refine WP_region ?_
    refine S_v E rfl (R_move E rfl) rfl ?_
    clear E a; intro a E
    refine WL_nil ?_
    refine T_n ?_
    refine WP_block ?_
    replace S := S.front2
    replace S := S.front2
    replace S := S.front2
    replace E := E.keep (l' := [(3, .pointer (some ⟨b_1, 0, none⟩)), (4, .pointer (some ⟨b_3, 0, none⟩)), (5, .pointer (some ⟨b_4, 0, none⟩)), (6, .pointer (some ⟨b_6, 0, none⟩)), (10, v0)]) ⟨rfl, rfl, rfl, rfl, rfl, trivial⟩
    replace S := S.front2
    replace S := S.front2
    replace S := S.front2
    replace S := S.blk_int (j := ((([] : List Int)).length : Int)) (by (first | rfl | (simp; done) | omega))
    have S0 := S; clear S; have S := St.pack [blk b_6 (.cells #[.int .i64 ((([] : List Int)).length : Int)] 3), blk b_4 (.cells #[.bool false] 4), blk b_3 (.cells #[.int .i64 0] 3)] S0; clear S0
    refine WP_range (RV := RInt) (l := l0) (fun pre M c => c = bigs [blk b_6 (.cells #[.int .i64 ((pre).length : Int)] 3), blk b_4 (.cells #[.bool false] 4), blk b_3 (.cells #[.int .i64 0] 3)] ∧ (((pre).length : Int) ≤ x1)) (fun cd pre M c => (cd = .ret ∧ ∃ (xr : Int) (xi : Int), c = bigs [blk b_6 (.cells #[.int .i64 xi] 3), blk b_4 (.cells #[.bool true] 4), blk b_3 (.cells #[.int .i64 xr] 3)] ∧ ((pre)[x1.toNat]? = some xr))) E S rfl h0 (Hp.le.refl _) (fun _ _ _ h => by rw [h]; rfl) (by decide) (by rintro _ M M' c hM ⟨rfl, f0⟩; exact ⟨rfl, f0⟩) ⟨rfl, (by ((try clear S); (try clear E); first | assumption | omega | rfl | (simp; done) | (simp_all; done) | (simp [List.take_add_one, *]; done) | grind [List.take_add_one]))⟩ ?_ ?_ ?_
    clear E S
    · rintro lb_8 rec_9 pre x _ a w M_7 _ G hM_7 hp_10 rfl ⟨rfl, f0⟩ E S
      replace E : Env a 19 [] [(11, .int .i64 x), (3, .pointer (some ⟨b_1, 0, none⟩)), (4, .pointer (some ⟨b_3, 0, none⟩)), (5, .pointer (some ⟨b_4, 0, none⟩)), (6, .pointer (some ⟨b_6, 0, none⟩)), (10, v0)] := E
      replace S := S.swap.unpack3
      have hq0 := prefix_lt hp_10
      replace h0 := h0.le hM_7
      replace hb_1 := hM_7.2 _ _ hb_1
      refine WP_region ?_
      refine S_v E rfl (R_assign E rfl) rfl ?_
      clear E a; intro a E
      refine WL_nil ?_
      refine T_n ?_
      replace S := S.front3
      refine rb S ?_
      clear S; intro w S
      refine WP_block ?_
      refine WP_seq ?_
      refine WP_seq ?_
      refine WP_region ?_
      refine S_v E rfl (R_load E rfl (Try.isAgg3 _) (cell_blk (S.mem (.tail _ (.head _))))) rfl ?_
      clear E a; intro a E
      refine S_v E rfl (R_loadM E rfl Try.isAgg3 S.imm (cellM_box hb_1)) rfl ?_
      clear E a; intro a E
      refine S_v E rfl (R_eql E rfl rfl) rfl ?_
      clear E a; intro a E
      refine WL_nil ?_
      refine T_n ?_
      refine WP_cond E rfl (fun hc_12 => ?_) (fun hc_12 => ?_)
      · replace hc_12 := of_decide_eq_true hc_12
        refine WP_seq ?_
        refine WP_region ?_
        refine S_v E rfl (R_move E rfl) rfl ?_
        clear E a; intro a E
        replace S := S.front3
        refine S_x0 (X_store E S rfl rfl (Try.sizeOf3 _) rfl ?_)
        clear E a S; rintro a w E S
        replace S := S.front3
        refine S_x0 (X_store E S rfl rfl (Try.sizeOf4 _) rfl ?_)
        clear E a S; rintro a w E S
        refine WL_nil ?_
        refine T_n ?_
        refine WP_ret ?_
        refine T_r ?_
        refine B_r ?_
        replace S := S.front1
        replace S := S.front1
        replace S := S.front3
        replace S := S.front2
        replace S := S.front2
        replace S := S.front2
        replace S := S.blk_int (j := (pre.length : Int)) (by (first | rfl | (simp; done) | omega))
        have S0 := S; clear S; have S := (St.pack [blk b_6 (.cells #[.int .i64 (pre.length : Int)] 3), blk b_4 (.cells #[.bool true] 4), blk b_3 (.cells #[.int .i64 x] 3)] S0).swap; clear S0
        exact ⟨M_7, _, (Hp.le.refl _), ⟨rfl, _, _, rfl, (by (rw [show x1.toNat = pre.length by omega]; simp))⟩, S⟩
      · replace hc_12 := of_decide_eq_false hc_12
        refine WP_skip ?_
        refine T_n ?_
        refine WP_region ?_
        refine S_v E rfl (R_load E rfl (Try.isAgg3 _) (cell_blk (S.mem (.tail _ (.head _))))) rfl ?_
        clear E a; intro a E
        refine S_v E rfl (R_addx (m := (((pre).length + 1 : Nat) : Int)) E rfl rfl (by omega) (by omega)) rfl ?_
        clear E a; intro a E
        replace S := S.front1
        refine S_x0 (X_store E S rfl rfl (Try.sizeOf3 _) rfl ?_)
        clear E a S; rintro a w E S
        refine WL_nil ?_
        refine B_n ?_
        replace S := S.front3
        replace S := S.front3
        replace S := S.front2
        replace S := S.front2
        replace S := S.front2
        replace S := S.front2
        replace S := S.blk_int (j := (((pre ++ [x])).length : Int)) (by (first | rfl | (simp; done) | omega))
        have S0 := S; clear S; have S := (St.pack [blk b_6 (.cells #[.int .i64 (((pre ++ [x])).length : Int)] 3), blk b_4 (.cells #[.bool false] 4), blk b_3 (.cells #[.int .i64 0] 3)] S0).swap; clear S0
        exact ⟨M_7, _, (Hp.le.refl _), ⟨rfl, (by (simp; omega))⟩, S⟩
    · rintro a w M_13 _ D_14 hM_13 ⟨rfl, f0⟩ S E
      replace S := S.unpack3
      replace h0 := h0.le hM_13
      replace hb_1 := hM_13.2 _ _ hb_1
      refine B_n ?_
      refine T_n ?_
      refine WP_seq ?_
      refine WP_region ?_
      refine S_x (X_pu E S rfl rfl rfl (lo_Empty ) (Hp.le.refl _) ?_)
      clear E a S; rintro a _ w M_15 hM_15 rfl S E
      replace h0 := h0.le hM_15
      replace hb_1 := hM_15.2 _ _ hb_1
      replace S := S.front2
      refine S_x0 (X_store E S rfl rfl (Try.sizeOf3 _) rfl ?_)
      clear E a S; rintro a w E S
      replace S := S.front2
      refine S_x0 (X_store E S rfl rfl (Try.sizeOf4 _) rfl ?_)
      clear E a S; rintro a w E S
      refine WL_nil ?_
      refine T_n ?_
      refine WP_ret ?_
      replace S := S.front2
      replace S := S.drop
      replace S := S.front1
      replace S := S.front2
      exact F_retC2 E S Try.results190 rfl rfl (fun w => Try.isAgg3 w) (fun w => Try.isAgg4 w) (fun w S => ⟨_, rfl, M_15, (hM_2.trans (hM_13.trans hM_15)), (by first | (rw [hh]; rfl) | (rw [nthS_out (by omega)]; rfl)), S.drop.drop⟩)
    · rintro a w M_16 _ D_17 p_18 _ hM_16 hp_19 (⟨rfl, xr, xi, rfl, f0⟩) S E
      replace S := S.unpack3
      replace h0 := h0.le hM_16
      replace hb_1 := hM_16.2 _ _ hb_1
      have hh := nthS_stop (by omega) f0 hp_19
      refine WP_ret ?_
      refine B_r ?_
      refine T_r ?_
      replace S := S.drop
      replace S := S.front1
      replace S := S.front2
      exact F_retC2 E S Try.results190 rfl rfl (fun w => Try.isAgg3 w) (fun w => Try.isAgg4 w) (fun w S => ⟨_, rfl, M_16, (hM_2.trans hM_16), (by first | (rw [hh]; rfl) | (rw [nthS_out (by omega)]; rfl)), S.drop.drop⟩)
  · replace hc_5 := of_decide_eq_false hc_5
    refine WP_skip ?_
    refine T_n ?_
    refine WP_seq ?_
    refine WP_region ?_
    refine S_x (X_pu E S rfl rfl rfl (lo_Empty ) (Hp.le.refl _) ?_)
    clear E a S; rintro a _ w M_20 hM_20 rfl S E
    replace h0 := h0.le hM_20
    replace hb_1 := hM_20.2 _ _ hb_1
    replace S := S.front1
    refine S_x0 (X_store E S rfl rfl (Try.sizeOf3 _) rfl ?_)
    clear E a S; rintro a w E S
    replace S := S.front1
    refine S_x0 (X_store E S rfl rfl (Try.sizeOf4 _) rfl ?_)
    clear E a S; rintro a w E S
    refine WL_nil ?_
    refine T_n ?_
    refine WP_ret ?_
    replace S := S.front1
    replace S := S.front2
    exact F_retC2 E S Try.results190 rfl rfl (fun w => Try.isAgg3 w) (fun w => Try.isAgg4 w) (fun w S => ⟨_, rfl, M_20, (hM_2.trans hM_20), (by first | (rw [hh]; rfl) | (rw [nthS_out (by omega)]; rfl)), S.drop.drop⟩)

set_option maxRecDepth 100000 in
set_option maxHeartbeats 4000000 in
theorem it_NthOr {M : Hp} {v0 : Value} {l0 : List Int} (h0 : SeqV Try.prog v0 M (RInt) l0){x1 : Int} (g1 : -1000000 ≤ x1 ∧ x1 ≤ 1000000) {x2 : Int} :
    Pu Try.prog (.func (.func 118) #[] #[]) M [v0, .int .i64 x1, .int .i64 x2] (fun r M' => r = .int .i64 ((nthS l0 x1).getD x2)) := by
  refine Pu_enter Try.func118 rfl Try.ntmps118 rfl Try.call118 ?_
  intro a w M1 H hM1 S E
  replace h0 := h0.le hM1
  refine WP_seq ?_
  refine WP_region ?_
  refine S_v E rfl (R_assign E rfl) rfl ?_
  clear E a; intro a E
  refine WL_nil ?_
  refine T_n ?_
  refine WP_seq ?_
  refine WP_region ?_
  refine S_v E rfl (R_move E rfl) rfl ?_
  clear E a; intro a E
  refine S_v E rfl (R_move E rfl) rfl ?_
  clear E a; intro a E
  refine S_x (X_pu E S rfl rfl rfl (it_seqNth h0 (by omega)) (Hp.le.refl _) ?_)
  clear E a S; rintro a _ w M_1 hM_1 rfl S E
  replace h0 := h0.le hM_1
  refine S_v E rfl (R_move E rfl) rfl ?_
  clear E a; intro a E
  refine S_v E rfl (R_extract E rfl rfl) rfl ?_
  clear E a; intro a E
  refine S_v E rfl (R_extract E rfl rfl) rfl ?_
  clear E a; intro a E
  refine S_v E rfl (R_assign E rfl) rfl ?_
  clear E a; intro a E
  refine S_v E rfl (R_assign E rfl) rfl ?_
  clear E a; intro a E
  refine WL_nil ?_
  refine T_n ?_
  refine WP_seq ?_
  refine WP_seq ?_
  refine WP_region ?_
  refine S_v E rfl (R_move E rfl) rfl ?_
  clear E a; intro a E
  refine S_v E rfl (R_not E rfl) rfl ?_
  clear E a; intro a E
  refine WL_nil ?_
  refine T_n ?_
  refine WP_cond E rfl (fun hc_2 => ?_) (fun hc_2 => ?_)
  · refine WP_seq ?_
    refine WP_region ?_
    refine S_v E rfl (R_move E rfl) rfl ?_
    clear E a; intro a E
    refine S_v E rfl (R_assign E rfl) rfl ?_
    clear E a; intro a E
    refine WL_nil ?_
    refine T_n ?_
    refine WP_ret ?_
    refine T_r ?_
    exact F_ret1 E Try.results118 rfl ⟨_, rfl, M_1, hM_1, (congrArg (Value.int .i64) (by (clear S E; first | (cases h : nthL l0 x1 <;> simp_all; done) | (cases h : nthS l0 x1 <;> simp_all; done)))), S⟩
  · refine WP_skip ?_
    refine T_n ?_
    refine WP_seq ?_
    refine WP_region ?_
    refine S_v E rfl (R_move E rfl) rfl ?_
    clear E a; intro a E
    refine S_v E rfl (R_assign E rfl) rfl ?_
    clear E a; intro a E
    refine WL_nil ?_
    refine T_n ?_
    refine WP_ret ?_
    exact F_ret1 E Try.results118 rfl ⟨_, rfl, M_1, hM_1, (congrArg (Value.int .i64) (by (clear S E; first | (cases h : nthL l0 x1 <;> simp_all; done) | (cases h : nthS l0 x1 <;> simp_all; done)))), S⟩

set_option maxRecDepth 100000 in
set_option maxHeartbeats 4000000 in
theorem impl_NthOrSeq {M : Hp} {v0 : Value} {l0 : List Int} (h0 : RdI M v0 l0){x1 : Int} (g1 : -1000000 ≤ x1 ∧ x1 ≤ 1000000) {x2 : Int} :
    Pu Try.prog (.func (.func 27) #[] #[]) M [v0, .int .i64 x1, .int .i64 x2] (fun r M' => r = .int .i64 ((nthS l0 x1).getD x2)) := by
  refine Pu_enter Try.func27 rfl Try.ntmps27 rfl Try.call27 ?_
  intro a w M1 H hM1 S E
  replace h0 := h0.le hM1
  have b0 := h0.bound
  refine WP_seq ?_
  refine WP_region ?_
  refine S_v E rfl (R_assign E rfl) rfl ?_
  clear E a; intro a E
  refine WL_nil ?_
  refine T_n ?_
  refine WP_seq ?_
  refine WP_region ?_
  refine S_v E rfl (R_move E rfl) rfl ?_
  clear E a; intro a E
  refine S_x (X_pu E S rfl rfl rfl (slices_Values h0) (Hp.le.refl _) ?_)
  clear E a S; rintro a v_2 w M_1 hM_1 hv_2 S E
  replace h0 := h0.le hM_1
  refine S_v E rfl (R_move E rfl) rfl ?_
  clear E a; intro a E
  refine S_v E rfl (R_move E rfl) rfl ?_
  clear E a; intro a E
  refine S_x (X_pu E S rfl rfl rfl (it_NthOr hv_2 (by omega)) (Hp.le.refl _) ?_)
  clear E a S; rintro a _ w M_3 hM_3 rfl S E
  replace h0 := h0.le hM_3
  replace hv_2 := hv_2.le hM_3
  refine S_v E rfl (R_assign E rfl) rfl ?_
  clear E a; intro a E
  refine WL_nil ?_
  refine T_n ?_
  refine WP_ret ?_
  exact F_ret1 E Try.results27 rfl ⟨_, rfl, M_3, (hM_1.trans hM_3), rfl, S⟩

set_option maxRecDepth 100000 in
set_option maxHeartbeats 4000000 in
theorem laws_FnEnds {M : Hp} {v0 : Value} {l0 : List Int} (h0 : RdI M v0 l0){x1 x2 : Int} (g1 : -128 ≤ x1 ∧ x1 ≤ 127) :
    PuC Try.prog 4 M [v0, .int .i8 x1, .int .i64 x2] (fun r M' => r = .bool true) := by
  refine PuC_enter Try.func4 rfl Try.ntmps4 rfl ?_
  intro a w M1 H hM1 S E
  replace h0 := h0.le hM1
  have b0 := h0.bound
  refine WP_seq ?_
  refine WP_region ?_
  refine S_v E rfl (R_assign E rfl) rfl ?_
  clear E a; intro a E
  refine WL_nil ?_
  refine T_n ?_
  refine WP_seq ?_
  refine WP_seq ?_
  refine WP_region ?_
  refine S_v E rfl (R_move E rfl) rfl ?_
  clear E a; intro a E
  refine S_v E rfl (R_lenV E rfl T22 h0.len) rfl ?_
  clear E a; intro a E
  refine S_v E rfl (R_gtr E rfl rfl) rfl ?_
  clear E a; intro a E
  refine WL_nil ?_
  refine T_n ?_
  refine WP_cond E rfl (fun hc_1 => ?_) (fun hc_1 => ?_)
  · replace hc_1 := of_decide_eq_true hc_1
    refine WP_seq ?_
    refine WP_region ?_
    refine S_v E rfl (R_assign E rfl) rfl ?_
    clear E a; intro a E
    refine WL_nil ?_
    refine T_n ?_
    refine WP_ret ?_
    refine T_r ?_
    exact F_ret1 E Try.results4 rfl ⟨_, rfl, M1, (Hp.le.refl _), rfl, S⟩
  · replace hc_1 := of_decide_eq_false hc_1
    refine WP_skip ?_
    refine T_n ?_
    refine WP_seq ?_
    refine WP_seq ?_
    refine WP_region ?_
    refine S_x (X_buildI (ys := [7]) E S rfl T22 rfl rfl rfl ?_)
    clear E a S; rintro a w v_2 E S
    have S0 := S; clear S
    obtain ⟨M_3, hM_3, hz_4, S⟩ := S0.freezeI (by (first | omega | (simp; omega) | (simp; done) | (simp_all; omega) | grind))
    clear S0
    replace h0 := h0.le hM_3
    refine S_x (X_pu E S rfl rfl rfl (impl_First hz_4) (Hp.le.refl _) ?_)
    clear E a S; rintro a _ w M_5 hM_5 rfl S E
    replace h0 := h0.le hM_5
    replace hz_4 := hz_4.le hM_5
    refine S_v E rfl (R_move E rfl) rfl ?_
    clear E a; intro a E
    refine S_v E rfl (R_extract E rfl rfl) rfl ?_
    clear E a; intro a E
    refine S_v E rfl (R_extract E rfl rfl) rfl ?_
    clear E a; intro a E
    refine S_v E rfl (R_assign E rfl) rfl ?_
    clear E a; intro a E
    refine S_v E rfl (R_assign E rfl) rfl ?_
    clear E a; intro a E
    refine WL_nil ?_
    refine T_n ?_
    refine WP_seq ?_
    refine WP_region ?_
    refine S_v E rfl (R_move E rfl) rfl ?_
    clear E a; intro a E
    refine S_v E rfl (R_not E rfl) rfl ?_
    clear E a; intro a E
    refine S_v E rfl (R_move E rfl) rfl ?_
    clear E a; intro a E
    have hc_6 : (!(!([7]).isEmpty)) = false := by first | (simp; done) | decide
    replace E := E.val (t := 28) rfl hc_6
    replace E := E.val (t := 29) rfl hc_6
    refine WL_guard_yes E rfl rfl ?_
    refine S_v E rfl (R_move E rfl) rfl ?_
    clear E a; intro a E
    refine WL_guard_yes E rfl rfl ?_
    refine S_v E rfl (R_neq E rfl rfl) rfl ?_
    clear E a; intro a E
    refine S_v E rfl (R_pickF E rfl rfl) rfl ?_
    clear E a; intro a E
    refine WL_nil ?_
    refine T_n ?_
    have hc_7 : (decide (([7]).headD 0 ≠ 7)) = false := by first | (simp; done) | decide
    refine WP_condF E rfl hc_7 ?_
    refine WP_skip ?_
    refine T_n ?_
    refine WP_seq ?_
    refine WP_seq ?_
    refine WP_region ?_
    refine S_v E rfl (R_move E rfl) rfl ?_
    clear E a; intro a E
    refine S_x (X_buildM (R := RSl 1 RInt) (vs := [v0]) (xs := [l0]) (RSl_mono RInt_mono) E S rfl T95 rfl rfl rfl (by intro u hu; simp only [List.mem_cons, List.not_mem_nil, or_false] at hu; rcases hu with rfl <;> first | exact RdI.one h0 | rfl) rfl (rowsC (R := RSl 1 RInt) (RdI.row h0) rowsN) ?_)
    clear E a S; rintro a v_8 w M_9 hM_9 hv_8 S E
    replace hv_8 : RdII M_9 v_8 [l0] := hv_8
    replace h0 := h0.le hM_9
    replace hz_4 := hz_4.le hM_9
    refine S_x (X_pu E S rfl rfl rfl (laws_few hv_8) (Hp.le.refl _) ?_)
    clear E a S; rintro a _ w M_10 hM_10 rfl S E
    replace h0 := h0.le hM_10
    replace hz_4 := hz_4.le hM_10
    replace hv_8 := hv_8.le hM_10
    refine S_v E rfl (R_not E rfl) rfl ?_
    clear E a; intro a E
    refine WL_nil ?_
    refine T_n ?_
    refine WP_cond E rfl (fun hc_11 => ?_) (fun hc_11 => ?_)
    · refine WP_seq ?_
      refine WP_region ?_
      refine S_v E rfl (R_assign E rfl) rfl ?_
      clear E a; intro a E
      refine WL_nil ?_
      refine T_n ?_
      refine WP_ret ?_
      refine T_r ?_
      exact F_ret1 E Try.results4 rfl ⟨_, rfl, M_10, (hM_3.trans (hM_5.trans (hM_9.trans hM_10))), rfl, S⟩
    · refine WP_skip ?_
      refine T_n ?_
      refine WP_seq ?_
      refine WP_region ?_
      refine S_v E rfl (R_move E rfl) rfl ?_
      clear E a; intro a E
      refine S_x (X_pu E S rfl rfl rfl (impl_First h0) (Hp.le.refl _) ?_)
      clear E a S; rintro a _ w M_12 hM_12 rfl S E
      replace h0 := h0.le hM_12
      replace hz_4 := hz_4.le hM_12
      replace hv_8 := hv_8.le hM_12
      refine S_v E rfl (R_move E rfl) rfl ?_
      clear E a; intro a E
      refine S_v E rfl (R_extract E rfl rfl) rfl ?_
      clear E a; intro a E
      refine S_v E rfl (R_extract E rfl rfl) rfl ?_
      clear E a; intro a E
      refine S_v E rfl (R_assign E rfl) rfl ?_
      clear E a; intro a E
      refine S_v E rfl (R_assign E rfl) rfl ?_
      clear E a; intro a E
      refine WL_nil ?_
      refine T_n ?_
      refine WP_seq ?_
      refine WP_region ?_
      refine S_v E rfl (R_move E rfl) rfl ?_
      clear E a; intro a E
      refine S_x (X_pu E S rfl rfl rfl (impl_Last h0) (Hp.le.refl _) ?_)
      clear E a S; rintro a _ w M_13 hM_13 rfl S E
      replace h0 := h0.le hM_13
      replace hz_4 := hz_4.le hM_13
      replace hv_8 := hv_8.le hM_13
      refine S_v E rfl (R_move E rfl) rfl ?_
      clear E a; intro a E
      refine S_v E rfl (R_extract E rfl rfl) rfl ?_
      clear E a; intro a E
      refine S_v E rfl (R_extract E rfl rfl) rfl ?_
      clear E a; intro a E
      refine S_v E rfl (R_assign E rfl) rfl ?_
      clear E a; intro a E
      refine S_v E rfl (R_assign E rfl) rfl ?_
      clear E a; intro a E
      refine WL_nil ?_
      refine T_n ?_
      refine WP_seq ?_
      refine WP_region ?_
      refine S_v E rfl (R_move E rfl) rfl ?_
      clear E a; intro a E
      refine S_x (X_pu E S rfl rfl rfl (impl_FirstSeq h0) (Hp.le.refl _) ?_)
      clear E a S; rintro a _ w M_14 hM_14 rfl S E
      replace h0 := h0.le hM_14
      replace hz_4 := hz_4.le hM_14
      replace hv_8 := hv_8.le hM_14
      refine S_v E rfl (R_move E rfl) rfl ?_
      clear E a; intro a E
      refine S_v E rfl (R_extract E rfl rfl) rfl ?_
      clear E a; intro a E
      refine S_v E rfl (R_extract E rfl rfl) rfl ?_
      clear E a; intro a E
      refine S_v E rfl (R_assign E rfl) rfl ?_
      clear E a; intro a E
      refine S_v E rfl (R_assign E rfl) rfl ?_
      clear E a; intro a E
      refine WL_nil ?_
      refine T_n ?_
      refine WP_seq ?_
      refine WP_region ?_
      refine S_v E rfl (R_move E rfl) rfl ?_
      clear E a; intro a E
      refine S_x (X_pu E S rfl rfl rfl (impl_LastSeq h0) (Hp.le.refl _) ?_)
      clear E a S; rintro a _ w M_15 hM_15 rfl S E
      replace h0 := h0.le hM_15
      replace hz_4 := hz_4.le hM_15
      replace hv_8 := hv_8.le hM_15
      refine S_v E rfl (R_move E rfl) rfl ?_
      clear E a; intro a E
      refine S_v E rfl (R_extract E rfl rfl) rfl ?_
      clear E a; intro a E
      refine S_v E rfl (R_extract E rfl rfl) rfl ?_
      clear E a; intro a E
      refine S_v E rfl (R_assign E rfl) rfl ?_
      clear E a; intro a E
      refine S_v E rfl (R_assign E rfl) rfl ?_
      clear E a; intro a E
      refine WL_nil ?_
      refine T_n ?_
      refine WP_seq ?_
      refine WP_seq ?_
      refine WP_region ?_
      refine S_v E rfl (R_move E rfl) rfl ?_
      clear E a; intro a E
      refine S_v E rfl (R_move E rfl) rfl ?_
      clear E a; intro a E
      refine S_v E rfl (R_lenV E rfl T22 h0.len) rfl ?_
      clear E a; intro a E
      refine S_v E rfl (R_gtr E rfl rfl) rfl ?_
      clear E a; intro a E
      refine S_v E rfl (R_neqB E rfl rfl Try.underlying4) rfl ?_
      clear E a; intro a E
      refine S_v E rfl (R_move E rfl) rfl ?_
      clear E a; intro a E
      have hc_16 : (!((!(l0).isEmpty) == (decide (0 < (((l0).length : Nat) : Int))))) = false := by (clear S E; first | (simp; done) | (cases l0 <;> simp <;> omega) | (rw [(first_eq (l := l0) (by assumption)).1]; simp; done) | (rw [(last_eq (l := l0) (by assumption) (by omega)).1]; simp; done))
      replace E := E.val (t := 61) rfl hc_16
      replace E := E.val (t := 62) rfl hc_16
      refine WL_guard_yes E rfl rfl ?_
      refine S_v E rfl (R_move E rfl) rfl ?_
      clear E a; intro a E
      refine WL_guard_yes E rfl rfl ?_
      refine S_v E rfl (R_move E rfl) rfl ?_
      clear E a; intro a E
      refine WL_guard_yes E rfl rfl ?_
      refine S_v E rfl (R_neqB E rfl rfl Try.underlying4) rfl ?_
      clear E a; intro a E
      refine S_v E rfl (R_pickF E rfl rfl) rfl ?_
      clear E a; intro a E
      refine S_v E rfl (R_move E rfl) rfl ?_
      clear E a; intro a E
      have hc_17 : (!((!(l0).isEmpty) == (!(l0).isEmpty))) = false := by (clear S E; first | (simp; done) | (cases l0 <;> simp <;> omega) | (rw [(first_eq (l := l0) (by assumption)).1]; simp; done) | (rw [(last_eq (l := l0) (by assumption) (by omega)).1]; simp; done))
      replace E := E.val (t := 65) rfl hc_17
      replace E := E.val (t := 66) rfl hc_17
      replace E := E.val (t := 67) rfl hc_17
      refine WL_guard_yes E rfl rfl ?_
      refine S_v E rfl (R_move E rfl) rfl ?_
      clear E a; intro a E
      refine WL_guard_yes E rfl rfl ?_
      refine S_v E rfl (R_move E rfl) rfl ?_
      clear E a; intro a E
      refine WL_guard_yes E rfl rfl ?_
      refine S_v E rfl (R_neqB E rfl rfl Try.underlying4) rfl ?_
      clear E a; intro a E
      refine S_v E rfl (R_pickF E rfl rfl) rfl ?_
      clear E a; intro a E
      refine S_v E rfl (R_move E rfl) rfl ?_
      clear E a; intro a E
      have hc_18 : (!((!(l0).isEmpty) == (!(l0).isEmpty))) = false := by (clear S E; first | (simp; done) | (cases l0 <;> simp <;> omega) | (rw [(first_eq (l := l0) (by assumption)).1]; simp; done) | (rw [(last_eq (l := l0) (by assumption) (by omega)).1]; simp; done))
      replace E := E.val (t := 70) rfl hc_18
      replace E := E.val (t := 71) rfl hc_18
      replace E := E.val (t := 72) rfl hc_18
      refine WL_guard_yes E rfl rfl ?_
      refine S_v E rfl (R_move E rfl) rfl ?_
      clear E a; intro a E
      refine WL_guard_yes E rfl rfl ?_
      refine S_v E rfl (R_move E rfl) rfl ?_
      clear E a; intro a E
      refine WL_guard_yes E rfl rfl ?_
      refine S_v E rfl (R_neqB E rfl rfl Try.underlying4) rfl ?_
      clear E a; intro a E
      refine S_v E rfl (R_pickF E rfl rfl) rfl ?_
      clear E a; intro a E
      refine S_v E rfl (R_move E rfl) rfl ?_
      clear E a; intro a E
      have hc_19 : (!((!(l0).isEmpty) == (!(l0).isEmpty))) = false := by (clear S E; first | (simp; done) | (cases l0 <;> simp <;> omega) | (rw [(first_eq (l := l0) (by assumption)).1]; simp; done) | (rw [(last_eq (l := l0) (by assumption) (by omega)).1]; simp; done))
      replace E := E.val (t := 75) rfl hc_19
      replace E := E.val (t := 76) rfl hc_19
      replace E := E.val (t := 77) rfl hc_19
      refine WL_guard_yes E rfl rfl ?_
      refine S_v E rfl (R_move E rfl) rfl ?_
      clear E a; intro a E
      refine WL_guard_yes E rfl rfl ?_
      refine S_v E rfl (R_move E rfl) rfl ?_
      clear E a; intro a E
      refine split_bool (!(l0).isEmpty) (fun hc_20 => ?_) (fun hc_20 => ?_)
      · replace E := E.val (t := 41) rfl hc_20
        replace E := E.val (t := 10) rfl hc_20
        replace E := E.val (t := 46) rfl hc_20
        replace E := E.val (t := 12) rfl hc_20
        replace E := E.val (t := 51) rfl hc_20
        replace E := E.val (t := 14) rfl hc_20
        replace E := E.val (t := 56) rfl hc_20
        replace E := E.val (t := 16) rfl hc_20
        replace E := E.val (t := 57) rfl hc_20
        replace E := E.val (t := 63) rfl hc_20
        replace E := E.val (t := 64) rfl hc_20
        replace E := E.val (t := 68) rfl hc_20
        replace E := E.val (t := 69) rfl hc_20
        replace E := E.val (t := 73) rfl hc_20
        replace E := E.val (t := 74) rfl hc_20
        replace E := E.val (t := 78) rfl hc_20
        replace E := E.val (t := 79) rfl hc_20
        have hne : 0 < l0.length := (by cases l0 <;> simp_all)
        refine WL_guard_yes E rfl rfl ?_
        refine S_v E rfl (R_move E rfl) rfl ?_
        clear E a; intro a E
        refine WL_guard_yes E rfl rfl ?_
        refine S_v E rfl (R_move E rfl) rfl ?_
        clear E a; intro a E
        obtain ⟨x_21, hx_21⟩ : ∃ x, (l0)[0]? = some x := ⟨_, List.getElem?_eq_getElem (by (first | omega | (cases l0 <;> simp_all; done) | (cases l0 <;> simp_all <;> omega)))⟩
        obtain ⟨p_22, hp_22, qp_22⟩ := h0.at hx_21
        refine WL_guard_yes E rfl rfl ?_
        refine S_v E rfl (R_idx E rfl rfl T22 hp_22 (by omega)) rfl ?_
        clear E a; intro a E
        refine WL_guard_yes E rfl rfl ?_
        refine S_v E rfl (R_loadM E rfl Try.isAgg3 S.imm qp_22) rfl ?_
        clear E a; intro a E
        refine WL_guard_yes E rfl rfl ?_
        refine S_v E rfl (R_neq E rfl rfl) rfl ?_
        clear E a; intro a E
        refine WL_guard_yes E rfl rfl ?_
        refine S_v E rfl (R_move E rfl) rfl ?_
        clear E a; intro a E
        have hc_23 : (decide ((l0).headD 0 ≠ x_21)) = false := by (clear S E; first | (simp; done) | (cases l0 <;> simp <;> omega) | (rw [(first_eq (l := l0) (by assumption)).1]; simp; done) | (rw [(last_eq (l := l0) (by assumption) (by omega)).1]; simp; done))
        replace E := E.val (t := 84) rfl hc_23
        replace E := E.val (t := 85) rfl hc_23
        refine WL_guard_yes E rfl rfl ?_
        refine S_v E rfl (R_move E rfl) rfl ?_
        clear E a; intro a E
        refine WL_guard_yes E rfl rfl ?_
        refine S_v E rfl (R_move E rfl) rfl ?_
        clear E a; intro a E
        refine WL_guard_yes E rfl rfl ?_
        refine S_v E rfl (R_move E rfl) rfl ?_
        clear E a; intro a E
        refine WL_guard_yes E rfl rfl ?_
        refine S_v E rfl (R_lenV E rfl T22 h0.len) rfl ?_
        clear E a; intro a E
        refine WL_guard_yes E rfl rfl ?_
        refine S_v E rfl (R_subx (m := (((l0).length : Nat) : Int) - 1) E rfl rfl (by omega) (by omega)) rfl ?_
        clear E a; intro a E
        obtain ⟨x_24, hx_24⟩ : ∃ x, (l0)[((((l0).length : Nat) : Int) - 1).toNat]? = some x := ⟨_, List.getElem?_eq_getElem (by (first | omega | (cases l0 <;> simp_all; done) | (cases l0 <;> simp_all <;> omega)))⟩
        obtain ⟨p_25, hp_25, qp_25⟩ := h0.at hx_24
        refine WL_guard_yes E rfl rfl ?_
        refine S_v E rfl (R_idx E rfl rfl T22 hp_25 (by omega)) rfl ?_
        clear E a; intro a E
        refine WL_guard_yes E rfl rfl ?_
        refine S_v E rfl (R_loadM E rfl Try.isAgg3 S.imm qp_25) rfl ?_
        clear E a; intro a E
        refine WL_guard_yes E rfl rfl ?_
        refine S_v E rfl (R_neq E rfl rfl) rfl ?_
        clear E a; intro a E
        refine WL_guard_yes E rfl rfl ?_
        refine S_v E rfl (R_pickF E rfl rfl) rfl ?_
        clear E a; intro a E
        refine WL_guard_yes E rfl rfl ?_
        refine S_v E rfl (R_move E rfl) rfl ?_
        clear E a; intro a E
        have hc_26 : (decide ((l0).getLastD 0 ≠ x_24)) = false := by (clear S E; first | (simp; done) | (cases l0 <;> simp <;> omega) | (rw [(first_eq (l := l0) (by assumption)).1]; simp; done) | (rw [(last_eq (l := l0) (by assumption) (by omega)).1]; simp; done))
        replace E := E.val (t := 93) rfl hc_26
        replace E := E.val (t := 94) rfl hc_26
        replace E := E.val (t := 95) rfl hc_26
        refine WL_guard_yes E rfl rfl ?_
        refine S_v E rfl (R_move E rfl) rfl ?_
        clear E a; intro a E
        refine WL_guard_yes E rfl rfl ?_
        refine S_v E rfl (R_move E rfl) rfl ?_
        clear E a; intro a E
        refine WL_guard_yes E rfl rfl ?_
        refine S_v E rfl (R_neq E rfl rfl) rfl ?_
        clear E a; intro a E
        refine WL_guard_yes E rfl rfl ?_
        refine S_v E rfl (R_pickF E rfl rfl) rfl ?_
        clear E a; intro a E
        refine WL_guard_yes E rfl rfl ?_
        refine S_v E rfl (R_move E rfl) rfl ?_
        clear E a; intro a E
        have hc_27 : (decide ((l0).headD 0 ≠ (l0).headD 0)) = false := by (clear S E; first | (simp; done) | (cases l0 <;> simp <;> omega) | (rw [(first_eq (l := l0) (by assumption)).1]; simp; done) | (rw [(last_eq (l := l0) (by assumption) (by omega)).1]; simp; done))
        replace E := E.val (t := 98) rfl hc_27
        replace E := E.val (t := 99) rfl hc_27
        replace E := E.val (t := 100) rfl hc_27
        refine WL_guard_yes E rfl rfl ?_
        refine S_v E rfl (R_move E rfl) rfl ?_
        clear E a; intro a E
        refine WL_guard_yes E rfl rfl ?_
        refine S_v E rfl (R_move E rfl) rfl ?_
        clear E a; intro a E
        refine WL_guard_yes E rfl rfl ?_
        refine S_v E rfl (R_neq E rfl rfl) rfl ?_
        clear E a; intro a E
        refine WL_guard_yes E rfl rfl ?_
        refine S_v E rfl (R_pickF E rfl rfl) rfl ?_
        clear E a; intro a E
        refine WL_guard_yes E rfl rfl ?_
        refine S_v E rfl (R_pickT E rfl rfl) rfl ?_
        clear E a; intro a E
        refine S_v E rfl (R_pickF E rfl rfl) rfl ?_
        clear E a; intro a E
        refine WL_nil ?_
        refine T_n ?_
        have hc_28 : (decide ((l0).getLastD 0 ≠ (l0).getLastD 0)) = false := by (clear S E; first | (simp; done) | (cases l0 <;> simp <;> omega) | (rw [(first_eq (l := l0) (by assumption)).1]; simp; done) | (rw [(last_eq (l := l0) (by assumption) (by omega)).1]; simp; done))
        refine WP_condF E rfl hc_28 ?_
        refine WP_skip ?_
        refine T_n ?_
        refine WP_seq ?_
        refine WP_region ?_
        refine S_v E rfl (R_move E rfl) rfl ?_
        clear E a; intro a E
        refine S_v E rfl (R_convx E rfl Try.underlying23 Try.underlying3 (by omega)) rfl ?_
        clear E a; intro a E
        refine S_v E rfl (R_move E rfl) rfl ?_
        clear E a; intro a E
        refine S_v E rfl (R_assign E rfl) rfl ?_
        clear E a; intro a E
        refine S_v E rfl (R_assign E rfl) rfl ?_
        clear E a; intro a E
        refine WL_nil ?_
        refine T_n ?_
        refine WP_seq ?_
        refine WP_seq ?_
        refine WP_region ?_
        refine S_v E rfl (R_move E rfl) rfl ?_
        clear E a; intro a E
        refine S_v E rfl (R_geq E rfl rfl) rfl ?_
        clear E a; intro a E
        refine S_v E rfl (R_move E rfl) rfl ?_
        clear E a; intro a E
        refine split_bool (decide (0 ≤ x1)) (fun hc_29 => ?_) (fun hc_29 => ?_)
        · replace E := E.val (t := 111) rfl hc_29
          replace E := E.val (t := 112) rfl hc_29
          replace hc_29 := of_decide_eq_true hc_29
          refine WL_guard_yes E rfl rfl ?_
          refine S_v E rfl (R_move E rfl) rfl ?_
          clear E a; intro a E
          refine WL_guard_yes E rfl rfl ?_
          refine S_v E rfl (R_move E rfl) rfl ?_
          clear E a; intro a E
          refine WL_guard_yes E rfl rfl ?_
          refine S_v E rfl (R_lenV E rfl T22 h0.len) rfl ?_
          clear E a; intro a E
          refine WL_guard_yes E rfl rfl ?_
          refine S_v E rfl (R_lss E rfl rfl) rfl ?_
          clear E a; intro a E
          refine S_v E rfl (R_pickT E rfl rfl) rfl ?_
          clear E a; intro a E
          refine WL_nil ?_
          refine T_n ?_
          refine WP_cond E rfl (fun hc_30 => ?_) (fun hc_30 => ?_)
          · replace hc_30 := of_decide_eq_true hc_30
            refine WP_region ?_
            refine S_v E rfl (R_move E rfl) rfl ?_
            clear E a; intro a E
            refine S_v E rfl (R_move E rfl) rfl ?_
            clear E a; intro a E
            obtain ⟨x_31, hx_31⟩ : ∃ x, (l0)[(x1).toNat]? = some x := ⟨_, List.getElem?_eq_getElem (by (first | omega | (cases l0 <;> simp_all; done) | (cases l0 <;> simp_all <;> omega)))⟩
            obtain ⟨p_32, hp_32, qp_32⟩ := h0.at hx_31
            refine S_v E rfl (R_idx E rfl rfl T22 hp_32 (by omega)) rfl ?_
            clear E a; intro a E
            refine S_v E rfl (R_loadM E rfl Try.isAgg3 S.imm qp_32) rfl ?_
            clear E a; intro a E
            refine S_v E rfl (R_assign E rfl) rfl ?_
            clear E a; intro a E
            refine WL_nil ?_
            refine T_n ?_
            refine WP_seq ?_
            refine WP_seq ?_
            refine WP_region ?_
            refine S_v E rfl (R_move E rfl) rfl ?_
            clear E a; intro a E
            refine S_v E rfl (R_lss E rfl rfl) rfl ?_
            clear E a; intro a E
            refine S_v E rfl (R_move E rfl) rfl ?_
            clear E a; intro a E
            refine split_bool (decide (x1 < 0)) (fun hc_33 => ?_) (fun hc_33 => ?_)
            · replace E := E.val (t := 123) rfl hc_33
              replace E := E.val (t := 124) rfl hc_33
              replace hc_33 := of_decide_eq_true hc_33
              refine WL_guard_yes E rfl rfl ?_
              refine S_v E rfl (R_move E rfl) rfl ?_
              clear E a; intro a E
              refine WL_guard_yes E rfl rfl ?_
              refine S_v E rfl (R_negx (m := -x1) E rfl rfl (by omega)) rfl ?_
              clear E a; intro a E
              refine WL_guard_yes E rfl rfl ?_
              refine S_v E rfl (R_move E rfl) rfl ?_
              clear E a; intro a E
              refine WL_guard_yes E rfl rfl ?_
              refine S_v E rfl (R_lenV E rfl T22 h0.len) rfl ?_
              clear E a; intro a E
              refine WL_guard_yes E rfl rfl ?_
              refine S_v E rfl (R_leq E rfl rfl) rfl ?_
              clear E a; intro a E
              refine S_v E rfl (R_pickT E rfl rfl) rfl ?_
              clear E a; intro a E
              refine WL_nil ?_
              refine T_n ?_
              refine WP_cond E rfl (fun hc_34 => ?_) (fun hc_34 => ?_)
              · replace hc_34 := of_decide_eq_true hc_34
                refine WP_region ?_
                refine S_v E rfl (R_move E rfl) rfl ?_
                clear E a; intro a E
                refine S_v E rfl (R_move E rfl) rfl ?_
                clear E a; intro a E
                refine S_v E rfl (R_lenV E rfl T22 h0.len) rfl ?_
                clear E a; intro a E
                refine S_v E rfl (R_move E rfl) rfl ?_
                clear E a; intro a E
                refine S_v E rfl (R_addx (m := (((l0).length : Nat) : Int) + x1) E rfl rfl (by omega) (by omega)) rfl ?_
                clear E a; intro a E
                obtain ⟨x_35, hx_35⟩ : ∃ x, (l0)[((((l0).length : Nat) : Int) + x1).toNat]? = some x := ⟨_, List.getElem?_eq_getElem (by (first | omega | (cases l0 <;> simp_all; done) | (cases l0 <;> simp_all <;> omega)))⟩
                obtain ⟨p_36, hp_36, qp_36⟩ := h0.at hx_35
                refine S_v E rfl (R_idx E rfl rfl T22 hp_36 (by omega)) rfl ?_
                clear E a; intro a E
                refine S_v E rfl (R_loadM E rfl Try.isAgg3 S.imm qp_36) rfl ?_
                clear E a; intro a E
                refine S_v E rfl (R_assign E rfl) rfl ?_
                clear E a; intro a E
                refine WL_nil ?_
                refine T_n ?_
                refine WP_seq ?_
                refine WP_region ?_
                refine S_v E rfl (R_move E rfl) rfl ?_
                clear E a; intro a E
                refine S_v E rfl (R_move E rfl) rfl ?_
                clear E a; intro a E
                refine S_v E rfl (R_move E rfl) rfl ?_
                clear E a; intro a E
                refine S_x (X_pu E S rfl rfl rfl (spec_NthOr h0 (by omega)) (Hp.le.refl _) ?_)
                clear E a S; rintro a _ w M_37 hM_37 rfl S E
                replace h0 := h0.le hM_37
                replace hz_4 := hz_4.le hM_37
                replace hv_8 := hv_8.le hM_37
                refine S_v E rfl (R_move E rfl) rfl ?_
                clear E a; intro a E
                refine S_v E rfl (R_eql E rfl rfl) rfl ?_
                clear E a; intro a E
                refine S_v E rfl (R_move E rfl) rfl ?_
                clear E a; intro a E
                have hc_38 : (decide ((nthL l0 x1).getD x2 = x_35)) = true := by (clear S E; refine decide_eq_true ?_; (try rw [nthS_L (by omega)]); first | (rw [nthL_pos (by omega) (by assumption)]; rfl) | (rw [nthL_neg (by omega) (by omega) (by assumption)]; rfl) | (rw [nthL_none (by omega)]; rfl))
                replace E := E.val (t := 143) rfl hc_38
                replace E := E.val (t := 144) rfl hc_38
                refine WL_guard_yes E rfl rfl ?_
                refine S_v E rfl (R_move E rfl) rfl ?_
                clear E a; intro a E
                refine WL_guard_yes E rfl rfl ?_
                refine S_v E rfl (R_move E rfl) rfl ?_
                clear E a; intro a E
                refine WL_guard_yes E rfl rfl ?_
                refine S_v E rfl (R_move E rfl) rfl ?_
                clear E a; intro a E
                refine WL_guard_yes E rfl rfl ?_
                refine S_x (X_pu E S rfl rfl rfl (impl_NthOr h0 (by omega)) (Hp.le.refl _) ?_)
                clear E a S; rintro a _ w M_39 hM_39 rfl S E
                replace h0 := h0.le hM_39
                replace hz_4 := hz_4.le hM_39
                replace hv_8 := hv_8.le hM_39
                refine WL_guard_yes E rfl rfl ?_
                refine S_v E rfl (R_move E rfl) rfl ?_
                clear E a; intro a E
                refine WL_guard_yes E rfl rfl ?_
                refine S_v E rfl (R_eql E rfl rfl) rfl ?_
                clear E a; intro a E
                refine S_v E rfl (R_pickT E rfl rfl) rfl ?_
                clear E a; intro a E
                refine S_v E rfl (R_move E rfl) rfl ?_
                clear E a; intro a E
                have hc_40 : (decide ((nthL l0 x1).getD x2 = x_35)) = true := by (clear S E; refine decide_eq_true ?_; (try rw [nthS_L (by omega)]); first | (rw [nthL_pos (by omega) (by assumption)]; rfl) | (rw [nthL_neg (by omega) (by omega) (by assumption)]; rfl) | (rw [nthL_none (by omega)]; rfl))
                replace E := E.val (t := 150) rfl hc_40
                replace E := E.val (t := 151) rfl hc_40
                replace E := E.val (t := 152) rfl hc_40
                refine WL_guard_yes E rfl rfl ?_
                refine S_v E rfl (R_move E rfl) rfl ?_
                clear E a; intro a E
                refine WL_guard_yes E rfl rfl ?_
                refine S_v E rfl (R_lss E rfl rfl) rfl ?_
                clear E a; intro a E
                refine WL_guard_yes E rfl rfl ?_
                refine S_v E rfl (R_move E rfl) rfl ?_
                clear E a; intro a E
                refine split_bool (decide (x1 < 0)) (fun hc_41 => ?_) (fun hc_41 => ?_)
                · replace E := E.val (t := 154) rfl hc_41
                  replace E := E.val (t := 155) rfl hc_41
                  replace hc_41 := of_decide_eq_true hc_41
                  refine WL_guard_no E rfl rfl rfl rfl fun a E => ?_
                  refine WL_guard_no E rfl rfl rfl rfl fun a E => ?_
                  refine WL_guard_no E rfl rfl rfl rfl fun a E => ?_
                  refine WL_guard_no E rfl rfl rfl rfl fun a E => ?_
                  refine WL_guard_no E rfl rfl rfl rfl fun a E => ?_
                  refine WL_guard_no E rfl rfl rfl rfl fun a E => ?_
                  refine WL_guard_yes E rfl rfl ?_
                  refine S_v E rfl (R_pickT E rfl rfl) rfl ?_
                  clear E a; intro a E
                  refine S_v E rfl (R_pickT E rfl rfl) rfl ?_
                  clear E a; intro a E
                  refine S_v E rfl (R_assign E rfl) rfl ?_
                  clear E a; intro a E
                  refine WL_nil ?_
                  refine T_n ?_
                  refine WP_ret ?_
                  exact F_ret1 E Try.results4 rfl ⟨_, rfl, M_39, (hM_3.trans (hM_5.trans (hM_9.trans (hM_10.trans (hM_12.trans (hM_13.trans (hM_14.trans (hM_15.trans (hM_37.trans hM_39))))))))), rfl, S⟩
                · replace E := E.val (t := 154) rfl hc_41
                  replace E := E.val (t := 155) rfl hc_41
                  replace hc_41 := of_decide_eq_false hc_41
                  refine WL_guard_yes E rfl rfl ?_
                  refine S_v E rfl (R_move E rfl) rfl ?_
                  clear E a; intro a E
                  refine WL_guard_yes E rfl rfl ?_
                  refine S_v E rfl (R_move E rfl) rfl ?_
                  clear E a; intro a E
                  refine WL_guard_yes E rfl rfl ?_
                  refine S_v E rfl (R_move E rfl) rfl ?_
                  clear E a; intro a E
                  refine WL_guard_yes E rfl rfl ?_
                  refine S_x (X_pu E S rfl rfl rfl (impl_NthOrSeq h0 (by omega)) (Hp.le.refl _) ?_)
                  clear E a S; rintro a _ w M_42 hM_42 rfl S E
                  replace h0 := h0.le hM_42
                  replace hz_4 := hz_4.le hM_42
                  replace hv_8 := hv_8.le hM_42
                  refine WL_guard_yes E rfl rfl ?_
                  refine S_v E rfl (R_move E rfl) rfl ?_
                  clear E a; intro a E
                  refine WL_guard_yes E rfl rfl ?_
                  refine S_v E rfl (R_eql E rfl rfl) rfl ?_
                  clear E a; intro a E
                  refine WL_guard_yes E rfl rfl ?_
                  refine S_v E rfl (R_pickF E rfl rfl) rfl ?_
                  clear E a; intro a E
                  refine S_v E rfl (R_pickT E rfl rfl) rfl ?_
                  clear E a; intro a E
                  refine S_v E rfl (R_assign E rfl) rfl ?_
                  clear E a; intro a E
                  refine WL_nil ?_
                  refine T_n ?_
                  refine WP_ret ?_
                  exact F_ret1 E Try.results4 rfl ⟨_, rfl, M_42, (hM_3.trans (hM_5.trans (hM_9.trans (hM_10.trans (hM_12.trans (hM_13.trans (hM_14.trans (hM_15.trans (hM_37.trans (hM_39.trans hM_42)))))))))), (congrArg Value.bool (by (clear S E; refine decide_eq_true ?_; (try rw [nthS_L (by omega)]); first | (rw [nthL_pos (by omega) (by assumption)]; rfl) | (rw [nthL_neg (by omega) (by omega) (by assumption)]; rfl) | (rw [nthL_none (by omega)]; rfl)))), S⟩
              · replace hc_34 := of_decide_eq_false hc_34
                refine WP_skip ?_
                refine T_n ?_
                refine WP_seq ?_
                refine WP_region ?_
                refine S_v E rfl (R_move E rfl) rfl ?_
                clear E a; intro a E
                refine S_v E rfl (R_move E rfl) rfl ?_
                clear E a; intro a E
                refine S_v E rfl (R_move E rfl) rfl ?_
                clear E a; intro a E
                refine S_x (X_pu E S rfl rfl rfl (spec_NthOr h0 (by omega)) (Hp.le.refl _) ?_)
                clear E a S; rintro a _ w M_43 hM_43 rfl S E
                replace h0 := h0.le hM_43
                replace hz_4 := hz_4.le hM_43
                replace hv_8 := hv_8.le hM_43
                refine S_v E rfl (R_move E rfl) rfl ?_
                clear E a; intro a E
                refine S_v E rfl (R_eql E rfl rfl) rfl ?_
                clear E a; intro a E
                refine S_v E rfl (R_move E rfl) rfl ?_
                clear E a; intro a E
                have hc_44 : (decide ((nthL l0 x1).getD x2 = x_31)) = true := by (clear S E; refine decide_eq_true ?_; (try rw [nthS_L (by omega)]); first | (rw [nthL_pos (by omega) (by assumption)]; rfl) | (rw [nthL_neg (by omega) (by omega) (by assumption)]; rfl) | (rw [nthL_none (by omega)]; rfl))
                replace E := E.val (t := 143) rfl hc_44
                replace E := E.val (t := 144) rfl hc_44
                refine WL_guard_yes E rfl rfl ?_
                refine S_v E rfl (R_move E rfl) rfl ?_
                clear E a; intro a E
                refine WL_guard_yes E rfl rfl ?_
                refine S_v E rfl (R_move E rfl) rfl ?_
                clear E a; intro a E
                refine WL_guard_yes E rfl rfl ?_
                refine S_v E rfl (R_move E rfl) rfl ?_
                clear E a; intro a E
                refine WL_guard_yes E rfl rfl ?_
                refine S_x (X_pu E S rfl rfl rfl (impl_NthOr h0 (by omega)) (Hp.le.refl _) ?_)
                clear E a S; rintro a _ w M_45 hM_45 rfl S E
                replace h0 := h0.le hM_45
                replace hz_4 := hz_4.le hM_45
                replace hv_8 := hv_8.le hM_45
                refine WL_guard_yes E rfl rfl ?_
                refine S_v E rfl (R_move E rfl) rfl ?_
                clear E a; intro a E
                refine WL_guard_yes E rfl rfl ?_
                refine S_v E rfl (R_eql E rfl rfl) rfl ?_
                clear E a; intro a E
                refine S_v E rfl (R_pickT E rfl rfl) rfl ?_
                clear E a; intro a E
                refine S_v E rfl (R_move E rfl) rfl ?_
                clear E a; intro a E
                have hc_46 : (decide ((nthL l0 x1).getD x2 = x_31)) = true := by (clear S E; refine decide_eq_true ?_; (try rw [nthS_L (by omega)]); first | (rw [nthL_pos (by omega) (by assumption)]; rfl) | (rw [nthL_neg (by omega) (by omega) (by assumption)]; rfl) | (rw [nthL_none (by omega)]; rfl))
                replace E := E.val (t := 150) rfl hc_46
                replace E := E.val (t := 151) rfl hc_46
                replace E := E.val (t := 152) rfl hc_46
                refine WL_guard_yes E rfl rfl ?_
                refine S_v E rfl (R_move E rfl) rfl ?_
                clear E a; intro a E
                refine WL_guard_yes E rfl rfl ?_
                refine S_v E rfl (R_lss E rfl rfl) rfl ?_
                clear E a; intro a E
                refine WL_guard_yes E rfl rfl ?_
                refine S_v E rfl (R_move E rfl) rfl ?_
                clear E a; intro a E
                refine split_bool (decide (x1 < 0)) (fun hc_47 => ?_) (fun hc_47 => ?_)
                · replace E := E.val (t := 154) rfl hc_47
                  replace E := E.val (t := 155) rfl hc_47
                  replace hc_47 := of_decide_eq_true hc_47
                  refine WL_guard_no E rfl rfl rfl rfl fun a E => ?_
                  refine WL_guard_no E rfl rfl rfl rfl fun a E => ?_
                  refine WL_guard_no E rfl rfl rfl rfl fun a E => ?_
                  refine WL_guard_no E rfl rfl rfl rfl fun a E => ?_
                  refine WL_guard_no E rfl rfl rfl rfl fun a E => ?_
                  refine WL_guard_no E rfl rfl rfl rfl fun a E => ?_
                  refine WL_guard_yes E rfl rfl ?_
                  refine S_v E rfl (R_pickT E rfl rfl) rfl ?_
                  clear E a; intro a E
                  refine S_v E rfl (R_pickT E rfl rfl) rfl ?_
                  clear E a; intro a E
                  refine S_v E rfl (R_assign E rfl) rfl ?_
                  clear E a; intro a E
                  refine WL_nil ?_
                  refine T_n ?_
                  refine WP_ret ?_
                  exact F_ret1 E Try.results4 rfl ⟨_, rfl, M_45, (hM_3.trans (hM_5.trans (hM_9.trans (hM_10.trans (hM_12.trans (hM_13.trans (hM_14.trans (hM_15.trans (hM_43.trans hM_45))))))))), rfl, S⟩
                · replace E := E.val (t := 154) rfl hc_47
                  replace E := E.val (t := 155) rfl hc_47
                  replace hc_47 := of_decide_eq_false hc_47
                  refine WL_guard_yes E rfl rfl ?_
                  refine S_v E rfl (R_move E rfl) rfl ?_
                  clear E a; intro a E
                  refine WL_guard_yes E rfl rfl ?_
                  refine S_v E rfl (R_move E rfl) rfl ?_
                  clear E a; intro a E
                  refine WL_guard_yes E rfl rfl ?_
                  refine S_v E rfl (R_move E rfl) rfl ?_
                  clear E a; intro a E
                  refine WL_guard_yes E rfl rfl ?_
                  refine S_x (X_pu E S rfl rfl rfl (impl_NthOrSeq h0 (by omega)) (Hp.le.refl _) ?_)
                  clear E a S; rintro a _ w M_48 hM_48 rfl S E
                  replace h0 := h0.le hM_48
                  replace hz_4 := hz_4.le hM_48
                  replace hv_8 := hv_8.le hM_48
                  refine WL_guard_yes E rfl rfl ?_
                  refine S_v E rfl (R_move E rfl) rfl ?_
                  clear E a; intro a E
                  refine WL_guard_yes E rfl rfl ?_
                  refine S_v E rfl (R_eql E rfl rfl) rfl ?_
                  clear E a; intro a E
                  refine WL_guard_yes E rfl rfl ?_
                  refine S_v E rfl (R_pickF E rfl rfl) rfl ?_
                  clear E a; intro a E
                  refine S_v E rfl (R_pickT E rfl rfl) rfl ?_
                  clear E a; intro a E
                  refine S_v E rfl (R_assign E rfl) rfl ?_
                  clear E a; intro a E
                  refine WL_nil ?_
                  refine T_n ?_
                  refine WP_ret ?_
                  exact F_ret1 E Try.results4 rfl ⟨_, rfl, M_48, (hM_3.trans (hM_5.trans (hM_9.trans (hM_10.trans (hM_12.trans (hM_13.trans (hM_14.trans (hM_15.trans (hM_43.trans (hM_45.trans hM_48)))))))))), (congrArg Value.bool (by (clear S E; refine decide_eq_true ?_; (try rw [nthS_L (by omega)]); first | (rw [nthL_pos (by omega) (by assumption)]; rfl) | (rw [nthL_neg (by omega) (by omega) (by assumption)]; rfl) | (rw [nthL_none (by omega)]; rfl)))), S⟩
            · replace E := E.val (t := 123) rfl hc_33
              replace E := E.val (t := 124) rfl hc_33
              replace hc_33 := of_decide_eq_false hc_33
              refine WL_guard_no E rfl rfl rfl rfl fun a E => ?_
              refine WL_guard_no E rfl rfl rfl rfl fun a E => ?_
              refine WL_guard_no E rfl rfl rfl rfl fun a E => ?_
              refine WL_guard_no E rfl rfl rfl rfl fun a E => ?_
              refine WL_guard_no E rfl rfl rfl rfl fun a E => ?_
              refine S_v E rfl (R_pickF E rfl rfl) rfl ?_
              clear E a; intro a E
              refine WL_nil ?_
              refine T_n ?_
              refine WP_condF E rfl rfl ?_
              refine WP_skip ?_
              refine T_n ?_
              refine WP_seq ?_
              refine WP_region ?_
              refine S_v E rfl (R_move E rfl) rfl ?_
              clear E a; intro a E
              refine S_v E rfl (R_move E rfl) rfl ?_
              clear E a; intro a E
              refine S_v E rfl (R_move E rfl) rfl ?_
              clear E a; intro a E
              refine S_x (X_pu E S rfl rfl rfl (spec_NthOr h0 (by omega)) (Hp.le.refl _) ?_)
              clear E a S; rintro a _ w M_49 hM_49 rfl S E
              replace h0 := h0.le hM_49
              replace hz_4 := hz_4.le hM_49
              replace hv_8 := hv_8.le hM_49
              refine S_v E rfl (R_move E rfl) rfl ?_
              clear E a; intro a E
              refine S_v E rfl (R_eql E rfl rfl) rfl ?_
              clear E a; intro a E
              refine S_v E rfl (R_move E rfl) rfl ?_
              clear E a; intro a E
              have hc_50 : (decide ((nthL l0 x1).getD x2 = x_31)) = true := by (clear S E; refine decide_eq_true ?_; (try rw [nthS_L (by omega)]); first | (rw [nthL_pos (by omega) (by assumption)]; rfl) | (rw [nthL_neg (by omega) (by omega) (by assumption)]; rfl) | (rw [nthL_none (by omega)]; rfl))
              replace E := E.val (t := 143) rfl hc_50
              replace E := E.val (t := 144) rfl hc_50
              refine WL_guard_yes E rfl rfl ?_
              refine S_v E rfl (R_move E rfl) rfl ?_
              clear E a; intro a E
              refine WL_guard_yes E rfl rfl ?_
              refine S_v E rfl (R_move E rfl) rfl ?_
              clear E a; intro a E
              refine WL_guard_yes E rfl rfl ?_
              refine S_v E rfl (R_move E rfl) rfl ?_
              clear E a; intro a E
              refine WL_guard_yes E rfl rfl ?_
              refine S_x (X_pu E S rfl rfl rfl (impl_NthOr h0 (by omega)) (Hp.le.refl _) ?_)
              clear E a S; rintro a _ w M_51 hM_51 rfl S E
              replace h0 := h0.le hM_51
              replace hz_4 := hz_4.le hM_51
              replace hv_8 := hv_8.le hM_51
              refine WL_guard_yes E rfl rfl ?_
              refine S_v E rfl (R_move E rfl) rfl ?_
              clear E a; intro a E
              refine WL_guard_yes E rfl rfl ?_
              refine S_v E rfl (R_eql E rfl rfl) rfl ?_
              clear E a; intro a E
              refine S_v E rfl (R_pickT E rfl rfl) rfl ?_
              clear E a; intro a E
              refine S_v E rfl (R_move E rfl) rfl ?_
              clear E a; intro a E
              have hc_52 : (decide ((nthL l0 x1).getD x2 = x_31)) = true := by (clear S E; refine decide_eq_true ?_; (try rw [nthS_L (by omega)]); first | (rw [nthL_pos (by omega) (by assumption)]; rfl) | (rw [nthL_neg (by omega) (by omega) (by assumption)]; rfl) | (rw [nthL_none (by omega)]; rfl))
              replace E := E.val (t := 150) rfl hc_52
              replace E := E.val (t := 151) rfl hc_52
              replace E := E.val (t := 152) rfl hc_52
              refine WL_guard_yes E rfl rfl ?_
              refine S_v E rfl (R_move E rfl) rfl ?_
              clear E a; intro a E
              refine WL_guard_yes E rfl rfl ?_
              refine S_v E rfl (R_lss E rfl rfl) rfl ?_
              clear E a; intro a E
              refine WL_guard_yes E rfl rfl ?_
              refine S_v E rfl (R_move E rfl) rfl ?_
              clear E a; intro a E
              refine split_bool (decide (x1 < 0)) (fun hc_53 => ?_) (fun hc_53 => ?_)
              · replace E := E.val (t := 154) rfl hc_53
                replace E := E.val (t := 155) rfl hc_53
                replace hc_53 := of_decide_eq_true hc_53
                refine WL_guard_no E rfl rfl rfl rfl fun a E => ?_
                refine WL_guard_no E rfl rfl rfl rfl fun a E => ?_
                refine WL_guard_no E rfl rfl rfl rfl fun a E => ?_
                refine WL_guard_no E rfl rfl rfl rfl fun a E => ?_
                refine WL_guard_no E rfl rfl rfl rfl fun a E => ?_
                refine WL_guard_no E rfl rfl rfl rfl fun a E => ?_
                refine WL_guard_yes E rfl rfl ?_
                refine S_v E rfl (R_pickT E rfl rfl) rfl ?_
                clear E a; intro a E
                refine S_v E rfl (R_pickT E rfl rfl) rfl ?_
                clear E a; intro a E
                refine S_v E rfl (R_assign E rfl) rfl ?_
                clear E a; intro a E
                refine WL_nil ?_
                refine T_n ?_
                refine WP_ret ?_
                exact F_ret1 E Try.results4 rfl ⟨_, rfl, M_51, (hM_3.trans (hM_5.trans (hM_9.trans (hM_10.trans (hM_12.trans (hM_13.trans (hM_14.trans (hM_15.trans (hM_49.trans hM_51))))))))), rfl, S⟩
              · replace E := E.val (t := 154) rfl hc_53
                replace E := E.val (t := 155) rfl hc_53
                replace hc_53 := of_decide_eq_false hc_53
                refine WL_guard_yes E rfl rfl ?_
                refine S_v E rfl (R_move E rfl) rfl ?_
                clear E a; intro a E
                refine WL_guard_yes E rfl rfl ?_
                refine S_v E rfl (R_move E rfl) rfl ?_
                clear E a; intro a E
                refine WL_guard_yes E rfl rfl ?_
                refine S_v E rfl (R_move E rfl) rfl ?_
                clear E a; intro a E
                refine WL_guard_yes E rfl rfl ?_
                refine S_x (X_pu E S rfl rfl rfl (impl_NthOrSeq h0 (by omega)) (Hp.le.refl _) ?_)
                clear E a S; rintro a _ w M_54 hM_54 rfl S E
                replace h0 := h0.le hM_54
                replace hz_4 := hz_4.le hM_54
                replace hv_8 := hv_8.le hM_54
                refine WL_guard_yes E rfl rfl ?_
                refine S_v E rfl (R_move E rfl) rfl ?_
                clear E a; intro a E
                refine WL_guard_yes E rfl rfl ?_
                refine S_v E rfl (R_eql E rfl rfl) rfl ?_
                clear E a; intro a E
                refine WL_guard_yes E rfl rfl ?_
                refine S_v E rfl (R_pickF E rfl rfl) rfl ?_
                clear E a; intro a E
                refine S_v E rfl (R_pickT E rfl rfl) rfl ?_
                clear E a; intro a E
                refine S_v E rfl (R_assign E rfl) rfl ?_
                clear E a; intro a E
                refine WL_nil ?_
                refine T_n ?_
                refine WP_ret ?_
                exact F_ret1 E Try.results4 rfl ⟨_, rfl, M_54, (hM_3.trans (hM_5.trans (hM_9.trans (hM_10.trans (hM_12.trans (hM_13.trans (hM_14.trans (hM_15.trans (hM_49.trans (hM_51.trans hM_54)))))))))), (congrArg Value.bool (by (clear S E; refine decide_eq_true ?_; (try rw [nthS_L (by omega)]); first | (rw [nthL_pos (by omega) (by assumption)]; rfl) | (rw [nthL_neg (by omega) (by omega) (by assumption)]; rfl) | (rw [nthL_none (by omega)]; rfl)))), S⟩
          · replace hc_30 := of_decide_eq_false hc_30
            refine WP_skip ?_
            refine T_n ?_
            refine WP_seq ?_
            refine WP_seq ?_
            refine WP_region ?_
            refine S_v E rfl (R_move E rfl) rfl ?_
            clear E a; intro a E
            refine S_v E rfl (R_lss E rfl rfl) rfl ?_
            clear E a; intro a E
            refine S_v E rfl (R_move E rfl) rfl ?_
            clear E a; intro a E
            refine split_bool (decide (x1 < 0)) (fun hc_55 => ?_) (fun hc_55 => ?_)
            · replace E := E.val (t := 123) rfl hc_55
              replace E := E.val (t := 124) rfl hc_55
              replace hc_55 := of_decide_eq_true hc_55
              refine WL_guard_yes E rfl rfl ?_
              refine S_v E rfl (R_move E rfl) rfl ?_
              clear E a; intro a E
              refine WL_guard_yes E rfl rfl ?_
              refine S_v E rfl (R_negx (m := -x1) E rfl rfl (by omega)) rfl ?_
              clear E a; intro a E
              refine WL_guard_yes E rfl rfl ?_
              refine S_v E rfl (R_move E rfl) rfl ?_
              clear E a; intro a E
              refine WL_guard_yes E rfl rfl ?_
              refine S_v E rfl (R_lenV E rfl T22 h0.len) rfl ?_
              clear E a; intro a E
              refine WL_guard_yes E rfl rfl ?_
              refine S_v E rfl (R_leq E rfl rfl) rfl ?_
              clear E a; intro a E
              refine S_v E rfl (R_pickT E rfl rfl) rfl ?_
              clear E a; intro a E
              refine WL_nil ?_
              refine T_n ?_
              refine WP_cond E rfl (fun hc_56 => ?_) (fun hc_56 => ?_)
              · replace hc_56 := of_decide_eq_true hc_56
                refine WP_region ?_
                refine S_v E rfl (R_move E rfl) rfl ?_
                clear E a; intro a E
                refine S_v E rfl (R_move E rfl) rfl ?_
                clear E a; intro a E
                refine S_v E rfl (R_lenV E rfl T22 h0.len) rfl ?_
                clear E a; intro a E
                refine S_v E rfl (R_move E rfl) rfl ?_
                clear E a; intro a E
                refine S_v E rfl (R_addx (m := (((l0).length : Nat) : Int) + x1) E rfl rfl (by omega) (by omega)) rfl ?_
                clear E a; intro a E
                obtain ⟨x_57, hx_57⟩ : ∃ x, (l0)[((((l0).length : Nat) : Int) + x1).toNat]? = some x := ⟨_, List.getElem?_eq_getElem (by (first | omega | (cases l0 <;> simp_all; done) | (cases l0 <;> simp_all <;> omega)))⟩
                obtain ⟨p_58, hp_58, qp_58⟩ := h0.at hx_57
                refine S_v E rfl (R_idx E rfl rfl T22 hp_58 (by omega)) rfl ?_
                clear E a; intro a E
                refine S_v E rfl (R_loadM E rfl Try.isAgg3 S.imm qp_58) rfl ?_
                clear E a; intro a E
                refine S_v E rfl (R_assign E rfl) rfl ?_
                clear E a; intro a E
                refine WL_nil ?_
                refine T_n ?_
                refine WP_seq ?_
                refine WP_region ?_
                refine S_v E rfl (R_move E rfl) rfl ?_
                clear E a; intro a E
                refine S_v E rfl (R_move E rfl) rfl ?_
                clear E a; intro a E
                refine S_v E rfl (R_move E rfl) rfl ?_
                clear E a; intro a E
                refine S_x (X_pu E S rfl rfl rfl (spec_NthOr h0 (by omega)) (Hp.le.refl _) ?_)
                clear E a S; rintro a _ w M_59 hM_59 rfl S E
                replace h0 := h0.le hM_59
                replace hz_4 := hz_4.le hM_59
                replace hv_8 := hv_8.le hM_59
                refine S_v E rfl (R_move E rfl) rfl ?_
                clear E a; intro a E
                refine S_v E rfl (R_eql E rfl rfl) rfl ?_
                clear E a; intro a E
                refine S_v E rfl (R_move E rfl) rfl ?_
                clear E a; intro a E
                have hc_60 : (decide ((nthL l0 x1).getD x2 = x_57)) = true := by (clear S E; refine decide_eq_true ?_; (try rw [nthS_L (by omega)]); first | (rw [nthL_pos (by omega) (by assumption)]; rfl) | (rw [nthL_neg (by omega) (by omega) (by assumption)]; rfl) | (rw [nthL_none (by omega)]; rfl))
                replace E := E.val (t := 143) rfl hc_60
                replace E := E.val (t := 144) rfl hc_60
                refine WL_guard_yes E rfl rfl ?_
                refine S_v E rfl (R_move E rfl) rfl ?_
                clear E a; intro a E
                refine WL_guard_yes E rfl rfl ?_
                refine S_v E rfl (R_move E rfl) rfl ?_
                clear E a; intro a E
                refine WL_guard_yes E rfl rfl ?_
                refine S_v E rfl (R_move E rfl) rfl ?_
                clear E a; intro a E
                refine WL_guard_yes E rfl rfl ?_
                refine S_x (X_pu E S rfl rfl rfl (impl_NthOr h0 (by omega)) (Hp.le.refl _) ?_)
                clear E a S; rintro a _ w M_61 hM_61 rfl S E
                replace h0 := h0.le hM_61
                replace hz_4 := hz_4.le hM_61
                replace hv_8 := hv_8.le hM_61
                refine WL_guard_yes E rfl rfl ?_
                refine S_v E rfl (R_move E rfl) rfl ?_
                clear E a; intro a E
                refine WL_guard_yes E rfl rfl ?_
                refine S_v E rfl (R_eql E rfl rfl) rfl ?_
                clear E a; intro a E
                refine S_v E rfl (R_pickT E rfl rfl) rfl ?_
                clear E a; intro a E
                refine S_v E rfl (R_move E rfl) rfl ?_
                clear E a; intro a E
                have hc_62 : (decide ((nthL l0 x1).getD x2 = x_57)) = true := by (clear S E; refine decide_eq_true ?_; (try rw [nthS_L (by omega)]); first | (rw [nthL_pos (by omega) (by assumption)]; rfl) | (rw [nthL_neg (by omega) (by omega) (by assumption)]; rfl) | (rw [nthL_none (by omega)]; rfl))
                replace E := E.val (t := 150) rfl hc_62
                replace E := E.val (t := 151) rfl hc_62
                replace E := E.val (t := 152) rfl hc_62
                refine WL_guard_yes E rfl rfl ?_
                refine S_v E rfl (R_move E rfl) rfl ?_
                clear E a; intro a E
                refine WL_guard_yes E rfl rfl ?_
                refine S_v E rfl (R_lss E rfl rfl) rfl ?_
                clear E a; intro a E
                refine WL_guard_yes E rfl rfl ?_
                refine S_v E rfl (R_move E rfl) rfl ?_
                clear E a; intro a E
                refine split_bool (decide (x1 < 0)) (fun hc_63 => ?_) (fun hc_63 => ?_)
                · replace E := E.val (t := 154) rfl hc_63
                  replace E := E.val (t := 155) rfl hc_63
                  replace hc_63 := of_decide_eq_true hc_63
                  refine WL_guard_no E rfl rfl rfl rfl fun a E => ?_
                  refine WL_guard_no E rfl rfl rfl rfl fun a E => ?_
                  refine WL_guard_no E rfl rfl rfl rfl fun a E => ?_
                  refine WL_guard_no E rfl rfl rfl rfl fun a E => ?_
                  refine WL_guard_no E rfl rfl rfl rfl fun a E => ?_
                  refine WL_guard_no E rfl rfl rfl rfl fun a E => ?_
                  refine WL_guard_yes E rfl rfl ?_
                  refine S_v E rfl (R_pickT E rfl rfl) rfl ?_
                  clear E a; intro a E
                  refine S_v E rfl (R_pickT E rfl rfl) rfl ?_
                  clear E a; intro a E
                  refine S_v E rfl (R_assign E rfl) rfl ?_
                  clear E a; intro a E
                  refine WL_nil ?_
                  refine T_n ?_
                  refine WP_ret ?_
                  exact F_ret1 E Try.results4 rfl ⟨_, rfl, M_61, (hM_3.trans (hM_5.trans (hM_9.trans (hM_10.trans (hM_12.trans (hM_13.trans (hM_14.trans (hM_15.trans (hM_59.trans hM_61))))))))), rfl, S⟩
                · replace E := E.val (t := 154) rfl hc_63
                  replace E := E.val (t := 155) rfl hc_63
                  replace hc_63 := of_decide_eq_false hc_63
                  refine WL_guard_yes E rfl rfl ?_
                  refine S_v E rfl (R_move E rfl) rfl ?_
                  clear E a; intro a E
                  refine WL_guard_yes E rfl rfl ?_
                  refine S_v E rfl (R_move E rfl) rfl ?_
                  clear E a; intro a E
                  refine WL_guard_yes E rfl rfl ?_
                  refine S_v E rfl (R_move E rfl) rfl ?_
                  clear E a; intro a E
                  refine WL_guard_yes E rfl rfl ?_
                  refine S_x (X_pu E S rfl rfl rfl (impl_NthOrSeq h0 (by omega)) (Hp.le.refl _) ?_)
                  clear E a S; rintro a _ w M_64 hM_64 rfl S E
                  replace h0 := h0.le hM_64
                  replace hz_4 := hz_4.le hM_64
                  replace hv_8 := hv_8.le hM_64
                  refine WL_guard_yes E rfl rfl ?_
                  refine S_v E rfl (R_move E rfl) rfl ?_
                  clear E a; intro a E
                  refine WL_guard_yes E rfl rfl ?_
                  refine S_v E rfl (R_eql E rfl rfl) rfl ?_
                  clear E a; intro a E
                  refine WL_guard_yes E rfl rfl ?_
                  refine S_v E rfl (R_pickF E rfl rfl) rfl ?_
                  clear E a; intro a E
                  refine S_v E rfl (R_pickT E rfl rfl) rfl ?_
                  clear E a; intro a E
                  refine S_v E rfl (R_assign E rfl) rfl ?_
                  clear E a; intro a E
                  refine WL_nil ?_
                  refine T_n ?_
                  refine WP_ret ?_
                  exact F_ret1 E Try.results4 rfl ⟨_, rfl, M_64, (hM_3.trans (hM_5.trans (hM_9.trans (hM_10.trans (hM_12.trans (hM_13.trans (hM_14.trans (hM_15.trans (hM_59.trans (hM_61.trans hM_64)))))))))), (congrArg Value.bool (by (clear S E; refine decide_eq_true ?_; (try rw [nthS_L (by omega)]); first | (rw [nthL_pos (by omega) (by assumption)]; rfl) | (rw [nthL_neg (by omega) (by omega) (by assumption)]; rfl) | (rw [nthL_none (by omega)]; rfl)))), S⟩
              · replace hc_56 := of_decide_eq_false hc_56
                refine WP_skip ?_
                refine T_n ?_
                refine WP_seq ?_
                refine WP_region ?_
                refine S_v E rfl (R_move E rfl) rfl ?_
                clear E a; intro a E
                refine S_v E rfl (R_move E rfl) rfl ?_
                clear E a; intro a E
                refine S_v E rfl (R_move E rfl) rfl ?_
                clear E a; intro a E
                refine S_x (X_pu E S rfl rfl rfl (spec_NthOr h0 (by omega)) (Hp.le.refl _) ?_)
                clear E a S; rintro a _ w M_65 hM_65 rfl S E
                replace h0 := h0.le hM_65
                replace hz_4 := hz_4.le hM_65
                replace hv_8 := hv_8.le hM_65
                refine S_v E rfl (R_move E rfl) rfl ?_
                clear E a; intro a E
                refine S_v E rfl (R_eql E rfl rfl) rfl ?_
                clear E a; intro a E
                refine S_v E rfl (R_move E rfl) rfl ?_
                clear E a; intro a E
                have hc_66 : (decide ((nthL l0 x1).getD x2 = x2)) = true := by (clear S E; refine decide_eq_true ?_; (try rw [nthS_L (by omega)]); first | (rw [nthL_pos (by omega) (by assumption)]; rfl) | (rw [nthL_neg (by omega) (by omega) (by assumption)]; rfl) | (rw [nthL_none (by omega)]; rfl))
                replace E := E.val (t := 143) rfl hc_66
                replace E := E.val (t := 144) rfl hc_66
                refine WL_guard_yes E rfl rfl ?_
                refine S_v E rfl (R_move E rfl) rfl ?_
                clear E a; intro a E
                refine WL_guard_yes E rfl rfl ?_
                refine S_v E rfl (R_move E rfl) rfl ?_
                clear E a; intro a E
                refine WL_guard_yes E rfl rfl ?_
                refine S_v E rfl (R_move E rfl) rfl ?_
                clear E a; intro a E
                refine WL_guard_yes E rfl rfl ?_
                refine S_x (X_pu E S rfl rfl rfl (impl_NthOr h0 (by omega)) (Hp.le.refl _) ?_)
                clear E a S; rintro a _ w M_67 hM_67 rfl S E
                replace h0 := h0.le hM_67
                replace hz_4 := hz_4.le hM_67
                replace hv_8 := hv_8.le hM_67
                refine WL_guard_yes E rfl rfl ?_
                refine S_v E rfl (R_move E rfl) rfl ?_
                clear E a; intro a E
                refine WL_guard_yes E rfl rfl ?_
                refine S_v E rfl (R_eql E rfl rfl) rfl ?_
                clear E a; intro a E
                refine S_v E rfl (R_pickT E rfl rfl) rfl ?_
                clear E a; intro a E
                refine S_v E rfl (R_move E rfl) rfl ?_
                clear E a; intro a E
                have hc_68 : (decide ((nthL l0 x1).getD x2 = x2)) = true := by (clear S E; refine decide_eq_true ?_; (try rw [nthS_L (by omega)]); first | (rw [nthL_pos (by omega) (by assumption)]; rfl) | (rw [nthL_neg (by omega) (by omega) (by assumption)]; rfl) | (rw [nthL_none (by omega)]; rfl))
                replace E := E.val (t := 150) rfl hc_68
                replace E := E.val (t := 151) rfl hc_68
                replace E := E.val (t := 152) rfl hc_68
                refine WL_guard_yes E rfl rfl ?_
                refine S_v E rfl (R_move E rfl) rfl ?_
                clear E a; intro a E
                refine WL_guard_yes E rfl rfl ?_
                refine S_v E rfl (R_lss E rfl rfl) rfl ?_
                clear E a; intro a E
                refine WL_guard_yes E rfl rfl ?_
                refine S_v E rfl (R_move E rfl) rfl ?_
                clear E a; intro a E
                refine split_bool (decide (x1 < 0)) (fun hc_69 => ?_) (fun hc_69 => ?_)
                · replace E := E.val (t := 154) rfl hc_69
                  replace E := E.val (t := 155) rfl hc_69
                  replace hc_69 := of_decide_eq_true hc_69
                  refine WL_guard_no E rfl rfl rfl rfl fun a E => ?_
                  refine WL_guard_no E rfl rfl rfl rfl fun a E => ?_
                  refine WL_guard_no E rfl rfl rfl rfl fun a E => ?_
                  refine WL_guard_no E rfl rfl rfl rfl fun a E => ?_
                  refine WL_guard_no E rfl rfl rfl rfl fun a E => ?_
                  refine WL_guard_no E rfl rfl rfl rfl fun a E => ?_
                  refine WL_guard_yes E rfl rfl ?_
                  refine S_v E rfl (R_pickT E rfl rfl) rfl ?_
                  clear E a; intro a E
                  refine S_v E rfl (R_pickT E rfl rfl) rfl ?_
                  clear E a; intro a E
                  refine S_v E rfl (R_assign E rfl) rfl ?_
                  clear E a; intro a E
                  refine WL_nil ?_
                  refine T_n ?_
                  refine WP_ret ?_
                  exact F_ret1 E Try.results4 rfl ⟨_, rfl, M_67, (hM_3.trans (hM_5.trans (hM_9.trans (hM_10.trans (hM_12.trans (hM_13.trans (hM_14.trans (hM_15.trans (hM_65.trans hM_67))))))))), rfl, S⟩
                · replace E := E.val (t := 154) rfl hc_69
                  replace E := E.val (t := 155) rfl hc_69
                  replace hc_69 := of_decide_eq_false hc_69
                  refine WL_guard_yes E rfl rfl ?_
                  refine S_v E rfl (R_move E rfl) rfl ?_
                  clear E a; intro a E
                  refine WL_guard_yes E rfl rfl ?_
                  refine S_v E rfl (R_move E rfl) rfl ?_
                  clear E a; intro a E
                  refine WL_guard_yes E rfl rfl ?_
                  refine S_v E rfl (R_move E rfl) rfl ?_
                  clear E a; intro a E
                  refine WL_guard_yes E rfl rfl ?_
                  refine S_x (X_pu E S rfl rfl rfl (impl_NthOrSeq h0 (by omega)) (Hp.le.refl _) ?_)
                  clear E a S; rintro a _ w M_70 hM_70 rfl S E
                  replace h0 := h0.le hM_70
                  replace hz_4 := hz_4.le hM_70
                  replace hv_8 := hv_8.le hM_70
                  refine WL_guard_yes E rfl rfl ?_
                  refine S_v E rfl (R_move E rfl) rfl ?_
                  clear E a; intro a E
                  refine WL_guard_yes E rfl rfl ?_
                  refine S_v E rfl (R_eql E rfl rfl) rfl ?_
                  clear E a; intro a E
                  refine WL_guard_yes E rfl rfl ?_
                  refine S_v E rfl (R_pickF E rfl rfl) rfl ?_
                  clear E a; intro a E
                  refine S_v E rfl (R_pickT E rfl rfl) rfl ?_
                  clear E a; intro a E
                  refine S_v E rfl (R_assign E rfl) rfl ?_
                  clear E a; intro a E
                  refine WL_nil ?_
                  refine T_n ?_
                  refine WP_ret ?_
                  exact F_ret1 E Try.results4 rfl ⟨_, rfl, M_70, (hM_3.trans (hM_5.trans (hM_9.trans (hM_10.trans (hM_12.trans (hM_13.trans (hM_14.trans (hM_15.trans (hM_65.trans (hM_67.trans hM_70)))))))))), (congrArg Value.bool (by (clear S E; refine decide_eq_true ?_; (try rw [nthS_L (by omega)]); first | (rw [nthL_pos (by omega) (by assumption)]; rfl) | (rw [nthL_neg (by omega) (by omega) (by assumption)]; rfl) | (rw [nthL_none (by omega)]; rfl)))), S⟩
            · replace E := E.val (t := 123) rfl hc_55
              replace E := E.val (t := 124) rfl hc_55
              replace hc_55 := of_decide_eq_false hc_55
              refine WL_guard_no E rfl rfl rfl rfl fun a E => ?_
              refine WL_guard_no E rfl rfl rfl rfl fun a E => ?_
              refine WL_guard_no E rfl rfl rfl rfl fun a E => ?_
              refine WL_guard_no E rfl rfl rfl rfl fun a E => ?_
              refine WL_guard_no E rfl rfl rfl rfl fun a E => ?_
              refine S_v E rfl (R_pickF E rfl rfl) rfl ?_
              clear E a; intro a E
              refine WL_nil ?_
              refine T_n ?_
              refine WP_condF E rfl rfl ?_
              refine WP_skip ?_
              refine T_n ?_
              refine WP_seq ?_
              refine WP_region ?_
              refine S_v E rfl (R_move E rfl) rfl ?_
              clear E a; intro a E
              refine S_v E rfl (R_move E rfl) rfl ?_
              clear E a; intro a E
              refine S_v E rfl (R_move E rfl) rfl ?_
              clear E a; intro a E
              refine S_x (X_pu E S rfl rfl rfl (spec_NthOr h0 (by omega)) (Hp.le.refl _) ?_)
              clear E a S; rintro a _ w M_71 hM_71 rfl S E
              replace h0 := h0.le hM_71
              replace hz_4 := hz_4.le hM_71
              replace hv_8 := hv_8.le hM_71
              refine S_v E rfl (R_move E rfl) rfl ?_
              clear E a; intro a E
              refine S_v E rfl (R_eql E rfl rfl) rfl ?_
              clear E a; intro a E
              refine S_v E rfl (R_move E rfl) rfl ?_
              clear E a; intro a E
              have hc_72 : (decide ((nthL l0 x1).getD x2 = x2)) = true := by (clear S E; refine decide_eq_true ?_; (try rw [nthS_L (by omega)]); first | (rw [nthL_pos (by omega) (by assumption)]; rfl) | (rw [nthL_neg (by omega) (by omega) (by assumption)]; rfl) | (rw [nthL_none (by omega)]; rfl))
              replace E := E.val (t := 143) rfl hc_72
              replace E := E.val (t := 144) rfl hc_72
              refine WL_guard_yes E rfl rfl ?_
              refine S_v E rfl (R_move E rfl) rfl ?_
              clear E a; intro a E
              refine WL_guard_yes E rfl rfl ?_
              refine S_v E rfl (R_move E rfl) rfl ?_
              clear E a; intro a E
              refine WL_guard_yes E rfl rfl ?_
              refine S_v E rfl (R_move E rfl) rfl ?_
              clear E a; intro a E
              refine WL_guard_yes E rfl rfl ?_
              refine S_x (X_pu E S rfl rfl rfl (impl_NthOr h0 (by omega)) (Hp.le.refl _) ?_)
              clear E a S; rintro a _ w M_73 hM_73 rfl S E
              replace h0 := h0.le hM_73
              replace hz_4 := hz_4.le hM_73
              replace hv_8 := hv_8.le hM_73
              refine WL_guard_yes E rfl rfl ?_
              refine S_v E rfl (R_move E rfl) rfl ?_
              clear E a; intro a E
              refine WL_guard_yes E rfl rfl ?_
              refine S_v E rfl (R_eql E rfl rfl) rfl ?_
              clear E a; intro a E
              refine S_v E rfl (R_pickT E rfl rfl) rfl ?_
              clear E a; intro a E
              refine S_v E rfl (R_move E rfl) rfl ?_
              clear E a; intro a E
              have hc_74 : (decide ((nthL l0 x1).getD x2 = x2)) = true := by (clear S E; refine decide_eq_true ?_; (try rw [nthS_L (by omega)]); first | (rw [nthL_pos (by omega) (by assumption)]; rfl) | (rw [nthL_neg (by omega) (by omega) (by assumption)]; rfl) | (rw [nthL_none (by omega)]; rfl))
              replace E := E.val (t := 150) rfl hc_74
              replace E := E.val (t := 151) rfl hc_74
              replace E := E.val (t := 152) rfl hc_74
              refine WL_guard_yes E rfl rfl ?_
              refine S_v E rfl (R_move E rfl) rfl ?_
              clear E a; intro a E
              refine WL_guard_yes E rfl rfl ?_
              refine S_v E rfl (R_lss E rfl rfl) rfl ?_
              clear E a; intro a E
              refine WL_guard_yes E rfl rfl ?_
              refine S_v E rfl (R_move E rfl) rfl ?_
              clear E a; intro a E
              refine split_bool (decide (x1 < 0)) (fun hc_75 => ?_) (fun hc_75 => ?_)
              · replace E := E.val (t := 154) rfl hc_75
                replace E := E.val (t := 155) rfl hc_75
                replace hc_75 := of_decide_eq_true hc_75
                refine WL_guard_no E rfl rfl rfl rfl fun a E => ?_
                refine WL_guard_no E rfl rfl rfl rfl fun a E => ?_
                refine WL_guard_no E rfl rfl rfl rfl fun a E => ?_
                refine WL_guard_no E rfl rfl rfl rfl fun a E => ?_
                refine WL_guard_no E rfl rfl rfl rfl fun a E => ?_
                refine WL_guard_no E rfl rfl rfl rfl fun a E => ?_
                refine WL_guard_yes E rfl rfl ?_
                refine S_v E rfl (R_pickT E rfl rfl) rfl ?_
                clear E a; intro a E
                refine S_v E rfl (R_pickT E rfl rfl) rfl ?_
                clear E a; intro a E
                refine S_v E rfl (R_assign E rfl) rfl ?_
                clear E a; intro a E
                refine WL_nil ?_
                refine T_n ?_
                refine WP_ret ?_
                exact F_ret1 E Try.results4 rfl ⟨_, rfl, M_73, (hM_3.trans (hM_5.trans (hM_9.trans (hM_10.trans (hM_12.trans (hM_13.trans (hM_14.trans (hM_15.trans (hM_71.trans hM_73))))))))), rfl, S⟩
              · replace E := E.val (t := 154) rfl hc_75
                replace E := E.val (t := 155) rfl hc_75
                replace hc_75 := of_decide_eq_false hc_75
                refine WL_guard_yes E rfl rfl ?_
                refine S_v E rfl (R_move E rfl) rfl ?_
                clear E a; intro a E
                refine WL_guard_yes E rfl rfl ?_
                refine S_v E rfl (R_move E rfl) rfl ?_
                clear E a; intro a E
                refine WL_guard_yes E rfl rfl ?_
                refine S_v E rfl (R_move E rfl) rfl ?_
                clear E a; intro a E
                refine WL_guard_yes E rfl rfl ?_
                refine S_x (X_pu E S rfl rfl rfl (impl_NthOrSeq h0 (by omega)) (Hp.le.refl _) ?_)
                clear E a S; rintro a _ w M_76 hM_76 rfl S E
                replace h0 := h0.le hM_76
                replace hz_4 := hz_4.le hM_76
                replace hv_8 := hv_8.le hM_76
                refine WL_guard_yes E rfl rfl ?_
                refine S_v E rfl (R_move E rfl) rfl ?_
                clear E a; intro a E
                refine WL_guard_yes E rfl rfl ?_
                refine S_v E rfl (R_eql E rfl rfl) rfl ?_
                clear E a; intro a E
                refine WL_guard_yes E rfl rfl ?_
                refine S_v E rfl (R_pickF E rfl rfl) rfl ?_
                clear E a; intro a E
                refine S_v E rfl (R_pickT E rfl rfl) rfl ?_
                clear E a; intro a E
                refine S_v E rfl (R_assign E rfl) rfl ?_
                clear E a; intro a E
                refine WL_nil ?_
                refine T_n ?_
                refine WP_ret ?_
                exact F_ret1 E Try.results4 rfl ⟨_, rfl, M_76, (hM_3.trans (hM_5.trans (hM_9.trans (hM_10.trans (hM_12.trans (hM_13.trans (hM_14.trans (hM_15.trans (hM_71.trans (hM_73.trans hM_76)))))))))), (congrArg Value.bool (by (clear S E; refine decide_eq_true ?_; (try rw [nthS_L (by omega)]); first | (rw [nthL_pos (by omega) (by assumption)]; rfl) | (rw [nthL_neg (by omega) (by omega) (by assumption)]; rfl) | (rw [nthL_none (by omega)]; rfl)))), S⟩
        · replace E := E.val (t := 111) rfl hc_29
          replace E := E.val (t := 112) rfl hc_29
          replace hc_29 := of_decide_eq_false hc_29
          refine WL_guard_no E rfl rfl rfl rfl fun a E => ?_
          refine WL_guard_no E rfl rfl rfl rfl fun a E => ?_
          refine WL_guard_no E rfl rfl rfl rfl fun a E => ?_
          refine WL_guard_no E rfl rfl rfl rfl fun a E => ?_
          refine S_v E rfl (R_pickF E rfl rfl) rfl ?_
          clear E a; intro a E
          refine WL_nil ?_
          refine T_n ?_
          refine WP_condF E rfl rfl ?_
          refine WP_skip ?_
          refine T_n ?_
          refine WP_seq ?_
          refine WP_seq ?_
          refine WP_region ?_
          refine S_v E rfl (R_move E rfl) rfl ?_
          clear E a; intro a E
          refine S_v E rfl (R_lss E rfl rfl) rfl ?_
          clear E a; intro a E
          refine S_v E rfl (R_move E rfl) rfl ?_
          clear E a; intro a E
          refine split_bool (decide (x1 < 0)) (fun hc_77 => ?_) (fun hc_77 => ?_)
          · replace E := E.val (t := 123) rfl hc_77
            replace E := E.val (t := 124) rfl hc_77
            replace hc_77 := of_decide_eq_true hc_77
            refine WL_guard_yes E rfl rfl ?_
            refine S_v E rfl (R_move E rfl) rfl ?_
            clear E a; intro a E
            refine WL_guard_yes E rfl rfl ?_
            refine S_v E rfl (R_negx (m := -x1) E rfl rfl (by omega)) rfl ?_
            clear E a; intro a E
            refine WL_guard_yes E rfl rfl ?_
            refine S_v E rfl (R_move E rfl) rfl ?_
            clear E a; intro a E
            refine WL_guard_yes E rfl rfl ?_
            refine S_v E rfl (R_lenV E rfl T22 h0.len) rfl ?_
            clear E a; intro a E
            refine WL_guard_yes E rfl rfl ?_
            refine S_v E rfl (R_leq E rfl rfl) rfl ?_
            clear E a; intro a E
            refine S_v E rfl (R_pickT E rfl rfl) rfl ?_
            clear E a; intro a E
            refine WL_nil ?_
            refine T_n ?_
            refine WP_cond E rfl (fun hc_78 => ?_) (fun hc_78 => ?_)
            · replace hc_78 := of_decide_eq_true hc_78
              refine WP_region ?_
              refine S_v E rfl (R_move E rfl) rfl ?_
              clear E a; intro a E
              refine S_v E rfl (R_move E rfl) rfl ?_
              clear E a; intro a E
              refine S_v E rfl (R_lenV E rfl T22 h0.len) rfl ?_
              clear E a; intro a E
              refine S_v E rfl (R_move E rfl) rfl ?_
              clear E a; intro a E
              refine S_v E rfl (R_addx (m := (((l0).length : Nat) : Int) + x1) E rfl rfl (by omega) (by omega)) rfl ?_
              clear E a; intro a E
              obtain ⟨x_79, hx_79⟩ : ∃ x, (l0)[((((l0).length : Nat) : Int) + x1).toNat]? = some x := ⟨_, List.getElem?_eq_getElem (by (first | omega | (cases l0 <;> simp_all; done) | (cases l0 <;> simp_all <;> omega)))⟩
              obtain ⟨p_80, hp_80, qp_80⟩ := h0.at hx_79
              refine S_v E rfl (R_idx E rfl rfl T22 hp_80 (by omega)) rfl ?_
              clear E a; intro a E
              refine S_v E rfl (R_loadM E rfl Try.isAgg3 S.imm qp_80) rfl ?_
              clear E a; intro a E
              refine S_v E rfl (R_assign E rfl) rfl ?_
              clear E a; intro a E
              refine WL_nil ?_
              refine T_n ?_
              refine WP_seq ?_
              refine WP_region ?_
              refine S_v E rfl (R_move E rfl) rfl ?_
              clear E a; intro a E
              refine S_v E rfl (R_move E rfl) rfl ?_
              clear E a; intro a E
              refine S_v E rfl (R_move E rfl) rfl ?_
              clear E a; intro a E
              refine S_x (X_pu E S rfl rfl rfl (spec_NthOr h0 (by omega)) (Hp.le.refl _) ?_)
              clear E a S; rintro a _ w M_81 hM_81 rfl S E
              replace h0 := h0.le hM_81
              replace hz_4 := hz_4.le hM_81
              replace hv_8 := hv_8.le hM_81
              refine S_v E rfl (R_move E rfl) rfl ?_
              clear E a; intro a E
              refine S_v E rfl (R_eql E rfl rfl) rfl ?_
              clear E a; intro a E
              refine S_v E rfl (R_move E rfl) rfl ?_
              clear E a; intro a E
              have hc_82 : (decide ((nthL l0 x1).getD x2 = x_79)) = true := by (clear S E; refine decide_eq_true ?_; (try rw [nthS_L (by omega)]); first | (rw [nthL_pos (by omega) (by assumption)]; rfl) | (rw [nthL_neg (by omega) (by omega) (by assumption)]; rfl) | (rw [nthL_none (by omega)]; rfl))
              replace E := E.val (t := 143) rfl hc_82
              replace E := E.val (t := 144) rfl hc_82
              refine WL_guard_yes E rfl rfl ?_
              refine S_v E rfl (R_move E rfl) rfl ?_
              clear E a; intro a E
              refine WL_guard_yes E rfl rfl ?_
              refine S_v E rfl (R_move E rfl) rfl ?_
              clear E a; intro a E
              refine WL_guard_yes E rfl rfl ?_
              refine S_v E rfl (R_move E rfl) rfl ?_
              clear E a; intro a E
              refine WL_guard_yes E rfl rfl ?_
              refine S_x (X_pu E S rfl rfl rfl (impl_NthOr h0 (by omega)) (Hp.le.refl _) ?_)
              clear E a S; rintro a _ w M_83 hM_83 rfl S E
              replace h0 := h0.le hM_83
              replace hz_4 := hz_4.le hM_83
              replace hv_8 := hv_8.le hM_83
              refine WL_guard_yes E rfl rfl ?_
              refine S_v E rfl (R_move E rfl) rfl ?_
              clear E a; intro a E
              refine WL_guard_yes E rfl rfl ?_
              refine S_v E rfl (R_eql E rfl rfl) rfl ?_
              clear E a; intro a E
              refine S_v E rfl (R_pickT E rfl rfl) rfl ?_
              clear E a; intro a E
              refine S_v E rfl (R_move E rfl) rfl ?_
              clear E a; intro a E
              have hc_84 : (decide ((nthL l0 x1).getD x2 = x_79)) = true := by (clear S E; refine decide_eq_true ?_; (try rw [nthS_L (by omega)]); first | (rw [nthL_pos (by omega) (by assumption)]; rfl) | (rw [nthL_neg (by omega) (by omega) (by assumption)]; rfl) | (rw [nthL_none (by omega)]; rfl))
              replace E := E.val (t := 150) rfl hc_84
              replace E := E.val (t := 151) rfl hc_84
              replace E := E.val (t := 152) rfl hc_84
              refine WL_guard_yes E rfl rfl ?_
              refine S_v E rfl (R_move E rfl) rfl ?_
              clear E a; intro a E
              refine WL_guard_yes E rfl rfl ?_
              refine S_v E rfl (R_lss E rfl rfl) rfl ?_
              clear E a; intro a E
              refine WL_guard_yes E rfl rfl ?_
              refine S_v E rfl (R_move E rfl) rfl ?_
              clear E a; intro a E
              refine split_bool (decide (x1 < 0)) (fun hc_85 => ?_) (fun hc_85 => ?_)
              · replace E := E.val (t := 154) rfl hc_85
                replace E := E.val (t := 155) rfl hc_85
                replace hc_85 := of_decide_eq_true hc_85
                refine WL_guard_no E rfl rfl rfl rfl fun a E => ?_
                refine WL_guard_no E rfl rfl rfl rfl fun a E => ?_
                refine WL_guard_no E rfl rfl rfl rfl fun a E => ?_
                refine WL_guard_no E rfl rfl rfl rfl fun a E => ?_
                refine WL_guard_no E rfl rfl rfl rfl fun a E => ?_
                refine WL_guard_no E rfl rfl rfl rfl fun a E => ?_
                refine WL_guard_yes E rfl rfl ?_
                refine S_v E rfl (R_pickT E rfl rfl) rfl ?_
                clear E a; intro a E
                refine S_v E rfl (R_pickT E rfl rfl) rfl ?_
                clear E a; intro a E
                refine S_v E rfl (R_assign E rfl) rfl ?_
                clear E a; intro a E
                refine WL_nil ?_
                refine T_n ?_
                refine WP_ret ?_
                exact F_ret1 E Try.results4 rfl ⟨_, rfl, M_83, (hM_3.trans (hM_5.trans (hM_9.trans (hM_10.trans (hM_12.trans (hM_13.trans (hM_14.trans (hM_15.trans (hM_81.trans hM_83))))))))), rfl, S⟩
              · replace E := E.val (t := 154) rfl hc_85
                replace E := E.val (t := 155) rfl hc_85
                replace hc_85 := of_decide_eq_false hc_85
                refine WL_guard_yes E rfl rfl ?_
                refine S_v E rfl (R_move E rfl) rfl ?_
                clear E a; intro a E
                refine WL_guard_yes E rfl rfl ?_
                refine S_v E rfl (R_move E rfl) rfl ?_
                clear E a; intro a E
                refine WL_guard_yes E rfl rfl ?_
                refine S_v E rfl (R_move E rfl) rfl ?_
                clear E a; intro a E
                refine WL_guard_yes E rfl rfl ?_
                refine S_x (X_pu E S rfl rfl rfl (impl_NthOrSeq h0 (by omega)) (Hp.le.refl _) ?_)
                clear E a S; rintro a _ w M_86 hM_86 rfl S E
                replace h0 := h0.le hM_86
                replace hz_4 := hz_4.le hM_86
                replace hv_8 := hv_8.le hM_86
                refine WL_guard_yes E rfl rfl ?_
                refine S_v E rfl (R_move E rfl) rfl ?_
                clear E a; intro a E
                refine WL_guard_yes E rfl rfl ?_
                refine S_v E rfl (R_eql E rfl rfl) rfl ?_
                clear E a; intro a E
                refine WL_guard_yes E rfl rfl ?_
                refine S_v E rfl (R_pickF E rfl rfl) rfl ?_
                clear E a; intro a E
                refine S_v E rfl (R_pickT E rfl rfl) rfl ?_
                clear E a; intro a E
                refine S_v E rfl (R_assign E rfl) rfl ?_
                clear E a; intro a E
                refine WL_nil ?_
                refine T_n ?_
                refine WP_ret ?_
                exact F_ret1 E Try.results4 rfl ⟨_, rfl, M_86, (hM_3.trans (hM_5.trans (hM_9.trans (hM_10.trans (hM_12.trans (hM_13.trans (hM_14.trans (hM_15.trans (hM_81.trans (hM_83.trans hM_86)))))))))), (congrArg Value.bool (by (clear S E; refine decide_eq_true ?_; (try rw [nthS_L (by omega)]); first | (rw [nthL_pos (by omega) (by assumption)]; rfl) | (rw [nthL_neg (by omega) (by omega) (by assumption)]; rfl) | (rw [nthL_none (by omega)]; rfl)))), S⟩
            · replace hc_78 := of_decide_eq_false hc_78
              refine WP_skip ?_
              refine T_n ?_
              refine WP_seq ?_
              refine WP_region ?_
              refine S_v E rfl (R_move E rfl) rfl ?_
              clear E a; intro a E
              refine S_v E rfl (R_move E rfl) rfl ?_
              clear E a; intro a E
              refine S_v E rfl (R_move E rfl) rfl ?_
              clear E a; intro a E
              refine S_x (X_pu E S rfl rfl rfl (spec_NthOr h0 (by omega)) (Hp.le.refl _) ?_)
              clear E a S; rintro a _ w M_87 hM_87 rfl S E
              replace h0 := h0.le hM_87
              replace hz_4 := hz_4.le hM_87
              replace hv_8 := hv_8.le hM_87
              refine S_v E rfl (R_move E rfl) rfl ?_
              clear E a; intro a E
              refine S_v E rfl (R_eql E rfl rfl) rfl ?_
              clear E a; intro a E
              refine S_v E rfl (R_move E rfl) rfl ?_
              clear E a; intro a E
              have hc_88 : (decide ((nthL l0 x1).getD x2 = x2)) = true := by (clear S E; refine decide_eq_true ?_; (try rw [nthS_L (by omega)]); first | (rw [nthL_pos (by omega) (by assumption)]; rfl) | (rw [nthL_neg (by omega) (by omega) (by assumption)]; rfl) | (rw [nthL_none (by omega)]; rfl))
              replace E := E.val (t := 143) rfl hc_88
              replace E := E.val (t := 144) rfl hc_88
              refine WL_guard_yes E rfl rfl ?_
              refine S_v E rfl (R_move E rfl) rfl ?_
              clear E a; intro a E
              refine WL_guard_yes E rfl rfl ?_
              refine S_v E rfl (R_move E rfl) rfl ?_
              clear E a; intro a E
              refine WL_guard_yes E rfl rfl ?_
              refine S_v E rfl (R_move E rfl) rfl ?_
              clear E a; intro a E
              refine WL_guard_yes E rfl rfl ?_
              refine S_x (X_pu E S rfl rfl rfl (impl_NthOr h0 (by omega)) (Hp.le.refl _) ?_)
              clear E a S; rintro a _ w M_89 hM_89 rfl S E
              replace h0 := h0.le hM_89
              replace hz_4 := hz_4.le hM_89
              replace hv_8 := hv_8.le hM_89
              refine WL_guard_yes E rfl rfl ?_
              refine S_v E rfl (R_move E rfl) rfl ?_
              clear E a; intro a E
              refine WL_guard_yes E rfl rfl ?_
              refine S_v E rfl (R_eql E rfl rfl) rfl ?_
              clear E a; intro a E
              refine S_v E rfl (R_pickT E rfl rfl) rfl ?_
              clear E a; intro a E
              refine S_v E rfl (R_move E rfl) rfl ?_
              clear E a; intro a E
              have hc_90 : (decide ((nthL l0 x1).getD x2 = x2)) = true := by (clear S E; refine decide_eq_true ?_; (try rw [nthS_L (by omega)]); first | (rw [nthL_pos (by omega) (by assumption)]; rfl) | (rw [nthL_neg (by omega) (by omega) (by assumption)]; rfl) | (rw [nthL_none (by omega)]; rfl))
              replace E := E.val (t := 150) rfl hc_90
              replace E := E.val (t := 151) rfl hc_90
              replace E := E.val (t := 152) rfl hc_90
              refine WL_guard_yes E rfl rfl ?_
              refine S_v E rfl (R_move E rfl) rfl ?_
              clear E a; intro a E
              refine WL_guard_yes E rfl rfl ?_
              refine S_v E rfl (R_lss E rfl rfl) rfl ?_
              clear E a; intro a E
              refine WL_guard_yes E rfl rfl ?_
              refine S_v E rfl (R_move E rfl) rfl ?_
              clear E a; intro a E
              refine split_bool (decide (x1 < 0)) (fun hc_91 => ?_) (fun hc_91 => ?_)
              · replace E := E.val (t := 154) rfl hc_91
                replace E := E.val (t := 155) rfl hc_91
                replace hc_91 := of_decide_eq_true hc_91
                refine WL_guard_no E rfl rfl rfl rfl fun a E => ?_
                refine WL_guard_no E rfl rfl rfl rfl fun a E => ?_
                refine WL_guard_no E rfl rfl rfl rfl fun a E => ?_
                refine WL_guard_no E rfl rfl rfl rfl fun a E => ?_
                refine WL_guard_no E rfl rfl rfl rfl fun a E => ?_
                refine WL_guard_no E rfl rfl rfl rfl fun a E => ?_
                refine WL_guard_yes E rfl rfl ?_
                refine S_v E rfl (R_pickT E rfl rfl) rfl ?_
                clear E a; intro a E
                refine S_v E rfl (R_pickT E rfl rfl) rfl ?_
                clear E a; intro a E
                refine S_v E rfl (R_assign E rfl) rfl ?_
                clear E a; intro a E
                refine WL_nil ?_
                refine T_n ?_
                refine WP_ret ?_
                exact F_ret1 E Try.results4 rfl ⟨_, rfl, M_89, (hM_3.trans (hM_5.trans (hM_9.trans (hM_10.trans (hM_12.trans (hM_13.trans (hM_14.trans (hM_15.trans (hM_87.trans hM_89))))))))), rfl, S⟩
              · replace E := E.val (t := 154) rfl hc_91
                replace E := E.val (t := 155) rfl hc_91
                replace hc_91 := of_decide_eq_false hc_91
                refine WL_guard_yes E rfl rfl ?_
                refine S_v E rfl (R_move E rfl) rfl ?_
                clear E a; intro a E
                refine WL_guard_yes E rfl rfl ?_
                refine S_v E rfl (R_move E rfl) rfl ?_
                clear E a; intro a E
                refine WL_guard_yes E rfl rfl ?_
                refine S_v E rfl (R_move E rfl) rfl ?_
                clear E a; intro a E
                refine WL_guard_yes E rfl rfl ?_
                refine S_x (X_pu E S rfl rfl rfl (impl_NthOrSeq h0 (by omega)) (Hp.le.refl _) ?_)
                clear E a S; rintro a _ w M_92 hM_92 rfl S E
                replace h0 := h0.le hM_92
                replace hz_4 := hz_4.le hM_92
                replace hv_8 := hv_8.le hM_92
                refine WL_guard_yes E rfl rfl ?_
                refine S_v E rfl (R_move E rfl) rfl ?_
                clear E a; intro a E
                refine WL_guard_yes E rfl rfl ?_
                refine S_v E rfl (R_eql E rfl rfl) rfl ?_
                clear E a; intro a E
                refine WL_guard_yes E rfl rfl ?_
                refine S_v E rfl (R_pickF E rfl rfl) rfl ?_
                clear E a; intro a E
                refine S_v E rfl (R_pickT E rfl rfl) rfl ?_
                clear E a; intro a E
                refine S_v E rfl (R_assign E rfl) rfl ?_
                clear E a; intro a E
                refine WL_nil ?_
                refine T_n ?_
                refine WP_ret ?_
                exact F_ret1 E Try.results4 rfl ⟨_, rfl, M_92, (hM_3.trans (hM_5.trans (hM_9.trans (hM_10.trans (hM_12.trans (hM_13.trans (hM_14.trans (hM_15.trans (hM_87.trans (hM_89.trans hM_92)))))))))), (congrArg Value.bool (by (clear S E; refine decide_eq_true ?_; (try rw [nthS_L (by omega)]); first | (rw [nthL_pos (by omega) (by assumption)]; rfl) | (rw [nthL_neg (by omega) (by omega) (by assumption)]; rfl) | (rw [nthL_none (by omega)]; rfl)))), S⟩
          · replace E := E.val (t := 123) rfl hc_77
            replace E := E.val (t := 124) rfl hc_77
            replace hc_77 := of_decide_eq_false hc_77
            refine WL_guard_no E rfl rfl rfl rfl fun a E => ?_
            refine WL_guard_no E rfl rfl rfl rfl fun a E => ?_
            refine WL_guard_no E rfl rfl rfl rfl fun a E => ?_
            refine WL_guard_no E rfl rfl rfl rfl fun a E => ?_
            refine WL_guard_no E rfl rfl rfl rfl fun a E => ?_
            refine S_v E rfl (R_pickF E rfl rfl) rfl ?_
            clear E a; intro a E
            refine WL_nil ?_
            refine T_n ?_
            refine WP_condF E rfl rfl ?_
            refine WP_skip ?_
            refine T_n ?_
            refine WP_seq ?_
            refine WP_region ?_
            refine S_v E rfl (R_move E rfl) rfl ?_
            clear E a; intro a E
            refine S_v E rfl (R_move E rfl) rfl ?_
            clear E a; intro a E
            refine S_v E rfl (R_move E rfl) rfl ?_
            clear E a; intro a E
            refine S_x (X_pu E S rfl rfl rfl (spec_NthOr h0 (by omega)) (Hp.le.refl _) ?_)
            clear E a S; rintro a _ w M_93 hM_93 rfl S E
            replace h0 := h0.le hM_93
            replace hz_4 := hz_4.le hM_93
            replace hv_8 := hv_8.le hM_93
            refine S_v E rfl (R_move E rfl) rfl ?_
            clear E a; intro a E
            refine S_v E rfl (R_eql E rfl rfl) rfl ?_
            clear E a; intro a E
            refine S_v E rfl (R_move E rfl) rfl ?_
            clear E a; intro a E
            have hc_94 : (decide ((nthL l0 x1).getD x2 = x2)) = true := by (clear S E; refine decide_eq_true ?_; (try rw [nthS_L (by omega)]); first | (rw [nthL_pos (by omega) (by assumption)]; rfl) | (rw [nthL_neg (by omega) (by omega) (by assumption)]; rfl) | (rw [nthL_none (by omega)]; rfl))
            replace E := E.val (t := 143) rfl hc_94
            replace E := E.val (t := 144) rfl hc_94
            refine WL_guard_yes E rfl rfl ?_
            refine S_v E rfl (R_move E rfl) rfl ?_
            clear E a; intro a E
            refine WL_guard_yes E rfl rfl ?_
            refine S_v E rfl (R_move E rfl) rfl ?_
            clear E a; intro a E
            refine WL_guard_yes E rfl rfl ?_
            refine S_v E rfl (R_move E rfl) rfl ?_
            clear E a; intro a E
            refine WL_guard_yes E rfl rfl ?_
            refine S_x (X_pu E S rfl rfl rfl (impl_NthOr h0 (by omega)) (Hp.le.refl _) ?_)
            clear E a S; rintro a _ w M_95 hM_95 rfl S E
            replace h0 := h0.le hM_95
            replace hz_4 := hz_4.le hM_95
            replace hv_8 := hv_8.le hM_95
            refine WL_guard_yes E rfl rfl ?_
            refine S_v E rfl (R_move E rfl) rfl ?_
            clear E a; intro a E
            refine WL_guard_yes E rfl rfl ?_
            refine S_v E rfl (R_eql E rfl rfl) rfl ?_
            clear E a; intro a E
            refine S_v E rfl (R_pickT E rfl rfl) rfl ?_
            clear E a; intro a E
            refine S_v E rfl (R_move E rfl) rfl ?_
            clear E a; intro a E
            have hc_96 : (decide ((nthL l0 x1).getD x2 = x2)) = true := by (clear S E; refine decide_eq_true ?_; (try rw [nthS_L (by omega)]); first | (rw [nthL_pos (by omega) (by assumption)]; rfl) | (rw [nthL_neg (by omega) (by omega) (by assumption)]; rfl) | (rw [nthL_none (by omega)]; rfl))
            replace E := E.val (t := 150) rfl hc_96
            replace E := E.val (t := 151) rfl hc_96
            replace E := E.val (t := 152) rfl hc_96
            refine WL_guard_yes E rfl rfl ?_
            refine S_v E rfl (R_move E rfl) rfl ?_
            clear E a; intro a E
            refine WL_guard_yes E rfl rfl ?_
            refine S_v E rfl (R_lss E rfl rfl) rfl ?_
            clear E a; intro a E
            refine WL_guard_yes E rfl rfl ?_
            refine S_v E rfl (R_move E rfl) rfl ?_
            clear E a; intro a E
            refine split_bool (decide (x1 < 0)) (fun hc_97 => ?_) (fun hc_97 => ?_)
            · replace E := E.val (t := 154) rfl hc_97
              replace E := E.val (t := 155) rfl hc_97
              replace hc_97 := of_decide_eq_true hc_97
              refine WL_guard_no E rfl rfl rfl rfl fun a E => ?_
              refine WL_guard_no E rfl rfl rfl rfl fun a E => ?_
              refine WL_guard_no E rfl rfl rfl rfl fun a E => ?_
              refine WL_guard_no E rfl rfl rfl rfl fun a E => ?_
              refine WL_guard_no E rfl rfl rfl rfl fun a E => ?_
              refine WL_guard_no E rfl rfl rfl rfl fun a E => ?_
              refine WL_guard_yes E rfl rfl ?_
              refine S_v E rfl (R_pickT E rfl rfl) rfl ?_
              clear E a; intro a E
              refine S_v E rfl (R_pickT E rfl rfl) rfl ?_
              clear E a; intro a E
              refine S_v E rfl (R_assign E rfl) rfl ?_
              clear E a; intro a E
              refine WL_nil ?_
              refine T_n ?_
              refine WP_ret ?_
              exact F_ret1 E Try.results4 rfl ⟨_, rfl, M_95, (hM_3.trans (hM_5.trans (hM_9.trans (hM_10.trans (hM_12.trans (hM_13.trans (hM_14.trans (hM_15.trans (hM_93.trans hM_95))))))))), rfl, S⟩
            · replace E := E.val (t := 154) rfl hc_97
              replace E := E.val (t := 155) rfl hc_97
              replace hc_97 := of_decide_eq_false hc_97
              refine WL_guard_yes E rfl rfl ?_
              refine S_v E rfl (R_move E rfl) rfl ?_
              clear E a; intro a E
              refine WL_guard_yes E rfl rfl ?_
              refine S_v E rfl (R_move E rfl) rfl ?_
              clear E a; intro a E
              refine WL_guard_yes E rfl rfl ?_
              refine S_v E rfl (R_move E rfl) rfl ?_
              clear E a; intro a E
              refine WL_guard_yes E rfl rfl ?_
              refine S_x (X_pu E S rfl rfl rfl (impl_NthOrSeq h0 (by omega)) (Hp.le.refl _) ?_)
              clear E a S; rintro a _ w M_98 hM_98 rfl S E
              replace h0 := h0.le hM_98
              replace hz_4 := hz_4.le hM_98
              replace hv_8 := hv_8.le hM_98
              refine WL_guard_yes E rfl rfl ?_
              refine S_v E rfl (R_move E rfl) rfl ?_
              clear E a; intro a E
              refine WL_guard_yes E rfl rfl ?_
              refine S_v E rfl (R_eql E rfl rfl) rfl ?_
              clear E a; intro a E
              refine WL_guard_yes E rfl rfl ?_
              refine S_v E rfl (R_pickF E rfl rfl) rfl ?_
              clear E a; intro a E
              refine S_v E rfl (R_pickT E rfl rfl) rfl ?_
              clear E a; intro a E
              refine S_v E rfl (R_assign E rfl) rfl ?_
              clear E a; intro a E
              refine WL_nil ?_
              refine T_n ?_
              refine WP_ret ?_
              exact F_ret1 E Try.results4 rfl ⟨_, rfl, M_98, (hM_3.trans (hM_5.trans (hM_9.trans (hM_10.trans (hM_12.trans (hM_13.trans (hM_14.trans (hM_15.trans (hM_93.trans (hM_95.trans hM_98)))))))))), (congrArg Value.bool (by (clear S E; refine decide_eq_true ?_; (try rw [nthS_L (by omega)]); first | (rw [nthL_pos (by omega) (by assumption)]; rfl) | (rw [nthL_neg (by omega) (by omega) (by assumption)]; rfl) | (rw [nthL_none (by omega)]; rfl)))), S⟩
      · replace E := E.val (t := 41) rfl hc_20
        replace E := E.val (t := 10) rfl hc_20
        replace E := E.val (t := 46) rfl hc_20
        replace E := E.val (t := 12) rfl hc_20
        replace E := E.val (t := 51) rfl hc_20
        replace E := E.val (t := 14) rfl hc_20
        replace E := E.val (t := 56) rfl hc_20
        replace E := E.val (t := 16) rfl hc_20
        replace E := E.val (t := 57) rfl hc_20
        replace E := E.val (t := 63) rfl hc_20
        replace E := E.val (t := 64) rfl hc_20
        replace E := E.val (t := 68) rfl hc_20
        replace E := E.val (t := 69) rfl hc_20
        replace E := E.val (t := 73) rfl hc_20
        replace E := E.val (t := 74) rfl hc_20
        replace E := E.val (t := 78) rfl hc_20
        replace E := E.val (t := 79) rfl hc_20
        have hne : l0.length = 0 := (by cases l0 <;> simp_all)
        refine WL_guard_no E rfl rfl rfl rfl fun a E => ?_
        refine WL_guard_no E rfl rfl rfl rfl fun a E => ?_
        refine WL_guard_no E rfl rfl rfl rfl fun a E => ?_
        refine WL_guard_no E rfl rfl rfl rfl fun a E => ?_
        refine WL_guard_no E rfl rfl rfl rfl fun a E => ?_
        refine WL_guard_no E rfl rfl rfl rfl fun a E => ?_
        refine WL_guard_un E rfl rfl rfl fun a E => ?_
        refine WL_guard_un E rfl rfl rfl fun a E => ?_
        refine WL_guard_un E rfl rfl rfl fun a E => ?_
        refine WL_guard_un E rfl rfl rfl fun a E => ?_
        refine WL_guard_un E rfl rfl rfl fun a E => ?_
        refine WL_guard_un E rfl rfl rfl fun a E => ?_
        refine WL_guard_un E rfl rfl rfl fun a E => ?_
        refine WL_guard_un E rfl rfl rfl fun a E => ?_
        refine WL_guard_no E rfl rfl rfl rfl fun a E => ?_
        refine WL_guard_no E rfl rfl rfl rfl fun a E => ?_
        refine WL_guard_un E rfl rfl rfl fun a E => ?_
        refine WL_guard_un E rfl rfl rfl fun a E => ?_
        refine WL_guard_un E rfl rfl rfl fun a E => ?_
        refine WL_guard_no E rfl rfl rfl rfl fun a E => ?_
        refine WL_guard_no E rfl rfl rfl rfl fun a E => ?_
        refine WL_guard_un E rfl rfl rfl fun a E => ?_
        refine WL_guard_un E rfl rfl rfl fun a E => ?_
        refine WL_guard_un E rfl rfl rfl fun a E => ?_
        refine WL_guard_no E rfl rfl rfl rfl fun a E => ?_
        refine WL_guard_yes E rfl rfl ?_
        refine S_v E rfl (R_pickF E rfl rfl) rfl ?_
        clear E a; intro a E
        refine S_v E rfl (R_pickF E rfl rfl) rfl ?_
        clear E a; intro a E
        refine WL_nil ?_
        refine T_n ?_
        refine WP_condF E rfl rfl ?_
        refine WP_skip ?_
        refine T_n ?_
        refine WP_seq ?_
        refine WP_region ?_
        refine S_v E rfl (R_move E rfl) rfl ?_
        clear E a; intro a E
        refine S_v E rfl (R_convx E rfl Try.underlying23 Try.underlying3 (by omega)) rfl ?_
        clear E a; intro a E
        refine S_v E rfl (R_move E rfl) rfl ?_
        clear E a; intro a E
        refine S_v E rfl (R_assign E rfl) rfl ?_
        clear E a; intro a E
        refine S_v E rfl (R_assign E rfl) rfl ?_
        clear E a; intro a E
        refine WL_nil ?_
        refine T_n ?_
        refine WP_seq ?_
        refine WP_seq ?_
        refine WP_region ?_
        refine S_v E rfl (R_move E rfl) rfl ?_
        clear E a; intro a E
        refine S_v E rfl (R_geq E rfl rfl) rfl ?_
        clear E a; intro a E
        refine S_v E rfl (R_move E rfl) rfl ?_
        clear E a; intro a E
        refine split_bool (decide (0 ≤ x1)) (fun hc_99 => ?_) (fun hc_99 => ?_)
        · replace E := E.val (t := 111) rfl hc_99
          replace E := E.val (t := 112) rfl hc_99
          replace hc_99 := of_decide_eq_true hc_99
          refine WL_guard_yes E rfl rfl ?_
          refine S_v E rfl (R_move E rfl) rfl ?_
          clear E a; intro a E
          refine WL_guard_yes E rfl rfl ?_
          refine S_v E rfl (R_move E rfl) rfl ?_
          clear E a; intro a E
          refine WL_guard_yes E rfl rfl ?_
          refine S_v E rfl (R_lenV E rfl T22 h0.len) rfl ?_
          clear E a; intro a E
          refine WL_guard_yes E rfl rfl ?_
          refine S_v E rfl (R_lss E rfl rfl) rfl ?_
          clear E a; intro a E
          refine S_v E rfl (R_pickT E rfl rfl) rfl ?_
          clear E a; intro a E
          refine WL_nil ?_
          refine T_n ?_
          refine WP_cond E rfl (fun hc_100 => ?_) (fun hc_100 => ?_)
          · replace hc_100 := of_decide_eq_true hc_100
            refine WP_region ?_
            refine S_v E rfl (R_move E rfl) rfl ?_
            clear E a; intro a E
            refine S_v E rfl (R_move E rfl) rfl ?_
            clear E a; intro a E
            obtain ⟨x_101, hx_101⟩ : ∃ x, (l0)[(x1).toNat]? = some x := ⟨_, List.getElem?_eq_getElem (by (first | omega | (cases l0 <;> simp_all; done) | (cases l0 <;> simp_all <;> omega)))⟩
            obtain ⟨p_102, hp_102, qp_102⟩ := h0.at hx_101
            refine S_v E rfl (R_idx E rfl rfl T22 hp_102 (by omega)) rfl ?_
            clear E a; intro a E
            refine S_v E rfl (R_loadM E rfl Try.isAgg3 S.imm qp_102) rfl ?_
            clear E a; intro a E
            refine S_v E rfl (R_assign E rfl) rfl ?_
            clear E a; intro a E
            refine WL_nil ?_
            refine T_n ?_
            refine WP_seq ?_
            refine WP_seq ?_
            refine WP_region ?_
            refine S_v E rfl (R_move E rfl) rfl ?_
            clear E a; intro a E
            refine S_v E rfl (R_lss E rfl rfl) rfl ?_
            clear E a; intro a E
            refine S_v E rfl (R_move E rfl) rfl ?_
            clear E a; intro a E
            refine split_bool (decide (x1 < 0)) (fun hc_103 => ?_) (fun hc_103 => ?_)
            · replace E := E.val (t := 123) rfl hc_103
              replace E := E.val (t := 124) rfl hc_103
              replace hc_103 := of_decide_eq_true hc_103
              refine WL_guard_yes E rfl rfl ?_
              refine S_v E rfl (R_move E rfl) rfl ?_
              clear E a; intro a E
              refine WL_guard_yes E rfl rfl ?_
              refine S_v E rfl (R_negx (m := -x1) E rfl rfl (by omega)) rfl ?_
              clear E a; intro a E
              refine WL_guard_yes E rfl rfl ?_
              refine S_v E rfl (R_move E rfl) rfl ?_
              clear E a; intro a E
              refine WL_guard_yes E rfl rfl ?_
              refine S_v E rfl (R_lenV E rfl T22 h0.len) rfl ?_
              clear E a; intro a E
              refine WL_guard_yes E rfl rfl ?_
              refine S_v E rfl (R_leq E rfl rfl) rfl ?_
              clear E a; intro a E
              refine S_v E rfl (R_pickT E rfl rfl) rfl ?_
              clear E a; intro a E
              refine WL_nil ?_
              refine T_n ?_
              refine WP_cond E rfl (fun hc_104 => ?_) (fun hc_104 => ?_)
              · replace hc_104 := of_decide_eq_true hc_104
                refine WP_region ?_
                refine S_v E rfl (R_move E rfl) rfl ?_
                clear E a; intro a E
                refine S_v E rfl (R_move E rfl) rfl ?_
                clear E a; intro a E
                refine S_v E rfl (R_lenV E rfl T22 h0.len) rfl ?_
                clear E a; intro a E
                refine S_v E rfl (R_move E rfl) rfl ?_
                clear E a; intro a E
                refine S_v E rfl (R_addx (m := (((l0).length : Nat) : Int) + x1) E rfl rfl (by omega) (by omega)) rfl ?_
                clear E a; intro a E
                obtain ⟨x_105, hx_105⟩ : ∃ x, (l0)[((((l0).length : Nat) : Int) + x1).toNat]? = some x := ⟨_, List.getElem?_eq_getElem (by (first | omega | (cases l0 <;> simp_all; done) | (cases l0 <;> simp_all <;> omega)))⟩
                obtain ⟨p_106, hp_106, qp_106⟩ := h0.at hx_105
                refine S_v E rfl (R_idx E rfl rfl T22 hp_106 (by omega)) rfl ?_
                clear E a; intro a E
                refine S_v E rfl (R_loadM E rfl Try.isAgg3 S.imm qp_106) rfl ?_
                clear E a; intro a E
                refine S_v E rfl (R_assign E rfl) rfl ?_
                clear E a; intro a E
                refine WL_nil ?_
                refine T_n ?_
                refine WP_seq ?_
                refine WP_region ?_
                refine S_v E rfl (R_move E rfl) rfl ?_
                clear E a; intro a E
                refine S_v E rfl (R_move E rfl) rfl ?_
                clear E a; intro a E
                refine S_v E rfl (R_move E rfl) rfl ?_
                clear E a; intro a E
                refine S_x (X_pu E S rfl rfl rfl (spec_NthOr h0 (by omega)) (Hp.le.refl _) ?_)
                clear E a S; rintro a _ w M_107 hM_107 rfl S E
                replace h0 := h0.le hM_107
                replace hz_4 := hz_4.le hM_107
                replace hv_8 := hv_8.le hM_107
                refine S_v E rfl (R_move E rfl) rfl ?_
                clear E a; intro a E
                refine S_v E rfl (R_eql E rfl rfl) rfl ?_
                clear E a; intro a E
                refine S_v E rfl (R_move E rfl) rfl ?_
                clear E a; intro a E
                have hc_108 : (decide ((nthL l0 x1).getD x2 = x_105)) = true := by (clear S E; refine decide_eq_true ?_; (try rw [nthS_L (by omega)]); first | (rw [nthL_pos (by omega) (by assumption)]; rfl) | (rw [nthL_neg (by omega) (by omega) (by assumption)]; rfl) | (rw [nthL_none (by omega)]; rfl))
                replace E := E.val (t := 143) rfl hc_108
                replace E := E.val (t := 144) rfl hc_108
                refine WL_guard_yes E rfl rfl ?_
                refine S_v E rfl (R_move E rfl) rfl ?_
                clear E a; intro a E
                refine WL_guard_yes E rfl rfl ?_
                refine S_v E rfl (R_move E rfl) rfl ?_
                clear E a; intro a E
                refine WL_guard_yes E rfl rfl ?_
                refine S_v E rfl (R_move E rfl) rfl ?_
                clear E a; intro a E
                refine WL_guard_yes E rfl rfl ?_
                refine S_x (X_pu E S rfl rfl rfl (impl_NthOr h0 (by omega)) (Hp.le.refl _) ?_)
                clear E a S; rintro a _ w M_109 hM_109 rfl S E
                replace h0 := h0.le hM_109
                replace hz_4 := hz_4.le hM_109
                replace hv_8 := hv_8.le hM_109
                refine WL_guard_yes E rfl rfl ?_
                refine S_v E rfl (R_move E rfl) rfl ?_
                clear E a; intro a E
                refine WL_guard_yes E rfl rfl ?_
                refine S_v E rfl (R_eql E rfl rfl) rfl ?_
                clear E a; intro a E
                refine S_v E rfl (R_pickT E rfl rfl) rfl ?_
                clear E a; intro a E
                refine S_v E rfl (R_move E rfl) rfl ?_
                clear E a; intro a E
                have hc_110 : (decide ((nthL l0 x1).getD x2 = x_105)) = true := by (clear S E; refine decide_eq_true ?_; (try rw [nthS_L (by omega)]); first | (rw [nthL_pos (by omega) (by assumption)]; rfl) | (rw [nthL_neg (by omega) (by omega) (by assumption)]; rfl) | (rw [nthL_none (by omega)]; rfl))
                replace E := E.val (t := 150) rfl hc_110
                replace E := E.val (t := 151) rfl hc_110
                replace E := E.val (t := 152) rfl hc_110
                refine WL_guard_yes E rfl rfl ?_
                refine S_v E rfl (R_move E rfl) rfl ?_
                clear E a; intro a E
                refine WL_guard_yes E rfl rfl ?_
                refine S_v E rfl (R_lss E rfl rfl) rfl ?_
                clear E a; intro a E
                refine WL_guard_yes E rfl rfl ?_
                refine S_v E rfl (R_move E rfl) rfl ?_
                clear E a; intro a E
                refine split_bool (decide (x1 < 0)) (fun hc_111 => ?_) (fun hc_111 => ?_)
                · replace E := E.val (t := 154) rfl hc_111
                  replace E := E.val (t := 155) rfl hc_111
                  replace hc_111 := of_decide_eq_true hc_111
                  refine WL_guard_no E rfl rfl rfl rfl fun a E => ?_
                  refine WL_guard_no E rfl rfl rfl rfl fun a E => ?_
                  refine WL_guard_no E rfl rfl rfl rfl fun a E => ?_
                  refine WL_guard_no E rfl rfl rfl rfl fun a E => ?_
                  refine WL_guard_no E rfl rfl rfl rfl fun a E => ?_
                  refine WL_guard_no E rfl rfl rfl rfl fun a E => ?_
                  refine WL_guard_yes E rfl rfl ?_
                  refine S_v E rfl (R_pickT E rfl rfl) rfl ?_
                  clear E a; intro a E
                  refine S_v E rfl (R_pickT E rfl rfl) rfl ?_
                  clear E a; intro a E
                  refine S_v E rfl (R_assign E rfl) rfl ?_
                  clear E a; intro a E
                  refine WL_nil ?_
                  refine T_n ?_
                  refine WP_ret ?_
                  exact F_ret1 E Try.results4 rfl ⟨_, rfl, M_109, (hM_3.trans (hM_5.trans (hM_9.trans (hM_10.trans (hM_12.trans (hM_13.trans (hM_14.trans (hM_15.trans (hM_107.trans hM_109))))))))), rfl, S⟩
                · replace E := E.val (t := 154) rfl hc_111
                  replace E := E.val (t := 155) rfl hc_111
                  replace hc_111 := of_decide_eq_false hc_111
                  refine WL_guard_yes E rfl rfl ?_
                  refine S_v E rfl (R_move E rfl) rfl ?_
                  clear E a; intro a E
                  refine WL_guard_yes E rfl rfl ?_
                  refine S_v E rfl (R_move E rfl) rfl ?_
                  clear E a; intro a E
                  refine WL_guard_yes E rfl rfl ?_
                  refine S_v E rfl (R_move E rfl) rfl ?_
                  clear E a; intro a E
                  refine WL_guard_yes E rfl rfl ?_
                  refine S_x (X_pu E S rfl rfl rfl (impl_NthOrSeq h0 (by omega)) (Hp.le.refl _) ?_)
                  clear E a S; rintro a _ w M_112 hM_112 rfl S E
                  replace h0 := h0.le hM_112
                  replace hz_4 := hz_4.le hM_112
                  replace hv_8 := hv_8.le hM_112
                  refine WL_guard_yes E rfl rfl ?_
                  refine S_v E rfl (R_move E rfl) rfl ?_
                  clear E a; intro a E
                  refine WL_guard_yes E rfl rfl ?_
                  refine S_v E rfl (R_eql E rfl rfl) rfl ?_
                  clear E a; intro a E
                  refine WL_guard_yes E rfl rfl ?_
                  refine S_v E rfl (R_pickF E rfl rfl) rfl ?_
                  clear E a; intro a E
                  refine S_v E rfl (R_pickT E rfl rfl) rfl ?_
                  clear E a; intro a E
                  refine S_v E rfl (R_assign E rfl) rfl ?_
                  clear E a; intro a E
                  refine WL_nil ?_
                  refine T_n ?_
                  refine WP_ret ?_
                  exact F_ret1 E Try.results4 rfl ⟨_, rfl, M_112, (hM_3.trans (hM_5.trans (hM_9.trans (hM_10.trans (hM_12.trans (hM_13.trans (hM_14.trans (hM_15.trans (hM_107.trans (hM_109.trans hM_112)))))))))), (congrArg Value.bool (by (clear S E; refine decide_eq_true ?_; (try rw [nthS_L (by omega)]); first | (rw [nthL_pos (by omega) (by assumption)]; rfl) | (rw [nthL_neg (by omega) (by omega) (by assumption)]; rfl) | (rw [nthL_none (by omega)]; rfl)))), S⟩
              · replace hc_104 := of_decide_eq_false hc_104
                refine WP_skip ?_
                refine T_n ?_
                refine WP_seq ?_
                refine WP_region ?_
                refine S_v E rfl (R_move E rfl) rfl ?_
                clear E a; intro a E
                refine S_v E rfl (R_move E rfl) rfl ?_
                clear E a; intro a E
                refine S_v E rfl (R_move E rfl) rfl ?_
                clear E a; intro a E
                refine S_x (X_pu E S rfl rfl rfl (spec_NthOr h0 (by omega)) (Hp.le.refl _) ?_)
                clear E a S; rintro a _ w M_113 hM_113 rfl S E
                replace h0 := h0.le hM_113
                replace hz_4 := hz_4.le hM_113
                replace hv_8 := hv_8.le hM_113
                refine S_v E rfl (R_move E rfl) rfl ?_
                clear E a; intro a E
                refine S_v E rfl (R_eql E rfl rfl) rfl ?_
                clear E a; intro a E
                refine S_v E rfl (R_move E rfl) rfl ?_
                clear E a; intro a E
                have hc_114 : (decide ((nthL l0 x1).getD x2 = x_101)) = true := by (clear S E; refine decide_eq_true ?_; (try rw [nthS_L (by omega)]); first | (rw [nthL_pos (by omega) (by assumption)]; rfl) | (rw [nthL_neg (by omega) (by omega) (by assumption)]; rfl) | (rw [nthL_none (by omega)]; rfl))
                replace E := E.val (t := 143) rfl hc_114
                replace E := E.val (t := 144) rfl hc_114
                refine WL_guard_yes E rfl rfl ?_
                refine S_v E rfl (R_move E rfl) rfl ?_
                clear E a; intro a E
                refine WL_guard_yes E rfl rfl ?_
                refine S_v E rfl (R_move E rfl) rfl ?_
                clear E a; intro a E
                refine WL_guard_yes E rfl rfl ?_
                refine S_v E rfl (R_move E rfl) rfl ?_
                clear E a; intro a E
                refine WL_guard_yes E rfl rfl ?_
                refine S_x (X_pu E S rfl rfl rfl (impl_NthOr h0 (by omega)) (Hp.le.refl _) ?_)
                clear E a S; rintro a _ w M_115 hM_115 rfl S E
                replace h0 := h0.le hM_115
                replace hz_4 := hz_4.le hM_115
                replace hv_8 := hv_8.le hM_115
                refine WL_guard_yes E rfl rfl ?_
                refine S_v E rfl (R_move E rfl) rfl ?_
                clear E a; intro a E
                refine WL_guard_yes E rfl rfl ?_
                refine S_v E rfl (R_eql E rfl rfl) rfl ?_
                clear E a; intro a E
                refine S_v E rfl (R_pickT E rfl rfl) rfl ?_
                clear E a; intro a E
                refine S_v E rfl (R_move E rfl) rfl ?_
                clear E a; intro a E
                have hc_116 : (decide ((nthL l0 x1).getD x2 = x_101)) = true := by (clear S E; refine decide_eq_true ?_; (try rw [nthS_L (by omega)]); first | (rw [nthL_pos (by omega) (by assumption)]; rfl) | (rw [nthL_neg (by omega) (by omega) (by assumption)]; rfl) | (rw [nthL_none (by omega)]; rfl))
                replace E := E.val (t := 150) rfl hc_116
                replace E := E.val (t := 151) rfl hc_116
                replace E := E.val (t := 152) rfl hc_116
                refine WL_guard_yes E rfl rfl ?_
                refine S_v E rfl (R_move E rfl) rfl ?_
                clear E a; intro a E
                refine WL_guard_yes E rfl rfl ?_
                refine S_v E rfl (R_lss E rfl rfl) rfl ?_
                clear E a; intro a E
                refine WL_guard_yes E rfl rfl ?_
                refine S_v E rfl (R_move E rfl) rfl ?_
                clear E a; intro a E
                refine split_bool (decide (x1 < 0)) (fun hc_117 => ?_) (fun hc_117 => ?_)
                · replace E := E.val (t := 154) rfl hc_117
                  replace E := E.val (t := 155) rfl hc_117
                  replace hc_117 := of_decide_eq_true hc_117
                  refine WL_guard_no E rfl rfl rfl rfl fun a E => ?_
                  refine WL_guard_no E rfl rfl rfl rfl fun a E => ?_
                  refine WL_guard_no E rfl rfl rfl rfl fun a E => ?_
                  refine WL_guard_no E rfl rfl rfl rfl fun a E => ?_
                  refine WL_guard_no E rfl rfl rfl rfl fun a E => ?_
                  refine WL_guard_no E rfl rfl rfl rfl fun a E => ?_
                  refine WL_guard_yes E rfl rfl ?_
                  refine S_v E rfl (R_pickT E rfl rfl) rfl ?_
                  clear E a; intro a E
                  refine S_v E rfl (R_pickT E rfl rfl) rfl ?_
                  clear E a; intro a E
                  refine S_v E rfl (R_assign E rfl) rfl ?_
                  clear E a; intro a E
                  refine WL_nil ?_
                  refine T_n ?_
                  refine WP_ret ?_
                  exact F_ret1 E Try.results4 rfl ⟨_, rfl, M_115, (hM_3.trans (hM_5.trans (hM_9.trans (hM_10.trans (hM_12.trans (hM_13.trans (hM_14.trans (hM_15.trans (hM_113.trans hM_115))))))))), rfl, S⟩
                · replace E := E.val (t := 154) rfl hc_117
                  replace E := E.val (t := 155) rfl hc_117
                  replace hc_117 := of_decide_eq_false hc_117
                  refine WL_guard_yes E rfl rfl ?_
                  refine S_v E rfl (R_move E rfl) rfl ?_
                  clear E a; intro a E
                  refine WL_guard_yes E rfl rfl ?_
                  refine S_v E rfl (R_move E rfl) rfl ?_
                  clear E a; intro a E
                  refine WL_guard_yes E rfl rfl ?_
                  refine S_v E rfl (R_move E rfl) rfl ?_
                  clear E a; intro a E
                  refine WL_guard_yes E rfl rfl ?_
                  refine S_x (X_pu E S rfl rfl rfl (impl_NthOrSeq h0 (by omega)) (Hp.le.refl _) ?_)
                  clear E a S; rintro a _ w M_118 hM_118 rfl S E
                  replace h0 := h0.le hM_118
                  replace hz_4 := hz_4.le hM_118
                  replace hv_8 := hv_8.le hM_118
                  refine WL_guard_yes E rfl rfl ?_
                  refine S_v E rfl (R_move E rfl) rfl ?_
                  clear E a; intro a E
                  refine WL_guard_yes E rfl rfl ?_
                  refine S_v E rfl (R_eql E rfl rfl) rfl ?_
                  clear E a; intro a E
                  refine WL_guard_yes E rfl rfl ?_
                  refine S_v E rfl (R_pickF E rfl rfl) rfl ?_
                  clear E a; intro a E
                  refine S_v E rfl (R_pickT E rfl rfl) rfl ?_
                  clear E a; intro a E
                  refine S_v E rfl (R_assign E rfl) rfl ?_
                  clear E a; intro a E
                  refine WL_nil ?_
                  refine T_n ?_
                  refine WP_ret ?_
                  exact F_ret1 E Try.results4 rfl ⟨_, rfl, M_118, (hM_3.trans (hM_5.trans (hM_9.trans (hM_10.trans (hM_12.trans (hM_13.trans (hM_14.trans (hM_15.trans (hM_113.trans (hM_115.trans hM_118)))))))))), (congrArg Value.bool (by (clear S E; refine decide_eq_true ?_; (try rw [nthS_L (by omega)]); first | (rw [nthL_pos (by omega) (by assumption)]; rfl) | (rw [nthL_neg (by omega) (by omega) (by assumption)]; rfl) | (rw [nthL_none (by omega)]; rfl)))), S⟩
            · replace E := E.val (t := 123) rfl hc_103
              replace E := E.val (t := 124) rfl hc_103
              replace hc_103 := of_decide_eq_false hc_103
              refine WL_guard_no E rfl rfl rfl rfl fun a E => ?_
              refine WL_guard_no E rfl rfl rfl rfl fun a E => ?_
              refine WL_guard_no E rfl rfl rfl rfl fun a E => ?_
              refine WL_guard_no E rfl rfl rfl rfl fun a E => ?_
              refine WL_guard_no E rfl rfl rfl rfl fun a E => ?_
              refine S_v E rfl (R_pickF E rfl rfl) rfl ?_
              clear E a; intro a E
              refine WL_nil ?_
              refine T_n ?_
              refine WP_condF E rfl rfl ?_
              refine WP_skip ?_
              refine T_n ?_
              refine WP_seq ?_
              refine WP_region ?_
              refine S_v E rfl (R_move E rfl) rfl ?_
              clear E a; intro a E
              refine S_v E rfl (R_move E rfl) rfl ?_
              clear E a; intro a E
              refine S_v E rfl (R_move E rfl) rfl ?_
              clear E a; intro a E
              refine S_x (X_pu E S rfl rfl rfl (spec_NthOr h0 (by omega)) (Hp.le.refl _) ?_)
              clear E a S; rintro a _ w M_119 hM_119 rfl S E
              replace h0 := h0.le hM_119
              replace hz_4 := hz_4.le hM_119
              replace hv_8 := hv_8.le hM_119
              refine S_v E rfl (R_move E rfl) rfl ?_
              clear E a; intro a E
              refine S_v E rfl (R_eql E rfl rfl) rfl ?_
              clear E a; intro a E
              refine S_v E rfl (R_move E rfl) rfl ?_
              clear E a; intro a E
              have hc_120 : (decide ((nthL l0 x1).getD x2 = x_101)) = true := by (clear S E; refine decide_eq_true ?_; (try rw [nthS_L (by omega)]); first | (rw [nthL_pos (by omega) (by assumption)]; rfl) | (rw [nthL_neg (by omega) (by omega) (by assumption)]; rfl) | (rw [nthL_none (by omega)]; rfl))
              replace E := E.val (t := 143) rfl hc_120
              replace E := E.val (t := 144) rfl hc_120
              refine WL_guard_yes E rfl rfl ?_
              refine S_v E rfl (R_move E rfl) rfl ?_
              clear E a; intro a E
              refine WL_guard_yes E rfl rfl ?_
              refine S_v E rfl (R_move E rfl) rfl ?_
              clear E a; intro a E
              refine WL_guard_yes E rfl rfl ?_
              refine S_v E rfl (R_move E rfl) rfl ?_
              clear E a; intro a E
              refine WL_guard_yes E rfl rfl ?_
              refine S_x (X_pu E S rfl rfl rfl (impl_NthOr h0 (by omega)) (Hp.le.refl _) ?_)
              clear E a S; rintro a _ w M_121 hM_121 rfl S E
              replace h0 := h0.le hM_121
              replace hz_4 := hz_4.le hM_121
              replace hv_8 := hv_8.le hM_121
              refine WL_guard_yes E rfl rfl ?_
              refine S_v E rfl (R_move E rfl) rfl ?_
              clear E a; intro a E
              refine WL_guard_yes E rfl rfl ?_
              refine S_v E rfl (R_eql E rfl rfl) rfl ?_
              clear E a; intro a E
              refine S_v E rfl (R_pickT E rfl rfl) rfl ?_
              clear E a; intro a E
              refine S_v E rfl (R_move E rfl) rfl ?_
              clear E a; intro a E
              have hc_122 : (decide ((nthL l0 x1).getD x2 = x_101)) = true := by (clear S E; refine decide_eq_true ?_; (try rw [nthS_L (by omega)]); first | (rw [nthL_pos (by omega) (by assumption)]; rfl) | (rw [nthL_neg (by omega) (by omega) (by assumption)]; rfl) | (rw [nthL_none (by omega)]; rfl))
              replace E := E.val (t := 150) rfl hc_122
              replace E := E.val (t := 151) rfl hc_122
              replace E := E.val (t := 152) rfl hc_122
              refine WL_guard_yes E rfl rfl ?_
              refine S_v E rfl (R_move E rfl) rfl ?_
              clear E a; intro a E
              refine WL_guard_yes E rfl rfl ?_
              refine S_v E rfl (R_lss E rfl rfl) rfl ?_
              clear E a; intro a E
              refine WL_guard_yes E rfl rfl ?_
              refine S_v E rfl (R_move E rfl) rfl ?_
              clear E a; intro a E
              refine split_bool (decide (x1 < 0)) (fun hc_123 => ?_) (fun hc_123 => ?_)
              · replace E := E.val (t := 154) rfl hc_123
                replace E := E.val (t := 155) rfl hc_123
                replace hc_123 := of_decide_eq_true hc_123
                refine WL_guard_no E rfl rfl rfl rfl fun a E => ?_
                refine WL_guard_no E rfl rfl rfl rfl fun a E => ?_
                refine WL_guard_no E rfl rfl rfl rfl fun a E => ?_
                refine WL_guard_no E rfl rfl rfl rfl fun a E => ?_
                refine WL_guard_no E rfl rfl rfl rfl fun a E => ?_
                refine WL_guard_no E rfl rfl rfl rfl fun a E => ?_
                refine WL_guard_yes E rfl rfl ?_
                refine S_v E rfl (R_pickT E rfl rfl) rfl ?_
                clear E a; intro a E
                refine S_v E rfl (R_pickT E rfl rfl) rfl ?_
                clear E a; intro a E
                refine S_v E rfl (R_assign E rfl) rfl ?_
                clear E a; intro a E
                refine WL_nil ?_
                refine T_n ?_
                refine WP_ret ?_
                exact F_ret1 E Try.results4 rfl ⟨_, rfl, M_121, (hM_3.trans (hM_5.trans (hM_9.trans (hM_10.trans (hM_12.trans (hM_13.trans (hM_14.trans (hM_15.trans (hM_119.trans hM_121))))))))), rfl, S⟩
              · replace E := E.val (t := 154) rfl hc_123
                replace E := E.val (t := 155) rfl hc_123
                replace hc_123 := of_decide_eq_false hc_123
                refine WL_guard_yes E rfl rfl ?_
                refine S_v E rfl (R_move E rfl) rfl ?_
                clear E a; intro a E
                refine WL_guard_yes E rfl rfl ?_
                refine S_v E rfl (R_move E rfl) rfl ?_
                clear E a; intro a E
                refine WL_guard_yes E rfl rfl ?_
                refine S_v E rfl (R_move E rfl) rfl ?_
                clear E a; intro a E
                refine WL_guard_yes E rfl rfl ?_
                refine S_x (X_pu E S rfl rfl rfl (impl_NthOrSeq h0 (by omega)) (Hp.le.refl _) ?_)
                clear E a S; rintro a _ w M_124 hM_124 rfl S E
                replace h0 := h0.le hM_124
                replace hz_4 := hz_4.le hM_124
                replace hv_8 := hv_8.le hM_124
                refine WL_guard_yes E rfl rfl ?_
                refine S_v E rfl (R_move E rfl) rfl ?_
                clear E a; intro a E
                refine WL_guard_yes E rfl rfl ?_
                refine S_v E rfl (R_eql E rfl rfl) rfl ?_
                clear E a; intro a E
                refine WL_guard_yes E rfl rfl ?_
                refine S_v E rfl (R_pickF E rfl rfl) rfl ?_
                clear E a; intro a E
                refine S_v E rfl (R_pickT E rfl rfl) rfl ?_
                clear E a; intro a E
                refine S_v E rfl (R_assign E rfl) rfl ?_
                clear E a; intro a E
                refine WL_nil ?_
                refine T_n ?_
                refine WP_ret ?_
                exact F_ret1 E Try.results4 rfl ⟨_, rfl, M_124, (hM_3.trans (hM_5.trans (hM_9.trans (hM_10.trans (hM_12.trans (hM_13.trans (hM_14.trans (hM_15.trans (hM_119.trans (hM_121.trans hM_124)))))))))), (congrArg Value.bool (by (clear S E; refine decide_eq_true ?_; (try rw [nthS_L (by omega)]); first | (rw [nthL_pos (by omega) (by assumption)]; rfl) | (rw [nthL_neg (by omega) (by omega) (by assumption)]; rfl) | (rw [nthL_none (by omega)]; rfl)))), S⟩
          · replace hc_100 := of_decide_eq_false hc_100
            refine WP_skip ?_
            refine T_n ?_
            refine WP_seq ?_
            refine WP_seq ?_
            refine WP_region ?_
            refine S_v E rfl (R_move E rfl) rfl ?_
            clear E a; intro a E
            refine S_v E rfl (R_lss E rfl rfl) rfl ?_
            clear E a; intro a E
            refine S_v E rfl (R_move E rfl) rfl ?_
            clear E a; intro a E
            refine split_bool (decide (x1 < 0)) (fun hc_125 => ?_) (fun hc_125 => ?_)
            · replace E := E.val (t := 123) rfl hc_125
              replace E := E.val (t := 124) rfl hc_125
              replace hc_125 := of_decide_eq_true hc_125
              refine WL_guard_yes E rfl rfl ?_
              refine S_v E rfl (R_move E rfl) rfl ?_
              clear E a; intro a E
              refine WL_guard_yes E rfl rfl ?_
              refine S_v E rfl (R_negx (m := -x1) E rfl rfl (by omega)) rfl ?_
              clear E a; intro a E
              refine WL_guard_yes E rfl rfl ?_
              refine S_v E rfl (R_move E rfl) rfl ?_
              clear E a; intro a E
              refine WL_guard_yes E rfl rfl ?_
              refine S_v E rfl (R_lenV E rfl T22 h0.len) rfl ?_
              clear E a; intro a E
              refine WL_guard_yes E rfl rfl ?_
              refine S_v E rfl (R_leq E rfl rfl) rfl ?_
              clear E a; intro a E
              refine S_v E rfl (R_pickT E rfl rfl) rfl ?_
              clear E a; intro a E
              refine WL_nil ?_
              refine T_n ?_
              refine WP_cond E rfl (fun hc_126 => ?_) (fun hc_126 => ?_)
              · replace hc_126 := of_decide_eq_true hc_126
                refine WP_region ?_
                refine S_v E rfl (R_move E rfl) rfl ?_
                clear E a; intro a E
                refine S_v E rfl (R_move E rfl) rfl ?_
                clear E a; intro a E
                refine S_v E rfl (R_lenV E rfl T22 h0.len) rfl ?_
                clear E a; intro a E
                refine S_v E rfl (R_move E rfl) rfl ?_
                clear E a; intro a E
                refine S_v E rfl (R_addx (m := (((l0).length : Nat) : Int) + x1) E rfl rfl (by omega) (by omega)) rfl ?_
                clear E a; intro a E
                obtain ⟨x_127, hx_127⟩ : ∃ x, (l0)[((((l0).length : Nat) : Int) + x1).toNat]? = some x := ⟨_, List.getElem?_eq_getElem (by (first | omega | (cases l0 <;> simp_all; done) | (cases l0 <;> simp_all <;> omega)))⟩
                obtain ⟨p_128, hp_128, qp_128⟩ := h0.at hx_127
                refine S_v E rfl (R_idx E rfl rfl T22 hp_128 (by omega)) rfl ?_
                clear E a; intro a E
                refine S_v E rfl (R_loadM E rfl Try.isAgg3 S.imm qp_128) rfl ?_
                clear E a; intro a E
                refine S_v E rfl (R_assign E rfl) rfl ?_
                clear E a; intro a E
                refine WL_nil ?_
                refine T_n ?_
                refine WP_seq ?_
                refine WP_region ?_
                refine S_v E rfl (R_move E rfl) rfl ?_
                clear E a; intro a E
                refine S_v E rfl (R_move E rfl) rfl ?_
                clear E a; intro a E
                refine S_v E rfl (R_move E rfl) rfl ?_
                clear E a; intro a E
                refine S_x (X_pu E S rfl rfl rfl (spec_NthOr h0 (by omega)) (Hp.le.refl _) ?_)
                clear E a S; rintro a _ w M_129 hM_129 rfl S E
                replace h0 := h0.le hM_129
                replace hz_4 := hz_4.le hM_129
                replace hv_8 := hv_8.le hM_129
                refine S_v E rfl (R_move E rfl) rfl ?_
                clear E a; intro a E
                refine S_v E rfl (R_eql E rfl rfl) rfl ?_
                clear E a; intro a E
                refine S_v E rfl (R_move E rfl) rfl ?_
                clear E a; intro a E
                have hc_130 : (decide ((nthL l0 x1).getD x2 = x_127)) = true := by (clear S E; refine decide_eq_true ?_; (try rw [nthS_L (by omega)]); first | (rw [nthL_pos (by omega) (by assumption)]; rfl) | (rw [nthL_neg (by omega) (by omega) (by assumption)]; rfl) | (rw [nthL_none (by omega)]; rfl))
                replace E := E.val (t := 143) rfl hc_130
                replace E := E.val (t := 144) rfl hc_130
                refine WL_guard_yes E rfl rfl ?_
                refine S_v E rfl (R_move E rfl) rfl ?_
                clear E a; intro a E
                refine WL_guard_yes E rfl rfl ?_
                refine S_v E rfl (R_move E rfl) rfl ?_
                clear E a; intro a E
                refine WL_guard_yes E rfl rfl ?_
                refine S_v E rfl (R_move E rfl) rfl ?_
                clear E a; intro a E
                refine WL_guard_yes E rfl rfl ?_
                refine S_x (X_pu E S rfl rfl rfl (impl_NthOr h0 (by omega)) (Hp.le.refl _) ?_)
                clear E a S; rintro a _ w M_131 hM_131 rfl S E
                replace h0 := h0.le hM_131
                replace hz_4 := hz_4.le hM_131
                replace hv_8 := hv_8.le hM_131
                refine WL_guard_yes E rfl rfl ?_
                refine S_v E rfl (R_move E rfl) rfl ?_
                clear E a; intro a E
                refine WL_guard_yes E rfl rfl ?_
                refine S_v E rfl (R_eql E rfl rfl) rfl ?_
                clear E a; intro a E
                refine S_v E rfl (R_pickT E rfl rfl) rfl ?_
                clear E a; intro a E
                refine S_v E rfl (R_move E rfl) rfl ?_
                clear E a; intro a E
                have hc_132 : (decide ((nthL l0 x1).getD x2 = x_127)) = true := by (clear S E; refine decide_eq_true ?_; (try rw [nthS_L (by omega)]); first | (rw [nthL_pos (by omega) (by assumption)]; rfl) | (rw [nthL_neg (by omega) (by omega) (by assumption)]; rfl) | (rw [nthL_none (by omega)]; rfl))
                replace E := E.val (t := 150) rfl hc_132
                replace E := E.val (t := 151) rfl hc_132
                replace E := E.val (t := 152) rfl hc_132
                refine WL_guard_yes E rfl rfl ?_
                refine S_v E rfl (R_move E rfl) rfl ?_
                clear E a; intro a E
                refine WL_guard_yes E rfl rfl ?_
                refine S_v E rfl (R_lss E rfl rfl) rfl ?_
                clear E a; intro a E
                refine WL_guard_yes E rfl rfl ?_
                refine S_v E rfl (R_move E rfl) rfl ?_
                clear E a; intro a E
                refine split_bool (decide (x1 < 0)) (fun hc_133 => ?_) (fun hc_133 => ?_)
                · replace E := E.val (t := 154) rfl hc_133
                  replace E := E.val (t := 155) rfl hc_133
                  replace hc_133 := of_decide_eq_true hc_133
                  refine WL_guard_no E rfl rfl rfl rfl fun a E => ?_
                  refine WL_guard_no E rfl rfl rfl rfl fun a E => ?_
                  refine WL_guard_no E rfl rfl rfl rfl fun a E => ?_
                  refine WL_guard_no E rfl rfl rfl rfl fun a E => ?_
                  refine WL_guard_no E rfl rfl rfl rfl fun a E => ?_
                  refine WL_guard_no E rfl rfl rfl rfl fun a E => ?_
                  refine WL_guard_yes E rfl rfl ?_
                  refine S_v E rfl (R_pickT E rfl rfl) rfl ?_
                  clear E a; intro a E
                  refine S_v E rfl (R_pickT E rfl rfl) rfl ?_
                  clear E a; intro a E
                  refine S_v E rfl (R_assign E rfl) rfl ?_
                  clear E a; intro a E
                  refine WL_nil ?_
                  refine T_n ?_
                  refine WP_ret ?_
                  exact F_ret1 E Try.results4 rfl ⟨_, rfl, M_131, (hM_3.trans (hM_5.trans (hM_9.trans (hM_10.trans (hM_12.trans (hM_13.trans (hM_14.trans (hM_15.trans (hM_129.trans hM_131))))))))), rfl, S⟩
                · replace E := E.val (t := 154) rfl hc_133
                  replace E := E.val (t := 155) rfl hc_133
                  replace hc_133 := of_decide_eq_false hc_133
                  refine WL_guard_yes E rfl rfl ?_
                  refine S_v E rfl (R_move E rfl) rfl ?_
                  clear E a; intro a E
                  refine WL_guard_yes E rfl rfl ?_
                  refine S_v E rfl (R_move E rfl) rfl ?_
                  clear E a; intro a E
                  refine WL_guard_yes E rfl rfl ?_
                  refine S_v E rfl (R_move E rfl) rfl ?_
                  clear E a; intro a E
                  refine WL_guard_yes E rfl rfl ?_
                  refine S_x (X_pu E S rfl rfl rfl (impl_NthOrSeq h0 (by omega)) (Hp.le.refl _) ?_)
                  clear E a S; rintro a _ w M_134 hM_134 rfl S E
                  replace h0 := h0.le hM_134
                  replace hz_4 := hz_4.le hM_134
                  replace hv_8 := hv_8.le hM_134
                  refine WL_guard_yes E rfl rfl ?_
                  refine S_v E rfl (R_move E rfl) rfl ?_
                  clear E a; intro a E
                  refine WL_guard_yes E rfl rfl ?_
                  refine S_v E rfl (R_eql E rfl rfl) rfl ?_
                  clear E a; intro a E
                  refine WL_guard_yes E rfl rfl ?_
                  refine S_v E rfl (R_pickF E rfl rfl) rfl ?_
                  clear E a; intro a E
                  refine S_v E rfl (R_pickT E rfl rfl) rfl ?_
                  clear E a; intro a E
                  refine S_v E rfl (R_assign E rfl) rfl ?_
                  clear E a; intro a E
                  refine WL_nil ?_
                  refine T_n ?_
                  refine WP_ret ?_
                  exact F_ret1 E Try.results4 rfl ⟨_, rfl, M_134, (hM_3.trans (hM_5.trans (hM_9.trans (hM_10.trans (hM_12.trans (hM_13.trans (hM_14.trans (hM_15.trans (hM_129.trans (hM_131.trans hM_134)))))))))), (congrArg Value.bool (by (clear S E; refine decide_eq_true ?_; (try rw [nthS_L (by omega)]); first | (rw [nthL_pos (by omega) (by assumption)]; rfl) | (rw [nthL_neg (by omega) (by omega) (by assumption)]; rfl) | (rw [nthL_none (by omega)]; rfl)))), S⟩
              · replace hc_126 := of_decide_eq_false hc_126
                refine WP_skip ?_
                refine T_n ?_
                refine WP_seq ?_
                refine WP_region ?_
                refine S_v E rfl (R_move E rfl) rfl ?_
                clear E a; intro a E
                refine S_v E rfl (R_move E rfl) rfl ?_
                clear E a; intro a E
                refine S_v E rfl (R_move E rfl) rfl ?_
                clear E a; intro a E
                refine S_x (X_pu E S rfl rfl rfl (spec_NthOr h0 (by omega)) (Hp.le.refl _) ?_)
                clear E a S; rintro a _ w M_135 hM_135 rfl S E
                replace h0 := h0.le hM_135
                replace hz_4 := hz_4.le hM_135
                replace hv_8 := hv_8.le hM_135
                refine S_v E rfl (R_move E rfl) rfl ?_
                clear E a; intro a E
                refine S_v E rfl (R_eql E rfl rfl) rfl ?_
                clear E a; intro a E
                refine S_v E rfl (R_move E rfl) rfl ?_
                clear E a; intro a E
                have hc_136 : (decide ((nthL l0 x1).getD x2 = x2)) = true := by (clear S E; refine decide_eq_true ?_; (try rw [nthS_L (by omega)]); first | (rw [nthL_pos (by omega) (by assumption)]; rfl) | (rw [nthL_neg (by omega) (by omega) (by assumption)]; rfl) | (rw [nthL_none (by omega)]; rfl))
                replace E := E.val (t := 143) rfl hc_136
                replace E := E.val (t := 144) rfl hc_136
                refine WL_guard_yes E rfl rfl ?_
                refine S_v E rfl (R_move E rfl) rfl ?_
                clear E a; intro a E
                refine WL_guard_yes E rfl rfl ?_
                refine S_v E rfl (R_move E rfl) rfl ?_
                clear E a; intro a E
                refine WL_guard_yes E rfl rfl ?_
                refine S_v E rfl (R_move E rfl) rfl ?_
                clear E a; intro a E
                refine WL_guard_yes E rfl rfl ?_
                refine S_x (X_pu E S rfl rfl rfl (impl_NthOr h0 (by omega)) (Hp.le.refl _) ?_)
                clear E a S; rintro a _ w M_137 hM_137 rfl S E
                replace h0 := h0.le hM_137
                replace hz_4 := hz_4.le hM_137
                replace hv_8 := hv_8.le hM_137
                refine WL_guard_yes E rfl rfl ?_
                refine S_v E rfl (R_move E rfl) rfl ?_
                clear E a; intro a E
                refine WL_guard_yes E rfl rfl ?_
                refine S_v E rfl (R_eql E rfl rfl) rfl ?_
                clear E a; intro a E
                refine S_v E rfl (R_pickT E rfl rfl) rfl ?_
                clear E a; intro a E
                refine S_v E rfl (R_move E rfl) rfl ?_
                clear E a; intro a E
                have hc_138 : (decide ((nthL l0 x1).getD x2 = x2)) = true := by (clear S E; refine decide_eq_true ?_; (try rw [nthS_L (by omega)]); first | (rw [nthL_pos (by omega) (by assumption)]; rfl) | (rw [nthL_neg (by omega) (by omega) (by assumption)]; rfl) | (rw [nthL_none (by omega)]; rfl))
                replace E := E.val (t := 150) rfl hc_138
                replace E := E.val (t := 151) rfl hc_138
                replace E := E.val (t := 152) rfl hc_138
                refine WL_guard_yes E rfl rfl ?_
                refine S_v E rfl (R_move E rfl) rfl ?_
                clear E a; intro a E
                refine WL_guard_yes E rfl rfl ?_
                refine S_v E rfl (R_lss E rfl rfl) rfl ?_
                clear E a; intro a E
                refine WL_guard_yes E rfl rfl ?_
                refine S_v E rfl (R_move E rfl) rfl ?_
                clear E a; intro a E
                refine split_bool (decide (x1 < 0)) (fun hc_139 => ?_) (fun hc_139 => ?_)
                · replace E := E.val (t := 154) rfl hc_139
                  replace E := E.val (t := 155) rfl hc_139
                  replace hc_139 := of_decide_eq_true hc_139
                  refine WL_guard_no E rfl rfl rfl rfl fun a E => ?_
                  refine WL_guard_no E rfl rfl rfl rfl fun a E => ?_
                  refine WL_guard_no E rfl rfl rfl rfl fun a E => ?_
                  refine WL_guard_no E rfl rfl rfl rfl fun a E => ?_
                  refine WL_guard_no E rfl rfl rfl rfl fun a E => ?_
                  refine WL_guard_no E rfl rfl rfl rfl fun a E => ?_
                  refine WL_guard_yes E rfl rfl ?_
                  refine S_v E rfl (R_pickT E rfl rfl) rfl ?_
                  clear E a; intro a E
                  refine S_v E rfl (R_pickT E rfl rfl) rfl ?_
                  clear E a; intro a E
                  refine S_v E rfl (R_assign E rfl) rfl ?_
                  clear E a; intro a E
                  refine WL_nil ?_
                  refine T_n ?_
                  refine WP_ret ?_
                  exact F_ret1 E Try.results4 rfl ⟨_, rfl, M_137, (hM_3.trans (hM_5.trans (hM_9.trans (hM_10.trans (hM_12.trans (hM_13.trans (hM_14.trans (hM_15.trans (hM_135.trans hM_137))))))))), rfl, S⟩
                · replace E := E.val (t := 154) rfl hc_139
                  replace E := E.val (t := 155) rfl hc_139
                  replace hc_139 := of_decide_eq_false hc_139
                  refine WL_guard_yes E rfl rfl ?_
                  refine S_v E rfl (R_move E rfl) rfl ?_
                  clear E a; intro a E
                  refine WL_guard_yes E rfl rfl ?_
                  refine S_v E rfl (R_move E rfl) rfl ?_
                  clear E a; intro a E
                  refine WL_guard_yes E rfl rfl ?_
                  refine S_v E rfl (R_move E rfl) rfl ?_
                  clear E a; intro a E
                  refine WL_guard_yes E rfl rfl ?_
                  refine S_x (X_pu E S rfl rfl rfl (impl_NthOrSeq h0 (by omega)) (Hp.le.refl _) ?_)
                  clear E a S; rintro a _ w M_140 hM_140 rfl S E
                  replace h0 := h0.le hM_140
                  replace hz_4 := hz_4.le hM_140
                  replace hv_8 := hv_8.le hM_140
                  refine WL_guard_yes E rfl rfl ?_
                  refine S_v E rfl (R_move E rfl) rfl ?_
                  clear E a; intro a E
                  refine WL_guard_yes E rfl rfl ?_
                  refine S_v E rfl (R_eql E rfl rfl) rfl ?_
                  clear E a; intro a E
                  refine WL_guard_yes E rfl rfl ?_
                  refine S_v E rfl (R_pickF E rfl rfl) rfl ?_
                  clear E a; intro a E
                  refine S_v E rfl (R_pickT E rfl rfl) rfl ?_
                  clear E a; intro a E
                  refine S_v E rfl (R_assign E rfl) rfl ?_
                  clear E a; intro a E
                  refine WL_nil ?_
                  refine T_n ?_
                  refine WP_ret ?_
                  exact F_ret1 E Try.results4 rfl ⟨_, rfl, M_140, (hM_3.trans (hM_5.trans (hM_9.trans (hM_10.trans (hM_12.trans (hM_13.trans (hM_14.trans (hM_15.trans (hM_135.trans (hM_137.trans hM_140)))))))))), (congrArg Value.bool (by (clear S E; refine decide_eq_true ?_; (try rw [nthS_L (by omega)]); first | (rw [nthL_pos (by omega) (by assumption)]; rfl) | (rw [nthL_neg (by omega) (by omega) (by assumption)]; rfl) | (rw [nthL_none (by omega)]; rfl)))), S⟩
            · replace E := E.val (t := 123) rfl hc_125
              replace E := E.val (t := 124) rfl hc_125
              replace hc_125 := of_decide_eq_false hc_125
              refine WL_guard_no E rfl rfl rfl rfl fun a E => ?_
              refine WL_guard_no E rfl rfl rfl rfl fun a E => ?_
              refine WL_guard_no E rfl rfl rfl rfl fun a E => ?_
              refine WL_guard_no E rfl rfl rfl rfl fun a E => ?_
              refine WL_guard_no E rfl rfl rfl rfl fun a E => ?_
              refine S_v E rfl (R_pickF E rfl rfl) rfl ?_
              clear E a; intro a E
              refine WL_nil ?_
              refine T_n ?_
              refine WP_condF E rfl rfl ?_
              refine WP_skip ?_
              refine T_n ?_
              refine WP_seq ?_
              refine WP_region ?_
              refine S_v E rfl (R_move E rfl) rfl ?_
              clear E a; intro a E
              refine S_v E rfl (R_move E rfl) rfl ?_
              clear E a; intro a E
              refine S_v E rfl (R_move E rfl) rfl ?_
              clear E a; intro a E
              refine S_x (X_pu E S rfl rfl rfl (spec_NthOr h0 (by omega)) (Hp.le.refl _) ?_)
              clear E a S; rintro a _ w M_141 hM_141 rfl S E
              replace h0 := h0.le hM_141
              replace hz_4 := hz_4.le hM_141
              replace hv_8 := hv_8.le hM_141
              refine S_v E rfl (R_move E rfl) rfl ?_
              clear E a; intro a E
              refine S_v E rfl (R_eql E rfl rfl) rfl ?_
              clear E a; intro a E
              refine S_v E rfl (R_move E rfl) rfl ?_
              clear E a; intro a E
              have hc_142 : (decide ((nthL l0 x1).getD x2 = x2)) = true := by (clear S E; refine decide_eq_true ?_; (try rw [nthS_L (by omega)]); first | (rw [nthL_pos (by omega) (by assumption)]; rfl) | (rw [nthL_neg (by omega) (by omega) (by assumption)]; rfl) | (rw [nthL_none (by omega)]; rfl))
              replace E := E.val (t := 143) rfl hc_142
              replace E := E.val (t := 144) rfl hc_142
              refine WL_guard_yes E rfl rfl ?_
              refine S_v E rfl (R_move E rfl) rfl ?_
              clear E a; intro a E
              refine WL_guard_yes E rfl rfl ?_
              refine S_v E rfl (R_move E rfl) rfl ?_
              clear E a; intro a E
              refine WL_guard_yes E rfl rfl ?_
              refine S_v E rfl (R_move E rfl) rfl ?_
              clear E a; intro a E
              refine WL_guard_yes E rfl rfl ?_
              refine S_x (X_pu E S rfl rfl rfl (impl_NthOr h0 (by omega)) (Hp.le.refl _) ?_)
              clear E a S; rintro a _ w M_143 hM_143 rfl S E
              replace h0 := h0.le hM_143
              replace hz_4 := hz_4.le hM_143
              replace hv_8 := hv_8.le hM_143
              refine WL_guard_yes E rfl rfl ?_
              refine S_v E rfl (R_move E rfl) rfl ?_
              clear E a; intro a E
              refine WL_guard_yes E rfl rfl ?_
              refine S_v E rfl (R_eql E rfl rfl) rfl ?_
              clear E a; intro a E
              refine S_v E rfl (R_pickT E rfl rfl) rfl ?_
              clear E a; intro a E
              refine S_v E rfl (R_move E rfl) rfl ?_
              clear E a; intro a E
              have hc_144 : (decide ((nthL l0 x1).getD x2 = x2)) = true := by (clear S E; refine decide_eq_true ?_; (try rw [nthS_L (by omega)]); first | (rw [nthL_pos (by omega) (by assumption)]; rfl) | (rw [nthL_neg (by omega) (by omega) (by assumption)]; rfl) | (rw [nthL_none (by omega)]; rfl))
              replace E := E.val (t := 150) rfl hc_144
              replace E := E.val (t := 151) rfl hc_144
              replace E := E.val (t := 152) rfl hc_144
              refine WL_guard_yes E rfl rfl ?_
              refine S_v E rfl (R_move E rfl) rfl ?_
              clear E a; intro a E
              refine WL_guard_yes E rfl rfl ?_
              refine S_v E rfl (R_lss E rfl rfl) rfl ?_
              clear E a; intro a E
              refine WL_guard_yes E rfl rfl ?_
              refine S_v E rfl (R_move E rfl) rfl ?_
              clear E a; intro a E
              refine split_bool (decide (x1 < 0)) (fun hc_145 => ?_) (fun hc_145 => ?_)
              · replace E := E.val (t := 154) rfl hc_145
                replace E := E.val (t := 155) rfl hc_145
                replace hc_145 := of_decide_eq_true hc_145
                refine WL_guard_no E rfl rfl rfl rfl fun a E => ?_
                refine WL_guard_no E rfl rfl rfl rfl fun a E => ?_
                refine WL_guard_no E rfl rfl rfl rfl fun a E => ?_
                refine WL_guard_no E rfl rfl rfl rfl fun a E => ?_
                refine WL_guard_no E rfl rfl rfl rfl fun a E => ?_
                refine WL_guard_no E rfl rfl rfl rfl fun a E => ?_
                refine WL_guard_yes E rfl rfl ?_
                refine S_v E rfl (R_pickT E rfl rfl) rfl ?_
                clear E a; intro a E
                refine S_v E rfl (R_pickT E rfl rfl) rfl ?_
                clear E a; intro a E
                refine S_v E rfl (R_assign E rfl) rfl ?_
                clear E a; intro a E
                refine WL_nil ?_
                refine T_n ?_
                refine WP_ret ?_
                exact F_ret1 E Try.results4 rfl ⟨_, rfl, M_143, (hM_3.trans (hM_5.trans (hM_9.trans (hM_10.trans (hM_12.trans (hM_13.trans (hM_14.trans (hM_15.trans (hM_141.trans hM_143))))))))), rfl, S⟩
              · replace E := E.val (t := 154) rfl hc_145
                replace E := E.val (t := 155) rfl hc_145
                replace hc_145 := of_decide_eq_false hc_145
                refine WL_guard_yes E rfl rfl ?_
                refine S_v E rfl (R_move E rfl) rfl ?_
                clear E a; intro a E
                refine WL_guard_yes E rfl rfl ?_
                refine S_v E rfl (R_move E rfl) rfl ?_
                clear E a; intro a E
                refine WL_guard_yes E rfl rfl ?_
                refine S_v E rfl (R_move E rfl) rfl ?_
                clear E a; intro a E
                refine WL_guard_yes E rfl rfl ?_
                refine S_x (X_pu E S rfl rfl rfl (impl_NthOrSeq h0 (by omega)) (Hp.le.refl _) ?_)
                clear E a S; rintro a _ w M_146 hM_146 rfl S E
                replace h0 := h0.le hM_146
                replace hz_4 := hz_4.le hM_146
                replace hv_8 := hv_8.le hM_146
                refine WL_guard_yes E rfl rfl ?_
                refine S_v E rfl (R_move E rfl) rfl ?_
                clear E a; intro a E
                refine WL_guard_yes E rfl rfl ?_
                refine S_v E rfl (R_eql E rfl rfl) rfl ?_
                clear E a; intro a E
                refine WL_guard_yes E rfl rfl ?_
                refine S_v E rfl (R_pickF E rfl rfl) rfl ?_
                clear E a; intro a E
                refine S_v E rfl (R_pickT E rfl rfl) rfl ?_
                clear E a; intro a E
                refine S_v E rfl (R_assign E rfl) rfl ?_
                clear E a; intro a E
                refine WL_nil ?_
                refine T_n ?_
                refine WP_ret ?_
                exact F_ret1 E Try.results4 rfl ⟨_, rfl, M_146, (hM_3.trans (hM_5.trans (hM_9.trans (hM_10.trans (hM_12.trans (hM_13.trans (hM_14.trans (hM_15.trans (hM_141.trans (hM_143.trans hM_146)))))))))), (congrArg Value.bool (by (clear S E; refine decide_eq_true ?_; (try rw [nthS_L (by omega)]); first | (rw [nthL_pos (by omega) (by assumption)]; rfl) | (rw [nthL_neg (by omega) (by omega) (by assumption)]; rfl) | (rw [nthL_none (by omega)]; rfl)))), S⟩
        · replace E := E.val (t := 111) rfl hc_99
          replace E := E.val (t := 112) rfl hc_99
          replace hc_99 := of_decide_eq_false hc_99
          refine WL_guard_no E rfl rfl rfl rfl fun a E => ?_
          refine WL_guard_no E rfl rfl rfl rfl fun a E => ?_
          refine WL_guard_no E rfl rfl rfl rfl fun a E => ?_
          refine WL_guard_no E rfl rfl rfl rfl fun a E => ?_
          refine S_v E rfl (R_pickF E rfl rfl) rfl ?_
          clear E a; intro a E
          refine WL_nil ?_
          refine T_n ?_
          refine WP_condF E rfl rfl ?_
          refine WP_skip ?_
          refine T_n ?_
          refine WP_seq ?_
          refine WP_seq ?_
          refine WP_region ?_
          refine S_v E rfl (R_move E rfl) rfl ?_
          clear E a; intro a E
          refine S_v E rfl (R_lss E rfl rfl) rfl ?_
          clear E a; intro a E
          refine S_v E rfl (R_move E rfl) rfl ?_
          clear E a; intro a E
          refine split_bool (decide (x1 < 0)) (fun hc_147 => ?_) (fun hc_147 => ?_)
          · replace E := E.val (t := 123) rfl hc_147
            replace E := E.val (t := 124) rfl hc_147
            replace hc_147 := of_decide_eq_true hc_147
            refine WL_guard_yes E rfl rfl ?_
            refine S_v E rfl (R_move E rfl) rfl ?_
            clear E a; intro a E
            refine WL_guard_yes E rfl rfl ?_
            refine S_v E rfl (R_negx (m := -x1) E rfl rfl (by omega)) rfl ?_
            clear E a; intro a E
            refine WL_guard_yes E rfl rfl ?_
            refine S_v E rfl (R_move E rfl) rfl ?_
            clear E a; intro a E
            refine WL_guard_yes E rfl rfl ?_
            refine S_v E rfl (R_lenV E rfl T22 h0.len) rfl ?_
            clear E a; intro a E
            refine WL_guard_yes E rfl rfl ?_
            refine S_v E rfl (R_leq E rfl rfl) rfl ?_
            clear E a; intro a E
            refine S_v E rfl (R_pickT E rfl rfl) rfl ?_
            clear E a; intro a E
            refine WL_nil ?_
            refine T_n ?_
            refine WP_cond E rfl (fun hc_148 => ?_) (fun hc_148 => ?_)
            · replace hc_148 := of_decide_eq_true hc_148
              refine WP_region ?_
              refine S_v E rfl (R_move E rfl) rfl ?_
              clear E a; intro a E
              refine S_v E rfl (R_move E rfl) rfl ?_
              clear E a; intro a E
              refine S_v E rfl (R_lenV E rfl T22 h0.len) rfl ?_
              clear E a; intro a E
              refine S_v E rfl (R_move E rfl) rfl ?_
              clear E a; intro a E
              refine S_v E rfl (R_addx (m := (((l0).length : Nat) : Int) + x1) E rfl rfl (by omega) (by omega)) rfl ?_
              clear E a; intro a E
              obtain ⟨x_149, hx_149⟩ : ∃ x, (l0)[((((l0).length : Nat) : Int) + x1).toNat]? = some x := ⟨_, List.getElem?_eq_getElem (by (first | omega | (cases l0 <;> simp_all; done) | (cases l0 <;> simp_all <;> omega)))⟩
              obtain ⟨p_150, hp_150, qp_150⟩ := h0.at hx_149
              refine S_v E rfl (R_idx E rfl rfl T22 hp_150 (by omega)) rfl ?_
              clear E a; intro a E
              refine S_v E rfl (R_loadM E rfl Try.isAgg3 S.imm qp_150) rfl ?_
              clear E a; intro a E
              refine S_v E rfl (R_assign E rfl) rfl ?_
              clear E a; intro a E
              refine WL_nil ?_
              refine T_n ?_
              refine WP_seq ?_
              refine WP_region ?_
              refine S_v E rfl (R_move E rfl) rfl ?_
              clear E a; intro a E
              refine S_v E rfl (R_move E rfl) rfl ?_
              clear E a; intro a E
              refine S_v E rfl (R_move E rfl) rfl ?_
              clear E a; intro a E
              refine S_x (X_pu E S rfl rfl rfl (spec_NthOr h0 (by omega)) (Hp.le.refl _) ?_)
              clear E a S; rintro a _ w M_151 hM_151 rfl S E
              replace h0 := h0.le hM_151
              replace hz_4 := hz_4.le hM_151
              replace hv_8 := hv_8.le hM_151
              refine S_v E rfl (R_move E rfl) rfl ?_
              clear E a; intro a E
              refine S_v E rfl (R_eql E rfl rfl) rfl ?_
              clear E a; intro a E
              refine S_v E rfl (R_move E rfl) rfl ?_
              clear E a; intro a E
              have hc_152 : (decide ((nthL l0 x1).getD x2 = x_149)) = true := by (clear S E; refine decide_eq_true ?_; (try rw [nthS_L (by omega)]); first | (rw [nthL_pos (by omega) (by assumption)]; rfl) | (rw [nthL_neg (by omega) (by omega) (by assumption)]; rfl) | (rw [nthL_none (by omega)]; rfl))
              replace E := E.val (t := 143) rfl hc_152
              replace E := E.val (t := 144) rfl hc_152
              refine WL_guard_yes E rfl rfl ?_
              refine S_v E rfl (R_move E rfl) rfl ?_
              clear E a; intro a E
              refine WL_guard_yes E rfl rfl ?_
              refine S_v E rfl (R_move E rfl) rfl ?_
              clear E a; intro a E
              refine WL_guard_yes E rfl rfl ?_
              refine S_v E rfl (R_move E rfl) rfl ?_
              clear E a; intro a E
              refine WL_guard_yes E rfl rfl ?_
              refine S_x (X_pu E S rfl rfl rfl (impl_NthOr h0 (by omega)) (Hp.le.refl _) ?_)
              clear E a S; rintro a _ w M_153 hM_153 rfl S E
              replace h0 := h0.le hM_153
              replace hz_4 := hz_4.le hM_153
              replace hv_8 := hv_8.le hM_153
              refine WL_guard_yes E rfl rfl ?_
              refine S_v E rfl (R_move E rfl) rfl ?_
              clear E a; intro a E
              refine WL_guard_yes E rfl rfl ?_
              refine S_v E rfl (R_eql E rfl rfl) rfl ?_
              clear E a; intro a E
              refine S_v E rfl (R_pickT E rfl rfl) rfl ?_
              clear E a; intro a E
              refine S_v E rfl (R_move E rfl) rfl ?_
              clear E a; intro a E
              have hc_154 : (decide ((nthL l0 x1).getD x2 = x_149)) = true := by (clear S E; refine decide_eq_true ?_; (try rw [nthS_L (by omega)]); first | (rw [nthL_pos (by omega) (by assumption)]; rfl) | (rw [nthL_neg (by omega) (by omega) (by assumption)]; rfl) | (rw [nthL_none (by omega)]; rfl))
              replace E := E.val (t := 150) rfl hc_154
              replace E := E.val (t := 151) rfl hc_154
              replace E := E.val (t := 152) rfl hc_154
              refine WL_guard_yes E rfl rfl ?_
              refine S_v E rfl (R_move E rfl) rfl ?_
              clear E a; intro a E
              refine WL_guard_yes E rfl rfl ?_
              refine S_v E rfl (R_lss E rfl rfl) rfl ?_
              clear E a; intro a E
              refine WL_guard_yes E rfl rfl ?_
              refine S_v E rfl (R_move E rfl) rfl ?_
              clear E a; intro a E
              refine split_bool (decide (x1 < 0)) (fun hc_155 => ?_) (fun hc_155 => ?_)
              · replace E := E.val (t := 154) rfl hc_155
                replace E := E.val (t := 155) rfl hc_155
                replace hc_155 := of_decide_eq_true hc_155
                refine WL_guard_no E rfl rfl rfl rfl fun a E => ?_
                refine WL_guard_no E rfl rfl rfl rfl fun a E => ?_
                refine WL_guard_no E rfl rfl rfl rfl fun a E => ?_
                refine WL_guard_no E rfl rfl rfl rfl fun a E => ?_
                refine WL_guard_no E rfl rfl rfl rfl fun a E => ?_
                refine WL_guard_no E rfl rfl rfl rfl fun a E => ?_
                refine WL_guard_yes E rfl rfl ?_
                refine S_v E rfl (R_pickT E rfl rfl) rfl ?_
                clear E a; intro a E
                refine S_v E rfl (R_pickT E rfl rfl) rfl ?_
                clear E a; intro a E
                refine S_v E rfl (R_assign E rfl) rfl ?_
                clear E a; intro a E
                refine WL_nil ?_
                refine T_n ?_
                refine WP_ret ?_
                exact F_ret1 E Try.results4 rfl ⟨_, rfl, M_153, (hM_3.trans (hM_5.trans (hM_9.trans (hM_10.trans (hM_12.trans (hM_13.trans (hM_14.trans (hM_15.trans (hM_151.trans hM_153))))))))), rfl, S⟩
              · replace E := E.val (t := 154) rfl hc_155
                replace E := E.val (t := 155) rfl hc_155
                replace hc_155 := of_decide_eq_false hc_155
                refine WL_guard_yes E rfl rfl ?_
                refine S_v E rfl (R_move E rfl) rfl ?_
                clear E a; intro a E
                refine WL_guard_yes E rfl rfl ?_
                refine S_v E rfl (R_move E rfl) rfl ?_
                clear E a; intro a E
                refine WL_guard_yes E rfl rfl ?_
                refine S_v E rfl (R_move E rfl) rfl ?_
                clear E a; intro a E
                refine WL_guard_yes E rfl rfl ?_
                refine S_x (X_pu E S rfl rfl rfl (impl_NthOrSeq h0 (by omega)) (Hp.le.refl _) ?_)
                clear E a S; rintro a _ w M_156 hM_156 rfl S E
                replace h0 := h0.le hM_156
                replace hz_4 := hz_4.le hM_156
                replace hv_8 := hv_8.le hM_156
                refine WL_guard_yes E rfl rfl ?_
                refine S_v E rfl (R_move E rfl) rfl ?_
                clear E a; intro a E
                refine WL_guard_yes E rfl rfl ?_
                refine S_v E rfl (R_eql E rfl rfl) rfl ?_
                clear E a; intro a E
                refine WL_guard_yes E rfl rfl ?_
                refine S_v E rfl (R_pickF E rfl rfl) rfl ?_
                clear E a; intro a E
                refine S_v E rfl (R_pickT E rfl rfl) rfl ?_
                clear E a; intro a E
                refine S_v E rfl (R_assign E rfl) rfl ?_
                clear E a; intro a E
                refine WL_nil ?_
                refine T_n ?_
                refine WP_ret ?_
                exact F_ret1 E Try.results4 rfl ⟨_, rfl, M_156, (hM_3.trans (hM_5.trans (hM_9.trans (hM_10.trans (hM_12.trans (hM_13.trans (hM_14.trans (hM_15.trans (hM_151.trans (hM_153.trans hM_156)))))))))), (congrArg Value.bool (by (clear S E; refine decide_eq_true ?_; (try rw [nthS_L (by omega)]); first | (rw [nthL_pos (by omega) (by assumption)]; rfl) | (rw [nthL_neg (by omega) (by omega) (by assumption)]; rfl) | (rw [nthL_none (by omega)]; rfl)))), S⟩
            · replace hc_148 := of_decide_eq_false hc_148
              refine WP_skip ?_
              refine T_n ?_
              refine WP_seq ?_
              refine WP_region ?_
              refine S_v E rfl (R_move E rfl) rfl ?_
              clear E a; intro a E
              refine S_v E rfl (R_move E rfl) rfl ?_
              clear E a; intro a E
              refine S_v E rfl (R_move E rfl) rfl ?_
              clear E a; intro a E
              refine S_x (X_pu E S rfl rfl rfl (spec_NthOr h0 (by omega)) (Hp.le.refl _) ?_)
              clear E a S; rintro a _ w M_157 hM_157 rfl S E
              replace h0 := h0.le hM_157
              replace hz_4 := hz_4.le hM_157
              replace hv_8 := hv_8.le hM_157
              refine S_v E rfl (R_move E rfl) rfl ?_
              clear E a; intro a E
              refine S_v E rfl (R_eql E rfl rfl) rfl ?_
              clear E a; intro a E
              refine S_v E rfl (R_move E rfl) rfl ?_
              clear E a; intro a E
              have hc_158 : (decide ((nthL l0 x1).getD x2 = x2)) = true := by (clear S E; refine decide_eq_true ?_; (try rw [nthS_L (by omega)]); first | (rw [nthL_pos (by omega) (by assumption)]; rfl) | (rw [nthL_neg (by omega) (by omega) (by assumption)]; rfl) | (rw [nthL_none (by omega)]; rfl))
              replace E := E.val (t := 143) rfl hc_158
              replace E := E.val (t := 144) rfl hc_158
              refine WL_guard_yes E rfl rfl ?_
              refine S_v E rfl (R_move E rfl) rfl ?_
              clear E a; intro a E
              refine WL_guard_yes E rfl rfl ?_
              refine S_v E rfl (R_move E rfl) rfl ?_
              clear E a; intro a E
              refine WL_guard_yes E rfl rfl ?_
              refine S_v E rfl (R_move E rfl) rfl ?_
              clear E a; intro a E
              refine WL_guard_yes E rfl rfl ?_
              refine S_x (X_pu E S rfl rfl rfl (impl_NthOr h0 (by omega)) (Hp.le.refl _) ?_)
              clear E a S; rintro a _ w M_159 hM_159 rfl S E
              replace h0 := h0.le hM_159
              replace hz_4 := hz_4.le hM_159
              replace hv_8 := hv_8.le hM_159
              refine WL_guard_yes E rfl rfl ?_
              refine S_v E rfl (R_move E rfl) rfl ?_
              clear E a; intro a E
              refine WL_guard_yes E rfl rfl ?_
              refine S_v E rfl (R_eql E rfl rfl) rfl ?_
              clear E a; intro a E
              refine S_v E rfl (R_pickT E rfl rfl) rfl ?_
              clear E a; intro a E
              refine S_v E rfl (R_move E rfl) rfl ?_
              clear E a; intro a E
              have hc_160 : (decide ((nthL l0 x1).getD x2 = x2)) = true := by (clear S E; refine decide_eq_true ?_; (try rw [nthS_L (by omega)]); first | (rw [nthL_pos (by omega) (by assumption)]; rfl) | (rw [nthL_neg (by omega) (by omega) (by assumption)]; rfl) | (rw [nthL_none (by omega)]; rfl))
              replace E := E.val (t := 150) rfl hc_160
              replace E := E.val (t := 151) rfl hc_160
              replace E := E.val (t := 152) rfl hc_160
              refine WL_guard_yes E rfl rfl ?_
              refine S_v E rfl (R_move E rfl) rfl ?_
              clear E a; intro a E
              refine WL_guard_yes E rfl rfl ?_
              refine S_v E rfl (R_lss E rfl rfl) rfl ?_
              clear E a; intro a E
              refine WL_guard_yes E rfl rfl ?_
              refine S_v E rfl (R_move E rfl) rfl ?_
              clear E a; intro a E
              refine split_bool (decide (x1 < 0)) (fun hc_161 => ?_) (fun hc_161 => ?_)
              · replace E := E.val (t := 154) rfl hc_161
                replace E := E.val (t := 155) rfl hc_161
                replace hc_161 := of_decide_eq_true hc_161
                refine WL_guard_no E rfl rfl rfl rfl fun a E => ?_
                refine WL_guard_no E rfl rfl rfl rfl fun a E => ?_
                refine WL_guard_no E rfl rfl rfl rfl fun a E => ?_
                refine WL_guard_no E rfl rfl rfl rfl fun a E => ?_
                refine WL_guard_no E rfl rfl rfl rfl fun a E => ?_
                refine WL_guard_no E rfl rfl rfl rfl fun a E => ?_
                refine WL_guard_yes E rfl rfl ?_
                refine S_v E rfl (R_pickT E rfl rfl) rfl ?_
                clear E a; intro a E
                refine S_v E rfl (R_pickT E rfl rfl) rfl ?_
                clear E a; intro a E
                refine S_v E rfl (R_assign E rfl) rfl ?_
                clear E a; intro a E
                refine WL_nil ?_
                refine T_n ?_
                refine WP_ret ?_
                exact F_ret1 E Try.results4 rfl ⟨_, rfl, M_159, (hM_3.trans (hM_5.trans (hM_9.trans (hM_10.trans (hM_12.trans (hM_13.trans (hM_14.trans (hM_15.trans (hM_157.trans hM_159))))))))), rfl, S⟩
              · replace E := E.val (t := 154) rfl hc_161
                replace E := E.val (t := 155) rfl hc_161
                replace hc_161 := of_decide_eq_false hc_161
                refine WL_guard_yes E rfl rfl ?_
                refine S_v E rfl (R_move E rfl) rfl ?_
                clear E a; intro a E
                refine WL_guard_yes E rfl rfl ?_
                refine S_v E rfl (R_move E rfl) rfl ?_
                clear E a; intro a E
                refine WL_guard_yes E rfl rfl ?_
                refine S_v E rfl (R_move E rfl) rfl ?_
                clear E a; intro a E
                refine WL_guard_yes E rfl rfl ?_
                refine S_x (X_pu E S rfl rfl rfl (impl_NthOrSeq h0 (by omega)) (Hp.le.refl _) ?_)
                clear E a S; rintro a _ w M_162 hM_162 rfl S E
                replace h0 := h0.le hM_162
                replace hz_4 := hz_4.le hM_162
                replace hv_8 := hv_8.le hM_162
                refine WL_guard_yes E rfl rfl ?_
                refine S_v E rfl (R_move E rfl) rfl ?_
                clear E a; intro a E
                refine WL_guard_yes E rfl rfl ?_
                refine S_v E rfl (R_eql E rfl rfl) rfl ?_
                clear E a; intro a E
                refine WL_guard_yes E rfl rfl ?_
                refine S_v E rfl (R_pickF E rfl rfl) rfl ?_
                clear E a; intro a E
                refine S_v E rfl (R_pickT E rfl rfl) rfl ?_
                clear E a; intro a E
                refine S_v E rfl (R_assign E rfl) rfl ?_
                clear E a; intro a E
                refine WL_nil ?_
                refine T_n ?_
                refine WP_ret ?_
                exact F_ret1 E Try.results4 rfl ⟨_, rfl, M_162, (hM_3.trans (hM_5.trans (hM_9.trans (hM_10.trans (hM_12.trans (hM_13.trans (hM_14.trans (hM_15.trans (hM_157.trans (hM_159.trans hM_162)))))))))), (congrArg Value.bool (by (clear S E; refine decide_eq_true ?_; (try rw [nthS_L (by omega)]); first | (rw [nthL_pos (by omega) (by assumption)]; rfl) | (rw [nthL_neg (by omega) (by omega) (by assumption)]; rfl) | (rw [nthL_none (by omega)]; rfl)))), S⟩
          · replace E := E.val (t := 123) rfl hc_147
            replace E := E.val (t := 124) rfl hc_147
            replace hc_147 := of_decide_eq_false hc_147
            refine WL_guard_no E rfl rfl rfl rfl fun a E => ?_
            refine WL_guard_no E rfl rfl rfl rfl fun a E => ?_
            refine WL_guard_no E rfl rfl rfl rfl fun a E => ?_
            refine WL_guard_no E rfl rfl rfl rfl fun a E => ?_
            refine WL_guard_no E rfl rfl rfl rfl fun a E => ?_
            refine S_v E rfl (R_pickF E rfl rfl) rfl ?_
            clear E a; intro a E
            refine WL_nil ?_
            refine T_n ?_
            refine WP_condF E rfl rfl ?_
            refine WP_skip ?_
            refine T_n ?_
            refine WP_seq ?_
            refine WP_region ?_
            refine S_v E rfl (R_move E rfl) rfl ?_
            clear E a; intro a E
            refine S_v E rfl (R_move E rfl) rfl ?_
            clear E a; intro a E
            refine S_v E rfl (R_move E rfl) rfl ?_
            clear E a; intro a E
            refine S_x (X_pu E S rfl rfl rfl (spec_NthOr h0 (by omega)) (Hp.le.refl _) ?_)
            clear E a S; rintro a _ w M_163 hM_163 rfl S E
            replace h0 := h0.le hM_163
            replace hz_4 := hz_4.le hM_163
            replace hv_8 := hv_8.le hM_163
            refine S_v E rfl (R_move E rfl) rfl ?_
            clear E a; intro a E
            refine S_v E rfl (R_eql E rfl rfl) rfl ?_
            clear E a; intro a E
            refine S_v E rfl (R_move E rfl) rfl ?_
            clear E a; intro a E
            have hc_164 : (decide ((nthL l0 x1).getD x2 = x2)) = true := by (clear S E; refine decide_eq_true ?_; (try rw [nthS_L (by omega)]); first | (rw [nthL_pos (by omega) (by assumption)]; rfl) | (rw [nthL_neg (by omega) (by omega) (by assumption)]; rfl) | (rw [nthL_none (by omega)]; rfl))
            replace E := E.val (t := 143) rfl hc_164
            replace E := E.val (t := 144) rfl hc_164
            refine WL_guard_yes E rfl rfl ?_
            refine S_v E rfl (R_move E rfl) rfl ?_
            clear E a; intro a E
            refine WL_guard_yes E rfl rfl ?_
            refine S_v E rfl (R_move E rfl) rfl ?_
            clear E a; intro a E
            refine WL_guard_yes E rfl rfl ?_
            refine S_v E rfl (R_move E rfl) rfl ?_
            clear E a; intro a E
            refine WL_guard_yes E rfl rfl ?_
            refine S_x (X_pu E S rfl rfl rfl (impl_NthOr h0 (by omega)) (Hp.le.refl _) ?_)
            clear E a S; rintro a _ w M_165 hM_165 rfl S E
            replace h0 := h0.le hM_165
            replace hz_4 := hz_4.le hM_165
            replace hv_8 := hv_8.le hM_165
            refine WL_guard_yes E rfl rfl ?_
            refine S_v E rfl (R_move E rfl) rfl ?_
            clear E a; intro a E
            refine WL_guard_yes E rfl rfl ?_
            refine S_v E rfl (R_eql E rfl rfl) rfl ?_
            clear E a; intro a E
            refine S_v E rfl (R_pickT E rfl rfl) rfl ?_
            clear E a; intro a E
            refine S_v E rfl (R_move E rfl) rfl ?_
            clear E a; intro a E
            have hc_166 : (decide ((nthL l0 x1).getD x2 = x2)) = true := by (clear S E; refine decide_eq_true ?_; (try rw [nthS_L (by omega)]); first | (rw [nthL_pos (by omega) (by assumption)]; rfl) | (rw [nthL_neg (by omega) (by omega) (by assumption)]; rfl) | (rw [nthL_none (by omega)]; rfl))
            replace E := E.val (t := 150) rfl hc_166
            replace E := E.val (t := 151) rfl hc_166
            replace E := E.val (t := 152) rfl hc_166
            refine WL_guard_yes E rfl rfl ?_
            refine S_v E rfl (R_move E rfl) rfl ?_
            clear E a; intro a E
            refine WL_guard_yes E rfl rfl ?_
            refine S_v E rfl (R_lss E rfl rfl) rfl ?_
            clear E a; intro a E
            refine WL_guard_yes E rfl rfl ?_
            refine S_v E rfl (R_move E rfl) rfl ?_
            clear E a; intro a E
            refine split_bool (decide (x1 < 0)) (fun hc_167 => ?_) (fun hc_167 => ?_)
            · replace E := E.val (t := 154) rfl hc_167
              replace E := E.val (t := 155) rfl hc_167
              replace hc_167 := of_decide_eq_true hc_167
              refine WL_guard_no E rfl rfl rfl rfl fun a E => ?_
              refine WL_guard_no E rfl rfl rfl rfl fun a E => ?_
              refine WL_guard_no E rfl rfl rfl rfl fun a E => ?_
              refine WL_guard_no E rfl rfl rfl rfl fun a E => ?_
              refine WL_guard_no E rfl rfl rfl rfl fun a E => ?_
              refine WL_guard_no E rfl rfl rfl rfl fun a E => ?_
              refine WL_guard_yes E rfl rfl ?_
              refine S_v E rfl (R_pickT E rfl rfl) rfl ?_
              clear E a; intro a E
              refine S_v E rfl (R_pickT E rfl rfl) rfl ?_
              clear E a; intro a E
              refine S_v E rfl (R_assign E rfl) rfl ?_
              clear E a; intro a E
              refine WL_nil ?_
              refine T_n ?_
              refine WP_ret ?_
              exact F_ret1 E Try.results4 rfl ⟨_, rfl, M_165, (hM_3.trans (hM_5.trans (hM_9.trans (hM_10.trans (hM_12.trans (hM_13.trans (hM_14.trans (hM_15.trans (hM_163.trans hM_165))))))))), rfl, S⟩
            · replace E := E.val (t := 154) rfl hc_167
              replace E := E.val (t := 155) rfl hc_167
              replace hc_167 := of_decide_eq_false hc_167
              refine WL_guard_yes E rfl rfl ?_
              refine S_v E rfl (R_move E rfl) rfl ?_
              clear E a; intro a E
              refine WL_guard_yes E rfl rfl ?_
              refine S_v E rfl (R_move E rfl) rfl ?_
              clear E a; intro a E
              refine WL_guard_yes E rfl rfl ?_
              refine S_v E rfl (R_move E rfl) rfl ?_
              clear E a; intro a E
              refine WL_guard_yes E rfl rfl ?_
              refine S_x (X_pu E S rfl rfl rfl (impl_NthOrSeq h0 (by omega)) (Hp.le.refl _) ?_)
              clear E a S; rintro a _ w M_168 hM_168 rfl S E
              replace h0 := h0.le hM_168
              replace hz_4 := hz_4.le hM_168
              replace hv_8 := hv_8.le hM_168
              refine WL_guard_yes E rfl rfl ?_
              refine S_v E rfl (R_move E rfl) rfl ?_
              clear E a; intro a E
              refine WL_guard_yes E rfl rfl ?_
              refine S_v E rfl (R_eql E rfl rfl) rfl ?_
              clear E a; intro a E
              refine WL_guard_yes E rfl rfl ?_
              refine S_v E rfl (R_pickF E rfl rfl) rfl ?_
              clear E a; intro a E
              refine S_v E rfl (R_pickT E rfl rfl) rfl ?_
              clear E a; intro a E
              refine S_v E rfl (R_assign E rfl) rfl ?_
              clear E a; intro a E
              refine WL_nil ?_
              refine T_n ?_
              refine WP_ret ?_
              exact F_ret1 E Try.results4 rfl ⟨_, rfl, M_168, (hM_3.trans (hM_5.trans (hM_9.trans (hM_10.trans (hM_12.trans (hM_13.trans (hM_14.trans (hM_15.trans (hM_163.trans (hM_165.trans hM_168)))))))))), (congrArg Value.bool (by (clear S E; refine decide_eq_true ?_; (try rw [nthS_L (by omega)]); first | (rw [nthL_pos (by omega) (by assumption)]; rfl) | (rw [nthL_neg (by omega) (by omega) (by assumption)]; rfl) | (rw [nthL_none (by omega)]; rfl)))), S⟩

end Go.Proofs.Ytllmbopajlfneaa.wFnEnds
