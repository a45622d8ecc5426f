/- Walks through the functions that laws.FnRanges reaches: what each computes; no conditions beyond what each theorem states. -/
import Derived.Test.YtllmbopajlfneaaProg
import Derived.Test.YtllmbopajlfneaaSlO
set_option linter.unusedVariables false
set_option linter.unusedSimpArgs false
namespace Go.Proofs.Ytllmbopajlfneaa.wFnRanges
open Go Go.Sl
theorem Try.mixed : Try.prog.follows .mixedOrders = true := by kernel_rfl
theorem T22 : SlT Try.prog 22 3 1 8 (.int .i64 0) := ⟨Try.underlying22, ⟨Try.t3, by kernel_rfl, rfl, rfl, rfl⟩, rfl, by decide⟩
theorem FB37_0_1_ii (x0 : Int) (x1 : Int) (w : World) : (Instr.build 37 #[(0, (.int .i64 x0)), (1, (.int .i64 x1))]).run Try.prog w = .ok (.agg #[(.int .i64 x0), (.int .i64 x1)]) w := run_build _ _ _ _ (by kernel_rfl)
theorem FB37_0_i (x0 : Int) (w : World) : (Instr.build 37 #[(0, (.int .i64 x0))]).run Try.prog w = .ok (.agg #[(.int .i64 x0), (.int .i64 0)]) w := run_build _ _ _ _ (by kernel_rfl)
theorem FA37_0 (p : Addr) (w : World) : (Instr.fieldAt 37 (.pointer (some p)) 0).run Try.prog w = .ok (.pointer (some (p.add 0))) w := by kernel_rfl
theorem FA37_1 (p : Addr) (w : World) : (Instr.fieldAt 37 (.pointer (some p)) 1).run Try.prog w = .ok (.pointer (some (p.add 1))) w := by kernel_rfl
theorem FA45_0 (p : Addr) (w : World) : (Instr.fieldAt 45 (.pointer (some p)) 0).run Try.prog w = .ok (.pointer (some (p.add 0))) w := by kernel_rfl
theorem FA45_1 (p : Addr) (w : World) : (Instr.fieldAt 45 (.pointer (some p)) 1).run Try.prog w = .ok (.pointer (some (p.add 1))) w := by kernel_rfl

def spliceL (l : List Int) (i : Int) (m : List Int) : List Int :=
  let j := min (if i < 0 then (i + l.length).toNat else i.toNat) l.length
  l.take j ++ m ++ l.drop j

theorem splice_same (l m : List Int) (i : Int) : (spliceL l i m).length = (l ++ m).length ∧ ∀ x ∈ spliceL l i m, (spliceL l i m).count x = (l ++ m).count x := by
  have h : (spliceL l i m).Perm (l ++ m) := by
    unfold spliceL
    generalize min (if i < 0 then (i + l.length).toNat else i.toNat) l.length = j
    have e : l ++ m = l.take j ++ l.drop j ++ m := by rw [List.take_append_drop]
    rw [e, List.append_assoc, List.append_assoc]
    exact List.Perm.append_left _ List.perm_append_comm
  exact ⟨h.length_eq, fun x _ => h.count_eq x⟩

def cutAt (l b : List Int) : Option Nat := (List.range (l.length + 1)).find? (fun i => decide ((l.drop i).take b.length = b))
def cutL (l b : List Int) : List Int × List Int × Bool :=
  match cutAt l b with
  | some k => (l.take k, l.drop (k + b.length), true)
  | none => (l, [], false)
theorem cutAt_some {l b : List Int} {k : Nat} (hk : k ≤ l.length) (h : (l.drop k).take b.length = b) (hn : ∀ j, j < k → ¬ (l.drop j).take b.length = b) : cutAt l b = some k := by
  unfold cutAt
  rw [List.find?_range_eq_some]
  exact ⟨by simpa using h, by simp; omega, fun j hj => by simpa using hn j hj⟩
theorem cutAt_none {l b : List Int} (hn : ∀ j, j ≤ l.length → ¬ (l.drop j).take b.length = b) : cutAt l b = none := by
  unfold cutAt
  rw [List.find?_range_eq_none]
  intro j hj
  simpa using hn j (by omega)
theorem cutL_some {l b : List Int} {k : Nat} (hk : k ≤ l.length) (h : (l.drop k).take b.length = b) (hn : ∀ j, j < k → ¬ (l.drop j).take b.length = b) : cutL l b = (l.take k, l.drop (k + b.length), true) := by
  unfold cutL; rw [cutAt_some hk h hn]
theorem cutL_none {l b : List Int} {k : Nat} (hk : l.length < k + b.length) (hn : ∀ j, j < k → ¬ (l.drop j).take b.length = b) : cutL l b = (l, [], false) := by
  unfold cutL; rw [cutAt_none]
  intro j hj e
  by_cases h : j < k
  · exact hn j h e
  · have := congrArg List.length e
    simp at this; omega
theorem cut_len {l b : List Int} : (cutL l b).1.length ≤ l.length ∧ (cutL l b).2.1.length ≤ l.length := by
  unfold cutL; split <;> simp <;> omega
theorem take_ne {l b : List Int} {k j : Nat} {x y : Int} (hx : l[k + j]? = some x) (hy : b[j]? = some y) (h : x ≠ y) : ¬ (l.drop k).take b.length = b := by
  intro e
  have hj := (List.getElem?_eq_some_iff.1 hy).1
  have : ((l.drop k).take b.length)[j]? = some x := by rw [List.getElem?_take, if_pos hj, List.getElem?_drop]; exact hx
  rw [e, hy] at this; exact h (Option.some.inj this).symm

def AtL (l b : List Int) (i xa : Int) : Prop :=
  (xa = -1 ∧ ∀ j : Nat, i < j → ¬ (l.drop j).take b.length = b) ∨ (∃ p : Nat, xa = p ∧ i < p ∧ p ≤ l.length ∧ (l.drop p).take b.length = b ∧ ∀ j : Nat, i < j → j < p → ¬ (l.drop j).take b.length = b)
theorem AtL_start {l b : List Int} {i : Int} (hb : ¬ (b.length : Int) = 0) (hi : i = (l.length : Int) - b.length) : AtL l b i (-1) := by
  refine .inl ⟨rfl, fun j hj e => ?_⟩
  have := congrArg List.length e
  simp at this; omega
theorem AtL_yes {l b : List Int} {i j xa : Int} (h : AtL l b i xa) (h0 : 0 ≤ i) (h1 : i ≤ l.length) (hj : j = i - 1) (hp : (l.drop i.toNat).take b.length = b) : AtL l b j i := by
  refine .inr ⟨i.toNat, by omega, by omega, by omega, hp, fun k h1 h2 => by omega⟩
theorem AtL_no {l b : List Int} {i j xa : Int} (h : AtL l b i xa) (h0 : 0 ≤ i) (hj : j = i - 1) (hp : ¬ (l.drop i.toNat).take b.length = b) : AtL l b j xa := by
  rcases h with ⟨rfl, h⟩ | ⟨p, rfl, h1, h2, h3, h4⟩
  · refine .inl ⟨rfl, fun k hk => ?_⟩
    by_cases e : (k : Int) = i
    · rw [show k = i.toNat by omega]; exact hp
    · exact h k (by omega)
  · refine .inr ⟨p, rfl, by omega, h2, h3, fun k hk hkp => ?_⟩
    by_cases e : (k : Int) = i
    · rw [show k = i.toNat by omega]; exact hp
    · exact h4 k (by omega) hkp
theorem AtL_end {l b : List Int} {i xa : Int} (h : AtL l b i xa) (h0 : i < 0) :
    (xa = -1 ∧ cutL l b = (l, [], false)) ∨ (∃ p : Nat, xa = p ∧ p ≤ l.length ∧ p + b.length ≤ l.length ∧ cutL l b = (l.take p, l.drop (p + b.length), true) ∧ l.take p ++ b ++ l.drop (p + b.length) = l) := by
  rcases h with ⟨rfl, h⟩ | ⟨p, rfl, h1, h2, h3, h4⟩
  · exact .inl ⟨rfl, cutL_none (k := l.length + 1) (by omega) fun j _ => h j (by omega)⟩
  · refine .inr ⟨p, rfl, h2, ?_, cutL_some h2 h3 fun j hj => h4 j (by omega) hj, ?_⟩
    · have := congrArg List.length h3
      simp at this; omega
    · have e : l.drop p = b ++ l.drop (p + b.length) := by
        conv => lhs; rw [← List.take_append_drop b.length (l.drop p), h3, List.drop_drop]
      rw [List.append_assoc, ← e, List.take_append_drop]

def maxLen (ll : List (List Int)) : Nat := ll.foldl (fun a x => max a x.length) 0
def rowI (i : Nat) (ll : List (List Int)) : List Int := ll.filterMap (fun l => l[i]?)
def interP (k : Nat) (ll : List (List Int)) : List Int := (List.range k).flatMap (fun i => rowI i ll)
def total (ll : List (List Int)) : Nat := (ll.map List.length).sum
theorem maxLen_succ {ll : List (List Int)} {k : Nat} {x : List Int} (h : ll[k]? = some x) : maxLen (ll.take (k + 1)) = max (maxLen (ll.take k)) x.length := by
  simp [maxLen, List.take_add_one, h]
theorem foldl_max_le (ll : List (List Int)) : ∀ a, a ≤ ll.foldl (fun a x => max a x.length) a ∧ ∀ x ∈ ll, x.length ≤ ll.foldl (fun a x => max a x.length) a := by
  induction ll with
  | nil => intro a; simp
  | cons y ll ih =>
    intro a
    obtain ⟨h1, h2⟩ := ih (max a y.length)
    simp only [List.foldl_cons, List.mem_cons]
    refine ⟨by omega, fun x hx => ?_⟩
    rcases hx with rfl | hx
    · omega
    · exact h2 x hx
theorem le_maxLen {ll : List (List Int)} {x : List Int} (h : x ∈ ll) : x.length ≤ maxLen ll := (foldl_max_le ll 0).2 x h
theorem maxLen_le {ll : List (List Int)} {b : Nat} (h : ∀ x ∈ ll, x.length ≤ b) : maxLen ll ≤ b := by
  unfold maxLen
  suffices ∀ a, a ≤ b → ll.foldl (fun a x => max a x.length) a ≤ b from this 0 (by omega)
  induction ll with
  | nil => intro a ha; exact ha
  | cons y ll ih => intro a ha; exact ih (fun x hx => h x (by simp [hx])) _ (by have := h y (by simp); show max a y.length ≤ b; omega)
theorem total_succ {ll : List (List Int)} {k : Nat} {x : List Int} (h : ll[k]? = some x) : total (ll.take (k + 1)) = total (ll.take k) + x.length := by
  simp [total, List.take_add_one, h]
theorem total_take_le (ll : List (List Int)) (k : Nat) : total (ll.take k) ≤ total ll := by
  unfold total
  conv => rhs; rw [← List.take_append_drop k ll]
  rw [List.map_append, List.sum_append]; omega
theorem total_le {ll : List (List Int)} {b : Nat} (h : ∀ x ∈ ll, x.length ≤ b) : total ll ≤ ll.length * b := by
  induction ll with
  | nil => simp [total]
  | cons y ll ih =>
    have h1 := h y (by simp)
    have h2 := ih (fun x hx => h x (by simp [hx]))
    simp only [total, List.map_cons, List.sum_cons, List.length_cons, Nat.succ_mul] at *; omega
theorem interP_succ (k : Nat) (ll : List (List Int)) : interP (k + 1) ll = interP k ll ++ rowI k ll := by
  simp [interP, List.range_succ, List.flatMap_append]
theorem rowI_cons (k : Nat) (x : List Int) (ll : List (List Int)) : (rowI k (x :: ll)).length = (if k < x.length then 1 else 0) + (rowI k ll).length := by
  unfold rowI
  by_cases h : k < x.length
  · rw [List.filterMap_cons, List.getElem?_eq_getElem h]; simp [h]; omega
  · rw [List.filterMap_cons, List.getElem?_eq_none (by omega)]; simp [h]
theorem interP_nil (k : Nat) : interP k [] = [] := by simp [interP, rowI, List.flatMap_eq_nil_iff]
theorem interP_cons (k : Nat) (x : List Int) (ll : List (List Int)) : (interP k (x :: ll)).length = min k x.length + (interP k ll).length := by
  induction k with
  | zero => simp [interP]
  | succ k ih => rw [interP_succ, interP_succ, List.length_append, List.length_append, ih, rowI_cons]; split <;> omega
theorem interP_le (k : Nat) (ll : List (List Int)) : (interP k ll).length ≤ total ll := by
  induction ll with
  | nil => simp [interP_nil, total]
  | cons x ll ih => rw [interP_cons]; simp only [total, List.map_cons, List.sum_cons] at *; omega
theorem interP_full {k : Nat} {ll : List (List Int)} (h : ∀ x ∈ ll, x.length ≤ k) : (interP k ll).length = total ll := by
  induction ll with
  | nil => simp [interP_nil, total]
  | cons x ll ih =>
    have h1 := h x (by simp)
    have h2 := ih fun y hy => h y (by simp [hy])
    rw [interP_cons]; simp only [total, List.map_cons, List.sum_cons] at *; omega
theorem rowI_succ {ll : List (List Int)} {j i : Nat} {x : List Int} (h : ll[j]? = some x) : rowI i (ll.take (j + 1)) = rowI i (ll.take j) ++ x[i]?.toList := by
  unfold rowI
  rw [List.take_add_one, h, List.filterMap_append]
  cases e : x[i]? <;> simp [e]
theorem rowI_take_le (i j : Nat) (ll : List (List Int)) : (rowI i (ll.take j)).length ≤ (rowI i ll).length := by
  unfold rowI
  conv => rhs; rw [← List.take_append_drop j ll, List.filterMap_append, List.length_append]
  omega
theorem inter_row_le (i j : Nat) (ll : List (List Int)) : (interP i ll).length + (rowI i (ll.take j)).length ≤ total ll := by
  have h := interP_le (i + 1) ll
  rw [interP_succ, List.length_append] at h
  have := rowI_take_le i j ll; omega
theorem inter_row_lt {i j : Nat} {ll : List (List Int)} {x : List Int} (h : ll[j]? = some x) (hi : i < x.length) : (interP i ll).length + (rowI i (ll.take j)).length < total ll := by
  have h1 := inter_row_le i (j + 1) ll
  rw [rowI_succ h, List.getElem?_eq_getElem hi] at h1
  simp at h1; omega
theorem rowI_out {i : Nat} {ll : List (List Int)} (h : ∀ x ∈ ll, x.length ≤ i) : rowI i ll = [] := by
  unfold rowI
  rw [List.filterMap_eq_nil_iff]
  intro x hx
  exact List.getElem?_eq_none (h x hx)
theorem interP_stable {ll : List (List Int)} {m : Nat} (h : ∀ x ∈ ll, x.length ≤ m) : ∀ k, m ≤ k → interP k ll = interP m ll := by
  intro k hk
  induction k with
  | zero => rw [show m = 0 by omega]
  | succ k ih =>
    by_cases e : m = k + 1
    · rw [e]
    · rw [interP_succ, ih (by omega), rowI_out fun x hx => by have := h x hx; omega, List.append_nil]
def interL (ll : List (List Int)) : List Int := interP (maxLen ll) ll
theorem interL_eq {ll : List (List Int)} {k : Nat} (h : maxLen ll ≤ k) : interP k ll = interL ll :=
  interP_stable (fun x hx => le_maxLen hx) k h
theorem maxLen_total (ll : List (List Int)) : maxLen ll ≤ total ll := by
  refine maxLen_le fun x hx => ?_
  obtain ⟨k, hk⟩ := List.getElem?_of_mem hx
  have := total_take_le ll (k + 1)
  rw [total_succ hk] at this; omega
theorem interL_length (ll : List (List Int)) : (interL ll).length = total ll := interP_full fun x hx => le_maxLen hx
theorem rowI_perm (ll : List (List Int)) (k : Nat) : (rowI k ll ++ (ll.map (List.drop (k + 1))).flatten).Perm (ll.map (List.drop k)).flatten := by
  induction ll with
  | nil => simp [rowI]
  | cons x ll ih =>
    unfold rowI at *
    rw [List.filterMap_cons]
    simp only [List.map_cons, List.flatten_cons]
    cases e : x[k]? with
    | none =>
      have hk : x.length ≤ k := by simpa using e
      simp only [List.drop_eq_nil_of_le hk, List.drop_eq_nil_of_le (Nat.le_succ_of_le hk), List.nil_append]
      exact ih
    | some y =>
      have hk := (List.getElem?_eq_some_iff.1 e)
      obtain ⟨h1, h2⟩ := hk
      rw [List.drop_eq_getElem_cons h1, h2]
      simp only [List.cons_append]
      refine List.Perm.cons y ?_
      rw [← List.append_assoc]
      refine (List.Perm.append_right _ List.perm_append_comm).trans ?_
      rw [List.append_assoc]
      exact List.Perm.append_left _ ih
theorem interP_perm (ll : List (List Int)) : ∀ k, (interP k ll ++ (ll.map (List.drop k)).flatten).Perm ll.flatten := by
  intro k
  induction k with
  | zero => simp [interP, show (List.drop 0 : List Int → List Int) = id from funext fun _ => rfl]
  | succ k ih =>
    rw [interP_succ, List.append_assoc]
    exact (List.Perm.append_left _ (rowI_perm ll k)).trans ih
theorem interL_perm (ll : List (List Int)) : (interL ll).Perm ll.flatten := by
  have h := interP_perm ll (maxLen ll)
  have e : (ll.map (List.drop (maxLen ll))).flatten = [] := by
    rw [List.flatten_eq_nil_iff]
    intro l hl
    obtain ⟨x, hx, rfl⟩ := List.mem_map.1 hl
    exact List.drop_eq_nil_of_le (le_maxLen hx)
  rw [e, List.append_nil] at h; exact h
theorem inter_same (ll : List (List Int)) : (interL ll).length = ll.flatten.length ∧ ∀ x ∈ interL ll, (interL ll).count x = ll.flatten.count x :=
  ⟨(interL_perm ll).length_eq, fun x _ => (interL_perm ll).count_eq x⟩
theorem flatten_len (ll : List (List Int)) : ll.flatten.length = total ll := by simp [total, List.length_flatten]
theorem flatten_succ {ll : List (List Int)} {k : Nat} {x : List Int} (h : ll[k]? = some x) : (ll.take (k + 1)).flatten = (ll.take k).flatten ++ x := by
  simp [List.take_add_one, h]
theorem set_fill {p q : List Int} {n : Nat} {y : Int} (h : p.length < n) (hq : q = p ++ [y]) : (p ++ List.replicate (n - p.length) (0 : Int)).set p.length y = q ++ List.replicate (n - q.length) (0 : Int) := by
  subst hq
  rw [List.set_append_right _ _ (Nat.le_refl _), Nat.sub_self]
  obtain ⟨m, hm⟩ : ∃ m, n - p.length = m + 1 := ⟨n - p.length - 1, by omega⟩
  rw [hm, List.replicate_succ, List.set_cons_zero]
  simp; omega

theorem List.mem_take_succ_of {α : Type} {l : List α} {k : Nat} {x : α} (h : l[k]? = some x) : x ∈ l.take (k + 1) := by
  rw [List.take_add_one, h]; simp
theorem take_mem_exists {α : Type} {l : List α} {k : Nat} {x : α} {p : α → Prop} (h : l[k]? = some x) : (∃ y ∈ l.take (k + 1), p y) ↔ (∃ y ∈ l.take k, p y) ∨ p x := by
  rw [List.take_add_one, h]
  simp only [Option.toList_some, List.mem_append, List.mem_singleton]
  constructor
  · rintro ⟨y, hy | rfl, hp⟩
    · exact .inl ⟨y, hy, hp⟩
    · exact .inr hp
  · rintro (⟨y, hy, hp⟩ | hp)
    · exact ⟨y, .inl hy, hp⟩
    · exact ⟨x, .inr rfl, hp⟩

theorem flat_prefix {l : List (List Int)} {k : Nat} {xk p : List Int} {x : Int} (h : l[k]? = some xk) (hp : p ++ [x] <+: xk) : ((l.take k).flatten ++ p) ++ [x] <+: l.flatten := by
  have h1 : (l.take (k + 1)).flatten <+: l.flatten := by
    conv => rhs; rw [← List.take_append_drop (k + 1) l, List.flatten_append]
    exact List.prefix_append _ _
  rw [flatten_succ h] at h1
  rw [List.append_assoc]
  exact ((List.prefix_append_right_inj _).2 hp).trans h1
theorem flat_prefix0 {l : List (List Int)} {k : Nat} {xk p : List Int} (h : l[k]? = some xk) (hp : p <+: xk) : ((l.take k).flatten ++ p) <+: l.flatten := by
  have h1 : (l.take (k + 1)).flatten <+: l.flatten := by
    conv => rhs; rw [← List.take_append_drop (k + 1) l, List.flatten_append]
    exact List.prefix_append _ _
  rw [flatten_succ h] at h1
  exact ((List.prefix_append_right_inj _).2 hp).trans h1
theorem total_append (a b : List (List Int)) : total (a ++ b) = total a + total b := by simp [total]

/-- the first k items and the last k ones have changed their places -/
def swapK (l : List Int) (k : Nat) : List Int := (List.range l.length).map fun i => if i < k ∨ l.length ≤ i + k then l.getD (l.length - 1 - i) 0 else l.getD i 0
theorem swapK_zero (l : List Int) : l = swapK l 0 := by
  apply List.ext_getElem?
  intro i
  unfold swapK
  rw [List.getElem?_map]
  by_cases h : i < l.length
  · rw [List.getElem?_range h, Option.map_some, if_neg (by omega), List.getElem?_eq_getElem h]; simp [List.getD_eq_getElem?_getD, h]
  · rw [List.getElem?_eq_none (by omega), List.getElem?_eq_none (by simp; omega)]; rfl
theorem swapK_length (l : List Int) (k : Nat) : (swapK l k).length = l.length := by simp [swapK]
theorem swapK_get {l : List Int} {k i : Nat} (h : i < l.length) : (swapK l k)[i]? = some (if i < k ∨ l.length ≤ i + k then l.getD (l.length - 1 - i) 0 else l.getD i 0) := by
  unfold swapK; rw [List.getElem?_map, List.getElem?_range h]; rfl
theorem swapK_succ {l : List Int} {k j : Nat} {x y : Int} (hk : 2 * k + 1 < l.length) (hj : j = l.length - 1 - k) (hx : (swapK l k)[j]? = some x) (hy : (swapK l k)[k]? = some y) : ((swapK l k).set k x).set j y = swapK l (k + 1) := by
  subst hj
  rw [swapK_get (by omega)] at hx hy
  rw [if_neg (by omega)] at hx hy
  apply List.ext_getElem?
  intro i
  by_cases h : i < l.length
  · rw [swapK_get h, List.getElem?_set, List.getElem?_set, swapK_length, List.length_set, swapK_length]
    by_cases h1 : l.length - 1 - k = i
    · rw [if_pos h1, if_pos (by omega), if_pos (by omega), ← hy, ← h1]; congr 2; omega
    · rw [if_neg h1]
      by_cases h2 : k = i
      · rw [if_pos h2, if_pos (by omega), if_pos (by omega), ← hx, ← h2]
      · rw [if_neg h2, swapK_get h]
        by_cases h3 : i < k ∨ l.length ≤ i + k
        · rw [if_pos h3, if_pos (by omega)]
        · rw [if_neg h3, if_neg (by omega)]
  · rw [List.getElem?_eq_none (by simp [swapK_length]; omega), List.getElem?_eq_none (by simp [swapK_length]; omega)]
theorem swapK_half {l : List Int} {k : Nat} (h : l.length / 2 ≤ k) : swapK l k = l.reverse := by
  apply List.ext_getElem?
  intro i
  by_cases hi : i < l.length
  · rw [swapK_get hi, List.getElem?_reverse hi]
    by_cases h3 : i < k ∨ l.length ≤ i + k
    · rw [if_pos h3, List.getElem?_eq_getElem (by omega)]; simp [List.getD_eq_getElem?_getD, List.getElem?_eq_getElem (show l.length - 1 - i < l.length by omega)]
    · rw [if_neg h3, List.getElem?_eq_getElem (by omega)]
      have : l.length - 1 - i = i := by omega
      simp [List.getD_eq_getElem?_getD, List.getElem?_eq_getElem hi, this]
  · rw [List.getElem?_eq_none (by simp [swapK_length]; omega), List.getElem?_eq_none (by simp; omega)]
theorem tdiv2 (n : Nat) : IntKind.i64.wrap (Int.tdiv (n : Int) 2) = IntKind.i64.wrap ((n / 2 : Nat) : Int) := by congr 1

theorem first_eq {l : List Int} {x : Int} (h : l[0]? = some x) : l.headD 0 = x ∧ l.isEmpty = false := by
  cases l with
  | nil => cases h
  | cons y l => cases h; exact ⟨rfl, rfl⟩
theorem last_eq {l : List Int} {x : Int} {k : Nat} (h : l[k]? = some x) (hk : k + 1 = l.length) : l.getLastD 0 = x ∧ l.isEmpty = false := by
  cases l with
  | nil => cases h
  | cons y l =>
    refine ⟨?_, rfl⟩
    have : k = l.length := by simpa using hk
    subst this
    rw [List.getLastD_cons, List.getLastD_eq_getLast?, List.getLast?_eq_getElem?]
    cases l with
    | nil => cases h; rfl
    | cons z l => rw [show (z :: l).length - 1 = l.length by simp]; rw [show (y :: z :: l)[(z :: l).length]? = (z :: l)[l.length]? by simp] at h; rw [h]; rfl

theorem rev_step {l : List Int} {k j : Nat} {x : Int} (hk : k < l.length) (hj : (j : Int) = (l.length : Int) - 1 - k) (h : l[j]? = some x) : (l.drop (l.length - k)).reverse ++ [x] = (l.drop (l.length - (k + 1))).reverse := by
  have e : j = l.length - (k + 1) := by omega
  subst e
  rw [List.drop_eq_getElem_cons (show l.length - (k + 1) < l.length by omega), show l.length - (k + 1) + 1 = l.length - k by omega, List.reverse_cons]
  rw [List.getElem?_eq_getElem (by omega)] at h
  rw [Option.some.inj h]
theorem rev_prefix {l : List Int} {k j : Nat} {x : Int} (hk : k < l.length) (hj : (j : Int) = (l.length : Int) - 1 - k) (h : l[j]? = some x) : (l.drop (l.length - k)).reverse ++ [x] <+: l.reverse := by
  rw [rev_step hk hj h]
  conv => rhs; rw [← List.take_append_drop (l.length - (k + 1)) l, List.reverse_append]
  exact List.prefix_append _ _

theorem turn_head (l : List Int) : l.headD 0 = l.reverse.getLastD 0 := by cases l <;> simp [List.getLastD_eq_getLast?]

def predAt (k n : Int) (l : List Int) (x i : Int) : Bool :=
  if k = 0 then decide (x < n) else if k = 1 then (decide (n ≠ 0) && decide (x % n = l.headD 0)) else if k = 2 then decide (x ∈ l) else if k = 3 then decide (Int.tmod i 2 = 0) else decide (k = 4)
theorem tmod_emod (a b : Int) (hb : b ≠ 0) : (Int.tmod a b = a % b ∨ Int.tmod a b = a % b - b.natAbs) ∧ 0 ≤ a % b ∧ a % b < b.natAbs := by
  refine ⟨?_, Int.emod_nonneg _ hb, ?_⟩
  · rw [Int.tmod_eq_emod]; split <;> simp
  · have := Int.emod_lt a hb; omega
def filtI (f : Int → Int → Bool) : Nat → List Int → List Int
  | _, [] => []
  | i, x :: l => if f x i then x :: filtI f (i + 1) l else filtI f (i + 1) l
theorem filtI_append (f : Int → Int → Bool) : ∀ (a b : List Int) (i : Nat), filtI f i (a ++ b) = filtI f i a ++ filtI f (i + a.length) b
  | [], b, i => by simp [filtI]
  | x :: a, b, i => by
    simp only [List.cons_append, filtI, filtI_append f a b (i + 1), List.length_cons]
    rw [show i + 1 + a.length = i + (a.length + 1) by omega]
    split <;> rfl
theorem filtI_succ {f : Int → Int → Bool} {l : List Int} {k : Nat} {x : Int} (h : l[k]? = some x) : filtI f 0 (l.take (k + 1)) = filtI f 0 (l.take k) ++ (if f x k then [x] else []) := by
  have hk := (List.getElem?_eq_some_iff.1 h).1
  rw [List.take_add_one, h, filtI_append]
  simp only [Option.toList_some, filtI, List.length_take, Nat.zero_add, Nat.min_eq_left (Nat.le_of_lt hk)]
theorem filtI_len (f : Int → Int → Bool) : ∀ (l : List Int) (i : Nat), (filtI f i l).length ≤ l.length
  | [], i => by simp [filtI]
  | x :: l, i => by have := filtI_len f l (i + 1); unfold filtI; split <;> simp <;> omega
theorem filtI_filter {f : Int → Int → Bool} {g : Int → Bool} (h : ∀ x i, f x i = g x) : ∀ (l : List Int) (i : Nat), filtI f i l = l.filter g
  | [], i => rfl
  | x :: l, i => by unfold filtI; rw [h, List.filter_cons, filtI_filter h l (i + 1)]
theorem predAt_free {k n : Int} {l : List Int} (h : ¬ k = 3) (x i : Int) : predAt k n l x i = predAt k n l x 0 := by
  unfold predAt; simp [h]
theorem countP_succ {g : Int → Bool} {l : List Int} {k : Nat} {x : Int} (h : l[k]? = some x) : (l.take (k + 1)).countP g = (l.take k).countP g + (if g x then 1 else 0) := by
  rw [List.take_add_one, h, List.countP_append]; simp [List.countP_cons]

/-- the first place of an item, -1 if there is none -/
def idxOf (l : List Int) (x : Int) : Int := match (List.range l.length).find? (fun i => decide (l[i]? = some x)) with | some i => (i : Int) | none => -1
theorem idxOf_some {l : List Int} {x : Int} {k : Nat} (h : l[k]? = some x) (hn : ∀ j, j < k → l[j]? ≠ some x) : idxOf l x = (k : Int) := by
  have hk := (List.getElem?_eq_some_iff.1 h).1
  have : (List.range l.length).find? (fun i => decide (l[i]? = some x)) = some k := by
    rw [List.find?_range_eq_some]
    exact ⟨by simpa using h, by simpa using hk, fun j hj => by simpa using hn j hj⟩
  unfold idxOf; rw [this]
theorem idxOf_none {l : List Int} {x : Int} (hn : ∀ j : Nat, l[j]? ≠ some x) : idxOf l x = -1 := by
  have : (List.range l.length).find? (fun i => decide (l[i]? = some x)) = none := by
    rw [List.find?_range_eq_none]
    intro i hi; simpa using hn i
  unfold idxOf; rw [this]
theorem idxOf_mem (l : List Int) (x : Int) : decide (0 ≤ idxOf l x) = decide (x ∈ l) := by
  by_cases h : x ∈ l
  · rw [decide_eq_true h]
    cases e : (List.range l.length).find? (fun i => decide (l[i]? = some x)) with
    | some i => unfold idxOf; rw [e]; simp
    | none =>
      rw [List.find?_range_eq_none] at e
      obtain ⟨k, hk⟩ := List.getElem?_of_mem h
      have := e k (List.getElem?_eq_some_iff.1 hk).1
      simp [hk] at this
  · rw [decide_eq_false h, idxOf_none (fun j e => h (List.mem_of_getElem? e))]; rfl

theorem filt_twice (f g : Int → Int → Bool) (hf : ∀ x i, f x i = f x 0) (hg : ∀ x i, g x i = g x 0) (l : List Int) :
    filtI g 0 (filtI f 0 l) = filtI f 0 (filtI g 0 l) ∧ filtI f 0 (filtI g 0 (filtI f 0 l)) = filtI g 0 (filtI f 0 l) ∧ filtI (fun x i => !g x i) 0 (filtI g 0 (filtI f 0 l)) = [] ∧
    filtI f 0 (filtI (fun x i => !f x i) 0 l) = [] ∧ (filtI f 0 l).length = l.countP (fun x => f x 0) ∧ l.length = l.countP (fun x => f x 0) + (filtI (fun x i => !f x i) 0 l).length := by
  have h1 := fun l i => filtI_filter hf l i
  have h2 := fun l i => filtI_filter hg l i
  have h3 := fun l i => filtI_filter (f := fun x i => !f x i) (g := fun x => !f x 0) (fun x i => by rw [hf]) l i
  have h4 := fun l i => filtI_filter (f := fun x i => !g x i) (g := fun x => !g x 0) (fun x i => by rw [hg]) l i
  simp only [h1, h2, h3, h4, List.filter_filter]
  refine ⟨List.filter_congr fun x _ => Bool.and_comm _ _, List.filter_congr fun x _ => by cases f x 0 <;> cases g x 0 <;> rfl, ?_, ?_, (List.countP_eq_length_filter).symm, ?_⟩
  · rw [List.filter_eq_nil_iff]; intro x _; cases f x 0 <;> cases g x 0 <;> simp
  · rw [List.filter_eq_nil_iff]; intro x _; cases f x 0 <;> simp
  · have e : (fun x => !f x 0) = (fun a => decide ¬f a 0 = true) := funext fun x => by cases f x 0 <;> rfl
    rw [← List.countP_eq_length_filter, e]; exact List.length_eq_countP_add_countP _

theorem head_prefix {p l : List Int} {x : Int} (h : p.head? = some x) (hp : p <+: l) : l.headD 0 = x ∧ l.isEmpty = false := by
  obtain ⟨t, rfl⟩ := hp
  cases p with
  | nil => cases h
  | cons y p => cases h; exact ⟨rfl, rfl⟩

theorem getLastD_append1 (l : List Int) (x : Int) : (l ++ [x]).getLastD 0 = x := by rw [List.getLastD_eq_getLast?, List.getLast?_append]; rfl
def nthL (l : List Int) (i : Int) : Option Int := if 0 ≤ i then l[i.toNat]? else if -(l.length : Int) ≤ i then l[((l.length : Int) + i).toNat]? else none
def nthS (l : List Int) (i : Int) : Option Int := if 0 ≤ i then l[i.toNat]? else none
theorem nthL_none {l : List Int} {i : Int} (h : (l.length : Int) ≤ i ∨ i < -(l.length : Int)) : nthL l i = none := by
  unfold nthL
  split
  · exact List.getElem?_eq_none (by omega)
  · rw [if_neg (by omega)]
theorem nthL_pos {l : List Int} {i x : Int} (h : 0 ≤ i) (hx : l[i.toNat]? = some x) : nthL l i = some x := by unfold nthL; rw [if_pos h, hx]
theorem nthL_neg {l : List Int} {i x : Int} (h : ¬ 0 ≤ i) (h2 : -(l.length : Int) ≤ i) (hx : l[((l.length : Int) + i).toNat]? = some x) : nthL l i = some x := by unfold nthL; rw [if_neg h, if_pos h2, hx]
theorem nthS_stop {p l : List Int} {i x : Int} (h : 0 ≤ i) (hx : p[i.toNat]? = some x) (hp : p <+: l) : nthS l i = some x := by
  obtain ⟨t, rfl⟩ := hp
  unfold nthS; rw [if_pos h, List.getElem?_append_left (List.getElem?_eq_some_iff.1 hx).1, hx]
theorem nthS_out {l : List Int} {i : Int} (h : i < 0 ∨ (l.length : Int) ≤ i) : nthS l i = none := by
  unfold nthS; split
  · exact List.getElem?_eq_none (by omega)
  · rfl
theorem nthS_L {l : List Int} {i : Int} (h : ¬ i < 0) : nthS l i = nthL l i := by unfold nthS nthL; rw [if_pos (by omega), if_pos (by omega)]

def w64 (x : Int) : Int := IntKind.i64.wrap x
def keyAt (k n x i : Int) : Int :=
  if k = 0 then w64 (x + n) else if k = 1 then w64 (x * n) else if k = 2 then (if n = 0 then x else x % n) else if k = 3 then n else if k = 4 then i else x
theorem w64_in {x : Int} (h : -9223372036854775808 ≤ x ∧ x ≤ 9223372036854775807) : w64 x = x := wrap_in h
theorem w64_range (x : Int) : -9223372036854775808 ≤ w64 x ∧ w64 x ≤ 9223372036854775807 := by
  unfold w64 IntKind.wrap; simp [IntKind.signed, IntKind.bits]; omega
theorem w64_eq (x : Int) : ∃ q : Int, w64 x = x + q * 18446744073709551616 := by
  unfold w64 IntKind.wrap; simp [IntKind.signed, IntKind.bits]
  exact ⟨-((x + 9223372036854775808) / 18446744073709551616), by omega⟩
theorem w64_congr {x y q : Int} (h : x = y + q * 18446744073709551616) : w64 x = w64 y := by
  unfold w64 IntKind.wrap; simp [IntKind.signed, IntKind.bits]; omega
theorem w64_add (x y : Int) : w64 (w64 x + y) = w64 (x + y) := by
  obtain ⟨q, h⟩ := w64_eq x
  exact w64_congr (q := q) (by rw [h]; omega)
theorem w64_mul (x y : Int) : w64 (w64 x * y) = w64 (x * y) := by
  obtain ⟨q, h⟩ := w64_eq x
  refine w64_congr (q := q * y) ?_
  rw [h, Int.add_mul, Int.mul_assoc, Int.mul_assoc, Int.mul_comm 18446744073709551616 y]
def mapI (f : Int → Int → Int) : Nat → List Int → List Int
  | _, [] => []
  | i, x :: l => f x i :: mapI f (i + 1) l
theorem mapI_len (f : Int → Int → Int) : ∀ (l : List Int) (i : Nat), (mapI f i l).length = l.length
  | [], i => rfl
  | x :: l, i => by simp [mapI, mapI_len f l (i + 1)]
theorem mapI_append (f : Int → Int → Int) : ∀ (a b : List Int) (i : Nat), mapI f i (a ++ b) = mapI f i a ++ mapI f (i + a.length) b
  | [], b, i => by simp [mapI]
  | x :: a, b, i => by
    simp only [List.cons_append, mapI, mapI_append f a b (i + 1), List.length_cons]
    rw [show i + 1 + a.length = i + (a.length + 1) by omega]
theorem mapI_succ {f : Int → Int → Int} {l : List Int} {k : Nat} {x : Int} (h : l[k]? = some x) : mapI f 0 (l.take (k + 1)) = mapI f 0 (l.take k) ++ [f x k] := by
  have hk := (List.getElem?_eq_some_iff.1 h).1
  rw [List.take_add_one, h, mapI_append]
  simp only [Option.toList_some, mapI, List.length_take, Nat.zero_add, Nat.min_eq_left (Nat.le_of_lt hk)]

theorem modA (x n : Int) (hn : 0 < n) : (0 ≤ x % n ∧ x % n < n) ∧ (((-x) % n = 0 ∧ x % n = 0) ∨ (0 < (-x) % n ∧ x % n = n - (-x) % n)) := by
  have h1 := Int.emod_nonneg x (show n ≠ 0 by omega)
  have h2 := Int.emod_lt_of_pos x hn
  refine ⟨⟨h1, h2⟩, ?_⟩
  have h3 := Int.emod_nonneg (-x) (show n ≠ 0 by omega)
  have h4 := Int.emod_lt_of_pos (-x) hn
  have h5 : (x % n + (-x) % n) % n = 0 := by rw [← Int.add_emod, Int.add_right_neg, Int.zero_emod]
  have h6 : n ∣ (x % n + (-x) % n) := Int.dvd_of_emod_eq_zero h5
  obtain ⟨q, hq⟩ := h6
  have h7 : q = 0 ∨ q = 1 := by
    have hq0 : 0 ≤ q := by
      refine Int.not_lt.1 fun hlt => ?_
      have : n * q < 0 := Int.mul_neg_of_pos_of_neg hn hlt
      omega
    have hq2 : q < 2 := by
      refine Int.not_le.1 fun hle => ?_
      have : n * 2 ≤ n * q := Int.mul_le_mul_of_nonneg_left hle (by omega)
      omega
    omega
  rcases h7 with rfl | rfl
  · left; omega
  · by_cases h8 : (-x) % n = 0
    · omega
    · right; omega

theorem wsum_succ {l : List Int} {k : Nat} {x : Int} (h : l[k]? = some x) : w64 (w64 (l.take k).sum + x) = w64 ((l.take (k + 1)).sum) := by
  rw [w64_add, List.take_add_one, h, List.sum_append]; simp
theorem wsumby_succ {l : List Int} {k : Nat} {x : Int} (f : Int → Int) (h : l[k]? = some x) : w64 (w64 ((l.take k).map f).sum + f x) = w64 (((l.take (k + 1)).map f).sum) := by
  rw [w64_add, List.take_add_one, h, List.map_append, List.sum_append]; simp
def prod (l : List Int) : Int := l.foldl (fun a x => a * x) 1
theorem prod_append1 (l : List Int) (x : Int) : prod (l ++ [x]) = prod l * x := by simp [prod]
theorem wprod_succ {l : List Int} {k : Nat} {x : Int} (h : l[k]? = some x) : w64 (w64 (prod (l.take k)) * x) = w64 (prod (l.take (k + 1))) := by
  rw [w64_mul, List.take_add_one, h]; simp [prod_append1]
theorem wsumby_app (f : Int → Int) (l : List Int) (x : Int) : w64 (w64 (l.map f).sum + f x) = w64 ((l ++ [x]).map f).sum := by rw [w64_add]; simp
theorem wprodby_app (f : Int → Int) (l : List Int) (x : Int) : w64 (w64 (prod (l.map f)) * f x) = w64 (prod ((l ++ [x]).map f)) := by rw [w64_mul]; simp [prod_append1]
theorem w64_zero : w64 0 = 0 := by decide
theorem w64_one : w64 1 = 1 := by decide

theorem w64_add2 (x y : Int) : w64 (x + y) = w64 (w64 x + w64 y) := by rw [w64_add, Int.add_comm x (w64 y), w64_add, Int.add_comm]
theorem sum_rev (l : List Int) : l.reverse.sum = l.sum := by
  induction l with
  | nil => rfl
  | cons x l ih => rw [List.reverse_cons, List.sum_append, ih]; simp [Int.add_comm]
theorem mapI_map {f : Int → Int → Int} {g : Int → Int} (h : ∀ x i, f x i = g x) : ∀ (l : List Int) (i : Nat), mapI f i l = l.map g
  | [], i => rfl
  | x :: l, i => by unfold mapI; rw [h, mapI_map h l (i + 1)]; rfl
theorem keyAt_free {k n : Int} (h : ¬ k = 4) (x i : Int) : keyAt k n x i = keyAt k n x 0 := by unfold keyAt; simp [h]

def foldI (f : Int → Int → Int → Int) : Nat → Int → List Int → Int
  | _, s, [] => s
  | i, s, x :: l => foldI f (i + 1) (f s x i) l
theorem foldI_append (f : Int → Int → Int → Int) : ∀ (a b : List Int) (i : Nat) (s : Int), foldI f i s (a ++ b) = foldI f (i + a.length) (foldI f i s a) b
  | [], b, i, s => by simp [foldI]
  | x :: a, b, i, s => by
    simp only [List.cons_append, foldI, foldI_append f a b (i + 1), List.length_cons]
    rw [show i + 1 + a.length = i + (a.length + 1) by omega]
theorem foldI_app1 (f : Int → Int → Int → Int) (a : List Int) (x : Int) (s : Int) : foldI f 0 s (a ++ [x]) = f (foldI f 0 s a) x a.length := by
  rw [foldI_append, Nat.zero_add]; rfl
theorem foldI_succ {f : Int → Int → Int → Int} {l : List Int} {k : Nat} {x : Int} (s : Int) (h : l[k]? = some x) : f (foldI f 0 s (l.take k)) x k = foldI f 0 s (l.take (k + 1)) := by
  have hk := (List.getElem?_eq_some_iff.1 h).1
  rw [List.take_add_one, h]
  show _ = foldI f 0 s (l.take k ++ [x])
  rw [foldI_app1, List.length_take, Nat.min_eq_left (Nat.le_of_lt hk)]
theorem foldI_free {f : Int → Int → Int → Int} (hf : ∀ s x i, f s x i = f s x 0) : ∀ (l : List Int) (i : Nat) (s : Int), foldI f i s l = l.foldl (fun s x => f s x 0) s
  | [], i, s => rfl
  | x :: l, i, s => by unfold foldI; rw [hf, foldI_free hf l (i + 1)]; rfl
theorem foldI_congr {f g : Int → Int → Int → Int} (h : ∀ s x i, f s x i = g s x i) (i : Nat) (s : Int) (l : List Int) : foldI f i s l = foldI g i s l := by
  rw [show f = g from funext fun s => funext fun x => funext fun i => h s x i]
def rstep (k n s x i : Int) : Int := w64 (w64 (s * 31) + keyAt k n x i)
theorem foldr_step {f : Int → Int → Int → Int} (hf : ∀ s x i, f s x i = f s x 0) {l : List Int} {k j : Nat} {x i : Int} (s : Int) (hk : k < l.length) (hj : (j : Int) = (l.length : Int) - 1 - k) (h : l[j]? = some x) :
    f (foldI f 0 s (l.drop (l.length - k)).reverse) x i = foldI f 0 s (l.drop (l.length - (k + 1))).reverse := by
  rw [← rev_step hk hj h, foldI_app1, hf _ _ i, hf _ _ ((_ : Nat) : Int)]

theorem rstep_free {k n : Int} (h : ¬ k = 4) (s x i : Int) : rstep k n s x i = rstep k n s x 0 := by unfold rstep; rw [keyAt_free h]
theorem fold_both {k n : Int} (h : ¬ k = 4) (a b : List Int) (s : Int) : foldI (rstep k n) 0 s (a ++ b) = foldI (rstep k n) 0 (foldI (rstep k n) 0 s a) b := by
  rw [foldI_free (rstep_free h), foldI_free (rstep_free h), foldI_free (rstep_free h), List.foldl_append]
theorem fold_rev {k n : Int} (h : ¬ k = 4) (l : List Int) (s : Int) : foldI (fun s x i => rstep k n s x 0) 0 s l = foldI (rstep k n) 0 s l :=
  (foldI_congr (rstep_free h) 0 s l).symm

def PF2T (P : Program) (fv : Value) (M : Hp) (f : Int → Int → Int × Bool) : Prop := fv.oneCell' = true ∧ ∀ x i : Int, Pu P fv M [.int .i64 x, .int .i64 i] (fun r _ => r = .tuple #[.int .i64 (f x i).1, .bool (f x i).2])
theorem PF2T.le {P : Program} {fv : Value} {M M' : Hp} {f : Int → Int → Int × Bool} (h : PF2T P fv M f) (hM : Hp.le M M') : PF2T P fv M' f := ⟨h.1, fun x i => (h.2 x i).le hM⟩
/-- what is kept, as what it is made of -/
def fmapI (f : Int → Int → Int × Bool) : Nat → List Int → List Int
  | _, [] => []
  | i, x :: l => if (f x i).2 then (f x i).1 :: fmapI f (i + 1) l else fmapI f (i + 1) l
theorem fmapI_append (f : Int → Int → Int × Bool) : ∀ (a b : List Int) (i : Nat), fmapI f i (a ++ b) = fmapI f i a ++ fmapI f (i + a.length) b
  | [], b, i => by simp [fmapI]
  | x :: a, b, i => by
    simp only [List.cons_append, fmapI, fmapI_append f a b (i + 1), List.length_cons]
    rw [show i + 1 + a.length = i + (a.length + 1) by omega]
    split <;> rfl
theorem fmapI_app1 (f : Int → Int → Int × Bool) (a : List Int) (x : Int) : fmapI f 0 (a ++ [x]) = fmapI f 0 a ++ (if (f x a.length).2 then [(f x a.length).1] else []) := by
  rw [fmapI_append, Nat.zero_add]; rfl
theorem fmapI_succ {f : Int → Int → Int × Bool} {l : List Int} {k : Nat} {x : Int} (h : l[k]? = some x) : fmapI f 0 (l.take (k + 1)) = fmapI f 0 (l.take k) ++ (if (f x k).2 then [(f x k).1] else []) := by
  have hk := (List.getElem?_eq_some_iff.1 h).1
  rw [List.take_add_one, h]
  show fmapI f 0 (l.take k ++ [x]) = _
  rw [fmapI_app1, List.length_take, Nat.min_eq_left (Nat.le_of_lt hk)]
theorem fmapI_len (f : Int → Int → Int × Bool) : ∀ (l : List Int) (i : Nat), (fmapI f i l).length ≤ l.length
  | [], i => by simp [fmapI]
  | x :: l, i => by have := fmapI_len f l (i + 1); unfold fmapI; split <;> simp <;> omega

theorem fmapI_prefix0 {f : Int → Int → Int × Bool} {p l : List Int} (hp : p <+: l) : fmapI f 0 p <+: fmapI f 0 l := by
  obtain ⟨t, rfl⟩ := hp
  rw [fmapI_append]; exact List.prefix_append _ _
theorem fmapI_prefix {f : Int → Int → Int × Bool} {p l : List Int} {x : Int} (hp : p ++ [x] <+: l) (hk : (f x p.length).2 = true) : fmapI f 0 p ++ [(f x p.length).1] <+: fmapI f 0 l := by
  have h := fmapI_prefix0 (f := f) hp
  rw [fmapI_app1, if_pos hk] at h; exact h
theorem fmapI_filt {f g : Int → Int → Int} {p : Int → Int → Bool} (hg : ∀ x i, g x i = g x 0) (hfg : f = g) : ∀ (l : List Int) (i : Nat), mapI g 0 (filtI p i l) = fmapI (fun x i => (f x i, p x i)) i l := by
  subst hfg
  intro l
  have h0 : ∀ (a : List Int) (i j : Nat), mapI f i a = mapI f j a := fun a i j => by rw [mapI_map hg, mapI_map hg]
  induction l with
  | nil => intro i; rfl
  | cons x l ih =>
    intro i
    unfold filtI fmapI
    by_cases h : p x i = true
    · rw [if_pos h, if_pos h]; unfold mapI; rw [h0 _ _ 0, ih, hg x, hg x i]
    · rw [if_neg h, if_neg h]; exact ih _

theorem comp_get {a l : List Int} {k : Nat} {x : Int} (hk : a.length ≤ k) (h : (a ++ l.drop a.length)[k]? = some x) : l[k]? = some x := by
  rw [List.getElem?_append_right hk, List.getElem?_drop, Nat.add_sub_cancel' hk] at h; exact h
theorem comp_set {a b l : List Int} {x : Int} (hk : a.length < l.length) (hb : b = a ++ [x]) : (a ++ l.drop a.length).set a.length x = b ++ l.drop b.length := by
  subst hb
  rw [List.set_append_right _ _ (Nat.le_refl _), Nat.sub_self, List.drop_eq_getElem_cons hk, List.set_cons_zero]
  simp
theorem filtI_prefix0 {f : Int → Int → Bool} {p l : List Int} (hp : p <+: l) : filtI f 0 p <+: filtI f 0 l := by
  obtain ⟨t, rfl⟩ := hp
  rw [filtI_append]; exact List.prefix_append _ _
theorem filtI_app1 (f : Int → Int → Bool) (a : List Int) (x : Int) : filtI f 0 (a ++ [x]) = filtI f 0 a ++ (if f x a.length then [x] else []) := by
  rw [filtI_append, Nat.zero_add]; rfl
theorem filtI_prefix {f : Int → Int → Bool} {p l : List Int} {x : Int} (hp : p ++ [x] <+: l) (hk : f x p.length = true) : filtI f 0 p ++ [x] <+: filtI f 0 l := by
  have h := filtI_prefix0 (f := f) hp
  rw [filtI_app1, if_pos hk] at h; exact h

theorem fmapI_id {p : Int → Int → Bool} : ∀ (l : List Int) (i : Nat), (∀ x ∈ l, -9223372036854775808 ≤ x ∧ x ≤ 9223372036854775807) → fmapI (fun x i => (keyAt 0 0 x i, p x i)) i l = filtI p i l
  | [], i, _ => rfl
  | x :: l, i, h => by
    unfold fmapI filtI
    rw [fmapI_id l (i + 1) fun y hy => h y (List.mem_cons_of_mem _ hy)]
    have e : keyAt 0 0 x i = x := by unfold keyAt; simp; exact w64_in (h x (List.mem_cons_self ..))
    simp only [e]

theorem map_get {f : Int → Int → Int} {l : List Int} {k : Nat} {x : Int} (hk : (mapI f 0 (l.take k)).length = k) (h : (mapI f 0 (l.take k) ++ l.drop k)[k]? = some x) : l[k]? = some x := by
  rw [List.getElem?_append_right (by omega), List.getElem?_drop, hk, Nat.sub_self, Nat.add_zero] at h; exact h
theorem map_set {f : Int → Int → Int} {l : List Int} {k : Nat} {x : Int} (hk : (mapI f 0 (l.take k)).length = k) (hx : l[k]? = some x) : (mapI f 0 (l.take k) ++ l.drop k).set k (f x k) = mapI f 0 (l.take (k + 1)) ++ l.drop (k + 1) := by
  have hlt := (List.getElem?_eq_some_iff.1 hx).1
  rw [List.set_append_right _ _ (by omega), hk, Nat.sub_self, List.drop_eq_getElem_cons hlt, List.set_cons_zero, mapI_succ hx, List.append_assoc]; rfl
theorem mapI_app1 (f : Int → Int → Int) (a : List Int) (x : Int) : mapI f 0 (a ++ [x]) = mapI f 0 a ++ [f x a.length] := by
  rw [mapI_append, Nat.zero_add]; rfl
theorem mapI_prefix0 {f : Int → Int → Int} {p l : List Int} (hp : p <+: l) : mapI f 0 p <+: mapI f 0 l := by
  obtain ⟨t, rfl⟩ := hp
  rw [mapI_append]; exact List.prefix_append _ _
theorem mapI_prefix {f : Int → Int → Int} {p l : List Int} {x : Int} (hp : p ++ [x] <+: l) : mapI f 0 p ++ [f x p.length] <+: mapI f 0 l := by
  have h := mapI_prefix0 (f := f) hp
  rw [mapI_app1] at h; exact h

def flatI (f : Int → Int → List Int) : Nat → List Int → List Int
  | _, [] => []
  | i, x :: l => f x i ++ flatI f (i + 1) l
theorem flatI_append (f : Int → Int → List Int) : ∀ (a b : List Int) (i : Nat), flatI f i (a ++ b) = flatI f i a ++ flatI f (i + a.length) b
  | [], b, i => by simp [flatI]
  | x :: a, b, i => by
    simp only [List.cons_append, flatI, flatI_append f a b (i + 1), List.length_cons, List.append_assoc]
    rw [show i + 1 + a.length = i + (a.length + 1) by omega]
theorem flatI_app1 (f : Int → Int → List Int) (a : List Int) (x : Int) : flatI f 0 (a ++ [x]) = flatI f 0 a ++ f x a.length := by
  rw [flatI_append, Nat.zero_add]; simp [flatI]
theorem flatI_succ {f : Int → Int → List Int} {l : List Int} {k : Nat} {x : Int} (h : l[k]? = some x) : flatI f 0 (l.take (k + 1)) = flatI f 0 (l.take k) ++ f x k := by
  have hk := (List.getElem?_eq_some_iff.1 h).1
  rw [List.take_add_one, h]
  show flatI f 0 (l.take k ++ [x]) = _
  rw [flatI_app1, List.length_take, Nat.min_eq_left (Nat.le_of_lt hk)]
theorem flatI_len {f : Int → Int → List Int} (hf : ∀ x i, (f x i).length = 2) : ∀ (l : List Int) (i : Nat), (flatI f i l).length = 2 * l.length
  | [], i => rfl
  | x :: l, i => by simp only [flatI, List.length_append, hf, flatI_len hf l (i + 1), List.length_cons]; omega
theorem flatI_prefix0 {f : Int → Int → List Int} {p l : List Int} (hp : p <+: l) : flatI f 0 p <+: flatI f 0 l := by
  obtain ⟨t, rfl⟩ := hp
  rw [flatI_append]; exact List.prefix_append _ _
theorem flatI_prefix {f : Int → Int → List Int} {p l q : List Int} {x : Int} (hp : p ++ [x] <+: l) (hq : q <+: f x p.length) : flatI f 0 p ++ q <+: flatI f 0 l := by
  have h := flatI_prefix0 (f := f) hp
  rw [flatI_app1] at h
  exact ((List.prefix_append_right_inj _).2 hq).trans h

theorem fmapI_all (f : Int → Int → Int) : ∀ (l : List Int) (i : Nat), fmapI (fun x i => (f x i, predAt 4 0 [] x i)) i l = mapI f i l
  | [], i => rfl
  | x :: l, i => by unfold fmapI mapI; rw [fmapI_all f l (i + 1)]; simp [predAt]

def rangeL (n : Int) : List Int := (List.range n.natAbs).map fun (i : Nat) => (if decide (n < 0) = true then (-1 : Int) else 1) * (i : Int)
def rangeP (n : Int) (k : Nat) : List Int := (List.range k).map fun (i : Nat) => (if decide (n < 0) = true then (-1 : Int) else 1) * (i : Int)
theorem rangeP_len (n : Int) (k : Nat) : (rangeP n k).length = k := by simp [rangeP]
theorem rangeP_succ (n : Int) (k : Nat) : rangeP n (k + 1) = rangeP n k ++ [(if decide (n < 0) = true then (-1 : Int) else 1) * (k : Int)] := by simp [rangeP, List.range_succ]

def rngL (c st : Int) (k : Nat) : List Int := (List.range k).map fun (i : Nat) => st * (i : Int)
theorem rngL_len (c st : Int) (k : Nat) : (rngL c st k).length = k := by simp [rngL]
theorem rngL_succ (c st : Int) (k : Nat) : rngL c st k ++ [st * (k : Int)] = rngL c st (k + 1) := by simp [rngL, List.range_succ]
theorem rngL_prefix (c st : Int) {k n : Nat} (h : k < n) : rngL c st k ++ [st * (k : Int)] <+: rngL c st n := by
  rw [rngL_succ]
  obtain ⟨m, rfl⟩ : ∃ m, n = k + 1 + m := ⟨n - (k + 1), by omega⟩
  have e : List.range (k + 1 + m) = List.range (k + 1) ++ (List.range m).map (fun x => k + 1 + x) := List.range_add ..
  unfold rngL; rw [e, List.map_append]; exact List.prefix_append _ _

def timesP (f : Int → Int) (k : Nat) : List Int := (List.range k).map fun (i : Nat) => f (i : Int)
theorem timesP_len (f : Int → Int) (k : Nat) : (timesP f k).length = k := by simp [timesP]
theorem timesP_succ (f : Int → Int) (k : Nat) : timesP f (k + 1) = timesP f k ++ [f (k : Int)] := by simp [timesP, List.range_succ]
theorem timesP_prefix (f : Int → Int) {k n : Nat} (h : k < n) : timesP f k ++ [f (k : Int)] <+: timesP f n := by
  rw [← timesP_succ]
  obtain ⟨m, rfl⟩ : ∃ m, n = k + 1 + m := ⟨n - (k + 1), by omega⟩
  have e : List.range (k + 1 + m) = List.range (k + 1) ++ (List.range m).map (fun x => k + 1 + x) := List.range_add ..
  unfold timesP; rw [e, List.map_append]; exact List.prefix_append _ _

theorem neg_range {n : Int} (h : n < 0) (h2 : -1000000 ≤ n) : mapI (keyAt 1 (-1)) 0 (rangeL n) = rangeL (-n) := by
  rw [mapI_map (g := fun x => keyAt 1 (-1) x 0) (fun x i => keyAt_free (by decide) x i)]
  unfold rangeL
  rw [List.map_map, Int.natAbs_neg]
  apply List.map_congr_left
  intro i hi
  have hi2 := List.mem_range.1 hi
  have hn : ¬ (-n < 0) := by omega
  simp only [Function.comp, h, hn, keyAt]
  simp
  exact w64_in (by omega)
theorem times_range {n : Int} (h : ¬ n < 0) : timesP (fun x => keyAt 4 0 x x) n.toNat = rangeL n := by
  unfold timesP rangeL
  rw [show n.toNat = n.natAbs by omega]
  apply List.map_congr_left
  intro i hi
  simp [h, keyAt]
theorem map_range {n : Int} (f : Int → Int → Int) (h : ¬ n < 0) : mapI f 0 (rangeL n) = timesP (fun x => f x x) n.toNat := by
  unfold timesP rangeL
  rw [show n.toNat = n.natAbs by omega]
  generalize n.natAbs = m
  induction m with
  | zero => rfl
  | succ m ih =>
    rw [List.range_succ, List.map_append, List.map_append, mapI_append, ih]
    simp [h, mapI]

set_option maxRecDepth 100000 in
set_option maxHeartbeats 4000000 in
theorem lo_Ternary {M : Hp} {p0 : Bool} {x1 x2 : Int} :
    Pu Try.prog (.func (.func 206) #[] #[]) M [.bool p0, .int .i64 x1, .int .i64 x2] (fun r M' => r = .int .i64 (if p0 = true then x1 else x2)) := by
  refine Pu_enter Try.func206 rfl Try.ntmps206 rfl Try.call206 ?_
  intro a w M1 H hM1 S E
  refine WP_seq ?_
  refine WP_region ?_
  refine S_v E rfl (R_assign E rfl) rfl ?_
  clear E a; intro a E
  refine WL_nil ?_
  refine T_n ?_
  refine WP_seq ?_
  refine WP_seq ?_
  refine WP_region ?_
  refine S_v E rfl (R_move E rfl) rfl ?_
  clear E a; intro a E
  refine WL_nil ?_
  refine T_n ?_
  refine WP_cond E rfl (fun hc_1 => ?_) (fun hc_1 => ?_)
  · refine WP_seq ?_
    refine WP_region ?_
    refine S_v E rfl (R_move E rfl) rfl ?_
    clear E a; intro a E
    refine S_v E rfl (R_assign E rfl) rfl ?_
    clear E a; intro a E
    refine WL_nil ?_
    refine T_n ?_
    refine WP_ret ?_
    refine T_r ?_
    exact F_ret1 E Try.results206 rfl ⟨_, rfl, M1, (Hp.le.refl _), (congrArg (Value.int .i64) (by (simp_all))), S⟩
  · refine WP_skip ?_
    refine T_n ?_
    refine WP_seq ?_
    refine WP_region ?_
    refine S_v E rfl (R_move E rfl) rfl ?_
    clear E a; intro a E
    refine S_v E rfl (R_assign E rfl) rfl ?_
    clear E a; intro a E
    refine WL_nil ?_
    refine T_n ?_
    refine WP_ret ?_
    exact F_ret1 E Try.results206 rfl ⟨_, rfl, M1, (Hp.le.refl _), (congrArg (Value.int .i64) (by (simp_all))), S⟩

set_option maxRecDepth 100000 in
set_option maxHeartbeats 4000000 in
theorem lo_Range {M : Hp} {x0 : Int} (g0 : -1000000 ≤ x0 ∧ x0 ≤ 1000000) :
    Pu Try.prog (.func (.func 165) #[] #[]) M [.int .i64 x0] (fun r M' => RdI M' r (rangeL x0)) := by
  refine Pu_enter Try.func165 rfl Try.ntmps165 rfl Try.call165 ?_
  intro a w M1 H hM1 S E
  refine WP_seq ?_
  refine WP_region ?_
  refine S_v E rfl (R_assign E rfl) rfl ?_
  clear E a; intro a E
  refine WL_nil ?_
  refine T_n ?_
  refine WP_seq ?_
  refine WP_region ?_
  refine S_v E rfl (R_move E rfl) rfl ?_
  clear E a; intro a E
  refine S_v E rfl (R_lss E rfl rfl) rfl ?_
  clear E a; intro a E
  refine S_x (X_pu E S rfl rfl rfl (lo_Ternary ) (Hp.le.refl _) ?_)
  clear E a S; rintro a _ w M_1 hM_1 rfl S E
  refine S_v E rfl (R_assign E rfl) rfl ?_
  clear E a; intro a E
  refine WL_nil ?_
  refine T_n ?_
  refine WP_seq ?_
  refine WP_region ?_
  refine S_v E rfl (R_move E rfl) rfl ?_
  clear E a; intro a E
  refine S_v E rfl (R_move E rfl) rfl ?_
  clear E a; intro a E
  refine S_v E rfl (R_mulx (m := ((x0.natAbs : Nat) : Int)) E rfl rfl (by (first | omega | (by_cases hx : x0 < 0 <;> simp [hx] <;> omega))) (by (first | omega | (by_cases hx : x0 < 0 <;> simp [hx] <;> omega)))) rfl ?_
  clear E a; intro a E
  refine S_v E rfl (R_assign E rfl) rfl ?_
  clear E a; intro a E
  refine WL_nil ?_
  refine T_n ?_
  refine WP_seq ?_
  refine WP_region ?_
  refine S_v E rfl (R_move E rfl) rfl ?_
  clear E a; intro a E
  refine S_x (X_makeN (k := x0.natAbs) E S rfl rfl rfl T22 (by omega) (by omega) (by omega) (by omega) ?_)
  clear E a S; rintro a w v_2 E S
  replace S := S.madeI
  refine S_v E rfl (R_assign E rfl) rfl ?_
  clear E a; intro a E
  refine WL_nil ?_
  refine T_n ?_
  refine WP_seq ?_
  refine WP_seq ?_
  refine WP_region ?_
  refine S_v E rfl (R_assign E rfl) rfl ?_
  clear E a; intro a E
  refine S_v E rfl (R_assign E rfl) rfl ?_
  clear E a; intro a E
  refine WL_nil ?_
  refine T_n ?_
  refine WP_block ?_
  replace S := S.re1 (l' := rangeP x0 0 ++ List.replicate (x0.natAbs - (rangeP x0 0).length) 0) (by first | (simp [rangeP]; done) | (have e := set_fill (p := rangeP x0 k) (n := x0.natAbs) (by omega) (rangeP_succ x0 k); rw [hrl] at e; rw [hrl]; exact e))
  refine WP_loop (γ := Nat) (fun (k : Nat) a w => ∃ (M_3 : Hp), Hp.le M_1 M_3 ∧ St w M_3 (OwnI 3 v_2 (rangeP x0 k ++ List.replicate (x0.natAbs - (rangeP x0 k).length) 0) :: H) ∧ Env a 29 [] [(3, .int .i64 (if (decide (x0 < 0)) = true then (-1) else 1)), (4, .int .i64 ((x0.natAbs : Nat) : Int)), (5, v_2), (6, .int .i64 ((k : Nat) : Int)), (7, .int .i64 ((if decide (x0 < 0) = true then (-1 : Int) else 1) * (k : Int)))] ∧ (k ≤ x0.natAbs)) (fun k => x0.natAbs - k) 0 ⟨M_1, Hp.le.refl _, S, E.keep ⟨rfl, rfl, rfl, rfl, look_int (i := 0) rfl (by (simp)), trivial⟩, by ((try clear S); (try clear E); first | assumption | omega | rfl | (simp; done) | (simp_all; done) | (simp [List.take_add_one, *]; done) | grind [List.take_add_one])⟩ ?_
  try clear E
  try clear S
  try clear a
  try clear w
  rintro k a w ⟨M_3, hM_3, S, E, hL0_0⟩
  have hrl := rangeP_len x0 k
  refine WP_seq ?_
  refine WP_seq ?_
  refine WP_region ?_
  refine S_v E rfl (R_move E rfl) rfl ?_
  clear E a; intro a E
  refine S_v E rfl (R_move E rfl) rfl ?_
  clear E a; intro a E
  refine S_v E rfl (R_lss E rfl rfl) rfl ?_
  clear E a; intro a E
  refine WL_nil ?_
  refine T_n ?_
  refine WP_cond E rfl (fun hc_4 => ?_) (fun hc_4 => ?_)
  · replace hc_4 := of_decide_eq_true hc_4
    refine WP_skip ?_
    refine T_n ?_
    refine WP_seq ?_
    refine WP_block ?_
    refine WP_region ?_
    refine S_v E rfl (R_move E rfl) rfl ?_
    clear E a; intro a E
    refine S_v E rfl (R_move E rfl) rfl ?_
    clear E a; intro a E
    refine S_v E rfl (R_move E rfl) rfl ?_
    clear E a; intro a E
    obtain ⟨p_5, hp_5⟩ := S.ptrC (k := k) (by first | omega | (simp; done) | (simp; omega) | (simp_all; omega))
    refine S_v E rfl (R_idx E rfl rfl T22 hp_5 rfl) rfl ?_
    clear E a; intro a E
    refine S_x0 (X_storeI E S rfl rfl (Try.sizeOf3 _) hp_5 ?_)
    clear E a S; rintro a w E S
    refine WL_nil ?_
    refine B_n ?_
    refine T_n ?_
    refine WP_region ?_
    refine S_v E rfl (R_move E rfl) rfl ?_
    clear E a; intro a E
    refine S_v E rfl (R_addx (m := ((k + 1 : Nat) : Int)) E rfl rfl (by (first | omega | (by_cases hx : x0 < 0 <;> simp [hx] <;> omega))) (by (first | omega | (by_cases hx : x0 < 0 <;> simp [hx] <;> omega)))) rfl ?_
    clear E a; intro a E
    refine S_v E rfl (R_move E rfl) rfl ?_
    clear E a; intro a E
    refine S_v E rfl (R_move E rfl) rfl ?_
    clear E a; intro a E
    refine S_v E rfl (R_addx (m := ((if decide (x0 < 0) = true then (-1 : Int) else 1) * (k : Int)) + (if (decide (x0 < 0)) = true then (-1) else 1)) E rfl rfl (by (first | omega | (by_cases hx : x0 < 0 <;> simp [hx] <;> omega))) (by (first | omega | (by_cases hx : x0 < 0 <;> simp [hx] <;> omega)))) rfl ?_
    clear E a; intro a E
    refine S_v E rfl (R_assign E rfl) rfl ?_
    clear E a; intro a E
    refine S_v E rfl (R_assign E rfl) rfl ?_
    clear E a; intro a E
    refine WL_nil ?_
    refine T_n ?_
    replace S := S.re1 (l' := rangeP x0 (k + 1) ++ List.replicate (x0.natAbs - (rangeP x0 (k + 1)).length) 0) (by first | (simp [rangeP]; done) | (have e := set_fill (p := rangeP x0 k) (n := x0.natAbs) (by omega) (rangeP_succ x0 k); rw [hrl] at e; rw [hrl]; exact e))
    exact ⟨k + 1, ⟨M_3, hM_3, S, E.keep ⟨rfl, rfl, rfl, rfl, look_int (i := ((if decide (x0 < 0) = true then (-1 : Int) else 1) * (k : Int)) + (if (decide (x0 < 0)) = true then (-1) else 1)) rfl (by (first | omega | (by_cases hx : x0 < 0 <;> simp [hx] <;> omega))), trivial⟩, by ((try clear S); (try clear E); first | assumption | omega | rfl | (simp; done) | (simp_all; done) | (simp [List.take_add_one, *]; done) | grind [List.take_add_one])⟩, by omega⟩
  · replace hc_4 := of_decide_eq_false hc_4
    refine WP_exit ?_
    refine T_x ?_
    refine T_x ?_
    refine B_x ?_
    refine T_n ?_
    refine WP_seq ?_
    refine WP_region ?_
    refine S_v E rfl (R_move E rfl) rfl ?_
    clear E a; intro a E
    refine S_v E rfl (R_assign E rfl) rfl ?_
    clear E a; intro a E
    refine WL_nil ?_
    refine T_n ?_
    refine WP_ret ?_
    have S0 := S; clear S
    obtain ⟨M_6, hM_6, hz_7, S⟩ := S0.freezeI (by (have hrl := rangeP_len x0 k; simp; omega))
    clear S0
    exact F_ret1 E Try.results165 rfl ⟨_, rfl, M_6, (hM_1.trans (hM_3.trans hM_6)), (by rw [show (rangeL x0) = (rangeP x0 k ++ List.replicate (x0.natAbs - (rangeP x0 k).length) 0) from by (have hrl := rangeP_len x0 k; rw [hrl, show k = x0.natAbs by omega, Nat.sub_self]; simp [rangeP, rangeL])]; exact hz_7), S⟩

set_option maxRecDepth 100000 in
set_option maxHeartbeats 4000000 in
theorem impl_Range {M : Hp} {x0 : Int} (g0 : -1000000 ≤ x0 ∧ x0 ≤ 1000000) :
    Pu Try.prog (.func (.func 82) #[] #[]) M [.int .i64 x0] (fun r M' => RdI M' r (rangeL x0)) := by
  refine Pu_enter Try.func82 rfl Try.ntmps82 rfl Try.call82 ?_
  intro a w M1 H hM1 S E
  refine WP_seq ?_
  refine WP_region ?_
  refine S_v E rfl (R_assign E rfl) rfl ?_
  clear E a; intro a E
  refine WL_nil ?_
  refine T_n ?_
  refine WP_seq ?_
  refine WP_region ?_
  refine S_v E rfl (R_move E rfl) rfl ?_
  clear E a; intro a E
  refine S_x (X_pu E S rfl rfl rfl (lo_Range (by omega)) (Hp.le.refl _) ?_)
  clear E a S; rintro a v_2 w M_1 hM_1 hv_2 S E
  refine S_v E rfl (R_assign E rfl) rfl ?_
  clear E a; intro a E
  refine WL_nil ?_
  refine T_n ?_
  refine WP_ret ?_
  exact F_ret1 E Try.results82 rfl ⟨_, rfl, M_1, hM_1, hv_2, S⟩

set_option maxRecDepth 100000 in
set_option maxHeartbeats 4000000 in
theorem laws_just {M : Hp} {kk0 kn0 : Int} (gk0 : -9223372036854775808 ≤ kn0 ∧ kn0 ≤ 9223372036854775807) :
    Pu Try.prog (.func (.func 29) #[] #[]) M [.agg #[.int .i64 kk0, .int .i64 kn0]] (fun r M' => r = .bool (decide (-1099511627776 < kn0 ∧ kn0 < 1099511627776))) := by
  refine Pu_enter Try.func29 rfl Try.ntmps29 rfl Try.call29 ?_
  intro a w M1 H hM1 S E
  refine WP_seq ?_
  refine WP_region ?_
  refine S_x (X_box (cs := #[.int .i64 kk0, .int .i64 kn0]) E S rfl rfl rfl ?_)
  clear E a S; rintro a w b_1 E S
  obtain ⟨M_2, hM_2, hb_1, S⟩ := S.freezeB
  refine S_v E rfl (R_assign E rfl) rfl ?_
  clear E a; intro a E
  refine WL_nil ?_
  refine T_n ?_
  refine WP_seq ?_
  refine WP_region ?_
  refine S_v E rfl (R_fieldAddr E rfl (FA37_1 _)) rfl ?_
  clear E a; intro a E
  refine S_v E rfl (R_loadM E rfl Try.isAgg3 S.imm (cellM_boxo hb_1 rfl)) rfl ?_
  clear E a; intro a E
  refine S_v E rfl (R_gtr E rfl rfl) rfl ?_
  clear E a; intro a E
  refine S_v E rfl (R_move E rfl) rfl ?_
  clear E a; intro a E
  refine split_bool (decide ((-1099511627776) < kn0)) (fun hc_3 => ?_) (fun hc_3 => ?_)
  · replace E := E.val (t := 5) rfl hc_3
    replace E := E.val (t := 6) rfl hc_3
    replace hc_3 := of_decide_eq_true hc_3
    refine WL_guard_yes E rfl rfl ?_
    refine S_v E rfl (R_fieldAddr E rfl (FA37_1 _)) rfl ?_
    clear E a; intro a E
    refine WL_guard_yes E rfl rfl ?_
    refine S_v E rfl (R_loadM E rfl Try.isAgg3 S.imm (cellM_boxo hb_1 rfl)) rfl ?_
    clear E a; intro a E
    refine WL_guard_yes E rfl rfl ?_
    refine S_v E rfl (R_lss E rfl rfl) rfl ?_
    clear E a; intro a E
    refine S_v E rfl (R_pickT E rfl rfl) rfl ?_
    clear E a; intro a E
    refine S_v E rfl (R_assign E rfl) rfl ?_
    clear E a; intro a E
    refine WL_nil ?_
    refine T_n ?_
    refine WP_ret ?_
    exact F_ret1 E Try.results29 rfl ⟨_, rfl, M_2, hM_2, (congrArg Value.bool (by ((try clear S); (try clear E); first | assumption | omega | rfl | (simp; done) | (simp_all; done) | (simp [List.take_add_one, *]; done) | grind [List.take_add_one]))), S⟩
  · replace E := E.val (t := 5) rfl hc_3
    replace E := E.val (t := 6) rfl hc_3
    replace hc_3 := of_decide_eq_false hc_3
    refine WL_guard_no E rfl rfl rfl rfl fun a E => ?_
    refine WL_guard_no E rfl rfl rfl rfl fun a E => ?_
    refine WL_guard_no E rfl rfl rfl rfl fun a E => ?_
    refine S_v E rfl (R_pickF E rfl rfl) rfl ?_
    clear E a; intro a E
    refine S_v E rfl (R_assign E rfl) rfl ?_
    clear E a; intro a E
    refine WL_nil ?_
    refine T_n ?_
    refine WP_ret ?_
    exact F_ret1 E Try.results29 rfl ⟨_, rfl, M_2, hM_2, (bF (by ((try clear S); (try clear E); first | assumption | omega | rfl | (simp; done) | (simp_all; done) | (simp [List.take_add_one, *]; done) | grind [List.take_add_one]))), S⟩

set_option maxRecDepth 100000 in
set_option maxHeartbeats 4000000 in
theorem spec_Range {M : Hp} {x0 : Int} (g0 : -1000000 ≤ x0 ∧ x0 ≤ 1000000) :
    Pu Try.prog (.func (.func 83) #[] #[]) M [.int .i64 x0] (fun r M' => RdI M' r (rangeL x0)) := by
  refine Pu_enter Try.func83 rfl Try.ntmps83 rfl Try.call83 ?_
  intro a w M1 H hM1 S E
  refine WP_seq ?_
  refine WP_region ?_
  refine S_v E rfl (R_assign E rfl) rfl ?_
  clear E a; intro a E
  refine WL_nil ?_
  refine T_n ?_
  refine WP_seq ?_
  refine WP_region ?_
  refine S_v E rfl (R_assign E rfl) rfl ?_
  clear E a; intro a E
  refine WL_nil ?_
  refine T_n ?_
  refine WP_seq ?_
  refine WP_seq ?_
  refine WP_region ?_
  refine S_v E rfl (R_assign E rfl) rfl ?_
  clear E a; intro a E
  refine WL_nil ?_
  refine T_n ?_
  refine WP_block ?_
  replace S := (S.ownNil (e := 3) (sz := 1)).made0
  replace S := S.re1 (l' := rangeP x0 0) (by first | (simp [rangeP]; done) | (rw [rangeP_succ]; have hx : ¬ x0 < 0 := (by omega); simp [hx]; done))
  refine WP_loop (γ := Nat) (fun (k : Nat) a w => ∃ (M_2 : Hp) (u3 : Value), Hp.le M1 M_2 ∧ St w M_2 (OwnI 3 u3 (rangeP x0 k) :: H) ∧ Env a 25 [] [(0, .int .i64 x0), (3, u3), (4, .int .i64 ((k : Nat) : Int))] ∧ (k ≤ x0.toNat)) (fun k => x0.toNat - k) 0 ⟨M1, _, Hp.le.refl _, S, E.keep ⟨rfl, rfl, rfl, trivial⟩, by ((try clear S); (try clear E); first | assumption | omega | rfl | (simp; done) | (simp_all; done) | (simp [List.take_add_one, *]; done) | grind [List.take_add_one])⟩ ?_
  try clear E
  try clear S
  try clear a
  try clear w
  rintro k a w ⟨M_2, u3, hM_2, S, E, hL0_0⟩
  have hrl := rangeP_len x0 k
  refine WP_seq ?_
  refine WP_seq ?_
  refine WP_region ?_
  refine S_v E rfl (R_move E rfl) rfl ?_
  clear E a; intro a E
  refine S_v E rfl (R_move E rfl) rfl ?_
  clear E a; intro a E
  refine S_v E rfl (R_lss E rfl rfl) rfl ?_
  clear E a; intro a E
  refine WL_nil ?_
  refine T_n ?_
  refine WP_cond E rfl (fun hc_3 => ?_) (fun hc_3 => ?_)
  · replace hc_3 := of_decide_eq_true hc_3
    refine WP_skip ?_
    refine T_n ?_
    refine WP_seq ?_
    refine WP_block ?_
    refine WP_region ?_
    refine S_v E rfl (R_move E rfl) rfl ?_
    clear E a; intro a E
    refine S_v E rfl (R_move E rfl) rfl ?_
    clear E a; intro a E
    refine S_x (X_buildI (ys := [((k : Nat) : Int)]) E S rfl T22 rfl rfl rfl ?_)
    clear E a S; rintro a w v_4 E S
    replace S := S.front1
    replace S := S.front1
    refine S_x (X_appendB (xs := rangeP x0 k) (ys := [((k : Nat) : Int)]) E S rfl rfl rfl T22 (by first | omega | (simp; done) | (simp; omega) | (simp_all; omega)) ?_)
    clear E a S; rintro a w v_5 E S
    refine S_v E rfl (R_assign E rfl) rfl ?_
    clear E a; intro a E
    refine WL_nil ?_
    refine B_n ?_
    refine T_n ?_
    refine WP_region ?_
    refine S_v E rfl (R_move E rfl) rfl ?_
    clear E a; intro a E
    refine S_v E rfl (R_addx (m := ((k + 1 : Nat) : Int)) E rfl rfl (by omega) (by omega)) rfl ?_
    clear E a; intro a E
    refine S_v E rfl (R_assign E rfl) rfl ?_
    clear E a; intro a E
    refine WL_nil ?_
    refine T_n ?_
    replace S := S.re1 (l' := rangeP x0 (k + 1)) (by first | (simp [rangeP]; done) | (rw [rangeP_succ]; have hx : ¬ x0 < 0 := (by omega); simp [hx]; done))
    exact ⟨k + 1, ⟨M_2, _, hM_2, S, E.keep ⟨rfl, rfl, rfl, trivial⟩, by ((try clear S); (try clear E); first | assumption | omega | rfl | (simp; done) | (simp_all; done) | (simp [List.take_add_one, *]; done) | grind [List.take_add_one])⟩, by omega⟩
  · replace hc_3 := of_decide_eq_false hc_3
    refine WP_exit ?_
    refine T_x ?_
    refine T_x ?_
    refine B_x ?_
    refine T_n ?_
    refine WP_seq ?_
    refine WP_seq ?_
    refine WP_region ?_
    refine S_v E rfl (R_assign E rfl) rfl ?_
    clear E a; intro a E
    refine WL_nil ?_
    refine T_n ?_
    refine WP_block ?_
    replace S := S.re1 (l' := rangeP x0 (if x0 < 0 then 0 else x0.toNat)) (by first | (by_cases hx : x0 < 0; (rw [if_pos hx, show k = 0 by omega]); (rw [if_neg hx, show k = x0.toNat by omega])) | (simp only [if_pos hx]; rw [rangeP_succ]; simp [hx]; done))
    refine WP_loop (γ := Nat) (fun (j : Nat) a w => ∃ (M_6 : Hp) (u3 : Value), Hp.le M_2 M_6 ∧ St w M_6 (OwnI 3 u3 (rangeP x0 (if x0 < 0 then j else x0.toNat)) :: H) ∧ Env a 25 [] [(0, .int .i64 x0), (3, u3), (5, .int .i64 (-(j : Int)))] ∧ (j ≤ (-x0).toNat)) (fun j => (-x0).toNat - j) 0 ⟨M_2, _, Hp.le.refl _, S, E.keep ⟨rfl, rfl, look_int (i := 0) rfl (by (omega)), trivial⟩, by ((try clear S); (try clear E); first | assumption | omega | rfl | (simp; done) | (simp_all; done) | (simp [List.take_add_one, *]; done) | grind [List.take_add_one])⟩ ?_
    try clear E
    try clear S
    try clear a
    try clear w
    rintro j a w ⟨M_6, u3, hM_6, S, E, hL1_0⟩
    refine WP_seq ?_
    refine WP_seq ?_
    refine WP_region ?_
    refine S_v E rfl (R_move E rfl) rfl ?_
    clear E a; intro a E
    refine S_v E rfl (R_move E rfl) rfl ?_
    clear E a; intro a E
    refine S_v E rfl (R_gtr E rfl rfl) rfl ?_
    clear E a; intro a E
    refine WL_nil ?_
    refine T_n ?_
    refine WP_cond E rfl (fun hc_7 => ?_) (fun hc_7 => ?_)
    · replace hc_7 := of_decide_eq_true hc_7
      have hx : x0 < 0 := (by omega)
      have hrl2 : (rangeP x0 (if x0 < 0 then j else x0.toNat)).length = j := (by rw [rangeP_len, if_pos hx])
      refine WP_skip ?_
      refine T_n ?_
      refine WP_seq ?_
      refine WP_block ?_
      refine WP_region ?_
      refine S_v E rfl (R_move E rfl) rfl ?_
      clear E a; intro a E
      refine S_v E rfl (R_move E rfl) rfl ?_
      clear E a; intro a E
      refine S_x (X_buildI (ys := [(-(j : Int))]) E S rfl T22 rfl rfl rfl ?_)
      clear E a S; rintro a w v_8 E S
      replace S := S.front1
      replace S := S.front1
      refine S_x (X_appendB (xs := rangeP x0 (if x0 < 0 then j else x0.toNat)) (ys := [(-(j : Int))]) E S rfl rfl rfl T22 (by first | omega | (simp; done) | (simp; omega) | (simp_all; omega)) ?_)
      clear E a S; rintro a w v_9 E S
      refine S_v E rfl (R_assign E rfl) rfl ?_
      clear E a; intro a E
      refine WL_nil ?_
      refine B_n ?_
      refine T_n ?_
      refine WP_region ?_
      refine S_v E rfl (R_move E rfl) rfl ?_
      clear E a; intro a E
      refine S_v E rfl (R_subx (m := (-(j : Int)) - 1) E rfl rfl (by omega) (by omega)) rfl ?_
      clear E a; intro a E
      refine S_v E rfl (R_assign E rfl) rfl ?_
      clear E a; intro a E
      refine WL_nil ?_
      refine T_n ?_
      replace S := S.re1 (l' := rangeP x0 (if x0 < 0 then (j + 1) else x0.toNat)) (by first | (by_cases hx : x0 < 0; (rw [if_pos hx, show k = 0 by omega]); (rw [if_neg hx, show k = x0.toNat by omega])) | (simp only [if_pos hx]; rw [rangeP_succ]; simp [hx]; done))
      exact ⟨j + 1, ⟨M_6, _, hM_6, S, E.keep ⟨rfl, rfl, look_int (i := (-(j : Int)) - 1) rfl (by (omega)), trivial⟩, by ((try clear S); (try clear E); first | assumption | omega | rfl | (simp; done) | (simp_all; done) | (simp [List.take_add_one, *]; done) | grind [List.take_add_one])⟩, by omega⟩
    · replace hc_7 := of_decide_eq_false hc_7
      refine WP_exit ?_
      refine T_x ?_
      refine T_x ?_
      refine B_x ?_
      refine T_n ?_
      refine WP_seq ?_
      refine WP_region ?_
      refine S_v E rfl (R_move E rfl) rfl ?_
      clear E a; intro a E
      refine S_v E rfl (R_assign E rfl) rfl ?_
      clear E a; intro a E
      refine WL_nil ?_
      refine T_n ?_
      refine WP_ret ?_
      have S0 := S; clear S
      obtain ⟨M_10, hM_10, hz_11, S⟩ := S0.freezeI (by (rw [rangeP_len]; split <;> omega))
      clear S0
      exact F_ret1 E Try.results83 rfl ⟨_, rfl, M_10, (hM_2.trans (hM_6.trans hM_10)), (by rw [show (rangeL x0) = (rangeP x0 (if x0 < 0 then j else x0.toNat)) from by (unfold rangeL rangeP; rw [show (if x0 < 0 then j else x0.toNat) = x0.natAbs by split <;> omega])]; exact hz_11), S⟩

set_option maxRecDepth 100000 in
set_option maxHeartbeats 4000000 in
theorem laws_eq {M : Hp} {v0 v1 : Value} {l0 l1 : List Int} (h0 : RdI M v0 l0) (h1 : RdI M v1 l1) :
    Pu Try.prog (.func (.func 17) #[] #[]) M [v0, v1] (fun r M' => r = .bool (decide (l0 = l1))) := by
  refine Pu_enter Try.func17 rfl Try.ntmps17 rfl Try.call17 ?_
  intro a w M1 H hM1 S E
  replace h0 := h0.le hM1
  replace h1 := h1.le hM1
  have b0 := h0.bound
  have b1 := h1.bound
  refine WP_seq ?_
  refine WP_region ?_
  refine S_v E rfl (R_assign E rfl) rfl ?_
  clear E a; intro a E
  refine WL_nil ?_
  refine T_n ?_
  refine WP_seq ?_
  refine WP_seq ?_
  refine WP_region ?_
  refine S_v E rfl (R_move E rfl) rfl ?_
  clear E a; intro a E
  refine S_v E rfl (R_lenV E rfl T22 h0.len) rfl ?_
  clear E a; intro a E
  refine S_v E rfl (R_move E rfl) rfl ?_
  clear E a; intro a E
  refine S_v E rfl (R_lenV E rfl T22 h1.len) rfl ?_
  clear E a; intro a E
  refine S_v E rfl (R_neq E rfl rfl) rfl ?_
  clear E a; intro a E
  refine WL_nil ?_
  refine T_n ?_
  refine WP_cond E rfl (fun hc_1 => ?_) (fun hc_1 => ?_)
  · replace hc_1 := of_decide_eq_true hc_1
    refine WP_seq ?_
    refine WP_region ?_
    refine S_v E rfl (R_assign E rfl) rfl ?_
    clear E a; intro a E
    refine WL_nil ?_
    refine T_n ?_
    refine WP_ret ?_
    refine T_r ?_
    exact F_ret1 E Try.results17 rfl ⟨_, rfl, M1, (Hp.le.refl _), (bF (by ((try clear S); (try clear E); first | assumption | omega | rfl | (simp; done) | (simp_all; done) | (simp [List.take_add_one, *]; done) | grind [List.take_add_one]))), S⟩
  · replace hc_1 := of_decide_eq_false hc_1
    refine WP_skip ?_
    refine T_n ?_
    refine WP_seq ?_
    refine WP_seq ?_
    refine WP_region ?_
    refine S_v E rfl (R_move E rfl) rfl ?_
    clear E a; intro a E
    refine S_v E rfl (R_lenV E rfl T22 h0.len) rfl ?_
    clear E a; intro a E
    refine S_v E rfl (R_move E rfl) rfl ?_
    clear E a; intro a E
    refine WL_nil ?_
    refine T_n ?_
    refine WP_block ?_
    refine WP_loop (γ := Nat) (fun (k : Nat) a w => ∃ (M_2 : Hp), Hp.le M1 M_2 ∧ St w M_2 (H) ∧ Env a 26 [] [(0, v0), (1, v1), (12, .int .i64 (((l0).length : Nat) : Int)), (13, .int .i64 ((k : Nat) : Int))] ∧ (k ≤ (l0).length) ∧ (l0.length = l1.length) ∧ (l0.take k = l1.take k)) (fun k => ((l0).length) - k) 0 ⟨M1, Hp.le.refl _, S, E.keep ⟨rfl, rfl, rfl, rfl, trivial⟩, by ((try clear S); (try clear E); first | assumption | omega | rfl | (simp; done) | (simp_all; done) | (simp [List.take_add_one, *]; done) | grind [List.take_add_one]), by ((try clear S); (try clear E); first | assumption | omega | rfl | (simp; done) | (simp_all; done) | (simp [List.take_add_one, *]; done) | grind [List.take_add_one]), by ((try clear S); (try clear E); first | assumption | omega | rfl | (simp; done) | (simp_all; done) | (simp [List.take_add_one, *]; done) | grind [List.take_add_one])⟩ ?_
    try clear E
    try clear S
    try clear a
    try clear w
    rintro k a w ⟨M_2, hM_2, S, E, hL0_0, hL0_1, hL0_2⟩
    replace h0 := h0.le hM_2
    replace h1 := h1.le hM_2
    refine WP_seq ?_
    refine WP_region ?_
    refine S_v E rfl (R_lss E rfl rfl) rfl ?_
    clear E a; intro a E
    refine WL_nil ?_
    refine T_n ?_
    refine WP_seq ?_
    refine WP_cond E rfl (fun hc_3 => ?_) (fun hc_3 => ?_)
    · replace hc_3 := of_decide_eq_true hc_3
      refine WP_skip ?_
      refine T_n ?_
      refine WP_seq ?_
      refine WP_block ?_
      refine WP_seq ?_
      refine WP_region ?_
      refine S_v E rfl (R_move E rfl) rfl ?_
      clear E a; intro a E
      refine S_v E rfl (R_assign E rfl) rfl ?_
      clear E a; intro a E
      refine WL_nil ?_
      refine T_n ?_
      refine WP_seq ?_
      replace S := S.mono_heap (w' := World.drew _) rfl
      refine WP_drawn (C := fun x w => agree M_2 w) (bf := (fun i => [])) [0, 1, 2, 3, 4, 5, 6, 7, 8] [0, 1, 2, 3, 4, 5, 6, 7, 8] Try.mixed (by kernel_rfl) (fun x hq => S.imm) ?_
      refine D_v E rfl rfl rfl (fun w hC => (R_move E rfl)) ?_
      clear E a; intro a E
      refine D_v E rfl rfl rfl (fun w hC => (R_move E rfl)) ?_
      clear E a; intro a E
      obtain ⟨x_4, hx_4⟩ : ∃ x, (l0)[k]? = some x := ⟨_, List.getElem?_eq_getElem (by first | omega | (simp; done) | (simp; omega) | (simp_all; omega))⟩
      obtain ⟨p_5, hp_5, qp_5⟩ := h0.at hx_4
      refine D_v E rfl rfl rfl (fun w hC => (R_idx E rfl rfl T22 hp_5 rfl)) ?_
      clear E a; intro a E
      refine D_v E rfl rfl rfl (fun w hC => (R_loadM E rfl Try.isAgg3 hC qp_5)) ?_
      clear E a; intro a E
      refine D_v E rfl rfl rfl (fun w hC => (R_move E rfl)) ?_
      clear E a; intro a E
      refine D_v E rfl rfl rfl (fun w hC => (R_move E rfl)) ?_
      clear E a; intro a E
      obtain ⟨x_6, hx_6⟩ : ∃ x, (l1)[k]? = some x := ⟨_, List.getElem?_eq_getElem (by first | omega | (simp; done) | (simp; omega) | (simp_all; omega))⟩
      obtain ⟨p_7, hp_7, qp_7⟩ := h1.at hx_6
      refine D_v E rfl rfl rfl (fun w hC => (R_idx E rfl rfl T22 hp_7 rfl)) ?_
      clear E a; intro a E
      refine D_v E rfl rfl rfl (fun w hC => (R_loadM E rfl Try.isAgg3 hC qp_7)) ?_
      clear E a; intro a E
      refine D_v E rfl rfl rfl (fun w hC => (R_neq E rfl rfl)) ?_
      clear E a; intro a E
      refine D_end (NoP_n ?_)
      refine T_n ?_
      refine WP_cond E rfl (fun hc_8 => ?_) (fun hc_8 => ?_)
      · replace hc_8 := of_decide_eq_true hc_8
        refine WP_seq ?_
        refine WP_region ?_
        refine S_v E rfl (R_assign E rfl) rfl ?_
        clear E a; intro a E
        refine WL_nil ?_
        refine T_n ?_
        refine WP_ret ?_
        refine B_r ?_
        refine T_r ?_
        refine T_r ?_
        refine B_r ?_
        refine T_r ?_
        exact F_ret1 E Try.results17 rfl ⟨_, rfl, M_2, hM_2, (bF (by ((try clear S); (try clear E); first | assumption | omega | rfl | (simp; done) | (simp_all; done) | (simp [List.take_add_one, *]; done) | grind [List.take_add_one]))), S⟩
      · replace hc_8 := of_decide_eq_false hc_8
        refine WP_skip ?_
        refine B_n ?_
        refine T_n ?_
        refine WP_region ?_
        refine S_v E rfl (R_addx (m := ((k + 1 : Nat) : Int)) E rfl rfl (by omega) (by omega)) rfl ?_
        clear E a; intro a E
        refine S_v E rfl (R_move E rfl) rfl ?_
        clear E a; intro a E
        refine WL_nil ?_
        refine T_n ?_
        exact ⟨k + 1, ⟨M_2, hM_2, S, E.keep ⟨rfl, rfl, rfl, rfl, trivial⟩, by ((try clear S); (try clear E); first | assumption | omega | rfl | (simp; done) | (simp_all; done) | (simp [List.take_add_one, *]; done) | grind [List.take_add_one]), by ((try clear S); (try clear E); first | assumption | omega | rfl | (simp; done) | (simp_all; done) | (simp [List.take_add_one, *]; done) | grind [List.take_add_one]), by ((try clear S); (try clear E); first | assumption | omega | rfl | (simp; done) | (simp_all; done) | (simp [List.take_add_one, *]; done) | grind [List.take_add_one])⟩, by omega⟩
    · replace hc_3 := of_decide_eq_false hc_3
      refine WP_exit ?_
      refine T_x ?_
      refine T_x ?_
      refine B_x ?_
      refine T_n ?_
      refine WP_seq ?_
      refine WP_region ?_
      refine S_v E rfl (R_assign E rfl) rfl ?_
      clear E a; intro a E
      refine WL_nil ?_
      refine T_n ?_
      refine WP_ret ?_
      exact F_ret1 E Try.results17 rfl ⟨_, rfl, M_2, hM_2, (bT (by ((try clear S); (try clear E); first | assumption | omega | rfl | (simp; done) | (simp_all; done) | (simp [List.take_add_one, *]; done) | grind [List.take_add_one]))), S⟩

set_option maxRecDepth 100000 in
set_option maxHeartbeats 4000000 in
theorem it_Range1 {M : Hp} {c8 c9 : Int} (hc8 : 0 ≤ c8 ∧ c8 ≤ 1000000) (hc9 : c9 = 1 ∨ c9 = -1) {bx8 bx9 : Nat} (hbx8 : M bx8 = some (.cells #[.int .i64 c8] 3)) (hbx9 : M bx9 = some (.cells #[.int .i64 c9] 3)) :
    SeqV Try.prog (.func (.func 207) #[] #[.pointer (some ⟨bx8, 0, none⟩), .pointer (some ⟨bx9, 0, none⟩)]) M (RInt) (rngL c8 c9 (c8).toNat) := by
  refine SeqV_enter Try.func207 rfl Try.ntmps207 rfl Try.call207 ?_
  intro y J X a w M1 c H hJM hM1 hY hJ S E
  replace hbx8 := hM1.2 _ _ hbx8
  replace hbx9 := hM1.2 _ _ hbx9
  refine WP_seq ?_
  refine WP_region ?_
  refine S_v E rfl (R_assign E rfl) rfl ?_
  clear E a; intro a E
  refine S_v E rfl (R_assign E rfl) rfl ?_
  clear E a; intro a E
  refine WL_nil ?_
  refine T_n ?_
  refine WP_block ?_
  refine WP_loop (γ := Nat) (fun (k : Nat) a w => ∃ (M_1 : Hp) (cL0 : HProp), Hp.le M1 M_1 ∧ St w M_1 (mks [] :: cL0 :: H) ∧ Env a 18 (([] : List Nat).map mk) [(0, y), (1, .pointer (some ⟨bx8, 0, none⟩)), (2, .pointer (some ⟨bx9, 0, none⟩)), (4, .int .i64 ((k : Nat) : Int)), (5, .int .i64 (c9 * (k : Int)))] ∧ (k ≤ c8.toNat) ∧ J (rngL c8 c9 k) M_1 cL0) (fun k => c8.toNat - k) 0 ⟨M1, _, Hp.le.refl _, S, E.keep ⟨rfl, rfl, rfl, rfl, look_int (i := 0) rfl (by (simp)), trivial⟩, by ((try clear S); (try clear E); first | assumption | omega | rfl | (simp; done) | (simp_all; done) | (simp [List.take_add_one, *]; done) | grind [List.take_add_one]), J_eq hJ (by (simp [rngL]))⟩ ?_
  try clear E
  try clear S
  try clear a
  try clear w
  rintro k a w ⟨M_1, cL0, hM_1, S, E, hL0_0, hJ⟩
  replace hbx8 := hM_1.2 _ _ hbx8
  replace hbx9 := hM_1.2 _ _ hbx9
  refine WP_seq ?_
  refine WP_seq ?_
  refine WP_region ?_
  refine S_v E rfl (R_move E rfl) rfl ?_
  clear E a; intro a E
  refine S_v E rfl (R_loadM E rfl Try.isAgg3 S.imm (cellM_box hbx8)) rfl ?_
  clear E a; intro a E
  refine S_v E rfl (R_lss E rfl rfl) rfl ?_
  clear E a; intro a E
  refine WL_nil ?_
  refine T_n ?_
  refine WP_cond E rfl (fun hc_2 => ?_) (fun hc_2 => ?_)
  · replace hc_2 := of_decide_eq_true hc_2
    refine WP_skip ?_
    refine T_n ?_
    refine WP_seq ?_
    refine WP_block ?_
    refine WP_seq ?_
    refine WP_region ?_
    refine S_v E rfl (R_move E rfl) rfl ?_
    clear E a; intro a E
    refine S_v E rfl (R_move E rfl) rfl ?_
    clear E a; intro a E
    replace S := S.front1
    refine S_x (X_yield (x := c9 * (k : Int)) E S rfl rfl rfl hY hM_1 (by (exact rngL_prefix c8 c9 (by omega))) rfl hJ ?_)
    clear E a S; rintro a w M_3 c_4 go_5 hM_3 hJ S E
    replace hbx8 := hM_3.2 _ _ hbx8
    replace hbx9 := hM_3.2 _ _ hbx9
    cases go_5
    · replace hJ : X (rngL c8 c9 k ++ [c9 * (k : Int)]) M_3 c_4 := hJ
      refine S_v E rfl (R_not E rfl) rfl ?_
      clear E a; intro a E
      refine WL_nil ?_
      refine T_n ?_
      refine WP_condT E rfl rfl ?_
      refine WP_ret ?_
      refine B_r ?_
      refine T_r ?_
      refine T_r ?_
      refine B_r ?_
      replace S := S.front1
      exact F_retM0 E S Try.results207 (fun w S => ⟨_, rfl, M_3, _, (hM_1.trans hM_3), .inr ⟨(rngL c8 c9 k ++ [c9 * (k : Int)]), (by first | assumption | ((exact rngL_prefix c8 c9 (by omega)))), hJ⟩, S⟩)
    · replace hJ : J (rngL c8 c9 k ++ [c9 * (k : Int)]) M_3 c_4 := hJ
      refine S_v E rfl (R_not E rfl) rfl ?_
      clear E a; intro a E
      refine WL_nil ?_
      refine T_n ?_
      refine WP_condF E rfl rfl ?_
      refine WP_skip ?_
      refine B_n ?_
      refine T_n ?_
      have hbx8k5 := hbx8
      have hbx9k5 := hbx9
      replace S := S.mono_heap (w' := World.drew _) rfl
      refine WP_drawn (C := fun x w => agree M_3 w) (bf := (fun i => [])) [0, 1, 2, 3, 4, 5, 6] [0, 1, 2, 3, 4, 5, 6] Try.mixed (by kernel_rfl) (fun x hq => S.imm) ?_
      refine D_v E rfl rfl rfl (fun w hC => (R_move E rfl)) ?_
      clear E a; intro a E
      refine D_v E rfl rfl rfl (fun w hC => (R_addx (m := ((k + 1 : Nat) : Int)) E rfl rfl (by (first | omega | (rcases hc9 with rfl | rfl <;> omega))) (by (first | omega | (rcases hc9 with rfl | rfl <;> omega))))) ?_
      clear E a; intro a E
      refine D_v E rfl rfl rfl (fun w hC => (R_move E rfl)) ?_
      clear E a; intro a E
      refine D_v E rfl rfl rfl (fun w hC => (R_loadM E rfl Try.isAgg3 hC (cellM_box hbx9k5))) ?_
      clear E a; intro a E
      refine D_v E rfl rfl rfl (fun w hC => (R_addx (m := (c9 * (k : Int)) + c9) E rfl rfl (by (first | omega | (rcases hc9 with rfl | rfl <;> omega))) (by (first | omega | (rcases hc9 with rfl | rfl <;> omega))))) ?_
      clear E a; intro a E
      refine D_v E rfl rfl rfl (fun w hC => (R_assign E rfl)) ?_
      clear E a; intro a E
      refine D_v E rfl rfl rfl (fun w hC => (R_assign E rfl)) ?_
      clear E a; intro a E
      refine D_end (NoP_n ?_)
      refine T_n ?_
      replace S := S.front1
      exact ⟨k + 1, ⟨M_3, _, (hM_1.trans hM_3), S, E.keep ⟨rfl, rfl, rfl, rfl, look_int (i := (c9 * (k : Int)) + c9) rfl (by (first | omega | (rcases hc9 with rfl | rfl <;> omega))), trivial⟩, by ((try clear S); (try clear E); first | assumption | omega | rfl | (simp; done) | (simp_all; done) | (simp [List.take_add_one, *]; done) | grind [List.take_add_one]), J_eq hJ (by (exact rngL_succ c8 c9 k))⟩, by omega⟩
  · replace hc_2 := of_decide_eq_false hc_2
    refine WP_exit ?_
    refine T_x ?_
    refine T_x ?_
    refine B_x ?_
    refine F_nrm ?_
    replace S := S.front1
    replace S := S.front1
    have hpre : rngL c8 c9 k = rngL c8 c9 (c8).toNat := by (rw [show k = c8.toNat by omega])
    rw [hpre] at hJ
    exact F_retM0 E S Try.results207 (fun w S => ⟨_, rfl, M_1, _, hM_1, .inl hJ, S⟩)

set_option maxRecDepth 100000 in
set_option maxHeartbeats 4000000 in
theorem it_Range {M : Hp} {x0 : Int} (g0 : -1000000 ≤ x0 ∧ x0 ≤ 1000000) :
    Pu Try.prog (.func (.func 166) #[] #[]) M [.int .i64 x0] (fun r M' => SeqV Try.prog r M' RInt (rangeL x0)) := by
  refine Pu_enter Try.func166 rfl Try.ntmps166 rfl Try.call166 ?_
  intro a w M1 H hM1 S E
  refine WP_seq ?_
  refine WP_region ?_
  refine S_v E rfl (R_assign E rfl) rfl ?_
  clear E a; intro a E
  refine WL_nil ?_
  refine T_n ?_
  refine WP_seq ?_
  refine WP_region ?_
  refine S_v E rfl (R_move E rfl) rfl ?_
  clear E a; intro a E
  refine S_v E rfl (R_lss E rfl rfl) rfl ?_
  clear E a; intro a E
  refine S_x (X_pu E S rfl rfl rfl (lo_Ternary ) (Hp.le.refl _) ?_)
  clear E a S; rintro a _ w M_1 hM_1 rfl S E
  refine S_x (X_alloc (cs := #[.int .i64 0]) E S rfl Try.zeroValue3 rfl ?_)
  clear E a S; rintro a w b_2 E S
  refine S_x0 (X_store E S rfl rfl (Try.sizeOf3 _) rfl ?_)
  clear E a S; rintro a w E S
  refine WL_nil ?_
  refine T_n ?_
  refine WP_seq ?_
  refine WP_region ?_
  refine S_v E rfl (R_move E rfl) rfl ?_
  clear E a; intro a E
  refine S_v E rfl (R_load E rfl (Try.isAgg3 _) (cell_blk (S.mem (.head _)))) rfl ?_
  clear E a; intro a E
  refine S_v E rfl (R_mulx (m := ((x0.natAbs : Nat) : Int)) E rfl rfl (by (first | omega | (by_cases hx : x0 < 0 <;> simp [hx] <;> omega))) (by (first | omega | (by_cases hx : x0 < 0 <;> simp [hx] <;> omega)))) rfl ?_
  clear E a; intro a E
  refine S_x (X_alloc (cs := #[.int .i64 0]) E S rfl Try.zeroValue3 rfl ?_)
  clear E a S; rintro a w b_3 E S
  refine S_x0 (X_store E S rfl rfl (Try.sizeOf3 _) rfl ?_)
  clear E a S; rintro a w E S
  refine WL_nil ?_
  refine T_n ?_
  refine WP_seq ?_
  refine WP_region ?_
  have S0 := S; clear S
  obtain ⟨M_4, hM_4, hb_5, S⟩ := S0.freezeB
  clear S0
  have S0 := S; clear S
  obtain ⟨M_6, hM_6, hb_7, S⟩ := S0.freezeB
  clear S0
  replace hb_5 := hM_6.2 _ _ hb_5
  refine S_v E rfl (R_makeFunc E rfl rfl) rfl ?_
  clear E a; intro a E
  refine S_v E rfl (R_assign E rfl) rfl ?_
  clear E a; intro a E
  refine WL_nil ?_
  refine T_n ?_
  refine WP_ret ?_
  exact F_ret1 E Try.results166 rfl ⟨_, rfl, M_6, (hM_1.trans (hM_4.trans hM_6)), (SeqV_eq (it_Range1 (by constructor <;> (first | omega | (by_cases hx : x0 < 0 <;> simp [hx] <;> omega))) (by by_cases hx : x0 < 0 <;> simp [hx]) hb_5 hb_7) (by (unfold rngL rangeL; simp))), S⟩

set_option maxRecDepth 100000 in
set_option maxHeartbeats 4000000 in
theorem slices_AppendSeq {M : Hp} {v1 : Value} {l1 : List Int} (h1 : SeqV Try.prog v1 M (RInt) l1)(hb : l1.length ≤ 1000000000000) :
    Pu Try.prog (.func (.func 185) #[] #[]) M [.slice none 0 0, v1] (fun r M' => RdI M' r l1) := by
  refine Pu_enter Try.func185 rfl Try.ntmps185 rfl Try.call185 ?_
  intro a w M1 H hM1 S E
  replace h1 := h1.le hM1
  replace S : St w M1 (mks [] :: _) := S.empty
  replace E : Env a 13 (([] : List Nat).map mk) _ := E
  refine WP_seq ?_
  refine WP_region ?_
  refine S_x (X_box (cs := #[.slice none 0 0]) E S rfl rfl rfl ?_)
  clear E a S; rintro a w b_1 E S
  refine S_v E rfl (R_assign E rfl) rfl ?_
  clear E a; intro a E
  refine WL_nil ?_
  refine T_n ?_
  refine WP_seq ?_
  refine WP_seq ?_
  refine WP_region ?_
  refine S_v E rfl (R_move E rfl) rfl ?_
  clear E a; intro a E
  refine WL_nil ?_
  refine T_n ?_
  refine WP_block ?_
  replace S := (S.ownNil (e := 3) (sz := 1)).made0
  replace S := S.front1
  replace E := E.keep (l' := [(2, .pointer (some ⟨b_1, 0, none⟩)), (6, v1)]) ⟨rfl, rfl, trivial⟩
  replace S := S.front1
  replace S := S.re1 (l' := ([] : List Int)) (by ((try clear S); (try clear E); first | assumption | omega | rfl | (simp; done) | (simp_all; done) | (simp [List.take_add_one, *]; done) | grind [List.take_add_one]))
  replace S := S.front1
  have S0 := S; clear S; have S := St.pack [blk b_1 (.cells #[(.slice none 0 0)] 22), OwnI 3 (.slice none 0 0) ([] : List Int)] S0; clear S0
  refine WP_range (RV := RInt) (l := l1) (fun pre M c => ∃ (u2 : Value), c = bigs [blk b_1 (.cells #[u2] 22), OwnI 3 u2 pre]) (fun _ _ _ _ => False) E S rfl h1 (Hp.le.refl _) (fun _ _ _ h => by rw [h]; rfl) (by decide) (by rintro _ M M' c hM ⟨u2, rfl⟩; exact ⟨_, rfl⟩) ⟨_, rfl⟩ ?_ ?_ ?_
  clear E S
  · rintro lb_4 rec_5 pre x _ a w M_3 _ G hM_3 hp_6 rfl ⟨u2, rfl⟩ E S
    replace E : Env a 13 [] [(7, .int .i64 x), (2, .pointer (some ⟨b_1, 0, none⟩)), (6, v1)] := E
    replace S := S.swap.unpack2
    have hq0 := prefix_lt hp_6
    replace h1 := h1.le hM_3
    refine WP_region ?_
    refine S_v E rfl (R_assign E rfl) rfl ?_
    clear E a; intro a E
    refine WL_nil ?_
    refine T_n ?_
    replace S := S.front2
    refine rb S ?_
    clear S; intro w S
    refine WP_block ?_
    refine WP_region ?_
    refine S_v E rfl (R_load E rfl (Try.isAgg22 _) (cell_blk (S.mem (.tail _ (.head _))))) rfl ?_
    clear E a; intro a E
    refine S_v E rfl (R_move E rfl) rfl ?_
    clear E a; intro a E
    refine S_x (X_buildI (ys := [x]) E S rfl T22 rfl rfl rfl ?_)
    clear E a S; rintro a w v_8 E S
    replace S := S.front3
    replace S := S.front1
    refine S_x (X_appendB (xs := pre) (ys := [x]) E S rfl rfl rfl T22 (by first | omega | (simp; done) | (simp; omega) | (simp_all; omega)) ?_)
    clear E a S; rintro a w v_9 E S
    have ho_10 := S.oneI
    replace S := S.front2
    refine S_x0 (X_store E S rfl rfl (Try.sizeOf22 _) ho_10 ?_)
    clear E a S; rintro a w E S
    refine WL_nil ?_
    refine B_n ?_
    replace S := S.front1
    replace S := S.front1
    replace S := S.front1
    replace S := S.front1
    have S0 := S; clear S; have S := (St.pack [blk b_1 (.cells #[v_9] 22), OwnI 3 v_9 (pre ++ [x])] S0).swap; clear S0
    exact ⟨M_3, _, (Hp.le.refl _), ⟨_, rfl⟩, S⟩
  · rintro a w M_11 _ D_12 hM_11 ⟨u2, rfl⟩ S E
    replace S := S.unpack2
    replace h1 := h1.le hM_11
    refine B_n ?_
    refine T_n ?_
    refine WP_seq ?_
    refine WP_region ?_
    refine S_v E rfl (R_load E rfl (Try.isAgg22 _) (cell_blk (S.mem (.head _)))) rfl ?_
    clear E a; intro a E
    refine S_v E rfl (R_assign E rfl) rfl ?_
    clear E a; intro a E
    refine WL_nil ?_
    refine T_n ?_
    refine WP_ret ?_
    replace S := S.front1
    have S0 := S; clear S
    obtain ⟨M_13, hM_13, hz_14, S⟩ := S0.freezeI (by (first | omega | (simp; omega) | (simp; done) | (simp_all; omega) | grind))
    clear S0
    replace h1 := h1.le hM_13
    replace S := S.drop
    exact F_retM1 E S Try.results185 rfl (fun w S => ⟨_, rfl, M_13, (hM_11.trans hM_13), hz_14, S⟩)
  · rintro _ _ _ _ _ _ _ _ _ hX; exact hX.elim

set_option maxRecDepth 100000 in
set_option maxHeartbeats 4000000 in
theorem slices_Collect {M : Hp} {v0 : Value} {l0 : List Int} (h0 : SeqV Try.prog v0 M (RInt) l0)(hb : l0.length ≤ 1000000000000) :
    Pu Try.prog (.func (.func 109) #[] #[]) M [v0] (fun r M' => RdI M' r l0) := by
  refine Pu_enter Try.func109 rfl Try.ntmps109 rfl Try.call109 ?_
  intro a w M1 H hM1 S E
  replace h0 := h0.le hM1
  refine WP_seq ?_
  refine WP_region ?_
  refine S_v E rfl (R_assign E rfl) rfl ?_
  clear E a; intro a E
  refine WL_nil ?_
  refine T_n ?_
  refine WP_seq ?_
  refine WP_region ?_
  refine S_v E rfl (R_move E rfl) rfl ?_
  clear E a; intro a E
  refine S_x (X_pu E S rfl rfl rfl (slices_AppendSeq h0 (by (first | omega | (simp; omega) | (simp; done) | (simp_all; omega) | grind))) (Hp.le.refl _) ?_)
  clear E a S; rintro a v_2 w M_1 hM_1 hv_2 S E
  replace h0 := h0.le hM_1
  refine S_v E rfl (R_assign E rfl) rfl ?_
  clear E a; intro a E
  refine WL_nil ?_
  refine T_n ?_
  refine WP_ret ?_
  exact F_ret1 E Try.results109 rfl ⟨_, rfl, M_1, hM_1, hv_2, S⟩

set_option maxRecDepth 100000 in
set_option maxHeartbeats 4000000 in
theorem impl_RangeSeq {M : Hp} {x0 : Int} (g0 : -1000000 ≤ x0 ∧ x0 ≤ 1000000) :
    Pu Try.prog (.func (.func 84) #[] #[]) M [.int .i64 x0] (fun r M' => RdI M' r (rangeL x0)) := by
  refine Pu_enter Try.func84 rfl Try.ntmps84 rfl Try.call84 ?_
  intro a w M1 H hM1 S E
  have hrl := (show (rangeL x0).length = x0.natAbs by simp [rangeL])
  refine WP_seq ?_
  refine WP_region ?_
  refine S_v E rfl (R_assign E rfl) rfl ?_
  clear E a; intro a E
  refine WL_nil ?_
  refine T_n ?_
  refine WP_seq ?_
  refine WP_region ?_
  refine S_v E rfl (R_move E rfl) rfl ?_
  clear E a; intro a E
  refine S_x (X_pu E S rfl rfl rfl (it_Range (by omega)) (Hp.le.refl _) ?_)
  clear E a S; rintro a v_2 w M_1 hM_1 hv_2 S E
  refine S_x (X_pu E S rfl rfl rfl (slices_Collect hv_2 (by (first | omega | (simp; omega) | (simp; done) | (simp_all; omega) | grind))) (Hp.le.refl _) ?_)
  clear E a S; rintro a v_4 w M_3 hM_3 hv_4 S E
  replace hv_2 := hv_2.le hM_3
  refine S_v E rfl (R_assign E rfl) rfl ?_
  clear E a; intro a E
  refine WL_nil ?_
  refine T_n ?_
  refine WP_ret ?_
  exact F_ret1 E Try.results84 rfl ⟨_, rfl, M_3, (hM_1.trans hM_3), hv_4, S⟩

set_option maxRecDepth 100000 in
set_option maxHeartbeats 4000000 in
theorem lo_Map {M : Hp} {v0 : Value} {l0 : List Int} (h0 : RdI M v0 l0){v1 : Value} {f1 : Int → Int → Int} (h1 : PF2I Try.prog v1 M f1) (hb : l0.length ≤ 1000000000000) :
    Pu Try.prog (.func (.func 138) #[] #[]) M [v0, v1] (fun r M' => RdI M' r (mapI f1 0 l0)) := by
  refine Pu_enter Try.func138 rfl Try.ntmps138 rfl Try.call138 ?_
  intro a w M1 H hM1 S E
  replace h0 := h0.le hM1
  replace h1 := h1.le hM1
  have b0 := h0.bound
  refine WP_seq ?_
  refine WP_region ?_
  refine S_v E rfl (R_assign E rfl) rfl ?_
  clear E a; intro a E
  refine WL_nil ?_
  refine T_n ?_
  refine WP_seq ?_
  refine WP_region ?_
  refine S_v E rfl (R_move E rfl) rfl ?_
  clear E a; intro a E
  refine S_v E rfl (R_lenV E rfl T22 h0.len) rfl ?_
  clear E a; intro a E
  refine S_x (X_makeN (k := (l0).length) E S rfl rfl rfl T22 (by omega) (by omega) (by omega) (by omega) ?_)
  clear E a S; rintro a w v_1 E S
  replace S := S.madeI
  refine S_v E rfl (R_assign E rfl) rfl ?_
  clear E a; intro a E
  refine WL_nil ?_
  refine T_n ?_
  refine WP_seq ?_
  refine WP_seq ?_
  refine WP_region ?_
  refine S_v E rfl (R_move E rfl) rfl ?_
  clear E a; intro a E
  refine S_v E rfl (R_lenV E rfl T22 h0.len) rfl ?_
  clear E a; intro a E
  refine S_v E rfl (R_move E rfl) rfl ?_
  clear E a; intro a E
  refine WL_nil ?_
  refine T_n ?_
  refine WP_block ?_
  replace S := S.re1 (l' := mapI f1 0 (l0.take 0) ++ List.replicate (l0.length - (mapI f1 0 (l0.take 0)).length) 0) (by first | (simp [mapI]; done) | (rw [show k = (mapI f1 0 (l0.take k)).length from hml2.symm]; rw [set_fill (by omega) (mapI_succ (by assumption))]; done) | (have e := set_fill (p := mapI f1 0 (l0.take k)) (n := l0.length) (by omega) (mapI_succ (f := f1) (by assumption)); rw [hml2] at e; rw [hml2]; exact e))
  refine WP_loop (γ := Nat) (fun (k : Nat) a w => ∃ (M_2 : Hp), Hp.le M1 M_2 ∧ St w M_2 (OwnI 3 v_1 (mapI f1 0 (l0.take k) ++ List.replicate (l0.length - (mapI f1 0 (l0.take k)).length) 0) :: H) ∧ Env a 27 [] [(0, v0), (1, v1), (5, v_1), (11, .int .i64 (((l0).length : Nat) : Int)), (12, .int .i64 ((k : Nat) : Int))] ∧ (k ≤ (l0).length)) (fun k => ((l0).length) - k) 0 ⟨M1, Hp.le.refl _, S, E.keep ⟨rfl, rfl, rfl, rfl, rfl, trivial⟩, by ((try clear S); (try clear E); first | assumption | omega | rfl | (simp; done) | (simp_all; done) | (simp [List.take_add_one, *]; done) | grind [List.take_add_one])⟩ ?_
  try clear E
  try clear S
  try clear a
  try clear w
  rintro k a w ⟨M_2, hM_2, S, E, hL0_0⟩
  replace h0 := h0.le hM_2
  replace h1 := h1.le hM_2
  have hml := mapI_len f1 (l0.take k) 0; simp only [List.length_take] at hml; have hml2 : (mapI f1 0 (l0.take k)).length = k := by omega
  refine WP_seq ?_
  refine WP_region ?_
  refine S_v E rfl (R_lss E rfl rfl) rfl ?_
  clear E a; intro a E
  refine WL_nil ?_
  refine T_n ?_
  refine WP_seq ?_
  refine WP_cond E rfl (fun hc_3 => ?_) (fun hc_3 => ?_)
  · replace hc_3 := of_decide_eq_true hc_3
    refine WP_skip ?_
    refine T_n ?_
    refine WP_seq ?_
    refine WP_block ?_
    refine WP_seq ?_
    refine WP_region ?_
    refine S_v E rfl (R_move E rfl) rfl ?_
    clear E a; intro a E
    refine S_v E rfl (R_assign E rfl) rfl ?_
    clear E a; intro a E
    refine WL_nil ?_
    refine T_n ?_
    refine WP_region ?_
    refine S_v E rfl (R_move E rfl) rfl ?_
    clear E a; intro a E
    refine S_v E rfl (R_move E rfl) rfl ?_
    clear E a; intro a E
    refine S_v E rfl (R_move E rfl) rfl ?_
    clear E a; intro a E
    refine S_v E rfl (R_move E rfl) rfl ?_
    clear E a; intro a E
    refine S_v E rfl (R_move E rfl) rfl ?_
    clear E a; intro a E
    obtain ⟨x_4, hx_4⟩ : ∃ x, (l0)[k]? = some x := ⟨_, List.getElem?_eq_getElem (by first | omega | (simp; done) | (simp; omega) | (simp_all; omega))⟩
    obtain ⟨p_5, hp_5, qp_5⟩ := h0.at hx_4
    refine S_v E rfl (R_idx E rfl rfl T22 hp_5 rfl) rfl ?_
    clear E a; intro a E
    refine S_v E rfl (R_loadM E rfl Try.isAgg3 S.imm qp_5) rfl ?_
    clear E a; intro a E
    refine S_v E rfl (R_move E rfl) rfl ?_
    clear E a; intro a E
    refine S_x (X_pu E S rfl rfl rfl (h1.2 x_4 ((k : Nat) : Int)) (Hp.le.refl _) ?_)
    clear E a S; rintro a _ w M_6 hM_6 rfl S E
    replace h0 := h0.le hM_6
    replace h1 := h1.le hM_6
    obtain ⟨p_7, hp_7⟩ := S.ptrC (k := k) (by first | omega | (simp; done) | (simp; omega) | (simp_all; omega))
    refine S_v E rfl (R_idx E rfl rfl T22 hp_7 rfl) rfl ?_
    clear E a; intro a E
    refine S_x0 (X_storeI E S rfl rfl (Try.sizeOf3 _) hp_7 ?_)
    clear E a S; rintro a w E S
    refine WL_nil ?_
    refine B_n ?_
    refine T_n ?_
    refine WP_region ?_
    refine S_v E rfl (R_addx (m := ((k + 1 : Nat) : Int)) E rfl rfl (by omega) (by omega)) rfl ?_
    clear E a; intro a E
    refine S_v E rfl (R_move E rfl) rfl ?_
    clear E a; intro a E
    refine WL_nil ?_
    refine T_n ?_
    replace S := S.re1 (l' := mapI f1 0 (l0.take (k + 1)) ++ List.replicate (l0.length - (mapI f1 0 (l0.take (k + 1))).length) 0) (by first | (simp [mapI]; done) | (rw [show k = (mapI f1 0 (l0.take k)).length from hml2.symm]; rw [set_fill (by omega) (mapI_succ (by assumption))]; done) | (have e := set_fill (p := mapI f1 0 (l0.take k)) (n := l0.length) (by omega) (mapI_succ (f := f1) (by assumption)); rw [hml2] at e; rw [hml2]; exact e))
    exact ⟨k + 1, ⟨M_6, (hM_2.trans hM_6), S, E.keep ⟨rfl, rfl, rfl, rfl, rfl, trivial⟩, by ((try clear S); (try clear E); first | assumption | omega | rfl | (simp; done) | (simp_all; done) | (simp [List.take_add_one, *]; done) | grind [List.take_add_one])⟩, by omega⟩
  · replace hc_3 := of_decide_eq_false hc_3
    refine WP_exit ?_
    refine T_x ?_
    refine T_x ?_
    refine B_x ?_
    refine T_n ?_
    refine WP_seq ?_
    refine WP_region ?_
    refine S_v E rfl (R_move E rfl) rfl ?_
    clear E a; intro a E
    refine S_v E rfl (R_assign E rfl) rfl ?_
    clear E a; intro a E
    refine WL_nil ?_
    refine T_n ?_
    refine WP_ret ?_
    have S0 := S; clear S
    obtain ⟨M_8, hM_8, hz_9, S⟩ := S0.freezeI (by (have hml := mapI_len f1 (l0.take k) 0; simp only [List.length_take] at hml; simp; omega))
    clear S0
    replace h0 := h0.le hM_8
    replace h1 := h1.le hM_8
    exact F_ret1 E Try.results138 rfl ⟨_, rfl, M_8, (hM_2.trans hM_8), (by rw [show (mapI f1 0 l0) = (mapI f1 0 (l0.take k) ++ List.replicate (l0.length - (mapI f1 0 (l0.take k)).length) 0) from by (have hml := mapI_len f1 (l0.take k) 0; simp only [List.length_take] at hml; rw [show l0.length - (mapI f1 0 (l0.take k)).length = 0 by omega, List.take_of_length_le (by omega)]; simp)]; exact hz_9), S⟩

set_option maxRecDepth 100000 in
set_option maxHeartbeats 4000000 in
theorem impl_mod {M : Hp} {x0 x1 : Int} (hn : x1 ≠ 0) (g1 : -9223372036854775808 ≤ x1 ∧ x1 ≤ 9223372036854775807) :
    Pu Try.prog (.func (.func 191) #[] #[]) M [.int .i64 x0, .int .i64 x1] (fun r M' => r = .int .i64 (x0 % x1)) := by
  refine Pu_enter Try.func191 rfl Try.ntmps191 rfl Try.call191 ?_
  intro a w M1 H hM1 S E
  have ht := tmod_emod x0 x1 hn
  refine WP_seq ?_
  refine WP_region ?_
  refine S_v E rfl (R_assign E rfl) rfl ?_
  clear E a; intro a E
  refine WL_nil ?_
  refine T_n ?_
  refine WP_seq ?_
  refine WP_region ?_
  refine S_v E rfl (R_move E rfl) rfl ?_
  clear E a; intro a E
  refine S_v E rfl (R_move E rfl) rfl ?_
  clear E a; intro a E
  refine S_v E rfl (R_rem E rfl rfl (by first | decide | omega)) rfl ?_
  clear E a; intro a E
  refine S_v E rfl (R_assign E rfl) rfl ?_
  clear E a; intro a E
  refine WL_nil ?_
  refine T_n ?_
  refine WP_seq ?_
  refine WP_seq ?_
  refine WP_region ?_
  refine S_v E rfl (R_move E rfl) rfl ?_
  clear E a; intro a E
  refine S_v E rfl (R_lss E rfl rfl) rfl ?_
  clear E a; intro a E
  refine WL_nil ?_
  refine T_n ?_
  refine WP_cond E rfl (fun hc_1 => ?_) (fun hc_1 => ?_)
  · replace hc_1 := of_decide_eq_true hc_1
    refine WP_seq ?_
    refine WP_seq ?_
    refine WP_region ?_
    refine S_v E rfl (R_move E rfl) rfl ?_
    clear E a; intro a E
    refine S_v E rfl (R_lss E rfl rfl) rfl ?_
    clear E a; intro a E
    refine WL_nil ?_
    refine T_n ?_
    refine WP_cond E rfl (fun hc_2 => ?_) (fun hc_2 => ?_)
    · replace hc_2 := of_decide_eq_true hc_2
      refine WP_seq ?_
      refine WP_region ?_
      refine S_v E rfl (R_move E rfl) rfl ?_
      clear E a; intro a E
      refine S_v E rfl (R_move E rfl) rfl ?_
      clear E a; intro a E
      refine S_v E rfl (R_subx (m := (Int.tmod x0 x1) - x1) E rfl rfl (by omega) (by omega)) rfl ?_
      clear E a; intro a E
      refine S_v E rfl (R_assign E rfl) rfl ?_
      clear E a; intro a E
      refine WL_nil ?_
      refine T_n ?_
      refine WP_ret ?_
      refine T_r ?_
      refine T_r ?_
      exact F_ret1 E Try.results191 rfl ⟨_, rfl, M1, (Hp.le.refl _), (congrArg (Value.int .i64) (by omega)), S⟩
    · replace hc_2 := of_decide_eq_false hc_2
      refine WP_skip ?_
      refine T_n ?_
      refine WP_seq ?_
      refine WP_region ?_
      refine S_v E rfl (R_move E rfl) rfl ?_
      clear E a; intro a E
      refine S_v E rfl (R_move E rfl) rfl ?_
      clear E a; intro a E
      refine S_v E rfl (R_addx (m := (Int.tmod x0 x1) + x1) E rfl rfl (by omega) (by omega)) rfl ?_
      clear E a; intro a E
      refine S_v E rfl (R_assign E rfl) rfl ?_
      clear E a; intro a E
      refine WL_nil ?_
      refine T_n ?_
      refine WP_ret ?_
      refine T_r ?_
      exact F_ret1 E Try.results191 rfl ⟨_, rfl, M1, (Hp.le.refl _), (congrArg (Value.int .i64) (by omega)), S⟩
  · replace hc_1 := of_decide_eq_false hc_1
    refine WP_skip ?_
    refine T_n ?_
    refine WP_seq ?_
    refine WP_region ?_
    refine S_v E rfl (R_move E rfl) rfl ?_
    clear E a; intro a E
    refine S_v E rfl (R_assign E rfl) rfl ?_
    clear E a; intro a E
    refine WL_nil ?_
    refine T_n ?_
    refine WP_ret ?_
    exact F_ret1 E Try.results191 rfl ⟨_, rfl, M1, (Hp.le.refl _), (congrArg (Value.int .i64) (by omega)), S⟩

set_option maxRecDepth 100000 in
set_option maxHeartbeats 4000000 in
theorem Key_at_c {M : Hp} {kk0 kn0 : Int} (gk0 : -9223372036854775808 ≤ kn0 ∧ kn0 ≤ 9223372036854775807){x1 x2 : Int} :
    PuC Try.prog 121 M [.agg #[.int .i64 kk0, .int .i64 kn0], .int .i64 x1, .int .i64 x2] (fun r M' => r = .int .i64 (keyAt kk0 kn0 x1 x2)) := by
  refine PuC_enter Try.func121 rfl Try.ntmps121 rfl ?_
  intro a w M1 H hM1 S E
  refine WP_seq ?_
  refine WP_region ?_
  refine S_x (X_box (cs := #[.int .i64 kk0, .int .i64 kn0]) E S rfl rfl rfl ?_)
  clear E a S; rintro a w b_1 E S
  obtain ⟨M_2, hM_2, hb_1, S⟩ := S.freezeB
  refine S_v E rfl (R_assign E rfl) rfl ?_
  clear E a; intro a E
  refine WL_nil ?_
  refine T_n ?_
  refine WP_seq ?_
  refine WP_seq ?_
  refine WP_region ?_
  refine S_v E rfl (R_fieldAddr E rfl (FA37_0 _)) rfl ?_
  clear E a; intro a E
  refine S_v E rfl (R_loadM E rfl Try.isAgg3 S.imm (cellM_boxo hb_1 rfl)) rfl ?_
  clear E a; intro a E
  refine WL_nil ?_
  refine T_n ?_
  refine WP_block ?_
  refine WP_seq ?_
  refine WP_region ?_
  refine S_v E rfl (R_eql E rfl rfl) rfl ?_
  clear E a; intro a E
  refine S_v E rfl (R_assign E rfl) rfl ?_
  clear E a; intro a E
  refine WL_nil ?_
  refine T_n ?_
  refine WP_cond E rfl (fun hc_3 => ?_) (fun hc_3 => ?_)
  · replace hc_3 := of_decide_eq_true hc_3
    refine WP_seq ?_
    refine WP_region ?_
    refine S_v E rfl (R_move E rfl) rfl ?_
    clear E a; intro a E
    refine S_v E rfl (R_fieldAddr E rfl (FA37_1 _)) rfl ?_
    clear E a; intro a E
    refine S_v E rfl (R_loadM E rfl Try.isAgg3 S.imm (cellM_boxo hb_1 rfl)) rfl ?_
    clear E a; intro a E
    refine S_v E rfl (R_add E rfl rfl) rfl ?_
    clear E a; intro a E
    refine S_v E rfl (R_assign E rfl) rfl ?_
    clear E a; intro a E
    refine WL_nil ?_
    refine T_n ?_
    refine WP_ret ?_
    refine B_r ?_
    refine T_r ?_
    exact F_ret1 E Try.results121 rfl ⟨_, rfl, M_2, hM_2, (congrArg (Value.int .i64) (by (clear E S; unfold keyAt w64; first | (simp [*]; done) | (simp_all; done)))), S⟩
  · replace hc_3 := of_decide_eq_false hc_3
    refine WP_seq ?_
    refine WP_region ?_
    refine S_v E rfl (R_eql E rfl rfl) rfl ?_
    clear E a; intro a E
    refine S_v E rfl (R_assign E rfl) rfl ?_
    clear E a; intro a E
    refine WL_nil ?_
    refine T_n ?_
    refine WP_cond E rfl (fun hc_4 => ?_) (fun hc_4 => ?_)
    · replace hc_4 := of_decide_eq_true hc_4
      refine WP_seq ?_
      refine WP_region ?_
      refine S_v E rfl (R_move E rfl) rfl ?_
      clear E a; intro a E
      refine S_v E rfl (R_fieldAddr E rfl (FA37_1 _)) rfl ?_
      clear E a; intro a E
      refine S_v E rfl (R_loadM E rfl Try.isAgg3 S.imm (cellM_boxo hb_1 rfl)) rfl ?_
      clear E a; intro a E
      refine S_v E rfl (R_mul E rfl rfl) rfl ?_
      clear E a; intro a E
      refine S_v E rfl (R_assign E rfl) rfl ?_
      clear E a; intro a E
      refine WL_nil ?_
      refine T_n ?_
      refine WP_ret ?_
      refine B_r ?_
      refine T_r ?_
      exact F_ret1 E Try.results121 rfl ⟨_, rfl, M_2, hM_2, (congrArg (Value.int .i64) (by (clear E S; unfold keyAt w64; first | (simp [*]; done) | (simp_all; done)))), S⟩
    · replace hc_4 := of_decide_eq_false hc_4
      refine WP_seq ?_
      refine WP_region ?_
      refine S_v E rfl (R_eql E rfl rfl) rfl ?_
      clear E a; intro a E
      refine S_v E rfl (R_assign E rfl) rfl ?_
      clear E a; intro a E
      refine WL_nil ?_
      refine T_n ?_
      refine WP_cond E rfl (fun hc_5 => ?_) (fun hc_5 => ?_)
      · replace hc_5 := of_decide_eq_true hc_5
        refine WP_seq ?_
        refine WP_region ?_
        refine S_v E rfl (R_fieldAddr E rfl (FA37_1 _)) rfl ?_
        clear E a; intro a E
        refine S_v E rfl (R_loadM E rfl Try.isAgg3 S.imm (cellM_boxo hb_1 rfl)) rfl ?_
        clear E a; intro a E
        refine S_v E rfl (R_neq E rfl rfl) rfl ?_
        clear E a; intro a E
        refine WL_nil ?_
        refine T_n ?_
        refine WP_cond E rfl (fun hc_6 => ?_) (fun hc_6 => ?_)
        · replace hc_6 := of_decide_eq_true hc_6
          refine WP_seq ?_
          refine WP_region ?_
          refine S_v E rfl (R_move E rfl) rfl ?_
          clear E a; intro a E
          refine S_v E rfl (R_fieldAddr E rfl (FA37_1 _)) rfl ?_
          clear E a; intro a E
          refine S_v E rfl (R_loadM E rfl Try.isAgg3 S.imm (cellM_boxo hb_1 rfl)) rfl ?_
          clear E a; intro a E
          refine S_x (X_pu E S rfl rfl rfl (impl_mod (by first | omega | assumption) (by omega)) (Hp.le.refl _) ?_)
          clear E a S; rintro a _ w M_7 hM_7 rfl S E
          replace hb_1 := hM_7.2 _ _ hb_1
          refine S_v E rfl (R_assign E rfl) rfl ?_
          clear E a; intro a E
          refine WL_nil ?_
          refine T_n ?_
          refine WP_ret ?_
          refine B_r ?_
          refine T_r ?_
          exact F_ret1 E Try.results121 rfl ⟨_, rfl, M_7, (hM_2.trans hM_7), (congrArg (Value.int .i64) (by (clear E S; unfold keyAt w64; first | (simp [*]; done) | (simp_all; done)))), S⟩
        · replace hc_6 := of_decide_eq_false hc_6
          refine WP_skip ?_
          refine B_n ?_
          refine T_n ?_
          refine WP_seq ?_
          refine WP_region ?_
          refine S_v E rfl (R_move E rfl) rfl ?_
          clear E a; intro a E
          refine S_v E rfl (R_assign E rfl) rfl ?_
          clear E a; intro a E
          refine WL_nil ?_
          refine T_n ?_
          refine WP_ret ?_
          exact F_ret1 E Try.results121 rfl ⟨_, rfl, M_2, hM_2, (congrArg (Value.int .i64) (by (clear E S; unfold keyAt w64; first | (simp [*]; done) | (simp_all; done)))), S⟩
      · replace hc_5 := of_decide_eq_false hc_5
        refine WP_seq ?_
        refine WP_region ?_
        refine S_v E rfl (R_eql E rfl rfl) rfl ?_
        clear E a; intro a E
        refine S_v E rfl (R_assign E rfl) rfl ?_
        clear E a; intro a E
        refine WL_nil ?_
        refine T_n ?_
        refine WP_cond E rfl (fun hc_8 => ?_) (fun hc_8 => ?_)
        · replace hc_8 := of_decide_eq_true hc_8
          refine WP_seq ?_
          refine WP_region ?_
          refine S_v E rfl (R_fieldAddr E rfl (FA37_1 _)) rfl ?_
          clear E a; intro a E
          refine S_v E rfl (R_loadM E rfl Try.isAgg3 S.imm (cellM_boxo hb_1 rfl)) rfl ?_
          clear E a; intro a E
          refine S_v E rfl (R_assign E rfl) rfl ?_
          clear E a; intro a E
          refine WL_nil ?_
          refine T_n ?_
          refine WP_ret ?_
          refine B_r ?_
          refine T_r ?_
          exact F_ret1 E Try.results121 rfl ⟨_, rfl, M_2, hM_2, (congrArg (Value.int .i64) (by (clear E S; unfold keyAt w64; first | (simp [*]; done) | (simp_all; done)))), S⟩
        · replace hc_8 := of_decide_eq_false hc_8
          refine WP_seq ?_
          refine WP_region ?_
          refine S_v E rfl (R_eql E rfl rfl) rfl ?_
          clear E a; intro a E
          refine S_v E rfl (R_assign E rfl) rfl ?_
          clear E a; intro a E
          refine WL_nil ?_
          refine T_n ?_
          refine WP_cond E rfl (fun hc_9 => ?_) (fun hc_9 => ?_)
          · replace hc_9 := of_decide_eq_true hc_9
            refine WP_seq ?_
            refine WP_region ?_
            refine S_v E rfl (R_move E rfl) rfl ?_
            clear E a; intro a E
            refine S_v E rfl (R_assign E rfl) rfl ?_
            clear E a; intro a E
            refine WL_nil ?_
            refine T_n ?_
            refine WP_ret ?_
            refine B_r ?_
            refine T_r ?_
            exact F_ret1 E Try.results121 rfl ⟨_, rfl, M_2, hM_2, (congrArg (Value.int .i64) (by (clear E S; unfold keyAt w64; first | (simp [*]; done) | (simp_all; done)))), S⟩
          · replace hc_9 := of_decide_eq_false hc_9
            refine WP_skip ?_
            refine B_n ?_
            refine T_n ?_
            refine WP_seq ?_
            refine WP_region ?_
            refine S_v E rfl (R_move E rfl) rfl ?_
            clear E a; intro a E
            refine S_v E rfl (R_assign E rfl) rfl ?_
            clear E a; intro a E
            refine WL_nil ?_
            refine T_n ?_
            refine WP_ret ?_
            exact F_ret1 E Try.results121 rfl ⟨_, rfl, M_2, hM_2, (congrArg (Value.int .i64) (by (clear E S; unfold keyAt w64; first | (simp [*]; done) | (simp_all; done)))), S⟩
theorem Key_at {M : Hp} {kk0 kn0 : Int} (gk0 : -9223372036854775808 ≤ kn0 ∧ kn0 ≤ 9223372036854775807){x1 x2 : Int} :
    Pu Try.prog (.func (.func 121) #[.agg #[.int .i64 kk0, .int .i64 kn0]] #[]) M [.int .i64 x1, .int .i64 x2] (fun r M' => r = .int .i64 (keyAt kk0 kn0 x1 x2)) := PuC.pu Try.call121 rfl (Key_at_c gk0)
theorem Key_at_d {M : Hp} {kk0 kn0 : Int} (gk0 : -9223372036854775808 ≤ kn0 ∧ kn0 ≤ 9223372036854775807){x1 x2 : Int} :
    Pu Try.prog (.func (.func 121) #[] #[]) M [.agg #[.int .i64 kk0, .int .i64 kn0], .int .i64 x1, .int .i64 x2] (fun r M' => r = .int .i64 (keyAt kk0 kn0 x1 x2)) := PuC.pu Try.call121 rfl (Key_at_c gk0)

set_option maxRecDepth 100000 in
set_option maxHeartbeats 4000000 in
theorem impl_Map {M : Hp} {v0 : Value} {l0 : List Int} (h0 : RdI M v0 l0){kk1 kn1 : Int} (gk1 : -9223372036854775808 ≤ kn1 ∧ kn1 ≤ 9223372036854775807) (hb : l0.length ≤ 1000000000000) :
    Pu Try.prog (.func (.func 47) #[] #[]) M [v0, .agg #[.int .i64 kk1, .int .i64 kn1]] (fun r M' => RdI M' r (mapI (keyAt kk1 kn1) 0 l0)) := by
  refine Pu_enter Try.func47 rfl Try.ntmps47 rfl Try.call47 ?_
  intro a w M1 H hM1 S E
  replace h0 := h0.le hM1
  have b0 := h0.bound
  refine WP_seq ?_
  refine WP_region ?_
  refine S_x (X_box (cs := #[.int .i64 kk1, .int .i64 kn1]) E S rfl rfl rfl ?_)
  clear E a S; rintro a w b_1 E S
  obtain ⟨M_2, hM_2, hb_1, S⟩ := S.freezeB
  replace h0 := h0.le hM_2
  refine S_v E rfl (R_assign E rfl) rfl ?_
  clear E a; intro a E
  refine WL_nil ?_
  refine T_n ?_
  refine WP_seq ?_
  refine WP_region ?_
  refine S_v E rfl (R_move E rfl) rfl ?_
  clear E a; intro a E
  refine S_v E rfl (R_loadGM E rfl (Try.isAgg37 _) (Try.sizeOf37 _) S.imm hb_1) rfl ?_
  clear E a; intro a E
  refine S_v E rfl (R_makeFunc E rfl rfl) rfl ?_
  clear E a; intro a E
  refine S_x (X_pu E S rfl rfl rfl (lo_Map h0 ⟨rfl, fun zx1 zx2 => Key_at (x1 := zx1) (x2 := zx2) (by omega)⟩ (by (first | omega | (simp; omega) | (simp; done) | (simp_all; omega) | grind))) (Hp.le.refl _) ?_)
  clear E a S; rintro a v_4 w M_3 hM_3 hv_4 S E
  replace h0 := h0.le hM_3
  replace hb_1 := hM_3.2 _ _ hb_1
  refine S_v E rfl (R_assign E rfl) rfl ?_
  clear E a; intro a E
  refine WL_nil ?_
  refine T_n ?_
  refine WP_ret ?_
  exact F_ret1 E Try.results47 rfl ⟨_, rfl, M_3, (hM_2.trans hM_3), hv_4, S⟩

set_option maxRecDepth 100000 in
set_option maxHeartbeats 4000000 in
theorem laws_modulo {M : Hp} {x0 x1 : Int} (hn : x1 ≠ 0) (g1 : -1099511627776 < x1 ∧ x1 < 1099511627776) :
    Pu Try.prog (.func (.func 122) #[] #[]) M [.int .i64 x0, .int .i64 x1] (fun r M' => r = .int .i64 (x0 % x1)) := by
  refine Pu_enter Try.func122 rfl Try.ntmps122 rfl Try.call122 ?_
  intro a w M1 H hM1 S E
  have ht := tmod_emod x0 x1 hn
  have ht2 := tmod_emod x0 (-x1) (by omega)
  have he : x0 % (-x1) = x0 % x1 := Int.emod_neg ..
  refine WP_seq ?_
  refine WP_region ?_
  refine S_v E rfl (R_assign E rfl) rfl ?_
  clear E a; intro a E
  refine WL_nil ?_
  refine T_n ?_
  refine WP_seq ?_
  refine WP_seq ?_
  refine WP_region ?_
  refine S_v E rfl (R_move E rfl) rfl ?_
  clear E a; intro a E
  refine S_v E rfl (R_lss E rfl rfl) rfl ?_
  clear E a; intro a E
  refine WL_nil ?_
  refine T_n ?_
  refine WP_cond E rfl (fun hc_1 => ?_) (fun hc_1 => ?_)
  · replace hc_1 := of_decide_eq_true hc_1
    refine WP_region ?_
    refine S_v E rfl (R_move E rfl) rfl ?_
    clear E a; intro a E
    refine S_v E rfl (R_negx (m := -x1) E rfl rfl (by omega)) rfl ?_
    clear E a; intro a E
    refine S_v E rfl (R_assign E rfl) rfl ?_
    clear E a; intro a E
    refine WL_nil ?_
    refine T_n ?_
    refine WP_seq ?_
    refine WP_region ?_
    refine S_v E rfl (R_move E rfl) rfl ?_
    clear E a; intro a E
    refine S_v E rfl (R_move E rfl) rfl ?_
    clear E a; intro a E
    refine S_v E rfl (R_rem E rfl rfl (by first | decide | omega)) rfl ?_
    clear E a; intro a E
    refine S_v E rfl (R_assign E rfl) rfl ?_
    clear E a; intro a E
    refine WL_nil ?_
    refine T_n ?_
    refine WP_seq ?_
    refine WP_seq ?_
    refine WP_region ?_
    refine S_v E rfl (R_move E rfl) rfl ?_
    clear E a; intro a E
    refine S_v E rfl (R_lss E rfl rfl) rfl ?_
    clear E a; intro a E
    refine WL_nil ?_
    refine T_n ?_
    refine WP_cond E rfl (fun hc_2 => ?_) (fun hc_2 => ?_)
    · replace hc_2 := of_decide_eq_true hc_2
      refine WP_region ?_
      refine S_v E rfl (R_move E rfl) rfl ?_
      clear E a; intro a E
      refine S_v E rfl (R_move E rfl) rfl ?_
      clear E a; intro a E
      refine S_v E rfl (R_addx (m := (Int.tmod x0 (-x1)) + (-x1)) E rfl rfl (by omega) (by omega)) rfl ?_
      clear E a; intro a E
      refine S_v E rfl (R_assign E rfl) rfl ?_
      clear E a; intro a E
      refine WL_nil ?_
      refine T_n ?_
      refine WP_seq ?_
      refine WP_region ?_
      refine S_v E rfl (R_move E rfl) rfl ?_
      clear E a; intro a E
      refine S_v E rfl (R_assign E rfl) rfl ?_
      clear E a; intro a E
      refine WL_nil ?_
      refine T_n ?_
      refine WP_ret ?_
      exact F_ret1 E Try.results122 rfl ⟨_, rfl, M1, (Hp.le.refl _), (congrArg (Value.int .i64) (by omega)), S⟩
    · replace hc_2 := of_decide_eq_false hc_2
      refine WP_skip ?_
      refine T_n ?_
      refine WP_seq ?_
      refine WP_region ?_
      refine S_v E rfl (R_move E rfl) rfl ?_
      clear E a; intro a E
      refine S_v E rfl (R_assign E rfl) rfl ?_
      clear E a; intro a E
      refine WL_nil ?_
      refine T_n ?_
      refine WP_ret ?_
      exact F_ret1 E Try.results122 rfl ⟨_, rfl, M1, (Hp.le.refl _), (congrArg (Value.int .i64) (by omega)), S⟩
  · replace hc_1 := of_decide_eq_false hc_1
    refine WP_skip ?_
    refine T_n ?_
    refine WP_seq ?_
    refine WP_region ?_
    refine S_v E rfl (R_move E rfl) rfl ?_
    clear E a; intro a E
    refine S_v E rfl (R_move E rfl) rfl ?_
    clear E a; intro a E
    refine S_v E rfl (R_rem E rfl rfl (by first | decide | omega)) rfl ?_
    clear E a; intro a E
    refine S_v E rfl (R_assign E rfl) rfl ?_
    clear E a; intro a E
    refine WL_nil ?_
    refine T_n ?_
    refine WP_seq ?_
    refine WP_seq ?_
    refine WP_region ?_
    refine S_v E rfl (R_move E rfl) rfl ?_
    clear E a; intro a E
    refine S_v E rfl (R_lss E rfl rfl) rfl ?_
    clear E a; intro a E
    refine WL_nil ?_
    refine T_n ?_
    refine WP_cond E rfl (fun hc_3 => ?_) (fun hc_3 => ?_)
    · replace hc_3 := of_decide_eq_true hc_3
      refine WP_region ?_
      refine S_v E rfl (R_move E rfl) rfl ?_
      clear E a; intro a E
      refine S_v E rfl (R_move E rfl) rfl ?_
      clear E a; intro a E
      refine S_v E rfl (R_addx (m := (Int.tmod x0 x1) + x1) E rfl rfl (by omega) (by omega)) rfl ?_
      clear E a; intro a E
      refine S_v E rfl (R_assign E rfl) rfl ?_
      clear E a; intro a E
      refine WL_nil ?_
      refine T_n ?_
      refine WP_seq ?_
      refine WP_region ?_
      refine S_v E rfl (R_move E rfl) rfl ?_
      clear E a; intro a E
      refine S_v E rfl (R_assign E rfl) rfl ?_
      clear E a; intro a E
      refine WL_nil ?_
      refine T_n ?_
      refine WP_ret ?_
      exact F_ret1 E Try.results122 rfl ⟨_, rfl, M1, (Hp.le.refl _), (congrArg (Value.int .i64) (by omega)), S⟩
    · replace hc_3 := of_decide_eq_false hc_3
      refine WP_skip ?_
      refine T_n ?_
      refine WP_seq ?_
      refine WP_region ?_
      refine S_v E rfl (R_move E rfl) rfl ?_
      clear E a; intro a E
      refine S_v E rfl (R_assign E rfl) rfl ?_
      clear E a; intro a E
      refine WL_nil ?_
      refine T_n ?_
      refine WP_ret ?_
      exact F_ret1 E Try.results122 rfl ⟨_, rfl, M1, (Hp.le.refl _), (congrArg (Value.int .i64) (by omega)), S⟩

set_option maxRecDepth 100000 in
set_option maxHeartbeats 4000000 in
theorem laws_stands {M : Hp} {kk0 kn0 : Int} (gk0 : -1099511627776 < kn0 ∧ kn0 < 1099511627776){x1 x2 : Int} :
    Pu Try.prog (.func (.func 32) #[] #[]) M [.agg #[.int .i64 kk0, .int .i64 kn0], .int .i64 x1, .int .i64 x2] (fun r M' => r = .int .i64 (keyAt kk0 kn0 x1 x2)) := by
  refine Pu_enter Try.func32 rfl Try.ntmps32 rfl Try.call32 ?_
  intro a w M1 H hM1 S E
  refine WP_seq ?_
  refine WP_region ?_
  refine S_x (X_box (cs := #[.int .i64 kk0, .int .i64 kn0]) E S rfl rfl rfl ?_)
  clear E a S; rintro a w b_1 E S
  obtain ⟨M_2, hM_2, hb_1, S⟩ := S.freezeB
  refine S_v E rfl (R_assign E rfl) rfl ?_
  clear E a; intro a E
  refine WL_nil ?_
  refine T_n ?_
  refine WP_seq ?_
  refine WP_seq ?_
  refine WP_region ?_
  refine S_v E rfl (R_fieldAddr E rfl (FA37_0 _)) rfl ?_
  clear E a; intro a E
  refine S_v E rfl (R_loadM E rfl Try.isAgg3 S.imm (cellM_boxo hb_1 rfl)) rfl ?_
  clear E a; intro a E
  refine WL_nil ?_
  refine T_n ?_
  refine WP_block ?_
  refine WP_seq ?_
  refine WP_region ?_
  refine S_v E rfl (R_eql E rfl rfl) rfl ?_
  clear E a; intro a E
  refine S_v E rfl (R_assign E rfl) rfl ?_
  clear E a; intro a E
  refine WL_nil ?_
  refine T_n ?_
  refine WP_cond E rfl (fun hc_3 => ?_) (fun hc_3 => ?_)
  · replace hc_3 := of_decide_eq_true hc_3
    refine WP_seq ?_
    refine WP_region ?_
    refine S_v E rfl (R_move E rfl) rfl ?_
    clear E a; intro a E
    refine S_v E rfl (R_fieldAddr E rfl (FA37_1 _)) rfl ?_
    clear E a; intro a E
    refine S_v E rfl (R_loadM E rfl Try.isAgg3 S.imm (cellM_boxo hb_1 rfl)) rfl ?_
    clear E a; intro a E
    refine S_v E rfl (R_add E rfl rfl) rfl ?_
    clear E a; intro a E
    refine S_v E rfl (R_assign E rfl) rfl ?_
    clear E a; intro a E
    refine WL_nil ?_
    refine T_n ?_
    refine WP_ret ?_
    refine B_r ?_
    refine T_r ?_
    exact F_ret1 E Try.results32 rfl ⟨_, rfl, M_2, hM_2, (congrArg (Value.int .i64) (by (clear E S; unfold keyAt w64; first | (simp [*]; done) | (simp_all; done)))), S⟩
  · replace hc_3 := of_decide_eq_false hc_3
    refine WP_seq ?_
    refine WP_region ?_
    refine S_v E rfl (R_eql E rfl rfl) rfl ?_
    clear E a; intro a E
    refine S_v E rfl (R_assign E rfl) rfl ?_
    clear E a; intro a E
    refine WL_nil ?_
    refine T_n ?_
    refine WP_cond E rfl (fun hc_4 => ?_) (fun hc_4 => ?_)
    · replace hc_4 := of_decide_eq_true hc_4
      refine WP_seq ?_
      refine WP_region ?_
      refine S_v E rfl (R_move E rfl) rfl ?_
      clear E a; intro a E
      refine S_v E rfl (R_fieldAddr E rfl (FA37_1 _)) rfl ?_
      clear E a; intro a E
      refine S_v E rfl (R_loadM E rfl Try.isAgg3 S.imm (cellM_boxo hb_1 rfl)) rfl ?_
      clear E a; intro a E
      refine S_v E rfl (R_mul E rfl rfl) rfl ?_
      clear E a; intro a E
      refine S_v E rfl (R_assign E rfl) rfl ?_
      clear E a; intro a E
      refine WL_nil ?_
      refine T_n ?_
      refine WP_ret ?_
      refine B_r ?_
      refine T_r ?_
      exact F_ret1 E Try.results32 rfl ⟨_, rfl, M_2, hM_2, (congrArg (Value.int .i64) (by (clear E S; unfold keyAt w64; first | (simp [*]; done) | (simp_all; done)))), S⟩
    · replace hc_4 := of_decide_eq_false hc_4
      refine WP_seq ?_
      refine WP_region ?_
      refine S_v E rfl (R_eql E rfl rfl) rfl ?_
      clear E a; intro a E
      refine S_v E rfl (R_assign E rfl) rfl ?_
      clear E a; intro a E
      refine WL_nil ?_
      refine T_n ?_
      refine WP_cond E rfl (fun hc_5 => ?_) (fun hc_5 => ?_)
      · replace hc_5 := of_decide_eq_true hc_5
        refine WP_seq ?_
        refine WP_region ?_
        refine S_v E rfl (R_fieldAddr E rfl (FA37_1 _)) rfl ?_
        clear E a; intro a E
        refine S_v E rfl (R_loadM E rfl Try.isAgg3 S.imm (cellM_boxo hb_1 rfl)) rfl ?_
        clear E a; intro a E
        refine S_v E rfl (R_neq E rfl rfl) rfl ?_
        clear E a; intro a E
        refine WL_nil ?_
        refine T_n ?_
        refine WP_cond E rfl (fun hc_6 => ?_) (fun hc_6 => ?_)
        · replace hc_6 := of_decide_eq_true hc_6
          refine WP_seq ?_
          refine WP_region ?_
          refine S_v E rfl (R_move E rfl) rfl ?_
          clear E a; intro a E
          refine S_v E rfl (R_fieldAddr E rfl (FA37_1 _)) rfl ?_
          clear E a; intro a E
          refine S_v E rfl (R_loadM E rfl Try.isAgg3 S.imm (cellM_boxo hb_1 rfl)) rfl ?_
          clear E a; intro a E
          refine S_x (X_pu E S rfl rfl rfl (laws_modulo (by first | omega | assumption) (by omega)) (Hp.le.refl _) ?_)
          clear E a S; rintro a _ w M_7 hM_7 rfl S E
          replace hb_1 := hM_7.2 _ _ hb_1
          refine S_v E rfl (R_assign E rfl) rfl ?_
          clear E a; intro a E
          refine WL_nil ?_
          refine T_n ?_
          refine WP_ret ?_
          refine B_r ?_
          refine T_r ?_
          exact F_ret1 E Try.results32 rfl ⟨_, rfl, M_7, (hM_2.trans hM_7), (congrArg (Value.int .i64) (by (clear E S; unfold keyAt w64; first | (simp [*]; done) | (simp_all; done)))), S⟩
        · replace hc_6 := of_decide_eq_false hc_6
          refine WP_skip ?_
          refine B_n ?_
          refine T_n ?_
          refine WP_seq ?_
          refine WP_region ?_
          refine S_v E rfl (R_move E rfl) rfl ?_
          clear E a; intro a E
          refine S_v E rfl (R_assign E rfl) rfl ?_
          clear E a; intro a E
          refine WL_nil ?_
          refine T_n ?_
          refine WP_ret ?_
          exact F_ret1 E Try.results32 rfl ⟨_, rfl, M_2, hM_2, (congrArg (Value.int .i64) (by (clear E S; unfold keyAt w64; first | (simp [*]; done) | (simp_all; done)))), S⟩
      · replace hc_5 := of_decide_eq_false hc_5
        refine WP_seq ?_
        refine WP_region ?_
        refine S_v E rfl (R_eql E rfl rfl) rfl ?_
        clear E a; intro a E
        refine S_v E rfl (R_assign E rfl) rfl ?_
        clear E a; intro a E
        refine WL_nil ?_
        refine T_n ?_
        refine WP_cond E rfl (fun hc_8 => ?_) (fun hc_8 => ?_)
        · replace hc_8 := of_decide_eq_true hc_8
          refine WP_seq ?_
          refine WP_region ?_
          refine S_v E rfl (R_fieldAddr E rfl (FA37_1 _)) rfl ?_
          clear E a; intro a E
          refine S_v E rfl (R_loadM E rfl Try.isAgg3 S.imm (cellM_boxo hb_1 rfl)) rfl ?_
          clear E a; intro a E
          refine S_v E rfl (R_assign E rfl) rfl ?_
          clear E a; intro a E
          refine WL_nil ?_
          refine T_n ?_
          refine WP_ret ?_
          refine B_r ?_
          refine T_r ?_
          exact F_ret1 E Try.results32 rfl ⟨_, rfl, M_2, hM_2, (congrArg (Value.int .i64) (by (clear E S; unfold keyAt w64; first | (simp [*]; done) | (simp_all; done)))), S⟩
        · replace hc_8 := of_decide_eq_false hc_8
          refine WP_seq ?_
          refine WP_region ?_
          refine S_v E rfl (R_eql E rfl rfl) rfl ?_
          clear E a; intro a E
          refine S_v E rfl (R_assign E rfl) rfl ?_
          clear E a; intro a E
          refine WL_nil ?_
          refine T_n ?_
          refine WP_cond E rfl (fun hc_9 => ?_) (fun hc_9 => ?_)
          · replace hc_9 := of_decide_eq_true hc_9
            refine WP_seq ?_
            refine WP_region ?_
            refine S_v E rfl (R_move E rfl) rfl ?_
            clear E a; intro a E
            refine S_v E rfl (R_assign E rfl) rfl ?_
            clear E a; intro a E
            refine WL_nil ?_
            refine T_n ?_
            refine WP_ret ?_
            refine B_r ?_
            refine T_r ?_
            exact F_ret1 E Try.results32 rfl ⟨_, rfl, M_2, hM_2, (congrArg (Value.int .i64) (by (clear E S; unfold keyAt w64; first | (simp [*]; done) | (simp_all; done)))), S⟩
          · replace hc_9 := of_decide_eq_false hc_9
            refine WP_skip ?_
            refine B_n ?_
            refine T_n ?_
            refine WP_seq ?_
            refine WP_region ?_
            refine S_v E rfl (R_move E rfl) rfl ?_
            clear E a; intro a E
            refine S_v E rfl (R_assign E rfl) rfl ?_
            clear E a; intro a E
            refine WL_nil ?_
            refine T_n ?_
            refine WP_ret ?_
            exact F_ret1 E Try.results32 rfl ⟨_, rfl, M_2, hM_2, (congrArg (Value.int .i64) (by (clear E S; unfold keyAt w64; first | (simp [*]; done) | (simp_all; done)))), S⟩

set_option maxRecDepth 100000 in
set_option maxHeartbeats 4000000 in
theorem lo_Times {M : Hp} {v1 : Value} {f1 : Int → Int} (h1 : PF1I Try.prog v1 M f1) {x0 : Int} (g0 : 0 ≤ x0 ∧ x0 ≤ 1000000) :
    Pu Try.prog (.func (.func 167) #[] #[]) M [.int .i64 x0, v1] (fun r M' => RdI M' r (timesP f1 (x0).toNat)) := by
  refine Pu_enter Try.func167 rfl Try.ntmps167 rfl Try.call167 ?_
  intro a w M1 H hM1 S E
  replace h1 := h1.le hM1
  refine WP_seq ?_
  refine WP_region ?_
  refine S_v E rfl (R_assign E rfl) rfl ?_
  clear E a; intro a E
  refine WL_nil ?_
  refine T_n ?_
  refine WP_seq ?_
  refine WP_region ?_
  refine S_v E rfl (R_move E rfl) rfl ?_
  clear E a; intro a E
  refine S_x (X_makeN (k := (x0).toNat) E S rfl rfl rfl T22 (by omega) (by omega) (by omega) (by omega) ?_)
  clear E a S; rintro a w v_1 E S
  replace S := S.madeI
  refine S_v E rfl (R_assign E rfl) rfl ?_
  clear E a; intro a E
  refine WL_nil ?_
  refine T_n ?_
  refine WP_seq ?_
  refine WP_seq ?_
  refine WP_region ?_
  refine S_v E rfl (R_assign E rfl) rfl ?_
  clear E a; intro a E
  refine WL_nil ?_
  refine T_n ?_
  refine WP_block ?_
  replace S := S.re1 (l' := timesP f1 0 ++ List.replicate (x0.toNat - (timesP f1 0).length) 0) (by first | (simp [timesP]; done) | (have e := set_fill (p := timesP f1 k) (n := x0.toNat) (by omega) (timesP_succ f1 k); rw [hrl] at e; rw [hrl]; exact e))
  refine WP_loop (γ := Nat) (fun (k : Nat) a w => ∃ (M_2 : Hp), Hp.le M1 M_2 ∧ St w M_2 (OwnI 3 v_1 (timesP f1 k ++ List.replicate (x0.toNat - (timesP f1 k).length) 0) :: H) ∧ Env a 21 [] [(0, .int .i64 x0), (1, v1), (5, v_1), (6, .int .i64 ((k : Nat) : Int))] ∧ (k ≤ x0.toNat)) (fun k => x0.toNat - k) 0 ⟨M1, Hp.le.refl _, S, E.keep ⟨rfl, rfl, rfl, rfl, trivial⟩, by ((try clear S); (try clear E); first | assumption | omega | rfl | (simp; done) | (simp_all; done) | (simp [List.take_add_one, *]; done) | grind [List.take_add_one])⟩ ?_
  try clear E
  try clear S
  try clear a
  try clear w
  rintro k a w ⟨M_2, hM_2, S, E, hL0_0⟩
  replace h1 := h1.le hM_2
  have hrl := timesP_len f1 k
  refine WP_seq ?_
  refine WP_seq ?_
  refine WP_region ?_
  refine S_v E rfl (R_move E rfl) rfl ?_
  clear E a; intro a E
  refine S_v E rfl (R_move E rfl) rfl ?_
  clear E a; intro a E
  refine S_v E rfl (R_lss E rfl rfl) rfl ?_
  clear E a; intro a E
  refine WL_nil ?_
  refine T_n ?_
  refine WP_cond E rfl (fun hc_3 => ?_) (fun hc_3 => ?_)
  · replace hc_3 := of_decide_eq_true hc_3
    refine WP_skip ?_
    refine T_n ?_
    refine WP_seq ?_
    refine WP_block ?_
    refine WP_region ?_
    refine S_v E rfl (R_move E rfl) rfl ?_
    clear E a; intro a E
    refine S_v E rfl (R_move E rfl) rfl ?_
    clear E a; intro a E
    refine S_v E rfl (R_move E rfl) rfl ?_
    clear E a; intro a E
    refine S_v E rfl (R_move E rfl) rfl ?_
    clear E a; intro a E
    refine S_x (X_pu E S rfl rfl rfl (h1.2 ((k : Nat) : Int)) (Hp.le.refl _) ?_)
    clear E a S; rintro a _ w M_4 hM_4 rfl S E
    replace h1 := h1.le hM_4
    obtain ⟨p_5, hp_5⟩ := S.ptrC (k := k) (by first | omega | (simp; done) | (simp; omega) | (simp_all; omega))
    refine S_v E rfl (R_idx E rfl rfl T22 hp_5 rfl) rfl ?_
    clear E a; intro a E
    refine S_x0 (X_storeI E S rfl rfl (Try.sizeOf3 _) hp_5 ?_)
    clear E a S; rintro a w E S
    refine WL_nil ?_
    refine B_n ?_
    refine T_n ?_
    refine WP_region ?_
    refine S_v E rfl (R_move E rfl) rfl ?_
    clear E a; intro a E
    refine S_v E rfl (R_addx (m := ((k + 1 : Nat) : Int)) E rfl rfl (by omega) (by omega)) rfl ?_
    clear E a; intro a E
    refine S_v E rfl (R_assign E rfl) rfl ?_
    clear E a; intro a E
    refine WL_nil ?_
    refine T_n ?_
    replace S := S.re1 (l' := timesP f1 (k + 1) ++ List.replicate (x0.toNat - (timesP f1 (k + 1)).length) 0) (by first | (simp [timesP]; done) | (have e := set_fill (p := timesP f1 k) (n := x0.toNat) (by omega) (timesP_succ f1 k); rw [hrl] at e; rw [hrl]; exact e))
    exact ⟨k + 1, ⟨M_4, (hM_2.trans hM_4), S, E.keep ⟨rfl, rfl, rfl, rfl, trivial⟩, by ((try clear S); (try clear E); first | assumption | omega | rfl | (simp; done) | (simp_all; done) | (simp [List.take_add_one, *]; done) | grind [List.take_add_one])⟩, by omega⟩
  · replace hc_3 := of_decide_eq_false hc_3
    refine WP_exit ?_
    refine T_x ?_
    refine T_x ?_
    refine B_x ?_
    refine T_n ?_
    refine WP_seq ?_
    refine WP_region ?_
    refine S_v E rfl (R_move E rfl) rfl ?_
    clear E a; intro a E
    refine S_v E rfl (R_assign E rfl) rfl ?_
    clear E a; intro a E
    refine WL_nil ?_
    refine T_n ?_
    refine WP_ret ?_
    have S0 := S; clear S
    obtain ⟨M_6, hM_6, hz_7, S⟩ := S0.freezeI (by (have hrl := timesP_len f1 k; simp; omega))
    clear S0
    replace h1 := h1.le hM_6
    exact F_ret1 E Try.results167 rfl ⟨_, rfl, M_6, (hM_2.trans hM_6), (by rw [show (timesP f1 (x0).toNat) = (timesP f1 k ++ List.replicate (x0.toNat - (timesP f1 k).length) 0) from by (have hrl := timesP_len f1 k; rw [hrl, show k = x0.toNat by omega, Nat.sub_self]; simp)]; exact hz_7), S⟩

set_option maxRecDepth 100000 in
set_option maxHeartbeats 4000000 in
theorem impl_Times1 {M : Hp} {kk9 kn9 : Int} (gk9 : -9223372036854775808 ≤ kn9 ∧ kn9 ≤ 9223372036854775807) {bx9 : Nat} (hbx9 : M bx9 = some (.cells #[.int .i64 kk9, .int .i64 kn9] 37)) {x0 : Int} :
    Pu Try.prog (.func (.func 168) #[] #[.pointer (some ⟨bx9, 0, none⟩)]) M [.int .i64 x0] (fun r M' => r = .int .i64 (keyAt kk9 kn9 x0 x0)) := by
  refine Pu_enter Try.func168 rfl Try.ntmps168 rfl Try.call168 ?_
  intro a w M1 H hM1 S E
  replace hbx9 := hM1.2 _ _ hbx9
  refine WP_seq ?_
  refine WP_region ?_
  refine S_v E rfl (R_assign E rfl) rfl ?_
  clear E a; intro a E
  refine WL_nil ?_
  refine T_n ?_
  refine WP_seq ?_
  refine WP_region ?_
  refine S_v E rfl (R_loadGM E rfl (Try.isAgg37 _) (Try.sizeOf37 _) S.imm hbx9) rfl ?_
  clear E a; intro a E
  refine S_v E rfl (R_move E rfl) rfl ?_
  clear E a; intro a E
  refine S_v E rfl (R_move E rfl) rfl ?_
  clear E a; intro a E
  refine S_x (X_pu E S rfl rfl rfl (Key_at_d (by omega)) (Hp.le.refl _) ?_)
  clear E a S; rintro a _ w M_1 hM_1 rfl S E
  replace hbx9 := hM_1.2 _ _ hbx9
  refine S_v E rfl (R_assign E rfl) rfl ?_
  clear E a; intro a E
  refine WL_nil ?_
  refine T_n ?_
  refine WP_ret ?_
  exact F_ret1 E Try.results168 rfl ⟨_, rfl, M_1, hM_1, rfl, S⟩

set_option maxRecDepth 100000 in
set_option maxHeartbeats 4000000 in
theorem impl_Times {M : Hp} {x0 : Int} (g0 : 0 ≤ x0 ∧ x0 ≤ 1000000) {kk1 kn1 : Int} (gk1 : -9223372036854775808 ≤ kn1 ∧ kn1 ≤ 9223372036854775807) :
    Pu Try.prog (.func (.func 85) #[] #[]) M [.int .i64 x0, .agg #[.int .i64 kk1, .int .i64 kn1]] (fun r M' => RdI M' r (timesP (fun x => keyAt kk1 kn1 x x) (x0).toNat)) := by
  refine Pu_enter Try.func85 rfl Try.ntmps85 rfl Try.call85 ?_
  intro a w M1 H hM1 S E
  refine WP_seq ?_
  refine WP_region ?_
  refine S_x (X_box (cs := #[.int .i64 kk1, .int .i64 kn1]) E S rfl rfl rfl ?_)
  clear E a S; rintro a w b_1 E S
  obtain ⟨M_2, hM_2, hb_1, S⟩ := S.freezeB
  refine S_v E rfl (R_assign E rfl) rfl ?_
  clear E a; intro a E
  refine WL_nil ?_
  refine T_n ?_
  refine WP_seq ?_
  refine WP_region ?_
  refine S_v E rfl (R_move E rfl) rfl ?_
  clear E a; intro a E
  refine S_v E rfl (R_makeFunc E rfl rfl) rfl ?_
  clear E a; intro a E
  refine S_x (X_pu E S rfl rfl rfl (lo_Times ⟨rfl, fun zx0 => impl_Times1 (x0 := zx0) (by omega) hb_1⟩ (by omega)) (Hp.le.refl _) ?_)
  clear E a S; rintro a v_4 w M_3 hM_3 hv_4 S E
  replace hb_1 := hM_3.2 _ _ hb_1
  refine S_v E rfl (R_assign E rfl) rfl ?_
  clear E a; intro a E
  refine WL_nil ?_
  refine T_n ?_
  refine WP_ret ?_
  exact F_ret1 E Try.results85 rfl ⟨_, rfl, M_3, (hM_2.trans hM_3), hv_4, S⟩

set_option maxRecDepth 100000 in
set_option maxHeartbeats 4000000 in
theorem it_Times1 {M : Hp} {v1 : Value} {f1 : Int → Int} (h1 : PF1I Try.prog v1 M f1) {c8 : Int} (hc8 : 0 ≤ c8 ∧ c8 ≤ 1000000) {bx8 bx9 : Nat} (hbx8 : M bx8 = some (.cells #[.int .i64 c8] 3)) (hbx9 : M bx9 = some (.cells #[v1] 109)) :
    SeqV Try.prog (.func (.func 208) #[] #[.pointer (some ⟨bx8, 0, none⟩), .pointer (some ⟨bx9, 0, none⟩)]) M (RInt) (timesP f1 (c8).toNat) := by
  refine SeqV_enter Try.func208 rfl Try.ntmps208 rfl Try.call208 ?_
  intro y J X a w M1 c H hJM hM1 hY hJ S E
  replace h1 := h1.le hM1
  replace hbx8 := hM1.2 _ _ hbx8
  replace hbx9 := hM1.2 _ _ hbx9
  refine WP_seq ?_
  refine WP_region ?_
  refine S_v E rfl (R_loadM E rfl Try.isAgg3 S.imm (cellM_box hbx8)) rfl ?_
  clear E a; intro a E
  refine S_v E rfl (R_move E rfl) rfl ?_
  clear E a; intro a E
  refine WL_nil ?_
  refine T_n ?_
  refine WP_block ?_
  refine WP_loop (γ := Nat) (fun (k : Nat) a w => ∃ (M_1 : Hp) (cL0 : HProp), Hp.le M1 M_1 ∧ St w M_1 (mks [] :: cL0 :: H) ∧ Env a 16 (([] : List Nat).map mk) [(0, y), (2, .pointer (some ⟨bx9, 0, none⟩)), (5, .int .i64 c8), (6, .int .i64 ((k : Nat) : Int))] ∧ (k ≤ c8.toNat) ∧ J (timesP f1 k) M_1 cL0) (fun k => c8.toNat - k) 0 ⟨M1, _, Hp.le.refl _, S, E.keep ⟨rfl, rfl, rfl, rfl, trivial⟩, by ((try clear S); (try clear E); first | assumption | omega | rfl | (simp; done) | (simp_all; done) | (simp [List.take_add_one, *]; done) | grind [List.take_add_one]), J_eq hJ (by (simp [timesP]))⟩ ?_
  try clear E
  try clear S
  try clear a
  try clear w
  rintro k a w ⟨M_1, cL0, hM_1, S, E, hL0_0, hJ⟩
  replace h1 := h1.le hM_1
  replace hbx8 := hM_1.2 _ _ hbx8
  replace hbx9 := hM_1.2 _ _ hbx9
  refine WP_seq ?_
  refine WP_region ?_
  refine S_v E rfl (R_lss E rfl rfl) rfl ?_
  clear E a; intro a E
  refine WL_nil ?_
  refine T_n ?_
  refine WP_seq ?_
  refine WP_cond E rfl (fun hc_2 => ?_) (fun hc_2 => ?_)
  · replace hc_2 := of_decide_eq_true hc_2
    refine WP_skip ?_
    refine T_n ?_
    refine WP_seq ?_
    refine WP_block ?_
    refine WP_seq ?_
    refine WP_region ?_
    refine S_v E rfl (R_move E rfl) rfl ?_
    clear E a; intro a E
    refine S_v E rfl (R_assign E rfl) rfl ?_
    clear E a; intro a E
    refine WL_nil ?_
    refine T_n ?_
    refine WP_seq ?_
    refine WP_region ?_
    refine S_v E rfl (R_move E rfl) rfl ?_
    clear E a; intro a E
    refine S_v E rfl (R_loadM E rfl Try.isAgg109 S.imm (cellM_box hbx9)) rfl ?_
    clear E a; intro a E
    refine S_v E rfl (R_move E rfl) rfl ?_
    clear E a; intro a E
    refine S_x (X_pu E S rfl rfl rfl (h1.2 ((k : Nat) : Int)) (Hp.le.refl _) ?_)
    clear E a S; rintro a _ w M_3 hM_3 rfl S E
    replace h1 := h1.le hM_3
    replace hbx8 := hM_3.2 _ _ hbx8
    replace hbx9 := hM_3.2 _ _ hbx9
    replace hJ := hJM _ _ _ _ hM_3 hJ
    replace S := S.front1
    refine S_x (X_yield (x := f1 ((k : Nat) : Int)) E S rfl rfl rfl hY (hM_1.trans hM_3) (by (exact timesP_prefix f1 (by omega))) rfl hJ ?_)
    clear E a S; rintro a w M_4 c_5 go_6 hM_4 hJ S E
    replace h1 := h1.le hM_4
    replace hbx8 := hM_4.2 _ _ hbx8
    replace hbx9 := hM_4.2 _ _ hbx9
    cases go_6
    · replace hJ : X (timesP f1 k ++ [f1 ((k : Nat) : Int)]) M_4 c_5 := hJ
      refine S_v E rfl (R_not E rfl) rfl ?_
      clear E a; intro a E
      refine WL_nil ?_
      refine T_n ?_
      refine WP_condT E rfl rfl ?_
      refine WP_ret ?_
      refine B_r ?_
      refine T_r ?_
      refine T_r ?_
      refine B_r ?_
      replace S := S.front1
      exact F_retM0 E S Try.results208 (fun w S => ⟨_, rfl, M_4, _, (hM_1.trans (hM_3.trans hM_4)), .inr ⟨(timesP f1 k ++ [f1 ((k : Nat) : Int)]), (by first | assumption | ((exact timesP_prefix f1 (by omega)))), hJ⟩, S⟩)
    · replace hJ : J (timesP f1 k ++ [f1 ((k : Nat) : Int)]) M_4 c_5 := hJ
      refine S_v E rfl (R_not E rfl) rfl ?_
      clear E a; intro a E
      refine WL_nil ?_
      refine T_n ?_
      refine WP_condF E rfl rfl ?_
      refine WP_skip ?_
      refine B_n ?_
      refine T_n ?_
      refine WP_region ?_
      refine S_v E rfl (R_addx (m := ((k + 1 : Nat) : Int)) E rfl rfl (by omega) (by omega)) rfl ?_
      clear E a; intro a E
      refine S_v E rfl (R_move E rfl) rfl ?_
      clear E a; intro a E
      refine WL_nil ?_
      refine T_n ?_
      replace S := S.front1
      exact ⟨k + 1, ⟨M_4, _, (hM_1.trans (hM_3.trans hM_4)), S, E.keep ⟨rfl, rfl, rfl, rfl, trivial⟩, by ((try clear S); (try clear E); first | assumption | omega | rfl | (simp; done) | (simp_all; done) | (simp [List.take_add_one, *]; done) | grind [List.take_add_one]), J_eq hJ (by (exact (timesP_succ f1 k).symm))⟩, by omega⟩
  · replace hc_2 := of_decide_eq_false hc_2
    refine WP_exit ?_
    refine T_x ?_
    refine T_x ?_
    refine B_x ?_
    refine F_nrm ?_
    replace S := S.front1
    replace S := S.front1
    have hpre : timesP f1 k = timesP f1 (c8).toNat := by (rw [show k = c8.toNat by omega])
    rw [hpre] at hJ
    exact F_retM0 E S Try.results208 (fun w S => ⟨_, rfl, M_1, _, hM_1, .inl hJ, S⟩)

set_option maxRecDepth 100000 in
set_option maxHeartbeats 4000000 in
theorem it_Times {M : Hp} {v1 : Value} {f1 : Int → Int} (h1 : PF1I Try.prog v1 M f1) {x0 : Int} (g0 : 0 ≤ x0 ∧ x0 ≤ 1000000) :
    Pu Try.prog (.func (.func 169) #[] #[]) M [.int .i64 x0, v1] (fun r M' => SeqV Try.prog r M' RInt (timesP f1 (x0).toNat)) := by
  refine Pu_enter Try.func169 rfl Try.ntmps169 rfl Try.call169 ?_
  intro a w M1 H hM1 S E
  replace h1 := h1.le hM1
  refine WP_seq ?_
  refine WP_region ?_
  refine S_x (X_box (cs := #[.int .i64 x0]) E S rfl rfl rfl ?_)
  clear E a S; rintro a w b_1 E S
  obtain ⟨M_2, hM_2, hb_1, S⟩ := S.freezeB
  replace h1 := h1.le hM_2
  refine S_x (X_box (cs := #[v1]) E S rfl rfl (cells_one h1.1) ?_)
  clear E a S; rintro a w b_3 E S
  obtain ⟨M_4, hM_4, hb_3, S⟩ := S.freezeB
  replace h1 := h1.le hM_4
  replace hb_1 := hM_4.2 _ _ hb_1
  refine S_v E rfl (R_assign E rfl) rfl ?_
  clear E a; intro a E
  refine WL_nil ?_
  refine T_n ?_
  refine WP_seq ?_
  refine WP_region ?_
  refine S_v E rfl (R_makeFunc E rfl rfl) rfl ?_
  clear E a; intro a E
  refine S_v E rfl (R_assign E rfl) rfl ?_
  clear E a; intro a E
  refine WL_nil ?_
  refine T_n ?_
  refine WP_ret ?_
  exact F_ret1 E Try.results169 rfl ⟨_, rfl, M_4, (hM_2.trans hM_4), (SeqV_eq (it_Times1 (f1 := f1) h1 (by omega) hb_1 hb_3) (by ((try clear S); (try clear E); first | rfl | (simp; done) | (simp_all; done) | grind [List.take_add_one]))), S⟩

set_option maxRecDepth 100000 in
set_option maxHeartbeats 4000000 in
theorem impl_TimesSeq1 {M : Hp} {kk9 kn9 : Int} (gk9 : -9223372036854775808 ≤ kn9 ∧ kn9 ≤ 9223372036854775807) {bx9 : Nat} (hbx9 : M bx9 = some (.cells #[.int .i64 kk9, .int .i64 kn9] 37)) {x0 : Int} :
    Pu Try.prog (.func (.func 170) #[] #[.pointer (some ⟨bx9, 0, none⟩)]) M [.int .i64 x0] (fun r M' => r = .int .i64 (keyAt kk9 kn9 x0 x0)) := by
  refine Pu_enter Try.func170 rfl Try.ntmps170 rfl Try.call170 ?_
  intro a w M1 H hM1 S E
  replace hbx9 := hM1.2 _ _ hbx9
  refine WP_seq ?_
  refine WP_region ?_
  refine S_v E rfl (R_assign E rfl) rfl ?_
  clear E a; intro a E
  refine WL_nil ?_
  refine T_n ?_
  refine WP_seq ?_
  refine WP_region ?_
  refine S_v E rfl (R_loadGM E rfl (Try.isAgg37 _) (Try.sizeOf37 _) S.imm hbx9) rfl ?_
  clear E a; intro a E
  refine S_v E rfl (R_move E rfl) rfl ?_
  clear E a; intro a E
  refine S_v E rfl (R_move E rfl) rfl ?_
  clear E a; intro a E
  refine S_x (X_pu E S rfl rfl rfl (Key_at_d (by omega)) (Hp.le.refl _) ?_)
  clear E a S; rintro a _ w M_1 hM_1 rfl S E
  replace hbx9 := hM_1.2 _ _ hbx9
  refine S_v E rfl (R_assign E rfl) rfl ?_
  clear E a; intro a E
  refine WL_nil ?_
  refine T_n ?_
  refine WP_ret ?_
  exact F_ret1 E Try.results170 rfl ⟨_, rfl, M_1, hM_1, rfl, S⟩

set_option maxRecDepth 100000 in
set_option maxHeartbeats 4000000 in
theorem impl_TimesSeq {M : Hp} {x0 : Int} (g0 : 0 ≤ x0 ∧ x0 ≤ 1000000) {kk1 kn1 : Int} (gk1 : -9223372036854775808 ≤ kn1 ∧ kn1 ≤ 9223372036854775807) :
    Pu Try.prog (.func (.func 86) #[] #[]) M [.int .i64 x0, .agg #[.int .i64 kk1, .int .i64 kn1]] (fun r M' => RdI M' r (timesP (fun x => keyAt kk1 kn1 x x) (x0).toNat)) := by
  refine Pu_enter Try.func86 rfl Try.ntmps86 rfl Try.call86 ?_
  intro a w M1 H hM1 S E
  have htl := timesP_len (fun x => keyAt kk1 kn1 x x) x0.toNat
  refine WP_seq ?_
  refine WP_region ?_
  refine S_x (X_box (cs := #[.int .i64 kk1, .int .i64 kn1]) E S rfl rfl rfl ?_)
  clear E a S; rintro a w b_1 E S
  obtain ⟨M_2, hM_2, hb_1, S⟩ := S.freezeB
  refine S_v E rfl (R_assign E rfl) rfl ?_
  clear E a; intro a E
  refine WL_nil ?_
  refine T_n ?_
  refine WP_seq ?_
  refine WP_region ?_
  refine S_v E rfl (R_move E rfl) rfl ?_
  clear E a; intro a E
  refine S_v E rfl (R_makeFunc E rfl rfl) rfl ?_
  clear E a; intro a E
  refine S_x (X_pu E S rfl rfl rfl (it_Times ⟨rfl, fun zx0 => impl_TimesSeq1 (x0 := zx0) (by omega) hb_1⟩ (by omega)) (Hp.le.refl _) ?_)
  clear E a S; rintro a v_4 w M_3 hM_3 hv_4 S E
  replace hb_1 := hM_3.2 _ _ hb_1
  refine S_x (X_pu E S rfl rfl rfl (slices_Collect hv_4 (by (first | omega | (simp; omega) | (simp; done) | (simp_all; omega) | grind))) (Hp.le.refl _) ?_)
  clear E a S; rintro a v_6 w M_5 hM_5 hv_6 S E
  replace hb_1 := hM_5.2 _ _ hb_1
  replace hv_4 := hv_4.le hM_5
  refine S_v E rfl (R_assign E rfl) rfl ?_
  clear E a; intro a E
  refine WL_nil ?_
  refine T_n ?_
  refine WP_ret ?_
  exact F_ret1 E Try.results86 rfl ⟨_, rfl, M_5, (hM_2.trans (hM_3.trans hM_5)), hv_6, S⟩

set_option maxRecDepth 100000 in
set_option maxHeartbeats 4000000 in
theorem spec_mod {M : Hp} {x0 x1 : Int} (hn : x1 ≠ 0) (g0 : -9223372036854775808 ≤ x0 ∧ x0 ≤ 9223372036854775807) (g1 : -9223372036854775808 ≤ x1 ∧ x1 ≤ 9223372036854775807) :
    Pu Try.prog (.func (.func 192) #[] #[]) M [.int .i64 x0, .int .i64 x1] (fun r M' => r = .int .i64 (x0 % x1)) := by
  refine Pu_enter Try.func192 rfl Try.ntmps192 rfl Try.call192 ?_
  intro a w M1 H hM1 S E
  refine WP_seq ?_
  refine WP_region ?_
  refine S_v E rfl (R_assign E rfl) rfl ?_
  clear E a; intro a E
  refine WL_nil ?_
  refine T_n ?_
  refine WP_seq ?_
  refine WP_region ?_
  refine S_v E rfl (R_move E rfl) rfl ?_
  clear E a; intro a E
  refine S_v E rfl (R_convm (m := x1 % 18446744073709551616) E rfl Try.underlying3 Try.underlying168 (by first | (rw [u64_wrap]; omega) | rw [u64_wrap])) rfl ?_
  clear E a; intro a E
  refine S_v E rfl (R_assign E rfl) rfl ?_
  clear E a; intro a E
  refine WL_nil ?_
  refine T_n ?_
  refine WP_seq ?_
  refine WP_seq ?_
  refine WP_region ?_
  refine S_v E rfl (R_move E rfl) rfl ?_
  clear E a; intro a E
  refine S_v E rfl (R_lss E rfl rfl) rfl ?_
  clear E a; intro a E
  refine WL_nil ?_
  refine T_n ?_
  refine WP_cond E rfl (fun hc_1 => ?_) (fun hc_1 => ?_)
  · replace hc_1 := of_decide_eq_true hc_1
    refine WP_region ?_
    refine S_v E rfl (R_move E rfl) rfl ?_
    clear E a; intro a E
    refine S_v E rfl (R_negm (m := -x1) E rfl (by first | (rw [u64_wrap]; omega) | rw [u64_wrap])) rfl ?_
    clear E a; intro a E
    refine S_v E rfl (R_assign E rfl) rfl ?_
    clear E a; intro a E
    refine WL_nil ?_
    refine T_n ?_
    refine WP_seq ?_
    refine WP_seq ?_
    refine WP_region ?_
    refine S_v E rfl (R_move E rfl) rfl ?_
    clear E a; intro a E
    refine S_v E rfl (R_geq E rfl rfl) rfl ?_
    clear E a; intro a E
    refine WL_nil ?_
    refine T_n ?_
    refine WP_cond E rfl (fun hc_2 => ?_) (fun hc_2 => ?_)
    · replace hc_2 := of_decide_eq_true hc_2
      refine WP_seq ?_
      refine WP_region ?_
      refine S_v E rfl (R_move E rfl) rfl ?_
      clear E a; intro a E
      refine S_v E rfl (R_convm (m := x0) E rfl Try.underlying3 Try.underlying168 (by first | (rw [u64_wrap]; omega) | rw [u64_wrap])) rfl ?_
      clear E a; intro a E
      refine S_v E rfl (R_move E rfl) rfl ?_
      clear E a; intro a E
      have hr_3 := tmod_nn (p := x0) (q := -x1) (by omega) (by omega)
      refine S_v E rfl (R_rem E rfl rfl (by first | decide | omega)) rfl ?_
      clear E a; intro a E
      refine S_v E rfl (R_convx E rfl Try.underlying168 Try.underlying3 (by omega)) rfl ?_
      clear E a; intro a E
      refine S_v E rfl (R_assign E rfl) rfl ?_
      clear E a; intro a E
      refine WL_nil ?_
      refine T_n ?_
      refine WP_ret ?_
      refine T_r ?_
      exact F_ret1 E Try.results192 rfl ⟨_, rfl, M1, (Hp.le.refl _), (congrArg (Value.int .i64) (by (clear E S; first | (have en : x1 < 0 := (by omega); have e3 : x0 % (-x1) = x0 % x1 := Int.emod_neg ..; have a1 := modA x0 (-x1) (by omega); omega) | (have e : x1 % 18446744073709551616 = x1 := (by omega); simp only [e] at *; have a1 := modA x0 x1 (by omega); omega)))), S⟩
    · replace hc_2 := of_decide_eq_false hc_2
      refine WP_skip ?_
      refine T_n ?_
      refine WP_seq ?_
      refine WP_region ?_
      refine S_v E rfl (R_move E rfl) rfl ?_
      clear E a; intro a E
      refine S_v E rfl (R_convm (m := x0 % 18446744073709551616) E rfl Try.underlying3 Try.underlying168 (by first | (rw [u64_wrap]; omega) | rw [u64_wrap])) rfl ?_
      clear E a; intro a E
      refine S_v E rfl (R_negm (m := -x0) E rfl (by first | (rw [u64_wrap]; omega) | rw [u64_wrap])) rfl ?_
      clear E a; intro a E
      refine S_v E rfl (R_move E rfl) rfl ?_
      clear E a; intro a E
      have hr_4 := tmod_nn (p := -x0) (q := -x1) (by omega) (by omega)
      refine S_v E rfl (R_rem E rfl rfl (by first | decide | omega)) rfl ?_
      clear E a; intro a E
      refine S_v E rfl (R_assign E rfl) rfl ?_
      clear E a; intro a E
      refine WL_nil ?_
      refine T_n ?_
      refine WP_seq ?_
      refine WP_seq ?_
      refine WP_region ?_
      refine S_v E rfl (R_move E rfl) rfl ?_
      clear E a; intro a E
      refine S_v E rfl (R_gtr E rfl rfl) rfl ?_
      clear E a; intro a E
      refine WL_nil ?_
      refine T_n ?_
      refine WP_cond E rfl (fun hc_5 => ?_) (fun hc_5 => ?_)
      · replace hc_5 := of_decide_eq_true hc_5
        refine WP_region ?_
        refine S_v E rfl (R_move E rfl) rfl ?_
        clear E a; intro a E
        refine S_v E rfl (R_move E rfl) rfl ?_
        clear E a; intro a E
        refine S_v E rfl (R_subm (m := (-x1) - (Int.tmod (-x0) (-x1))) E rfl rfl (by first | (rw [u64_wrap]; omega) | rw [u64_wrap])) rfl ?_
        clear E a; intro a E
        refine S_v E rfl (R_assign E rfl) rfl ?_
        clear E a; intro a E
        refine WL_nil ?_
        refine T_n ?_
        refine WP_seq ?_
        refine WP_region ?_
        refine S_v E rfl (R_move E rfl) rfl ?_
        clear E a; intro a E
        refine S_v E rfl (R_convx E rfl Try.underlying168 Try.underlying3 (by omega)) rfl ?_
        clear E a; intro a E
        refine S_v E rfl (R_assign E rfl) rfl ?_
        clear E a; intro a E
        refine WL_nil ?_
        refine T_n ?_
        refine WP_ret ?_
        exact F_ret1 E Try.results192 rfl ⟨_, rfl, M1, (Hp.le.refl _), (congrArg (Value.int .i64) (by (clear E S; first | (have en : x1 < 0 := (by omega); have e3 : x0 % (-x1) = x0 % x1 := Int.emod_neg ..; have a1 := modA x0 (-x1) (by omega); omega) | (have e : x1 % 18446744073709551616 = x1 := (by omega); simp only [e] at *; have a1 := modA x0 x1 (by omega); omega)))), S⟩
      · replace hc_5 := of_decide_eq_false hc_5
        refine WP_skip ?_
        refine T_n ?_
        refine WP_seq ?_
        refine WP_region ?_
        refine S_v E rfl (R_move E rfl) rfl ?_
        clear E a; intro a E
        refine S_v E rfl (R_convx E rfl Try.underlying168 Try.underlying3 (by omega)) rfl ?_
        clear E a; intro a E
        refine S_v E rfl (R_assign E rfl) rfl ?_
        clear E a; intro a E
        refine WL_nil ?_
        refine T_n ?_
        refine WP_ret ?_
        exact F_ret1 E Try.results192 rfl ⟨_, rfl, M1, (Hp.le.refl _), (congrArg (Value.int .i64) (by (clear E S; first | (have en : x1 < 0 := (by omega); have e3 : x0 % (-x1) = x0 % x1 := Int.emod_neg ..; have a1 := modA x0 (-x1) (by omega); omega) | (have e : x1 % 18446744073709551616 = x1 := (by omega); simp only [e] at *; have a1 := modA x0 x1 (by omega); omega)))), S⟩
  · replace hc_1 := of_decide_eq_false hc_1
    refine WP_skip ?_
    refine T_n ?_
    refine WP_seq ?_
    refine WP_seq ?_
    refine WP_region ?_
    refine S_v E rfl (R_move E rfl) rfl ?_
    clear E a; intro a E
    refine S_v E rfl (R_geq E rfl rfl) rfl ?_
    clear E a; intro a E
    refine WL_nil ?_
    refine T_n ?_
    refine WP_cond E rfl (fun hc_6 => ?_) (fun hc_6 => ?_)
    · replace hc_6 := of_decide_eq_true hc_6
      refine WP_seq ?_
      refine WP_region ?_
      refine S_v E rfl (R_move E rfl) rfl ?_
      clear E a; intro a E
      refine S_v E rfl (R_convm (m := x0) E rfl Try.underlying3 Try.underlying168 (by first | (rw [u64_wrap]; omega) | rw [u64_wrap])) rfl ?_
      clear E a; intro a E
      refine S_v E rfl (R_move E rfl) rfl ?_
      clear E a; intro a E
      have hr_7 := tmod_nn (p := x0) (q := x1 % 18446744073709551616) (by omega) (by omega)
      refine S_v E rfl (R_rem E rfl rfl (by first | decide | omega)) rfl ?_
      clear E a; intro a E
      refine S_v E rfl (R_convx E rfl Try.underlying168 Try.underlying3 (by omega)) rfl ?_
      clear E a; intro a E
      refine S_v E rfl (R_assign E rfl) rfl ?_
      clear E a; intro a E
      refine WL_nil ?_
      refine T_n ?_
      refine WP_ret ?_
      refine T_r ?_
      exact F_ret1 E Try.results192 rfl ⟨_, rfl, M1, (Hp.le.refl _), (congrArg (Value.int .i64) (by (clear E S; first | (have en : x1 < 0 := (by omega); have e3 : x0 % (-x1) = x0 % x1 := Int.emod_neg ..; have a1 := modA x0 (-x1) (by omega); omega) | (have e : x1 % 18446744073709551616 = x1 := (by omega); simp only [e] at *; have a1 := modA x0 x1 (by omega); omega)))), S⟩
    · replace hc_6 := of_decide_eq_false hc_6
      refine WP_skip ?_
      refine T_n ?_
      refine WP_seq ?_
      refine WP_region ?_
      refine S_v E rfl (R_move E rfl) rfl ?_
      clear E a; intro a E
      refine S_v E rfl (R_convm (m := x0 % 18446744073709551616) E rfl Try.underlying3 Try.underlying168 (by first | (rw [u64_wrap]; omega) | rw [u64_wrap])) rfl ?_
      clear E a; intro a E
      refine S_v E rfl (R_negm (m := -x0) E rfl (by first | (rw [u64_wrap]; omega) | rw [u64_wrap])) rfl ?_
      clear E a; intro a E
      refine S_v E rfl (R_move E rfl) rfl ?_
      clear E a; intro a E
      have hr_8 := tmod_nn (p := -x0) (q := x1 % 18446744073709551616) (by omega) (by omega)
      refine S_v E rfl (R_rem E rfl rfl (by first | decide | omega)) rfl ?_
      clear E a; intro a E
      refine S_v E rfl (R_assign E rfl) rfl ?_
      clear E a; intro a E
      refine WL_nil ?_
      refine T_n ?_
      refine WP_seq ?_
      refine WP_seq ?_
      refine WP_region ?_
      refine S_v E rfl (R_move E rfl) rfl ?_
      clear E a; intro a E
      refine S_v E rfl (R_gtr E rfl rfl) rfl ?_
      clear E a; intro a E
      refine WL_nil ?_
      refine T_n ?_
      refine WP_cond E rfl (fun hc_9 => ?_) (fun hc_9 => ?_)
      · replace hc_9 := of_decide_eq_true hc_9
        refine WP_region ?_
        refine S_v E rfl (R_move E rfl) rfl ?_
        clear E a; intro a E
        refine S_v E rfl (R_move E rfl) rfl ?_
        clear E a; intro a E
        refine S_v E rfl (R_subm (m := (x1 % 18446744073709551616) - (Int.tmod (-x0) (x1 % 18446744073709551616))) E rfl rfl (by first | (rw [u64_wrap]; omega) | rw [u64_wrap])) rfl ?_
        clear E a; intro a E
        refine S_v E rfl (R_assign E rfl) rfl ?_
        clear E a; intro a E
        refine WL_nil ?_
        refine T_n ?_
        refine WP_seq ?_
        refine WP_region ?_
        refine S_v E rfl (R_move E rfl) rfl ?_
        clear E a; intro a E
        refine S_v E rfl (R_convx E rfl Try.underlying168 Try.underlying3 (by omega)) rfl ?_
        clear E a; intro a E
        refine S_v E rfl (R_assign E rfl) rfl ?_
        clear E a; intro a E
        refine WL_nil ?_
        refine T_n ?_
        refine WP_ret ?_
        exact F_ret1 E Try.results192 rfl ⟨_, rfl, M1, (Hp.le.refl _), (congrArg (Value.int .i64) (by (clear E S; first | (have en : x1 < 0 := (by omega); have e3 : x0 % (-x1) = x0 % x1 := Int.emod_neg ..; have a1 := modA x0 (-x1) (by omega); omega) | (have e : x1 % 18446744073709551616 = x1 := (by omega); simp only [e] at *; have a1 := modA x0 x1 (by omega); omega)))), S⟩
      · replace hc_9 := of_decide_eq_false hc_9
        refine WP_skip ?_
        refine T_n ?_
        refine WP_seq ?_
        refine WP_region ?_
        refine S_v E rfl (R_move E rfl) rfl ?_
        clear E a; intro a E
        refine S_v E rfl (R_convx E rfl Try.underlying168 Try.underlying3 (by omega)) rfl ?_
        clear E a; intro a E
        refine S_v E rfl (R_assign E rfl) rfl ?_
        clear E a; intro a E
        refine WL_nil ?_
        refine T_n ?_
        refine WP_ret ?_
        exact F_ret1 E Try.results192 rfl ⟨_, rfl, M1, (Hp.le.refl _), (congrArg (Value.int .i64) (by (clear E S; first | (have en : x1 < 0 := (by omega); have e3 : x0 % (-x1) = x0 % x1 := Int.emod_neg ..; have a1 := modA x0 (-x1) (by omega); omega) | (have e : x1 % 18446744073709551616 = x1 := (by omega); simp only [e] at *; have a1 := modA x0 x1 (by omega); omega)))), S⟩

set_option maxRecDepth 100000 in
set_option maxHeartbeats 4000000 in
theorem SKey_Of_c {M : Hp} {kk0 kn0 : Int} (gk0 : -9223372036854775808 ≤ kn0 ∧ kn0 ≤ 9223372036854775807){x1 x2 : Int} (gx : -9223372036854775808 ≤ x1 ∧ x1 ≤ 9223372036854775807) :
    PuC Try.prog 125 M [.agg #[.int .i64 kk0, .int .i64 kn0], .int .i64 x1, .int .i64 x2] (fun r M' => r = .int .i64 (keyAt kk0 kn0 x1 x2)) := by
  refine PuC_enter Try.func125 rfl Try.ntmps125 rfl ?_
  intro a w M1 H hM1 S E
  refine WP_seq ?_
  refine WP_region ?_
  refine S_x (X_box (cs := #[.int .i64 kk0, .int .i64 kn0]) E S rfl rfl rfl ?_)
  clear E a S; rintro a w b_1 E S
  obtain ⟨M_2, hM_2, hb_1, S⟩ := S.freezeB
  refine S_v E rfl (R_assign E rfl) rfl ?_
  clear E a; intro a E
  refine WL_nil ?_
  refine T_n ?_
  refine WP_seq ?_
  refine WP_seq ?_
  refine WP_region ?_
  refine S_v E rfl (R_fieldAddr E rfl (FA45_0 _)) rfl ?_
  clear E a; intro a E
  refine S_v E rfl (R_loadM E rfl Try.isAgg3 S.imm (cellM_boxo hb_1 rfl)) rfl ?_
  clear E a; intro a E
  refine WL_nil ?_
  refine T_n ?_
  refine WP_block ?_
  refine WP_seq ?_
  refine WP_region ?_
  refine S_v E rfl (R_eql E rfl rfl) rfl ?_
  clear E a; intro a E
  refine S_v E rfl (R_assign E rfl) rfl ?_
  clear E a; intro a E
  refine WL_nil ?_
  refine T_n ?_
  refine WP_cond E rfl (fun hc_3 => ?_) (fun hc_3 => ?_)
  · replace hc_3 := of_decide_eq_true hc_3
    refine WP_seq ?_
    refine WP_region ?_
    refine S_v E rfl (R_move E rfl) rfl ?_
    clear E a; intro a E
    refine S_v E rfl (R_fieldAddr E rfl (FA45_1 _)) rfl ?_
    clear E a; intro a E
    refine S_v E rfl (R_loadM E rfl Try.isAgg3 S.imm (cellM_boxo hb_1 rfl)) rfl ?_
    clear E a; intro a E
    refine S_v E rfl (R_add E rfl rfl) rfl ?_
    clear E a; intro a E
    refine S_v E rfl (R_assign E rfl) rfl ?_
    clear E a; intro a E
    refine WL_nil ?_
    refine T_n ?_
    refine WP_ret ?_
    refine B_r ?_
    refine T_r ?_
    exact F_ret1 E Try.results125 rfl ⟨_, rfl, M_2, hM_2, (congrArg (Value.int .i64) (by (clear E S; unfold keyAt w64; first | (simp [*]; done) | (simp_all; done)))), S⟩
  · replace hc_3 := of_decide_eq_false hc_3
    refine WP_seq ?_
    refine WP_region ?_
    refine S_v E rfl (R_eql E rfl rfl) rfl ?_
    clear E a; intro a E
    refine S_v E rfl (R_assign E rfl) rfl ?_
    clear E a; intro a E
    refine WL_nil ?_
    refine T_n ?_
    refine WP_cond E rfl (fun hc_4 => ?_) (fun hc_4 => ?_)
    · replace hc_4 := of_decide_eq_true hc_4
      refine WP_seq ?_
      refine WP_region ?_
      refine S_v E rfl (R_move E rfl) rfl ?_
      clear E a; intro a E
      refine S_v E rfl (R_fieldAddr E rfl (FA45_1 _)) rfl ?_
      clear E a; intro a E
      refine S_v E rfl (R_loadM E rfl Try.isAgg3 S.imm (cellM_boxo hb_1 rfl)) rfl ?_
      clear E a; intro a E
      refine S_v E rfl (R_mul E rfl rfl) rfl ?_
      clear E a; intro a E
      refine S_v E rfl (R_assign E rfl) rfl ?_
      clear E a; intro a E
      refine WL_nil ?_
      refine T_n ?_
      refine WP_ret ?_
      refine B_r ?_
      refine T_r ?_
      exact F_ret1 E Try.results125 rfl ⟨_, rfl, M_2, hM_2, (congrArg (Value.int .i64) (by (clear E S; unfold keyAt w64; first | (simp [*]; done) | (simp_all; done)))), S⟩
    · replace hc_4 := of_decide_eq_false hc_4
      refine WP_seq ?_
      refine WP_region ?_
      refine S_v E rfl (R_eql E rfl rfl) rfl ?_
      clear E a; intro a E
      refine S_v E rfl (R_assign E rfl) rfl ?_
      clear E a; intro a E
      refine WL_nil ?_
      refine T_n ?_
      refine WP_cond E rfl (fun hc_5 => ?_) (fun hc_5 => ?_)
      · replace hc_5 := of_decide_eq_true hc_5
        refine WP_seq ?_
        refine WP_region ?_
        refine S_v E rfl (R_fieldAddr E rfl (FA45_1 _)) rfl ?_
        clear E a; intro a E
        refine S_v E rfl (R_loadM E rfl Try.isAgg3 S.imm (cellM_boxo hb_1 rfl)) rfl ?_
        clear E a; intro a E
        refine S_v E rfl (R_neq E rfl rfl) rfl ?_
        clear E a; intro a E
        refine WL_nil ?_
        refine T_n ?_
        refine WP_cond E rfl (fun hc_6 => ?_) (fun hc_6 => ?_)
        · replace hc_6 := of_decide_eq_true hc_6
          refine WP_seq ?_
          refine WP_region ?_
          refine S_v E rfl (R_move E rfl) rfl ?_
          clear E a; intro a E
          refine S_v E rfl (R_fieldAddr E rfl (FA45_1 _)) rfl ?_
          clear E a; intro a E
          refine S_v E rfl (R_loadM E rfl Try.isAgg3 S.imm (cellM_boxo hb_1 rfl)) rfl ?_
          clear E a; intro a E
          refine S_x (X_pu E S rfl rfl rfl (spec_mod (by first | omega | assumption) (by omega) (by omega)) (Hp.le.refl _) ?_)
          clear E a S; rintro a _ w M_7 hM_7 rfl S E
          replace hb_1 := hM_7.2 _ _ hb_1
          refine S_v E rfl (R_assign E rfl) rfl ?_
          clear E a; intro a E
          refine WL_nil ?_
          refine T_n ?_
          refine WP_ret ?_
          refine B_r ?_
          refine T_r ?_
          exact F_ret1 E Try.results125 rfl ⟨_, rfl, M_7, (hM_2.trans hM_7), (congrArg (Value.int .i64) (by (clear E S; unfold keyAt w64; first | (simp [*]; done) | (simp_all; done)))), S⟩
        · replace hc_6 := of_decide_eq_false hc_6
          refine WP_skip ?_
          refine B_n ?_
          refine T_n ?_
          refine WP_seq ?_
          refine WP_region ?_
          refine S_v E rfl (R_move E rfl) rfl ?_
          clear E a; intro a E
          refine S_v E rfl (R_assign E rfl) rfl ?_
          clear E a; intro a E
          refine WL_nil ?_
          refine T_n ?_
          refine WP_ret ?_
          exact F_ret1 E Try.results125 rfl ⟨_, rfl, M_2, hM_2, (congrArg (Value.int .i64) (by (clear E S; unfold keyAt w64; first | (simp [*]; done) | (simp_all; done)))), S⟩
      · replace hc_5 := of_decide_eq_false hc_5
        refine WP_seq ?_
        refine WP_region ?_
        refine S_v E rfl (R_eql E rfl rfl) rfl ?_
        clear E a; intro a E
        refine S_v E rfl (R_assign E rfl) rfl ?_
        clear E a; intro a E
        refine WL_nil ?_
        refine T_n ?_
        refine WP_cond E rfl (fun hc_8 => ?_) (fun hc_8 => ?_)
        · replace hc_8 := of_decide_eq_true hc_8
          refine WP_seq ?_
          refine WP_region ?_
          refine S_v E rfl (R_fieldAddr E rfl (FA45_1 _)) rfl ?_
          clear E a; intro a E
          refine S_v E rfl (R_loadM E rfl Try.isAgg3 S.imm (cellM_boxo hb_1 rfl)) rfl ?_
          clear E a; intro a E
          refine S_v E rfl (R_assign E rfl) rfl ?_
          clear E a; intro a E
          refine WL_nil ?_
          refine T_n ?_
          refine WP_ret ?_
          refine B_r ?_
          refine T_r ?_
          exact F_ret1 E Try.results125 rfl ⟨_, rfl, M_2, hM_2, (congrArg (Value.int .i64) (by (clear E S; unfold keyAt w64; first | (simp [*]; done) | (simp_all; done)))), S⟩
        · replace hc_8 := of_decide_eq_false hc_8
          refine WP_seq ?_
          refine WP_region ?_
          refine S_v E rfl (R_eql E rfl rfl) rfl ?_
          clear E a; intro a E
          refine S_v E rfl (R_assign E rfl) rfl ?_
          clear E a; intro a E
          refine WL_nil ?_
          refine T_n ?_
          refine WP_cond E rfl (fun hc_9 => ?_) (fun hc_9 => ?_)
          · replace hc_9 := of_decide_eq_true hc_9
            refine WP_seq ?_
            refine WP_region ?_
            refine S_v E rfl (R_move E rfl) rfl ?_
            clear E a; intro a E
            refine S_v E rfl (R_assign E rfl) rfl ?_
            clear E a; intro a E
            refine WL_nil ?_
            refine T_n ?_
            refine WP_ret ?_
            refine B_r ?_
            refine T_r ?_
            exact F_ret1 E Try.results125 rfl ⟨_, rfl, M_2, hM_2, (congrArg (Value.int .i64) (by (clear E S; unfold keyAt w64; first | (simp [*]; done) | (simp_all; done)))), S⟩
          · replace hc_9 := of_decide_eq_false hc_9
            refine WP_skip ?_
            refine B_n ?_
            refine T_n ?_
            refine WP_seq ?_
            refine WP_region ?_
            refine S_v E rfl (R_move E rfl) rfl ?_
            clear E a; intro a E
            refine S_v E rfl (R_assign E rfl) rfl ?_
            clear E a; intro a E
            refine WL_nil ?_
            refine T_n ?_
            refine WP_ret ?_
            exact F_ret1 E Try.results125 rfl ⟨_, rfl, M_2, hM_2, (congrArg (Value.int .i64) (by (clear E S; unfold keyAt w64; first | (simp [*]; done) | (simp_all; done)))), S⟩
theorem SKey_Of {M : Hp} {kk0 kn0 : Int} (gk0 : -9223372036854775808 ≤ kn0 ∧ kn0 ≤ 9223372036854775807){x1 x2 : Int} (gx : -9223372036854775808 ≤ x1 ∧ x1 ≤ 9223372036854775807) :
    Pu Try.prog (.func (.func 125) #[.agg #[.int .i64 kk0, .int .i64 kn0]] #[]) M [.int .i64 x1, .int .i64 x2] (fun r M' => r = .int .i64 (keyAt kk0 kn0 x1 x2)) := PuC.pu Try.call125 rfl (SKey_Of_c gk0 gx)
theorem SKey_Of_d {M : Hp} {kk0 kn0 : Int} (gk0 : -9223372036854775808 ≤ kn0 ∧ kn0 ≤ 9223372036854775807){x1 x2 : Int} (gx : -9223372036854775808 ≤ x1 ∧ x1 ≤ 9223372036854775807) :
    Pu Try.prog (.func (.func 125) #[] #[]) M [.agg #[.int .i64 kk0, .int .i64 kn0], .int .i64 x1, .int .i64 x2] (fun r M' => r = .int .i64 (keyAt kk0 kn0 x1 x2)) := PuC.pu Try.call125 rfl (SKey_Of_c gk0 gx)

set_option maxRecDepth 100000 in
set_option maxHeartbeats 4000000 in
theorem spec_Times {M : Hp} {x0 : Int} (g0 : 0 ≤ x0 ∧ x0 ≤ 1000000) {kk1 kn1 : Int} (gk1 : -9223372036854775808 ≤ kn1 ∧ kn1 ≤ 9223372036854775807) :
    Pu Try.prog (.func (.func 87) #[] #[]) M [.int .i64 x0, .agg #[.int .i64 kk1, .int .i64 kn1]] (fun r M' => RdI M' r (timesP (fun x => keyAt kk1 kn1 x x) (x0).toNat)) := by
  refine Pu_enter Try.func87 rfl Try.ntmps87 rfl Try.call87 ?_
  intro a w M1 H hM1 S E
  refine WP_seq ?_
  refine WP_region ?_
  refine S_x (X_box (cs := #[.int .i64 kk1, .int .i64 kn1]) E S rfl rfl rfl ?_)
  clear E a S; rintro a w b_1 E S
  obtain ⟨M_2, hM_2, hb_1, S⟩ := S.freezeB
  refine S_v E rfl (R_assign E rfl) rfl ?_
  clear E a; intro a E
  refine WL_nil ?_
  refine T_n ?_
  refine WP_seq ?_
  refine WP_region ?_
  refine S_v E rfl (R_assign E rfl) rfl ?_
  clear E a; intro a E
  refine WL_nil ?_
  refine T_n ?_
  refine WP_seq ?_
  refine WP_seq ?_
  refine WP_region ?_
  refine S_v E rfl (R_assign E rfl) rfl ?_
  clear E a; intro a E
  refine WL_nil ?_
  refine T_n ?_
  refine WP_block ?_
  replace S := (S.ownNil (e := 3) (sz := 1)).made0
  replace S := S.re1 (l' := timesP (fun x => keyAt kk1 kn1 x x) 0) (by first | (simp [timesP]; done) | (rw [timesP_succ]; done))
  refine WP_loop (γ := Nat) (fun (k : Nat) a w => ∃ (M_4 : Hp) (u5 : Value), Hp.le M_2 M_4 ∧ St w M_4 (OwnI 3 u5 (timesP (fun x => keyAt kk1 kn1 x x) k) :: H) ∧ Env a 20 [] [(0, .int .i64 x0), (3, .pointer (some ⟨b_1, 0, none⟩)), (5, u5), (6, .int .i64 ((k : Nat) : Int))] ∧ (k ≤ x0.toNat)) (fun k => x0.toNat - k) 0 ⟨M_2, _, Hp.le.refl _, S, E.keep ⟨rfl, rfl, rfl, rfl, trivial⟩, by ((try clear S); (try clear E); first | assumption | omega | rfl | (simp; done) | (simp_all; done) | (simp [List.take_add_one, *]; done) | grind [List.take_add_one])⟩ ?_
  try clear E
  try clear S
  try clear a
  try clear w
  rintro k a w ⟨M_4, u5, hM_4, S, E, hL0_0⟩
  replace hb_1 := hM_4.2 _ _ hb_1
  have hrl := timesP_len (fun x => keyAt kk1 kn1 x x) k
  refine WP_seq ?_
  refine WP_seq ?_
  refine WP_region ?_
  refine S_v E rfl (R_move E rfl) rfl ?_
  clear E a; intro a E
  refine S_v E rfl (R_move E rfl) rfl ?_
  clear E a; intro a E
  refine S_v E rfl (R_lss E rfl rfl) rfl ?_
  clear E a; intro a E
  refine WL_nil ?_
  refine T_n ?_
  refine WP_cond E rfl (fun hc_5 => ?_) (fun hc_5 => ?_)
  · replace hc_5 := of_decide_eq_true hc_5
    refine WP_skip ?_
    refine T_n ?_
    refine WP_seq ?_
    refine WP_block ?_
    refine WP_region ?_
    refine S_v E rfl (R_move E rfl) rfl ?_
    clear E a; intro a E
    refine S_v E rfl (R_loadGM E rfl (Try.isAgg45 _) (Try.sizeOf45 _) S.imm hb_1) rfl ?_
    clear E a; intro a E
    refine S_v E rfl (R_move E rfl) rfl ?_
    clear E a; intro a E
    refine S_v E rfl (R_move E rfl) rfl ?_
    clear E a; intro a E
    refine S_x (X_pu E S rfl rfl rfl (SKey_Of_d (by omega) (by first | omega | assumption | exact hr0 _ (List.mem_of_getElem? (by assumption)))) (Hp.le.refl _) ?_)
    clear E a S; rintro a _ w M_6 hM_6 rfl S E
    replace hb_1 := hM_6.2 _ _ hb_1
    refine S_x (X_buildI (ys := [keyAt kk1 kn1 ((k : Nat) : Int) ((k : Nat) : Int)]) E S rfl T22 rfl rfl rfl ?_)
    clear E a S; rintro a w v_7 E S
    replace S := S.front1
    replace S := S.front1
    refine S_x (X_appendB (xs := timesP (fun x => keyAt kk1 kn1 x x) k) (ys := [keyAt kk1 kn1 ((k : Nat) : Int) ((k : Nat) : Int)]) E S rfl rfl rfl T22 (by first | omega | (simp; done) | (simp; omega) | (simp_all; omega)) ?_)
    clear E a S; rintro a w v_8 E S
    refine S_v E rfl (R_assign E rfl) rfl ?_
    clear E a; intro a E
    refine WL_nil ?_
    refine B_n ?_
    refine T_n ?_
    refine WP_region ?_
    refine S_v E rfl (R_move E rfl) rfl ?_
    clear E a; intro a E
    refine S_v E rfl (R_addx (m := ((k + 1 : Nat) : Int)) E rfl rfl (by omega) (by omega)) rfl ?_
    clear E a; intro a E
    refine S_v E rfl (R_assign E rfl) rfl ?_
    clear E a; intro a E
    refine WL_nil ?_
    refine T_n ?_
    replace S := S.re1 (l' := timesP (fun x => keyAt kk1 kn1 x x) (k + 1)) (by first | (simp [timesP]; done) | (rw [timesP_succ]; done))
    exact ⟨k + 1, ⟨M_6, _, (hM_4.trans hM_6), S, E.keep ⟨rfl, rfl, rfl, rfl, trivial⟩, by ((try clear S); (try clear E); first | assumption | omega | rfl | (simp; done) | (simp_all; done) | (simp [List.take_add_one, *]; done) | grind [List.take_add_one])⟩, by omega⟩
  · replace hc_5 := of_decide_eq_false hc_5
    refine WP_exit ?_
    refine T_x ?_
    refine T_x ?_
    refine B_x ?_
    refine T_n ?_
    refine WP_seq ?_
    refine WP_region ?_
    refine S_v E rfl (R_move E rfl) rfl ?_
    clear E a; intro a E
    refine S_v E rfl (R_assign E rfl) rfl ?_
    clear E a; intro a E
    refine WL_nil ?_
    refine T_n ?_
    refine WP_ret ?_
    have S0 := S; clear S
    obtain ⟨M_9, hM_9, hz_10, S⟩ := S0.freezeI (by (rw [timesP_len]; omega))
    clear S0
    replace hb_1 := hM_9.2 _ _ hb_1
    exact F_ret1 E Try.results87 rfl ⟨_, rfl, M_9, (hM_2.trans (hM_4.trans hM_9)), (by rw [show (timesP (fun x => keyAt kk1 kn1 x x) (x0).toNat) = (timesP (fun x => keyAt kk1 kn1 x x) k) from by (rw [show k = x0.toNat by omega])]; exact hz_10), S⟩

set_option maxRecDepth 100000 in
set_option maxHeartbeats 4000000 in
theorem laws_FnRanges {M : Hp} {x0 : Int} (g0 : -128 ≤ x0 ∧ x0 ≤ 127) {kk1 kn1 : Int} (gk1 : -9223372036854775808 ≤ kn1 ∧ kn1 ≤ 9223372036854775807) :
    PuC Try.prog 11 M [.int .i8 x0, .agg #[.int .i64 kk1, .int .i64 kn1]] (fun r M' => r = .bool true) := by
  refine PuC_enter Try.func11 rfl Try.ntmps11 rfl ?_
  intro a w M1 H hM1 S E
  have hrl := (show (rangeL x0).length = x0.natAbs by simp [rangeL])
  refine WP_seq ?_
  refine WP_region ?_
  refine S_x (X_box (cs := #[.int .i64 kk1, .int .i64 kn1]) E S rfl rfl rfl ?_)
  clear E a S; rintro a w b_1 E S
  obtain ⟨M_2, hM_2, hb_1, S⟩ := S.freezeB
  refine S_v E rfl (R_assign E rfl) rfl ?_
  clear E a; intro a E
  refine WL_nil ?_
  refine T_n ?_
  refine WP_seq ?_
  refine WP_seq ?_
  refine WP_region ?_
  refine S_x (X_pu E S rfl rfl rfl (impl_Range (by omega)) (Hp.le.refl _) ?_)
  clear E a S; rintro a v_4 w M_3 hM_3 hv_4 S E
  replace hb_1 := hM_3.2 _ _ hb_1
  refine S_v E rfl (R_lenV E rfl T22 hv_4.len) rfl ?_
  clear E a; intro a E
  refine S_v E rfl (R_neq E rfl rfl) rfl ?_
  clear E a; intro a E
  refine WL_nil ?_
  refine T_n ?_
  have hc_5 : (decide ((((rangeL 2).length : Nat) : Int) ≠ 2)) = false := by (clear S E; first | (simp; done) | decide | (simp [rangeL]; done) | (rw [neg_range (by omega) (by omega)]; simp; done) | ((try rw [show k = x0.toNat by omega]); first | (simp; done) | (rw [times_range (by omega)]; simp; done) | (rw [map_range _ (by omega)]; simp; done)))
  refine WP_condF E rfl hc_5 ?_
  refine WP_skip ?_
  refine T_n ?_
  refine WP_seq ?_
  refine WP_seq ?_
  refine WP_region ?_
  refine S_v E rfl (R_loadGM E rfl (Try.isAgg37 _) (Try.sizeOf37 _) S.imm hb_1) rfl ?_
  clear E a; intro a E
  refine S_x (X_pu E S rfl rfl rfl (laws_just (by omega)) (Hp.le.refl _) ?_)
  clear E a S; rintro a _ w M_6 hM_6 rfl S E
  replace hb_1 := hM_6.2 _ _ hb_1
  replace hv_4 := hv_4.le hM_6
  refine S_v E rfl (R_not E rfl) rfl ?_
  clear E a; intro a E
  refine WL_nil ?_
  refine T_n ?_
  refine WP_cond E rfl (fun hc_7 => ?_) (fun hc_7 => ?_)
  · refine WP_seq ?_
    refine WP_region ?_
    refine S_v E rfl (R_assign E rfl) rfl ?_
    clear E a; intro a E
    refine WL_nil ?_
    refine T_n ?_
    refine WP_ret ?_
    refine T_r ?_
    exact F_ret1 E Try.results11 rfl ⟨_, rfl, M_6, (hM_2.trans (hM_3.trans hM_6)), rfl, S⟩
  · have hkj : -1099511627776 < kn1 ∧ kn1 < 1099511627776 := (by simp_all)
    refine WP_skip ?_
    refine T_n ?_
    refine WP_seq ?_
    refine WP_region ?_
    refine S_v E rfl (R_move E rfl) rfl ?_
    clear E a; intro a E
    refine S_v E rfl (R_convx E rfl Try.underlying23 Try.underlying3 (by omega)) rfl ?_
    clear E a; intro a E
    refine S_x (X_pu E S rfl rfl rfl (impl_Range (by omega)) (Hp.le.refl _) ?_)
    clear E a S; rintro a v_9 w M_8 hM_8 hv_9 S E
    replace hb_1 := hM_8.2 _ _ hb_1
    replace hv_4 := hv_4.le hM_8
    refine S_v E rfl (R_assign E rfl) rfl ?_
    clear E a; intro a E
    refine WL_nil ?_
    refine T_n ?_
    refine WP_seq ?_
    refine WP_seq ?_
    refine WP_region ?_
    refine S_v E rfl (R_move E rfl) rfl ?_
    clear E a; intro a E
    refine S_v E rfl (R_move E rfl) rfl ?_
    clear E a; intro a E
    refine S_v E rfl (R_convx E rfl Try.underlying23 Try.underlying3 (by omega)) rfl ?_
    clear E a; intro a E
    refine S_x (X_pu E S rfl rfl rfl (spec_Range (by omega)) (Hp.le.refl _) ?_)
    clear E a S; rintro a v_11 w M_10 hM_10 hv_11 S E
    replace hb_1 := hM_10.2 _ _ hb_1
    replace hv_4 := hv_4.le hM_10
    replace hv_9 := hv_9.le hM_10
    refine S_x (X_pu E S rfl rfl rfl (laws_eq hv_9 hv_11) (Hp.le.refl _) ?_)
    clear E a S; rintro a _ w M_12 hM_12 rfl S E
    replace hb_1 := hM_12.2 _ _ hb_1
    replace hv_4 := hv_4.le hM_12
    replace hv_9 := hv_9.le hM_12
    replace hv_11 := hv_11.le hM_12
    refine S_v E rfl (R_not E rfl) rfl ?_
    clear E a; intro a E
    refine S_v E rfl (R_move E rfl) rfl ?_
    clear E a; intro a E
    have hc_13 : (!(decide (rangeL x0 = rangeL x0))) = false := by (clear S E; first | (simp; done) | decide | (simp [rangeL]; done) | (rw [neg_range (by omega) (by omega)]; simp; done) | ((try rw [show k = x0.toNat by omega]); first | (simp; done) | (rw [times_range (by omega)]; simp; done) | (rw [map_range _ (by omega)]; simp; done)))
    replace E := E.val (t := 22) rfl hc_13
    replace E := E.val (t := 23) rfl hc_13
    refine WL_guard_yes E rfl rfl ?_
    refine S_v E rfl (R_move E rfl) rfl ?_
    clear E a; intro a E
    refine WL_guard_yes E rfl rfl ?_
    refine S_v E rfl (R_convx E rfl Try.underlying23 Try.underlying3 (by omega)) rfl ?_
    clear E a; intro a E
    refine WL_guard_yes E rfl rfl ?_
    refine S_x (X_pu E S rfl rfl rfl (impl_RangeSeq (by omega)) (Hp.le.refl _) ?_)
    clear E a S; rintro a v_15 w M_14 hM_14 hv_15 S E
    replace hb_1 := hM_14.2 _ _ hb_1
    replace hv_4 := hv_4.le hM_14
    replace hv_9 := hv_9.le hM_14
    replace hv_11 := hv_11.le hM_14
    refine WL_guard_yes E rfl rfl ?_
    refine S_v E rfl (R_move E rfl) rfl ?_
    clear E a; intro a E
    refine WL_guard_yes E rfl rfl ?_
    refine S_x (X_pu E S rfl rfl rfl (laws_eq hv_15 hv_9) (Hp.le.refl _) ?_)
    clear E a S; rintro a _ w M_16 hM_16 rfl S E
    replace hb_1 := hM_16.2 _ _ hb_1
    replace hv_4 := hv_4.le hM_16
    replace hv_9 := hv_9.le hM_16
    replace hv_11 := hv_11.le hM_16
    replace hv_15 := hv_15.le hM_16
    refine WL_guard_yes E rfl rfl ?_
    refine S_v E rfl (R_not E rfl) rfl ?_
    clear E a; intro a E
    refine S_v E rfl (R_pickF E rfl rfl) rfl ?_
    clear E a; intro a E
    refine WL_nil ?_
    refine T_n ?_
    have hc_17 : (!(decide (rangeL x0 = rangeL x0))) = false := by (clear S E; first | (simp; done) | decide | (simp [rangeL]; done) | (rw [neg_range (by omega) (by omega)]; simp; done) | ((try rw [show k = x0.toNat by omega]); first | (simp; done) | (rw [times_range (by omega)]; simp; done) | (rw [map_range _ (by omega)]; simp; done)))
    refine WP_condF E rfl hc_17 ?_
    refine WP_skip ?_
    refine T_n ?_
    refine WP_seq ?_
    refine WP_seq ?_
    refine WP_region ?_
    refine S_v E rfl (R_move E rfl) rfl ?_
    clear E a; intro a E
    refine S_v E rfl (R_lss E rfl rfl) rfl ?_
    clear E a; intro a E
    refine WL_nil ?_
    refine T_n ?_
    refine WP_cond E rfl (fun hc_18 => ?_) (fun hc_18 => ?_)
    · replace hc_18 := of_decide_eq_true hc_18
      refine WP_seq ?_
      refine WP_region ?_
      refine S_v E rfl (R_move E rfl) rfl ?_
      clear E a; intro a E
      refine S_v E rfl (R_build (u := .agg #[.int .i64 1, .int .i64 (-1)]) (vs := [.int .i64 1, .int .i64 (-1)]) E rfl (fun w => FB37_0_1_ii 1 (-1) w)) rfl ?_
      clear E a; intro a E
      refine S_x (X_pu E S rfl rfl rfl (impl_Map hv_9 (by omega) (by (first | omega | (simp; omega) | (simp; done) | (simp_all; omega) | grind))) (Hp.le.refl _) ?_)
      clear E a S; rintro a v_20 w M_19 hM_19 hv_20 S E
      replace hb_1 := hM_19.2 _ _ hb_1
      replace hv_4 := hv_4.le hM_19
      replace hv_9 := hv_9.le hM_19
      replace hv_11 := hv_11.le hM_19
      replace hv_15 := hv_15.le hM_19
      refine S_v E rfl (R_move E rfl) rfl ?_
      clear E a; intro a E
      refine S_v E rfl (R_convx E rfl Try.underlying23 Try.underlying3 (by omega)) rfl ?_
      clear E a; intro a E
      refine S_v E rfl (R_negx (m := -x0) E rfl rfl (by omega)) rfl ?_
      clear E a; intro a E
      refine S_x (X_pu E S rfl rfl rfl (impl_Range (by omega)) (Hp.le.refl _) ?_)
      clear E a S; rintro a v_22 w M_21 hM_21 hv_22 S E
      replace hb_1 := hM_21.2 _ _ hb_1
      replace hv_4 := hv_4.le hM_21
      replace hv_9 := hv_9.le hM_21
      replace hv_11 := hv_11.le hM_21
      replace hv_15 := hv_15.le hM_21
      replace hv_20 := hv_20.le hM_21
      refine S_x (X_pu E S rfl rfl rfl (laws_eq hv_20 hv_22) (Hp.le.refl _) ?_)
      clear E a S; rintro a _ w M_23 hM_23 rfl S E
      replace hb_1 := hM_23.2 _ _ hb_1
      replace hv_4 := hv_4.le hM_23
      replace hv_9 := hv_9.le hM_23
      replace hv_11 := hv_11.le hM_23
      replace hv_15 := hv_15.le hM_23
      replace hv_20 := hv_20.le hM_23
      replace hv_22 := hv_22.le hM_23
      refine S_v E rfl (R_assign E rfl) rfl ?_
      clear E a; intro a E
      refine WL_nil ?_
      refine T_n ?_
      refine WP_ret ?_
      refine T_r ?_
      exact F_ret1 E Try.results11 rfl ⟨_, rfl, M_23, (hM_2.trans (hM_3.trans (hM_6.trans (hM_8.trans (hM_10.trans (hM_12.trans (hM_14.trans (hM_16.trans (hM_19.trans (hM_21.trans hM_23)))))))))), (congrArg Value.bool (by (clear S E; first | (simp; done) | decide | (simp [rangeL]; done) | (rw [neg_range (by omega) (by omega)]; simp; done) | ((try rw [show k = x0.toNat by omega]); first | (simp; done) | (rw [times_range (by omega)]; simp; done) | (rw [map_range _ (by omega)]; simp; done))))), S⟩
    · replace hc_18 := of_decide_eq_false hc_18
      refine WP_skip ?_
      refine T_n ?_
      refine WP_seq ?_
      refine WP_region ?_
      refine S_v E rfl (R_assign E rfl) rfl ?_
      clear E a; intro a E
      refine WL_nil ?_
      refine T_n ?_
      refine WP_seq ?_
      refine WP_seq ?_
      refine WP_region ?_
      refine S_v E rfl (R_move E rfl) rfl ?_
      clear E a; intro a E
      refine S_v E rfl (R_convx E rfl Try.underlying23 Try.underlying3 (by omega)) rfl ?_
      clear E a; intro a E
      refine S_v E rfl (R_move E rfl) rfl ?_
      clear E a; intro a E
      refine WL_nil ?_
      refine T_n ?_
      refine WP_block ?_
      replace S := (S.ownNil (e := 3) (sz := 1)).made0
      replace S := S.re1 (l' := timesP (fun x => keyAt kk1 kn1 x x) 0) (by first | (simp [timesP]; done) | (rw [timesP_succ]; done))
      refine WP_loop (γ := Nat) (fun (k : Nat) a w => ∃ (M_25 : Hp) (u6 : Value), Hp.le M_16 M_25 ∧ St w M_25 (OwnI 3 u6 (timesP (fun x => keyAt kk1 kn1 x x) k) :: H) ∧ Env a 91 [] [(0, .int .i8 x0), (3, .pointer (some ⟨b_1, 0, none⟩)), (5, v_9), (6, u6), (42, .int .i64 x0), (43, .int .i64 ((k : Nat) : Int))] ∧ (k ≤ x0.toNat)) (fun k => x0.toNat - k) 0 ⟨M_16, _, Hp.le.refl _, S, E.keep ⟨rfl, rfl, rfl, rfl, rfl, rfl, trivial⟩, by ((try clear S); (try clear E); first | assumption | omega | rfl | (simp; done) | (simp_all; done) | (simp [List.take_add_one, *]; done) | grind [List.take_add_one])⟩ ?_
      try clear E
      try clear S
      try clear a
      try clear w
      rintro k a w ⟨M_25, u6, hM_25, S, E, hL0_0⟩
      replace hb_1 := hM_25.2 _ _ hb_1
      replace hv_4 := hv_4.le hM_25
      replace hv_9 := hv_9.le hM_25
      replace hv_11 := hv_11.le hM_25
      replace hv_15 := hv_15.le hM_25
      have hrl3 := timesP_len (fun x => keyAt kk1 kn1 x x) k
      refine WP_seq ?_
      refine WP_region ?_
      refine S_v E rfl (R_lss E rfl rfl) rfl ?_
      clear E a; intro a E
      refine WL_nil ?_
      refine T_n ?_
      refine WP_seq ?_
      refine WP_cond E rfl (fun hc_26 => ?_) (fun hc_26 => ?_)
      · replace hc_26 := of_decide_eq_true hc_26
        refine WP_skip ?_
        refine T_n ?_
        refine WP_seq ?_
        refine WP_block ?_
        refine WP_seq ?_
        refine WP_region ?_
        refine S_v E rfl (R_move E rfl) rfl ?_
        clear E a; intro a E
        refine S_v E rfl (R_assign E rfl) rfl ?_
        clear E a; intro a E
        refine WL_nil ?_
        refine T_n ?_
        refine WP_region ?_
        refine S_v E rfl (R_move E rfl) rfl ?_
        clear E a; intro a E
        refine S_v E rfl (R_loadGM E rfl (Try.isAgg37 _) (Try.sizeOf37 _) S.imm hb_1) rfl ?_
        clear E a; intro a E
        refine S_v E rfl (R_move E rfl) rfl ?_
        clear E a; intro a E
        refine S_v E rfl (R_move E rfl) rfl ?_
        clear E a; intro a E
        refine S_x (X_pu E S rfl rfl rfl (laws_stands (by omega)) (Hp.le.refl _) ?_)
        clear E a S; rintro a _ w M_27 hM_27 rfl S E
        replace hb_1 := hM_27.2 _ _ hb_1
        replace hv_4 := hv_4.le hM_27
        replace hv_9 := hv_9.le hM_27
        replace hv_11 := hv_11.le hM_27
        replace hv_15 := hv_15.le hM_27
        refine S_x (X_buildI (ys := [keyAt kk1 kn1 ((k : Nat) : Int) ((k : Nat) : Int)]) E S rfl T22 rfl rfl rfl ?_)
        clear E a S; rintro a w v_28 E S
        replace S := S.front1
        replace S := S.front1
        refine S_x (X_appendB (xs := timesP (fun x => keyAt kk1 kn1 x x) k) (ys := [keyAt kk1 kn1 ((k : Nat) : Int) ((k : Nat) : Int)]) E S rfl rfl rfl T22 (by first | omega | (simp; done) | (simp; omega) | (simp_all; omega)) ?_)
        clear E a S; rintro a w v_29 E S
        refine S_v E rfl (R_assign E rfl) rfl ?_
        clear E a; intro a E
        refine WL_nil ?_
        refine B_n ?_
        refine T_n ?_
        refine WP_region ?_
        refine S_v E rfl (R_addx (m := ((k + 1 : Nat) : Int)) E rfl rfl (by omega) (by omega)) rfl ?_
        clear E a; intro a E
        refine S_v E rfl (R_move E rfl) rfl ?_
        clear E a; intro a E
        refine WL_nil ?_
        refine T_n ?_
        replace S := S.re1 (l' := timesP (fun x => keyAt kk1 kn1 x x) (k + 1)) (by first | (simp [timesP]; done) | (rw [timesP_succ]; done))
        exact ⟨k + 1, ⟨M_27, _, (hM_25.trans hM_27), S, E.keep ⟨rfl, rfl, rfl, rfl, rfl, rfl, trivial⟩, by ((try clear S); (try clear E); first | assumption | omega | rfl | (simp; done) | (simp_all; done) | (simp [List.take_add_one, *]; done) | grind [List.take_add_one])⟩, by omega⟩
      · replace hc_26 := of_decide_eq_false hc_26
        refine WP_exit ?_
        refine T_x ?_
        refine T_x ?_
        refine B_x ?_
        refine T_n ?_
        refine WP_seq ?_
        refine WP_region ?_
        refine S_v E rfl (R_move E rfl) rfl ?_
        clear E a; intro a E
        refine S_v E rfl (R_convx E rfl Try.underlying23 Try.underlying3 (by omega)) rfl ?_
        clear E a; intro a E
        refine S_v E rfl (R_build (u := .agg #[.int .i64 4, .int .i64 0]) (vs := [.int .i64 4]) E rfl (fun w => FB37_0_i 4 w)) rfl ?_
        clear E a; intro a E
        refine S_x (X_pu E S rfl rfl rfl (impl_Times (by omega) (by omega)) (Hp.le.refl _) ?_)
        clear E a S; rintro a v_31 w M_30 hM_30 hv_31 S E
        replace hb_1 := hM_30.2 _ _ hb_1
        replace hv_4 := hv_4.le hM_30
        replace hv_9 := hv_9.le hM_30
        replace hv_11 := hv_11.le hM_30
        replace hv_15 := hv_15.le hM_30
        refine S_v E rfl (R_move E rfl) rfl ?_
        clear E a; intro a E
        refine S_x (X_pu E S rfl rfl rfl (laws_eq hv_31 hv_9) (Hp.le.refl _) ?_)
        clear E a S; rintro a _ w M_32 hM_32 rfl S E
        replace hb_1 := hM_32.2 _ _ hb_1
        replace hv_4 := hv_4.le hM_32
        replace hv_9 := hv_9.le hM_32
        replace hv_11 := hv_11.le hM_32
        replace hv_15 := hv_15.le hM_32
        replace hv_31 := hv_31.le hM_32
        refine S_v E rfl (R_move E rfl) rfl ?_
        clear E a; intro a E
        have hc_33 : (decide (timesP (fun x => keyAt 4 0 x x) (x0).toNat = rangeL x0)) = true := by (clear S E; first | (simp; done) | decide | (simp [rangeL]; done) | (rw [neg_range (by omega) (by omega)]; simp; done) | ((try rw [show k = x0.toNat by omega]); first | (simp; done) | (rw [times_range (by omega)]; simp; done) | (rw [map_range _ (by omega)]; simp; done)))
        replace E := E.val (t := 59) rfl hc_33
        replace E := E.val (t := 60) rfl hc_33
        refine WL_guard_yes E rfl rfl ?_
        refine S_v E rfl (R_move E rfl) rfl ?_
        clear E a; intro a E
        refine WL_guard_yes E rfl rfl ?_
        refine S_v E rfl (R_convx E rfl Try.underlying23 Try.underlying3 (by omega)) rfl ?_
        clear E a; intro a E
        refine WL_guard_yes E rfl rfl ?_
        refine S_v E rfl (R_loadGM E rfl (Try.isAgg37 _) (Try.sizeOf37 _) S.imm hb_1) rfl ?_
        clear E a; intro a E
        refine WL_guard_yes E rfl rfl ?_
        refine S_x (X_pu E S rfl rfl rfl (impl_Times (by omega) (by omega)) (Hp.le.refl _) ?_)
        clear E a S; rintro a v_35 w M_34 hM_34 hv_35 S E
        replace hb_1 := hM_34.2 _ _ hb_1
        replace hv_4 := hv_4.le hM_34
        replace hv_9 := hv_9.le hM_34
        replace hv_11 := hv_11.le hM_34
        replace hv_15 := hv_15.le hM_34
        replace hv_31 := hv_31.le hM_34
        refine WL_guard_yes E rfl rfl ?_
        refine S_v E rfl (R_move E rfl) rfl ?_
        clear E a; intro a E
        have S0 := S; clear S
        obtain ⟨M_36, hM_36, hz_37, S⟩ := S0.freezeI (by (rw [timesP_len]; omega))
        clear S0
        replace hb_1 := hM_36.2 _ _ hb_1
        replace hv_4 := hv_4.le hM_36
        replace hv_9 := hv_9.le hM_36
        replace hv_11 := hv_11.le hM_36
        replace hv_15 := hv_15.le hM_36
        replace hv_31 := hv_31.le hM_36
        replace hv_35 := hv_35.le hM_36
        refine WL_guard_yes E rfl rfl ?_
        refine S_x (X_pu E S rfl rfl rfl (laws_eq hv_35 hz_37) (Hp.le.refl _) ?_)
        clear E a S; rintro a _ w M_38 hM_38 rfl S E
        replace hb_1 := hM_38.2 _ _ hb_1
        replace hv_4 := hv_4.le hM_38
        replace hv_9 := hv_9.le hM_38
        replace hv_11 := hv_11.le hM_38
        replace hv_15 := hv_15.le hM_38
        replace hv_31 := hv_31.le hM_38
        replace hv_35 := hv_35.le hM_38
        replace hz_37 := hz_37.le hM_38
        refine S_v E rfl (R_pickT E rfl rfl) rfl ?_
        clear E a; intro a E
        refine S_v E rfl (R_move E rfl) rfl ?_
        clear E a; intro a E
        have hc_39 : (decide (timesP (fun x => keyAt kk1 kn1 x x) (x0).toNat = timesP (fun x => keyAt kk1 kn1 x x) k)) = true := by (clear S E; first | (simp; done) | decide | (simp [rangeL]; done) | (rw [neg_range (by omega) (by omega)]; simp; done) | ((try rw [show k = x0.toNat by omega]); first | (simp; done) | (rw [times_range (by omega)]; simp; done) | (rw [map_range _ (by omega)]; simp; done)))
        replace E := E.val (t := 66) rfl hc_39
        replace E := E.val (t := 67) rfl hc_39
        replace E := E.val (t := 68) rfl hc_39
        refine WL_guard_yes E rfl rfl ?_
        refine S_v E rfl (R_move E rfl) rfl ?_
        clear E a; intro a E
        refine WL_guard_yes E rfl rfl ?_
        refine S_v E rfl (R_convx E rfl Try.underlying23 Try.underlying3 (by omega)) rfl ?_
        clear E a; intro a E
        refine WL_guard_yes E rfl rfl ?_
        refine S_v E rfl (R_loadGM E rfl (Try.isAgg37 _) (Try.sizeOf37 _) S.imm hb_1) rfl ?_
        clear E a; intro a E
        refine WL_guard_yes E rfl rfl ?_
        refine S_x (X_pu E S rfl rfl rfl (impl_TimesSeq (by omega) (by omega)) (Hp.le.refl _) ?_)
        clear E a S; rintro a v_41 w M_40 hM_40 hv_41 S E
        replace hb_1 := hM_40.2 _ _ hb_1
        replace hv_4 := hv_4.le hM_40
        replace hv_9 := hv_9.le hM_40
        replace hv_11 := hv_11.le hM_40
        replace hv_15 := hv_15.le hM_40
        replace hv_31 := hv_31.le hM_40
        replace hv_35 := hv_35.le hM_40
        replace hz_37 := hz_37.le hM_40
        refine WL_guard_yes E rfl rfl ?_
        refine S_v E rfl (R_move E rfl) rfl ?_
        clear E a; intro a E
        refine WL_guard_yes E rfl rfl ?_
        refine S_x (X_pu E S rfl rfl rfl (laws_eq hv_41 hz_37) (Hp.le.refl _) ?_)
        clear E a S; rintro a _ w M_42 hM_42 rfl S E
        replace hb_1 := hM_42.2 _ _ hb_1
        replace hv_4 := hv_4.le hM_42
        replace hv_9 := hv_9.le hM_42
        replace hv_11 := hv_11.le hM_42
        replace hv_15 := hv_15.le hM_42
        replace hv_31 := hv_31.le hM_42
        replace hv_35 := hv_35.le hM_42
        replace hz_37 := hz_37.le hM_42
        replace hv_41 := hv_41.le hM_42
        refine S_v E rfl (R_pickT E rfl rfl) rfl ?_
        clear E a; intro a E
        refine S_v E rfl (R_move E rfl) rfl ?_
        clear E a; intro a E
        have hc_43 : (decide (timesP (fun x => keyAt kk1 kn1 x x) (x0).toNat = timesP (fun x => keyAt kk1 kn1 x x) k)) = true := by (clear S E; first | (simp; done) | decide | (simp [rangeL]; done) | (rw [neg_range (by omega) (by omega)]; simp; done) | ((try rw [show k = x0.toNat by omega]); first | (simp; done) | (rw [times_range (by omega)]; simp; done) | (rw [map_range _ (by omega)]; simp; done)))
        replace E := E.val (t := 74) rfl hc_43
        replace E := E.val (t := 75) rfl hc_43
        replace E := E.val (t := 76) rfl hc_43
        refine WL_guard_yes E rfl rfl ?_
        refine S_v E rfl (R_move E rfl) rfl ?_
        clear E a; intro a E
        refine WL_guard_yes E rfl rfl ?_
        refine S_v E rfl (R_loadGM E rfl (Try.isAgg37 _) (Try.sizeOf37 _) S.imm hb_1) rfl ?_
        clear E a; intro a E
        refine WL_guard_yes E rfl rfl ?_
        refine S_x (X_pu E S rfl rfl rfl (impl_Map hv_9 (by omega) (by (first | omega | (simp; omega) | (simp; done) | (simp_all; omega) | grind))) (Hp.le.refl _) ?_)
        clear E a S; rintro a v_45 w M_44 hM_44 hv_45 S E
        replace hb_1 := hM_44.2 _ _ hb_1
        replace hv_4 := hv_4.le hM_44
        replace hv_9 := hv_9.le hM_44
        replace hv_11 := hv_11.le hM_44
        replace hv_15 := hv_15.le hM_44
        replace hv_31 := hv_31.le hM_44
        replace hv_35 := hv_35.le hM_44
        replace hz_37 := hz_37.le hM_44
        replace hv_41 := hv_41.le hM_44
        refine WL_guard_yes E rfl rfl ?_
        refine S_v E rfl (R_move E rfl) rfl ?_
        clear E a; intro a E
        refine WL_guard_yes E rfl rfl ?_
        refine S_x (X_pu E S rfl rfl rfl (laws_eq hv_45 hz_37) (Hp.le.refl _) ?_)
        clear E a S; rintro a _ w M_46 hM_46 rfl S E
        replace hb_1 := hM_46.2 _ _ hb_1
        replace hv_4 := hv_4.le hM_46
        replace hv_9 := hv_9.le hM_46
        replace hv_11 := hv_11.le hM_46
        replace hv_15 := hv_15.le hM_46
        replace hv_31 := hv_31.le hM_46
        replace hv_35 := hv_35.le hM_46
        replace hz_37 := hz_37.le hM_46
        replace hv_41 := hv_41.le hM_46
        replace hv_45 := hv_45.le hM_46
        refine S_v E rfl (R_pickT E rfl rfl) rfl ?_
        clear E a; intro a E
        refine S_v E rfl (R_move E rfl) rfl ?_
        clear E a; intro a E
        have hc_47 : (decide (mapI (keyAt kk1 kn1) 0 (rangeL x0) = timesP (fun x => keyAt kk1 kn1 x x) k)) = true := by (clear S E; first | (simp; done) | decide | (simp [rangeL]; done) | (rw [neg_range (by omega) (by omega)]; simp; done) | ((try rw [show k = x0.toNat by omega]); first | (simp; done) | (rw [times_range (by omega)]; simp; done) | (rw [map_range _ (by omega)]; simp; done)))
        replace E := E.val (t := 81) rfl hc_47
        replace E := E.val (t := 82) rfl hc_47
        replace E := E.val (t := 83) rfl hc_47
        refine WL_guard_yes E rfl rfl ?_
        refine S_v E rfl (R_move E rfl) rfl ?_
        clear E a; intro a E
        refine WL_guard_yes E rfl rfl ?_
        refine S_v E rfl (R_convx E rfl Try.underlying23 Try.underlying3 (by omega)) rfl ?_
        clear E a; intro a E
        refine WL_guard_yes E rfl rfl ?_
        refine S_v E rfl (R_loadGM E rfl (Try.isAgg37 _) (Try.sizeOf37 _) S.imm hb_1) rfl ?_
        clear E a; intro a E
        refine WL_guard_yes E rfl rfl ?_
        refine S_x (X_pu E S rfl rfl rfl (spec_Times (by omega) (by omega)) (Hp.le.refl _) ?_)
        clear E a S; rintro a v_49 w M_48 hM_48 hv_49 S E
        replace hb_1 := hM_48.2 _ _ hb_1
        replace hv_4 := hv_4.le hM_48
        replace hv_9 := hv_9.le hM_48
        replace hv_11 := hv_11.le hM_48
        replace hv_15 := hv_15.le hM_48
        replace hv_31 := hv_31.le hM_48
        replace hv_35 := hv_35.le hM_48
        replace hz_37 := hz_37.le hM_48
        replace hv_41 := hv_41.le hM_48
        replace hv_45 := hv_45.le hM_48
        refine WL_guard_yes E rfl rfl ?_
        refine S_v E rfl (R_move E rfl) rfl ?_
        clear E a; intro a E
        refine WL_guard_yes E rfl rfl ?_
        refine S_x (X_pu E S rfl rfl rfl (laws_eq hv_49 hz_37) (Hp.le.refl _) ?_)
        clear E a S; rintro a _ w M_50 hM_50 rfl S E
        replace hb_1 := hM_50.2 _ _ hb_1
        replace hv_4 := hv_4.le hM_50
        replace hv_9 := hv_9.le hM_50
        replace hv_11 := hv_11.le hM_50
        replace hv_15 := hv_15.le hM_50
        replace hv_31 := hv_31.le hM_50
        replace hv_35 := hv_35.le hM_50
        replace hz_37 := hz_37.le hM_50
        replace hv_41 := hv_41.le hM_50
        replace hv_45 := hv_45.le hM_50
        replace hv_49 := hv_49.le hM_50
        refine S_v E rfl (R_pickT E rfl rfl) rfl ?_
        clear E a; intro a E
        refine S_v E rfl (R_assign E rfl) rfl ?_
        clear E a; intro a E
        refine WL_nil ?_
        refine T_n ?_
        refine WP_ret ?_
        exact F_ret1 E Try.results11 rfl ⟨_, rfl, M_50, (hM_2.trans (hM_3.trans (hM_6.trans (hM_8.trans (hM_10.trans (hM_12.trans (hM_14.trans (hM_16.trans (hM_25.trans (hM_30.trans (hM_32.trans (hM_34.trans (hM_36.trans (hM_38.trans (hM_40.trans (hM_42.trans (hM_44.trans (hM_46.trans (hM_48.trans hM_50))))))))))))))))))), (congrArg Value.bool (by (clear S E; first | (simp; done) | decide | (simp [rangeL]; done) | (rw [neg_range (by omega) (by omega)]; simp; done) | ((try rw [show k = x0.toNat by omega]); first | (simp; done) | (rw [times_range (by omega)]; simp; done) | (rw [map_range _ (by omega)]; simp; done))))), S⟩

end Go.Proofs.Ytllmbopajlfneaa.wFnRanges
