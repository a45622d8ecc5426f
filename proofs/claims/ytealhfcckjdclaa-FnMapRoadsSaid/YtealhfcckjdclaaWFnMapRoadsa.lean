/- Walks through the functions that laws.FnMapRoads reaches: what each computes; no conditions beyond what each theorem states. -/
import Derived.Test.YtealhfcckjdclaaProg
import Derived.Test.YtealhfcckjdclaaSlO
set_option linter.unusedVariables false
set_option linter.unusedSimpArgs false
namespace Go.Proofs.Ytealhfcckjdclaa.wFnMapRoads
open Go Go.Sl
theorem Try.mixed : Try.prog.follows .mixedOrders = true := by kernel_rfl
theorem T22 : SlT Try.prog 22 3 1 8 (.int .i64 0) := ⟨Try.underlying22, ⟨Try.t3, by kernel_rfl, rfl, rfl, rfl⟩, rfl, by decide⟩
theorem T36 : SlT Try.prog 36 22 1 24 (.slice none 0 0) := ⟨Try.underlying36, ⟨Try.t22, by kernel_rfl, rfl, rfl, rfl⟩, rfl, by decide⟩
theorem FB29_0_i (x0 : Int) (w : World) : (Instr.build 29 #[(0, (.int .i64 x0))]).run Try.prog w = .ok (.agg #[(.int .i64 x0), (.int .i64 0), (.slice none 0 0)]) w := run_build _ _ _ _ (by kernel_rfl)
theorem FA29_0 (p : Addr) (w : World) : (Instr.fieldAt 29 (.pointer (some p)) 0).run Try.prog w = .ok (.pointer (some (p.add 0))) w := by kernel_rfl
theorem FA29_1 (p : Addr) (w : World) : (Instr.fieldAt 29 (.pointer (some p)) 1).run Try.prog w = .ok (.pointer (some (p.add 1))) w := by kernel_rfl
theorem FA29_2 (p : Addr) (w : World) : (Instr.fieldAt 29 (.pointer (some p)) 2).run Try.prog w = .ok (.pointer (some (p.add 2))) w := by kernel_rfl
theorem FA34_0 (p : Addr) (w : World) : (Instr.fieldAt 34 (.pointer (some p)) 0).run Try.prog w = .ok (.pointer (some (p.add 0))) w := by kernel_rfl
theorem FA34_1 (p : Addr) (w : World) : (Instr.fieldAt 34 (.pointer (some p)) 1).run Try.prog w = .ok (.pointer (some (p.add 1))) w := by kernel_rfl
theorem FA52_0 (p : Addr) (w : World) : (Instr.fieldAt 52 (.pointer (some p)) 0).run Try.prog w = .ok (.pointer (some (p.add 0))) w := by kernel_rfl
theorem FA52_1 (p : Addr) (w : World) : (Instr.fieldAt 52 (.pointer (some p)) 1).run Try.prog w = .ok (.pointer (some (p.add 1))) w := by kernel_rfl

def spliceL (l : List Int) (i : Int) (m : List Int) : List Int :=
  let j := min (if i < 0 then (i + l.length).toNat else i.toNat) l.length
  l.take j ++ m ++ l.drop j

theorem splice_same (l m : List Int) (i : Int) : (spliceL l i m).length = (l ++ m).length ∧ ∀ x ∈ spliceL l i m, (spliceL l i m).count x = (l ++ m).count x := by
  have h : (spliceL l i m).Perm (l ++ m) := by
    unfold spliceL
    generalize min (if i < 0 then (i + l.length).toNat else i.toNat) l.length = j
    have e : l ++ m = l.take j ++ l.drop j ++ m := by rw [List.take_append_drop]
    rw [e, List.append_assoc, List.append_assoc]
    exact List.Perm.append_left _ List.perm_append_comm
  exact ⟨h.length_eq, fun x _ => h.count_eq x⟩

def cutAt (l b : List Int) : Option Nat := (List.range (l.length + 1)).find? (fun i => decide ((l.drop i).take b.length = b))
def cutL (l b : List Int) : List Int × List Int × Bool :=
  match cutAt l b with
  | some k => (l.take k, l.drop (k + b.length), true)
  | none => (l, [], false)
theorem cutAt_some {l b : List Int} {k : Nat} (hk : k ≤ l.length) (h : (l.drop k).take b.length = b) (hn : ∀ j, j < k → ¬ (l.drop j).take b.length = b) : cutAt l b = some k := by
  unfold cutAt
  rw [List.find?_range_eq_some]
  exact ⟨by simpa using h, by simp; omega, fun j hj => by simpa using hn j hj⟩
theorem cutAt_none {l b : List Int} (hn : ∀ j, j ≤ l.length → ¬ (l.drop j).take b.length = b) : cutAt l b = none := by
  unfold cutAt
  rw [List.find?_range_eq_none]
  intro j hj
  simpa using hn j (by omega)
theorem cutL_some {l b : List Int} {k : Nat} (hk : k ≤ l.length) (h : (l.drop k).take b.length = b) (hn : ∀ j, j < k → ¬ (l.drop j).take b.length = b) : cutL l b = (l.take k, l.drop (k + b.length), true) := by
  unfold cutL; rw [cutAt_some hk h hn]
theorem cutL_none {l b : List Int} {k : Nat} (hk : l.length < k + b.length) (hn : ∀ j, j < k → ¬ (l.drop j).take b.length = b) : cutL l b = (l, [], false) := by
  unfold cutL; rw [cutAt_none]
  intro j hj e
  by_cases h : j < k
  · exact hn j h e
  · have := congrArg List.length e
    simp at this; omega
theorem cut_len {l b : List Int} : (cutL l b).1.length ≤ l.length ∧ (cutL l b).2.1.length ≤ l.length := by
  unfold cutL; split <;> simp <;> omega
theorem take_ne {l b : List Int} {k j : Nat} {x y : Int} (hx : l[k + j]? = some x) (hy : b[j]? = some y) (h : x ≠ y) : ¬ (l.drop k).take b.length = b := by
  intro e
  have hj := (List.getElem?_eq_some_iff.1 hy).1
  have : ((l.drop k).take b.length)[j]? = some x := by rw [List.getElem?_take, if_pos hj, List.getElem?_drop]; exact hx
  rw [e, hy] at this; exact h (Option.some.inj this).symm

def AtL (l b : List Int) (i xa : Int) : Prop :=
  (xa = -1 ∧ ∀ j : Nat, i < j → ¬ (l.drop j).take b.length = b) ∨ (∃ p : Nat, xa = p ∧ i < p ∧ p ≤ l.length ∧ (l.drop p).take b.length = b ∧ ∀ j : Nat, i < j → j < p → ¬ (l.drop j).take b.length = b)
theorem AtL_start {l b : List Int} {i : Int} (hb : ¬ (b.length : Int) = 0) (hi : i = (l.length : Int) - b.length) : AtL l b i (-1) := by
  refine .inl ⟨rfl, fun j hj e => ?_⟩
  have := congrArg List.length e
  simp at this; omega
theorem AtL_yes {l b : List Int} {i j xa : Int} (h : AtL l b i xa) (h0 : 0 ≤ i) (h1 : i ≤ l.length) (hj : j = i - 1) (hp : (l.drop i.toNat).take b.length = b) : AtL l b j i := by
  refine .inr ⟨i.toNat, by omega, by omega, by omega, hp, fun k h1 h2 => by omega⟩
theorem AtL_no {l b : List Int} {i j xa : Int} (h : AtL l b i xa) (h0 : 0 ≤ i) (hj : j = i - 1) (hp : ¬ (l.drop i.toNat).take b.length = b) : AtL l b j xa := by
  rcases h with ⟨rfl, h⟩ | ⟨p, rfl, h1, h2, h3, h4⟩
  · refine .inl ⟨rfl, fun k hk => ?_⟩
    by_cases e : (k : Int) = i
    · rw [show k = i.toNat by omega]; exact hp
    · exact h k (by omega)
  · refine .inr ⟨p, rfl, by omega, h2, h3, fun k hk hkp => ?_⟩
    by_cases e : (k : Int) = i
    · rw [show k = i.toNat by omega]; exact hp
    · exact h4 k (by omega) hkp
theorem AtL_end {l b : List Int} {i xa : Int} (h : AtL l b i xa) (h0 : i < 0) :
    (xa = -1 ∧ cutL l b = (l, [], false)) ∨ (∃ p : Nat, xa = p ∧ p ≤ l.length ∧ p + b.length ≤ l.length ∧ cutL l b = (l.take p, l.drop (p + b.length), true) ∧ l.take p ++ b ++ l.drop (p + b.length) = l) := by
  rcases h with ⟨rfl, h⟩ | ⟨p, rfl, h1, h2, h3, h4⟩
  · exact .inl ⟨rfl, cutL_none (k := l.length + 1) (by omega) fun j _ => h j (by omega)⟩
  · refine .inr ⟨p, rfl, h2, ?_, cutL_some h2 h3 fun j hj => h4 j (by omega) hj, ?_⟩
    · have := congrArg List.length h3
      simp at this; omega
    · have e : l.drop p = b ++ l.drop (p + b.length) := by
        conv => lhs; rw [← List.take_append_drop b.length (l.drop p), h3, List.drop_drop]
      rw [List.append_assoc, ← e, List.take_append_drop]

def maxLen (ll : List (List Int)) : Nat := ll.foldl (fun a x => max a x.length) 0
def rowI (i : Nat) (ll : List (List Int)) : List Int := ll.filterMap (fun l => l[i]?)
def interP (k : Nat) (ll : List (List Int)) : List Int := (List.range k).flatMap (fun i => rowI i ll)
def total (ll : List (List Int)) : Nat := (ll.map List.length).sum
theorem maxLen_succ {ll : List (List Int)} {k : Nat} {x : List Int} (h : ll[k]? = some x) : maxLen (ll.take (k + 1)) = max (maxLen (ll.take k)) x.length := by
  simp [maxLen, List.take_add_one, h]
theorem foldl_max_le (ll : List (List Int)) : ∀ a, a ≤ ll.foldl (fun a x => max a x.length) a ∧ ∀ x ∈ ll, x.length ≤ ll.foldl (fun a x => max a x.length) a := by
  induction ll with
  | nil => intro a; simp
  | cons y ll ih =>
    intro a
    obtain ⟨h1, h2⟩ := ih (max a y.length)
    simp only [List.foldl_cons, List.mem_cons]
    refine ⟨by omega, fun x hx => ?_⟩
    rcases hx with rfl | hx
    · omega
    · exact h2 x hx
theorem le_maxLen {ll : List (List Int)} {x : List Int} (h : x ∈ ll) : x.length ≤ maxLen ll := (foldl_max_le ll 0).2 x h
theorem maxLen_le {ll : List (List Int)} {b : Nat} (h : ∀ x ∈ ll, x.length ≤ b) : maxLen ll ≤ b := by
  unfold maxLen
  suffices ∀ a, a ≤ b → ll.foldl (fun a x => max a x.length) a ≤ b from this 0 (by omega)
  induction ll with
  | nil => intro a ha; exact ha
  | cons y ll ih => intro a ha; exact ih (fun x hx => h x (by simp [hx])) _ (by have := h y (by simp); show max a y.length ≤ b; omega)
theorem total_succ {ll : List (List Int)} {k : Nat} {x : List Int} (h : ll[k]? = some x) : total (ll.take (k + 1)) = total (ll.take k) + x.length := by
  simp [total, List.take_add_one, h]
theorem total_take_le (ll : List (List Int)) (k : Nat) : total (ll.take k) ≤ total ll := by
  unfold total
  conv => rhs; rw [← List.take_append_drop k ll]
  rw [List.map_append, List.sum_append]; omega
theorem total_le {ll : List (List Int)} {b : Nat} (h : ∀ x ∈ ll, x.length ≤ b) : total ll ≤ ll.length * b := by
  induction ll with
  | nil => simp [total]
  | cons y ll ih =>
    have h1 := h y (by simp)
    have h2 := ih (fun x hx => h x (by simp [hx]))
    simp only [total, List.map_cons, List.sum_cons, List.length_cons, Nat.succ_mul] at *; omega
theorem interP_succ (k : Nat) (ll : List (List Int)) : interP (k + 1) ll = interP k ll ++ rowI k ll := by
  simp [interP, List.range_succ, List.flatMap_append]
theorem rowI_cons (k : Nat) (x : List Int) (ll : List (List Int)) : (rowI k (x :: ll)).length = (if k < x.length then 1 else 0) + (rowI k ll).length := by
  unfold rowI
  by_cases h : k < x.length
  · rw [List.filterMap_cons, List.getElem?_eq_getElem h]; simp [h]; omega
  · rw [List.filterMap_cons, List.getElem?_eq_none (by omega)]; simp [h]
theorem interP_nil (k : Nat) : interP k [] = [] := by simp [interP, rowI, List.flatMap_eq_nil_iff]
theorem interP_cons (k : Nat) (x : List Int) (ll : List (List Int)) : (interP k (x :: ll)).length = min k x.length + (interP k ll).length := by
  induction k with
  | zero => simp [interP]
  | succ k ih => rw [interP_succ, interP_succ, List.length_append, List.length_append, ih, rowI_cons]; split <;> omega
theorem interP_le (k : Nat) (ll : List (List Int)) : (interP k ll).length ≤ total ll := by
  induction ll with
  | nil => simp [interP_nil, total]
  | cons x ll ih => rw [interP_cons]; simp only [total, List.map_cons, List.sum_cons] at *; omega
theorem interP_full {k : Nat} {ll : List (List Int)} (h : ∀ x ∈ ll, x.length ≤ k) : (interP k ll).length = total ll := by
  induction ll with
  | nil => simp [interP_nil, total]
  | cons x ll ih =>
    have h1 := h x (by simp)
    have h2 := ih fun y hy => h y (by simp [hy])
    rw [interP_cons]; simp only [total, List.map_cons, List.sum_cons] at *; omega
theorem rowI_succ {ll : List (List Int)} {j i : Nat} {x : List Int} (h : ll[j]? = some x) : rowI i (ll.take (j + 1)) = rowI i (ll.take j) ++ x[i]?.toList := by
  unfold rowI
  rw [List.take_add_one, h, List.filterMap_append]
  cases e : x[i]? <;> simp [e]
theorem rowI_take_le (i j : Nat) (ll : List (List Int)) : (rowI i (ll.take j)).length ≤ (rowI i ll).length := by
  unfold rowI
  conv => rhs; rw [← List.take_append_drop j ll, List.filterMap_append, List.length_append]
  omega
theorem inter_row_le (i j : Nat) (ll : List (List Int)) : (interP i ll).length + (rowI i (ll.take j)).length ≤ total ll := by
  have h := interP_le (i + 1) ll
  rw [interP_succ, List.length_append] at h
  have := rowI_take_le i j ll; omega
theorem inter_row_lt {i j : Nat} {ll : List (List Int)} {x : List Int} (h : ll[j]? = some x) (hi : i < x.length) : (interP i ll).length + (rowI i (ll.take j)).length < total ll := by
  have h1 := inter_row_le i (j + 1) ll
  rw [rowI_succ h, List.getElem?_eq_getElem hi] at h1
  simp at h1; omega
theorem rowI_out {i : Nat} {ll : List (List Int)} (h : ∀ x ∈ ll, x.length ≤ i) : rowI i ll = [] := by
  unfold rowI
  rw [List.filterMap_eq_nil_iff]
  intro x hx
  exact List.getElem?_eq_none (h x hx)
theorem interP_stable {ll : List (List Int)} {m : Nat} (h : ∀ x ∈ ll, x.length ≤ m) : ∀ k, m ≤ k → interP k ll = interP m ll := by
  intro k hk
  induction k with
  | zero => rw [show m = 0 by omega]
  | succ k ih =>
    by_cases e : m = k + 1
    · rw [e]
    · rw [interP_succ, ih (by omega), rowI_out fun x hx => by have := h x hx; omega, List.append_nil]
def interL (ll : List (List Int)) : List Int := interP (maxLen ll) ll
theorem interL_eq {ll : List (List Int)} {k : Nat} (h : maxLen ll ≤ k) : interP k ll = interL ll :=
  interP_stable (fun x hx => le_maxLen hx) k h
theorem maxLen_total (ll : List (List Int)) : maxLen ll ≤ total ll := by
  refine maxLen_le fun x hx => ?_
  obtain ⟨k, hk⟩ := List.getElem?_of_mem hx
  have := total_take_le ll (k + 1)
  rw [total_succ hk] at this; omega
theorem interL_length (ll : List (List Int)) : (interL ll).length = total ll := interP_full fun x hx => le_maxLen hx
theorem rowI_perm (ll : List (List Int)) (k : Nat) : (rowI k ll ++ (ll.map (List.drop (k + 1))).flatten).Perm (ll.map (List.drop k)).flatten := by
  induction ll with
  | nil => simp [rowI]
  | cons x ll ih =>
    unfold rowI at *
    rw [List.filterMap_cons]
    simp only [List.map_cons, List.flatten_cons]
    cases e : x[k]? with
    | none =>
      have hk : x.length ≤ k := by simpa using e
      simp only [List.drop_eq_nil_of_le hk, List.drop_eq_nil_of_le (Nat.le_succ_of_le hk), List.nil_append]
      exact ih
    | some y =>
      have hk := (List.getElem?_eq_some_iff.1 e)
      obtain ⟨h1, h2⟩ := hk
      rw [List.drop_eq_getElem_cons h1, h2]
      simp only [List.cons_append]
      refine List.Perm.cons y ?_
      rw [← List.append_assoc]
      refine (List.Perm.append_right _ List.perm_append_comm).trans ?_
      rw [List.append_assoc]
      exact List.Perm.append_left _ ih
theorem interP_perm (ll : List (List Int)) : ∀ k, (interP k ll ++ (ll.map (List.drop k)).flatten).Perm ll.flatten := by
  intro k
  induction k with
  | zero => simp [interP, show (List.drop 0 : List Int → List Int) = id from funext fun _ => rfl]
  | succ k ih =>
    rw [interP_succ, List.append_assoc]
    exact (List.Perm.append_left _ (rowI_perm ll k)).trans ih
theorem interL_perm (ll : List (List Int)) : (interL ll).Perm ll.flatten := by
  have h := interP_perm ll (maxLen ll)
  have e : (ll.map (List.drop (maxLen ll))).flatten = [] := by
    rw [List.flatten_eq_nil_iff]
    intro l hl
    obtain ⟨x, hx, rfl⟩ := List.mem_map.1 hl
    exact List.drop_eq_nil_of_le (le_maxLen hx)
  rw [e, List.append_nil] at h; exact h
theorem inter_same (ll : List (List Int)) : (interL ll).length = ll.flatten.length ∧ ∀ x ∈ interL ll, (interL ll).count x = ll.flatten.count x :=
  ⟨(interL_perm ll).length_eq, fun x _ => (interL_perm ll).count_eq x⟩
theorem flatten_len (ll : List (List Int)) : ll.flatten.length = total ll := by simp [total, List.length_flatten]
theorem flatten_succ {ll : List (List Int)} {k : Nat} {x : List Int} (h : ll[k]? = some x) : (ll.take (k + 1)).flatten = (ll.take k).flatten ++ x := by
  simp [List.take_add_one, h]
theorem set_fill {p q : List Int} {n : Nat} {y : Int} (h : p.length < n) (hq : q = p ++ [y]) : (p ++ List.replicate (n - p.length) (0 : Int)).set p.length y = q ++ List.replicate (n - q.length) (0 : Int) := by
  subst hq
  rw [List.set_append_right _ _ (Nat.le_refl _), Nat.sub_self]
  obtain ⟨m, hm⟩ : ∃ m, n - p.length = m + 1 := ⟨n - p.length - 1, by omega⟩
  rw [hm, List.replicate_succ, List.set_cons_zero]
  simp; omega

theorem List.mem_take_succ_of {α : Type} {l : List α} {k : Nat} {x : α} (h : l[k]? = some x) : x ∈ l.take (k + 1) := by
  rw [List.take_add_one, h]; simp
theorem take_mem_exists {α : Type} {l : List α} {k : Nat} {x : α} {p : α → Prop} (h : l[k]? = some x) : (∃ y ∈ l.take (k + 1), p y) ↔ (∃ y ∈ l.take k, p y) ∨ p x := by
  rw [List.take_add_one, h]
  simp only [Option.toList_some, List.mem_append, List.mem_singleton]
  constructor
  · rintro ⟨y, hy | rfl, hp⟩
    · exact .inl ⟨y, hy, hp⟩
    · exact .inr hp
  · rintro (⟨y, hy, hp⟩ | hp)
    · exact ⟨y, .inl hy, hp⟩
    · exact ⟨x, .inr rfl, hp⟩

theorem flat_prefix {l : List (List Int)} {k : Nat} {xk p : List Int} {x : Int} (h : l[k]? = some xk) (hp : p ++ [x] <+: xk) : ((l.take k).flatten ++ p) ++ [x] <+: l.flatten := by
  have h1 : (l.take (k + 1)).flatten <+: l.flatten := by
    conv => rhs; rw [← List.take_append_drop (k + 1) l, List.flatten_append]
    exact List.prefix_append _ _
  rw [flatten_succ h] at h1
  rw [List.append_assoc]
  exact ((List.prefix_append_right_inj _).2 hp).trans h1
theorem flat_prefix0 {l : List (List Int)} {k : Nat} {xk p : List Int} (h : l[k]? = some xk) (hp : p <+: xk) : ((l.take k).flatten ++ p) <+: l.flatten := by
  have h1 : (l.take (k + 1)).flatten <+: l.flatten := by
    conv => rhs; rw [← List.take_append_drop (k + 1) l, List.flatten_append]
    exact List.prefix_append _ _
  rw [flatten_succ h] at h1
  exact ((List.prefix_append_right_inj _).2 hp).trans h1
theorem total_append (a b : List (List Int)) : total (a ++ b) = total a + total b := by simp [total]

/-- the first k items and the last k ones have changed their places -/
def swapK (l : List Int) (k : Nat) : List Int := (List.range l.length).map fun i => if i < k ∨ l.length ≤ i + k then l.getD (l.length - 1 - i) 0 else l.getD i 0
theorem swapK_zero (l : List Int) : l = swapK l 0 := by
  apply List.ext_getElem?
  intro i
  unfold swapK
  rw [List.getElem?_map]
  by_cases h : i < l.length
  · rw [List.getElem?_range h, Option.map_some, if_neg (by omega), List.getElem?_eq_getElem h]; simp [List.getD_eq_getElem?_getD, h]
  · rw [List.getElem?_eq_none (by omega), List.getElem?_eq_none (by simp; omega)]; rfl
theorem swapK_length (l : List Int) (k : Nat) : (swapK l k).length = l.length := by simp [swapK]
theorem swapK_get {l : List Int} {k i : Nat} (h : i < l.length) : (swapK l k)[i]? = some (if i < k ∨ l.length ≤ i + k then l.getD (l.length - 1 - i) 0 else l.getD i 0) := by
  unfold swapK; rw [List.getElem?_map, List.getElem?_range h]; rfl
theorem swapK_succ {l : List Int} {k j : Nat} {x y : Int} (hk : 2 * k + 1 < l.length) (hj : j = l.length - 1 - k) (hx : (swapK l k)[j]? = some x) (hy : (swapK l k)[k]? = some y) : ((swapK l k).set k x).set j y = swapK l (k + 1) := by
  subst hj
  rw [swapK_get (by omega)] at hx hy
  rw [if_neg (by omega)] at hx hy
  apply List.ext_getElem?
  intro i
  by_cases h : i < l.length
  · rw [swapK_get h, List.getElem?_set, List.getElem?_set, swapK_length, List.length_set, swapK_length]
    by_cases h1 : l.length - 1 - k = i
    · rw [if_pos h1, if_pos (by omega), if_pos (by omega), ← hy, ← h1]; congr 2; omega
    · rw [if_neg h1]
      by_cases h2 : k = i
      · rw [if_pos h2, if_pos (by omega), if_pos (by omega), ← hx, ← h2]
      · rw [if_neg h2, swapK_get h]
        by_cases h3 : i < k ∨ l.length ≤ i + k
        · rw [if_pos h3, if_pos (by omega)]
        · rw [if_neg h3, if_neg (by omega)]
  · rw [List.getElem?_eq_none (by simp [swapK_length]; omega), List.getElem?_eq_none (by simp [swapK_length]; omega)]
theorem swapK_half {l : List Int} {k : Nat} (h : l.length / 2 ≤ k) : swapK l k = l.reverse := by
  apply List.ext_getElem?
  intro i
  by_cases hi : i < l.length
  · rw [swapK_get hi, List.getElem?_reverse hi]
    by_cases h3 : i < k ∨ l.length ≤ i + k
    · rw [if_pos h3, List.getElem?_eq_getElem (by omega)]; simp [List.getD_eq_getElem?_getD, List.getElem?_eq_getElem (show l.length - 1 - i < l.length by omega)]
    · rw [if_neg h3, List.getElem?_eq_getElem (by omega)]
      have : l.length - 1 - i = i := by omega
      simp [List.getD_eq_getElem?_getD, List.getElem?_eq_getElem hi, this]
  · rw [List.getElem?_eq_none (by simp [swapK_length]; omega), List.getElem?_eq_none (by simp; omega)]
theorem tdiv2 (n : Nat) : IntKind.i64.wrap (Int.tdiv (n : Int) 2) = IntKind.i64.wrap ((n / 2 : Nat) : Int) := by congr 1

theorem first_eq {l : List Int} {x : Int} (h : l[0]? = some x) : l.headD 0 = x ∧ l.isEmpty = false := by
  cases l with
  | nil => cases h
  | cons y l => cases h; exact ⟨rfl, rfl⟩
theorem last_eq {l : List Int} {x : Int} {k : Nat} (h : l[k]? = some x) (hk : k + 1 = l.length) : l.getLastD 0 = x ∧ l.isEmpty = false := by
  cases l with
  | nil => cases h
  | cons y l =>
    refine ⟨?_, rfl⟩
    have : k = l.length := by simpa using hk
    subst this
    rw [List.getLastD_cons, List.getLastD_eq_getLast?, List.getLast?_eq_getElem?]
    cases l with
    | nil => cases h; rfl
    | cons z l => rw [show (z :: l).length - 1 = l.length by simp]; rw [show (y :: z :: l)[(z :: l).length]? = (z :: l)[l.length]? by simp] at h; rw [h]; rfl

theorem rev_step {l : List Int} {k j : Nat} {x : Int} (hk : k < l.length) (hj : (j : Int) = (l.length : Int) - 1 - k) (h : l[j]? = some x) : (l.drop (l.length - k)).reverse ++ [x] = (l.drop (l.length - (k + 1))).reverse := by
  have e : j = l.length - (k + 1) := by omega
  subst e
  rw [List.drop_eq_getElem_cons (show l.length - (k + 1) < l.length by omega), show l.length - (k + 1) + 1 = l.length - k by omega, List.reverse_cons]
  rw [List.getElem?_eq_getElem (by omega)] at h
  rw [Option.some.inj h]
theorem rev_prefix {l : List Int} {k j : Nat} {x : Int} (hk : k < l.length) (hj : (j : Int) = (l.length : Int) - 1 - k) (h : l[j]? = some x) : (l.drop (l.length - k)).reverse ++ [x] <+: l.reverse := by
  rw [rev_step hk hj h]
  conv => rhs; rw [← List.take_append_drop (l.length - (k + 1)) l, List.reverse_append]
  exact List.prefix_append _ _

theorem turn_head (l : List Int) : l.headD 0 = l.reverse.getLastD 0 := by cases l <;> simp [List.getLastD_eq_getLast?]

def predAt (k n : Int) (l : List Int) (x i : Int) : Bool :=
  if k = 0 then decide (x < n) else if k = 1 then (decide (n ≠ 0) && decide (x % n = l.headD 0)) else if k = 2 then decide (x ∈ l) else if k = 3 then decide (Int.tmod i 2 = 0) else decide (k = 4)
theorem tmod_emod (a b : Int) (hb : b ≠ 0) : (Int.tmod a b = a % b ∨ Int.tmod a b = a % b - b.natAbs) ∧ 0 ≤ a % b ∧ a % b < b.natAbs := by
  refine ⟨?_, Int.emod_nonneg _ hb, ?_⟩
  · rw [Int.tmod_eq_emod]; split <;> simp
  · have := Int.emod_lt a hb; omega
def filtI (f : Int → Int → Bool) : Nat → List Int → List Int
  | _, [] => []
  | i, x :: l => if f x i then x :: filtI f (i + 1) l else filtI f (i + 1) l
theorem filtI_append (f : Int → Int → Bool) : ∀ (a b : List Int) (i : Nat), filtI f i (a ++ b) = filtI f i a ++ filtI f (i + a.length) b
  | [], b, i => by simp [filtI]
  | x :: a, b, i => by
    simp only [List.cons_append, filtI, filtI_append f a b (i + 1), List.length_cons]
    rw [show i + 1 + a.length = i + (a.length + 1) by omega]
    split <;> rfl
theorem filtI_succ {f : Int → Int → Bool} {l : List Int} {k : Nat} {x : Int} (h : l[k]? = some x) : filtI f 0 (l.take (k + 1)) = filtI f 0 (l.take k) ++ (if f x k then [x] else []) := by
  have hk := (List.getElem?_eq_some_iff.1 h).1
  rw [List.take_add_one, h, filtI_append]
  simp only [Option.toList_some, filtI, List.length_take, Nat.zero_add, Nat.min_eq_left (Nat.le_of_lt hk)]
theorem filtI_len (f : Int → Int → Bool) : ∀ (l : List Int) (i : Nat), (filtI f i l).length ≤ l.length
  | [], i => by simp [filtI]
  | x :: l, i => by have := filtI_len f l (i + 1); unfold filtI; split <;> simp <;> omega
theorem filtI_filter {f : Int → Int → Bool} {g : Int → Bool} (h : ∀ x i, f x i = g x) : ∀ (l : List Int) (i : Nat), filtI f i l = l.filter g
  | [], i => rfl
  | x :: l, i => by unfold filtI; rw [h, List.filter_cons, filtI_filter h l (i + 1)]
theorem predAt_free {k n : Int} {l : List Int} (h : ¬ k = 3) (x i : Int) : predAt k n l x i = predAt k n l x 0 := by
  unfold predAt; simp [h]
theorem countP_succ {g : Int → Bool} {l : List Int} {k : Nat} {x : Int} (h : l[k]? = some x) : (l.take (k + 1)).countP g = (l.take k).countP g + (if g x then 1 else 0) := by
  rw [List.take_add_one, h, List.countP_append]; simp [List.countP_cons]

/-- the first place of an item, -1 if there is none -/
def idxOf (l : List Int) (x : Int) : Int := match (List.range l.length).find? (fun i => decide (l[i]? = some x)) with | some i => (i : Int) | none => -1
theorem idxOf_some {l : List Int} {x : Int} {k : Nat} (h : l[k]? = some x) (hn : ∀ j, j < k → l[j]? ≠ some x) : idxOf l x = (k : Int) := by
  have hk := (List.getElem?_eq_some_iff.1 h).1
  have : (List.range l.length).find? (fun i => decide (l[i]? = some x)) = some k := by
    rw [List.find?_range_eq_some]
    exact ⟨by simpa using h, by simpa using hk, fun j hj => by simpa using hn j hj⟩
  unfold idxOf; rw [this]
theorem idxOf_none {l : List Int} {x : Int} (hn : ∀ j : Nat, l[j]? ≠ some x) : idxOf l x = -1 := by
  have : (List.range l.length).find? (fun i => decide (l[i]? = some x)) = none := by
    rw [List.find?_range_eq_none]
    intro i hi; simpa using hn i
  unfold idxOf; rw [this]
theorem idxOf_mem (l : List Int) (x : Int) : decide (0 ≤ idxOf l x) = decide (x ∈ l) := by
  by_cases h : x ∈ l
  · rw [decide_eq_true h]
    cases e : (List.range l.length).find? (fun i => decide (l[i]? = some x)) with
    | some i => unfold idxOf; rw [e]; simp
    | none =>
      rw [List.find?_range_eq_none] at e
      obtain ⟨k, hk⟩ := List.getElem?_of_mem h
      have := e k (List.getElem?_eq_some_iff.1 hk).1
      simp [hk] at this
  · rw [decide_eq_false h, idxOf_none (fun j e => h (List.mem_of_getElem? e))]; rfl

theorem filt_twice (f g : Int → Int → Bool) (hf : ∀ x i, f x i = f x 0) (hg : ∀ x i, g x i = g x 0) (l : List Int) :
    filtI g 0 (filtI f 0 l) = filtI f 0 (filtI g 0 l) ∧ filtI f 0 (filtI g 0 (filtI f 0 l)) = filtI g 0 (filtI f 0 l) ∧ filtI (fun x i => !g x i) 0 (filtI g 0 (filtI f 0 l)) = [] ∧
    filtI f 0 (filtI (fun x i => !f x i) 0 l) = [] ∧ (filtI f 0 l).length = l.countP (fun x => f x 0) ∧ l.length = l.countP (fun x => f x 0) + (filtI (fun x i => !f x i) 0 l).length := by
  have h1 := fun l i => filtI_filter hf l i
  have h2 := fun l i => filtI_filter hg l i
  have h3 := fun l i => filtI_filter (f := fun x i => !f x i) (g := fun x => !f x 0) (fun x i => by rw [hf]) l i
  have h4 := fun l i => filtI_filter (f := fun x i => !g x i) (g := fun x => !g x 0) (fun x i => by rw [hg]) l i
  simp only [h1, h2, h3, h4, List.filter_filter]
  refine ⟨List.filter_congr fun x _ => Bool.and_comm _ _, List.filter_congr fun x _ => by cases f x 0 <;> cases g x 0 <;> rfl, ?_, ?_, (List.countP_eq_length_filter).symm, ?_⟩
  · rw [List.filter_eq_nil_iff]; intro x _; cases f x 0 <;> cases g x 0 <;> simp
  · rw [List.filter_eq_nil_iff]; intro x _; cases f x 0 <;> simp
  · have e : (fun x => !f x 0) = (fun a => decide ¬f a 0 = true) := funext fun x => by cases f x 0 <;> rfl
    rw [← List.countP_eq_length_filter, e]; exact List.length_eq_countP_add_countP _

theorem head_prefix {p l : List Int} {x : Int} (h : p.head? = some x) (hp : p <+: l) : l.headD 0 = x ∧ l.isEmpty = false := by
  obtain ⟨t, rfl⟩ := hp
  cases p with
  | nil => cases h
  | cons y p => cases h; exact ⟨rfl, rfl⟩

theorem getLastD_append1 (l : List Int) (x : Int) : (l ++ [x]).getLastD 0 = x := by rw [List.getLastD_eq_getLast?, List.getLast?_append]; rfl
def nthL (l : List Int) (i : Int) : Option Int := if 0 ≤ i then l[i.toNat]? else if -(l.length : Int) ≤ i then l[((l.length : Int) + i).toNat]? else none
def nthS (l : List Int) (i : Int) : Option Int := if 0 ≤ i then l[i.toNat]? else none
theorem nthL_none {l : List Int} {i : Int} (h : (l.length : Int) ≤ i ∨ i < -(l.length : Int)) : nthL l i = none := by
  unfold nthL
  split
  · exact List.getElem?_eq_none (by omega)
  · rw [if_neg (by omega)]
theorem nthL_pos {l : List Int} {i x : Int} (h : 0 ≤ i) (hx : l[i.toNat]? = some x) : nthL l i = some x := by unfold nthL; rw [if_pos h, hx]
theorem nthL_neg {l : List Int} {i x : Int} (h : ¬ 0 ≤ i) (h2 : -(l.length : Int) ≤ i) (hx : l[((l.length : Int) + i).toNat]? = some x) : nthL l i = some x := by unfold nthL; rw [if_neg h, if_pos h2, hx]
theorem nthS_stop {p l : List Int} {i x : Int} (h : 0 ≤ i) (hx : p[i.toNat]? = some x) (hp : p <+: l) : nthS l i = some x := by
  obtain ⟨t, rfl⟩ := hp
  unfold nthS; rw [if_pos h, List.getElem?_append_left (List.getElem?_eq_some_iff.1 hx).1, hx]
theorem nthS_out {l : List Int} {i : Int} (h : i < 0 ∨ (l.length : Int) ≤ i) : nthS l i = none := by
  unfold nthS; split
  · exact List.getElem?_eq_none (by omega)
  · rfl
theorem nthS_L {l : List Int} {i : Int} (h : ¬ i < 0) : nthS l i = nthL l i := by unfold nthS nthL; rw [if_pos (by omega), if_pos (by omega)]

def w64 (x : Int) : Int := IntKind.i64.wrap x
def keyAt (k n x i : Int) : Int :=
  if k = 0 then w64 (x + n) else if k = 1 then w64 (x * n) else if k = 2 then (if n = 0 then x else x % n) else if k = 3 then n else if k = 4 then i else x
theorem w64_in {x : Int} (h : -9223372036854775808 ≤ x ∧ x ≤ 9223372036854775807) : w64 x = x := wrap_in h
theorem w64_range (x : Int) : -9223372036854775808 ≤ w64 x ∧ w64 x ≤ 9223372036854775807 := by
  unfold w64 IntKind.wrap; simp [IntKind.signed, IntKind.bits]; omega
theorem w64_eq (x : Int) : ∃ q : Int, w64 x = x + q * 18446744073709551616 := by
  unfold w64 IntKind.wrap; simp [IntKind.signed, IntKind.bits]
  exact ⟨-((x + 9223372036854775808) / 18446744073709551616), by omega⟩
theorem w64_congr {x y q : Int} (h : x = y + q * 18446744073709551616) : w64 x = w64 y := by
  unfold w64 IntKind.wrap; simp [IntKind.signed, IntKind.bits]; omega
theorem w64_add (x y : Int) : w64 (w64 x + y) = w64 (x + y) := by
  obtain ⟨q, h⟩ := w64_eq x
  exact w64_congr (q := q) (by rw [h]; omega)
theorem w64_mul (x y : Int) : w64 (w64 x * y) = w64 (x * y) := by
  obtain ⟨q, h⟩ := w64_eq x
  refine w64_congr (q := q * y) ?_
  rw [h, Int.add_mul, Int.mul_assoc, Int.mul_assoc, Int.mul_comm 18446744073709551616 y]
def mapI (f : Int → Int → Int) : Nat → List Int → List Int
  | _, [] => []
  | i, x :: l => f x i :: mapI f (i + 1) l
theorem mapI_len (f : Int → Int → Int) : ∀ (l : List Int) (i : Nat), (mapI f i l).length = l.length
  | [], i => rfl
  | x :: l, i => by simp [mapI, mapI_len f l (i + 1)]
theorem mapI_append (f : Int → Int → Int) : ∀ (a b : List Int) (i : Nat), mapI f i (a ++ b) = mapI f i a ++ mapI f (i + a.length) b
  | [], b, i => by simp [mapI]
  | x :: a, b, i => by
    simp only [List.cons_append, mapI, mapI_append f a b (i + 1), List.length_cons]
    rw [show i + 1 + a.length = i + (a.length + 1) by omega]
theorem mapI_succ {f : Int → Int → Int} {l : List Int} {k : Nat} {x : Int} (h : l[k]? = some x) : mapI f 0 (l.take (k + 1)) = mapI f 0 (l.take k) ++ [f x k] := by
  have hk := (List.getElem?_eq_some_iff.1 h).1
  rw [List.take_add_one, h, mapI_append]
  simp only [Option.toList_some, mapI, List.length_take, Nat.zero_add, Nat.min_eq_left (Nat.le_of_lt hk)]

theorem modA (x n : Int) (hn : 0 < n) : (0 ≤ x % n ∧ x % n < n) ∧ (((-x) % n = 0 ∧ x % n = 0) ∨ (0 < (-x) % n ∧ x % n = n - (-x) % n)) := by
  have h1 := Int.emod_nonneg x (show n ≠ 0 by omega)
  have h2 := Int.emod_lt_of_pos x hn
  refine ⟨⟨h1, h2⟩, ?_⟩
  have h3 := Int.emod_nonneg (-x) (show n ≠ 0 by omega)
  have h4 := Int.emod_lt_of_pos (-x) hn
  have h5 : (x % n + (-x) % n) % n = 0 := by rw [← Int.add_emod, Int.add_right_neg, Int.zero_emod]
  have h6 : n ∣ (x % n + (-x) % n) := Int.dvd_of_emod_eq_zero h5
  obtain ⟨q, hq⟩ := h6
  have h7 : q = 0 ∨ q = 1 := by
    have hq0 : 0 ≤ q := by
      refine Int.not_lt.1 fun hlt => ?_
      have : n * q < 0 := Int.mul_neg_of_pos_of_neg hn hlt
      omega
    have hq2 : q < 2 := by
      refine Int.not_le.1 fun hle => ?_
      have : n * 2 ≤ n * q := Int.mul_le_mul_of_nonneg_left hle (by omega)
      omega
    omega
  rcases h7 with rfl | rfl
  · left; omega
  · by_cases h8 : (-x) % n = 0
    · omega
    · right; omega

theorem wsum_succ {l : List Int} {k : Nat} {x : Int} (h : l[k]? = some x) : w64 (w64 (l.take k).sum + x) = w64 ((l.take (k + 1)).sum) := by
  rw [w64_add, List.take_add_one, h, List.sum_append]; simp
theorem wsumby_succ {l : List Int} {k : Nat} {x : Int} (f : Int → Int) (h : l[k]? = some x) : w64 (w64 ((l.take k).map f).sum + f x) = w64 (((l.take (k + 1)).map f).sum) := by
  rw [w64_add, List.take_add_one, h, List.map_append, List.sum_append]; simp
def prod (l : List Int) : Int := l.foldl (fun a x => a * x) 1
theorem prod_append1 (l : List Int) (x : Int) : prod (l ++ [x]) = prod l * x := by simp [prod]
theorem wprod_succ {l : List Int} {k : Nat} {x : Int} (h : l[k]? = some x) : w64 (w64 (prod (l.take k)) * x) = w64 (prod (l.take (k + 1))) := by
  rw [w64_mul, List.take_add_one, h]; simp [prod_append1]
theorem wsumby_app (f : Int → Int) (l : List Int) (x : Int) : w64 (w64 (l.map f).sum + f x) = w64 ((l ++ [x]).map f).sum := by rw [w64_add]; simp
theorem wprodby_app (f : Int → Int) (l : List Int) (x : Int) : w64 (w64 (prod (l.map f)) * f x) = w64 (prod ((l ++ [x]).map f)) := by rw [w64_mul]; simp [prod_append1]
theorem w64_zero : w64 0 = 0 := by decide
theorem w64_one : w64 1 = 1 := by decide

theorem w64_add2 (x y : Int) : w64 (x + y) = w64 (w64 x + w64 y) := by rw [w64_add, Int.add_comm x (w64 y), w64_add, Int.add_comm]
theorem sum_rev (l : List Int) : l.reverse.sum = l.sum := by
  induction l with
  | nil => rfl
  | cons x l ih => rw [List.reverse_cons, List.sum_append, ih]; simp [Int.add_comm]
theorem mapI_map {f : Int → Int → Int} {g : Int → Int} (h : ∀ x i, f x i = g x) : ∀ (l : List Int) (i : Nat), mapI f i l = l.map g
  | [], i => rfl
  | x :: l, i => by unfold mapI; rw [h, mapI_map h l (i + 1)]; rfl
theorem keyAt_free {k n : Int} (h : ¬ k = 4) (x i : Int) : keyAt k n x i = keyAt k n x 0 := by unfold keyAt; simp [h]

def foldI (f : Int → Int → Int → Int) : Nat → Int → List Int → Int
  | _, s, [] => s
  | i, s, x :: l => foldI f (i + 1) (f s x i) l
theorem foldI_append (f : Int → Int → Int → Int) : ∀ (a b : List Int) (i : Nat) (s : Int), foldI f i s (a ++ b) = foldI f (i + a.length) (foldI f i s a) b
  | [], b, i, s => by simp [foldI]
  | x :: a, b, i, s => by
    simp only [List.cons_append, foldI, foldI_append f a b (i + 1), List.length_cons]
    rw [show i + 1 + a.length = i + (a.length + 1) by omega]
theorem foldI_app1 (f : Int → Int → Int → Int) (a : List Int) (x : Int) (s : Int) : foldI f 0 s (a ++ [x]) = f (foldI f 0 s a) x a.length := by
  rw [foldI_append, Nat.zero_add]; rfl
theorem foldI_succ {f : Int → Int → Int → Int} {l : List Int} {k : Nat} {x : Int} (s : Int) (h : l[k]? = some x) : f (foldI f 0 s (l.take k)) x k = foldI f 0 s (l.take (k + 1)) := by
  have hk := (List.getElem?_eq_some_iff.1 h).1
  rw [List.take_add_one, h]
  show _ = foldI f 0 s (l.take k ++ [x])
  rw [foldI_app1, List.length_take, Nat.min_eq_left (Nat.le_of_lt hk)]
theorem foldI_free {f : Int → Int → Int → Int} (hf : ∀ s x i, f s x i = f s x 0) : ∀ (l : List Int) (i : Nat) (s : Int), foldI f i s l = l.foldl (fun s x => f s x 0) s
  | [], i, s => rfl
  | x :: l, i, s => by unfold foldI; rw [hf, foldI_free hf l (i + 1)]; rfl
theorem foldI_congr {f g : Int → Int → Int → Int} (h : ∀ s x i, f s x i = g s x i) (i : Nat) (s : Int) (l : List Int) : foldI f i s l = foldI g i s l := by
  rw [show f = g from funext fun s => funext fun x => funext fun i => h s x i]
def rstep (k n s x i : Int) : Int := w64 (w64 (s * 31) + keyAt k n x i)
theorem foldr_step {f : Int → Int → Int → Int} (hf : ∀ s x i, f s x i = f s x 0) {l : List Int} {k j : Nat} {x i : Int} (s : Int) (hk : k < l.length) (hj : (j : Int) = (l.length : Int) - 1 - k) (h : l[j]? = some x) :
    f (foldI f 0 s (l.drop (l.length - k)).reverse) x i = foldI f 0 s (l.drop (l.length - (k + 1))).reverse := by
  rw [← rev_step hk hj h, foldI_app1, hf _ _ i, hf _ _ ((_ : Nat) : Int)]

theorem rstep_free {k n : Int} (h : ¬ k = 4) (s x i : Int) : rstep k n s x i = rstep k n s x 0 := by unfold rstep; rw [keyAt_free h]
theorem fold_both {k n : Int} (h : ¬ k = 4) (a b : List Int) (s : Int) : foldI (rstep k n) 0 s (a ++ b) = foldI (rstep k n) 0 (foldI (rstep k n) 0 s a) b := by
  rw [foldI_free (rstep_free h), foldI_free (rstep_free h), foldI_free (rstep_free h), List.foldl_append]
theorem fold_rev {k n : Int} (h : ¬ k = 4) (l : List Int) (s : Int) : foldI (fun s x i => rstep k n s x 0) 0 s l = foldI (rstep k n) 0 s l :=
  (foldI_congr (rstep_free h) 0 s l).symm

def PF2T (P : Program) (fv : Value) (M : Hp) (f : Int → Int → Int × Bool) : Prop := fv.oneCell' = true ∧ ∀ x i : Int, Pu P fv M [.int .i64 x, .int .i64 i] (fun r _ => r = .tuple #[.int .i64 (f x i).1, .bool (f x i).2])
theorem PF2T.le {P : Program} {fv : Value} {M M' : Hp} {f : Int → Int → Int × Bool} (h : PF2T P fv M f) (hM : Hp.le M M') : PF2T P fv M' f := ⟨h.1, fun x i => (h.2 x i).le hM⟩
/-- what is kept, as what it is made of -/
def fmapI (f : Int → Int → Int × Bool) : Nat → List Int → List Int
  | _, [] => []
  | i, x :: l => if (f x i).2 then (f x i).1 :: fmapI f (i + 1) l else fmapI f (i + 1) l
theorem fmapI_append (f : Int → Int → Int × Bool) : ∀ (a b : List Int) (i : Nat), fmapI f i (a ++ b) = fmapI f i a ++ fmapI f (i + a.length) b
  | [], b, i => by simp [fmapI]
  | x :: a, b, i => by
    simp only [List.cons_append, fmapI, fmapI_append f a b (i + 1), List.length_cons]
    rw [show i + 1 + a.length = i + (a.length + 1) by omega]
    split <;> rfl
theorem fmapI_app1 (f : Int → Int → Int × Bool) (a : List Int) (x : Int) : fmapI f 0 (a ++ [x]) = fmapI f 0 a ++ (if (f x a.length).2 then [(f x a.length).1] else []) := by
  rw [fmapI_append, Nat.zero_add]; rfl
theorem fmapI_succ {f : Int → Int → Int × Bool} {l : List Int} {k : Nat} {x : Int} (h : l[k]? = some x) : fmapI f 0 (l.take (k + 1)) = fmapI f 0 (l.take k) ++ (if (f x k).2 then [(f x k).1] else []) := by
  have hk := (List.getElem?_eq_some_iff.1 h).1
  rw [List.take_add_one, h]
  show fmapI f 0 (l.take k ++ [x]) = _
  rw [fmapI_app1, List.length_take, Nat.min_eq_left (Nat.le_of_lt hk)]
theorem fmapI_len (f : Int → Int → Int × Bool) : ∀ (l : List Int) (i : Nat), (fmapI f i l).length ≤ l.length
  | [], i => by simp [fmapI]
  | x :: l, i => by have := fmapI_len f l (i + 1); unfold fmapI; split <;> simp <;> omega

theorem fmapI_prefix0 {f : Int → Int → Int × Bool} {p l : List Int} (hp : p <+: l) : fmapI f 0 p <+: fmapI f 0 l := by
  obtain ⟨t, rfl⟩ := hp
  rw [fmapI_append]; exact List.prefix_append _ _
theorem fmapI_prefix {f : Int → Int → Int × Bool} {p l : List Int} {x : Int} (hp : p ++ [x] <+: l) (hk : (f x p.length).2 = true) : fmapI f 0 p ++ [(f x p.length).1] <+: fmapI f 0 l := by
  have h := fmapI_prefix0 (f := f) hp
  rw [fmapI_app1, if_pos hk] at h; exact h
theorem fmapI_filt {f g : Int → Int → Int} {p : Int → Int → Bool} (hg : ∀ x i, g x i = g x 0) (hfg : f = g) : ∀ (l : List Int) (i : Nat), mapI g 0 (filtI p i l) = fmapI (fun x i => (f x i, p x i)) i l := by
  subst hfg
  intro l
  have h0 : ∀ (a : List Int) (i j : Nat), mapI f i a = mapI f j a := fun a i j => by rw [mapI_map hg, mapI_map hg]
  induction l with
  | nil => intro i; rfl
  | cons x l ih =>
    intro i
    unfold filtI fmapI
    by_cases h : p x i = true
    · rw [if_pos h, if_pos h]; unfold mapI; rw [h0 _ _ 0, ih, hg x, hg x i]
    · rw [if_neg h, if_neg h]; exact ih _

theorem comp_get {a l : List Int} {k : Nat} {x : Int} (hk : a.length ≤ k) (h : (a ++ l.drop a.length)[k]? = some x) : l[k]? = some x := by
  rw [List.getElem?_append_right hk, List.getElem?_drop, Nat.add_sub_cancel' hk] at h; exact h
theorem comp_set {a b l : List Int} {x : Int} (hk : a.length < l.length) (hb : b = a ++ [x]) : (a ++ l.drop a.length).set a.length x = b ++ l.drop b.length := by
  subst hb
  rw [List.set_append_right _ _ (Nat.le_refl _), Nat.sub_self, List.drop_eq_getElem_cons hk, List.set_cons_zero]
  simp
theorem filtI_prefix0 {f : Int → Int → Bool} {p l : List Int} (hp : p <+: l) : filtI f 0 p <+: filtI f 0 l := by
  obtain ⟨t, rfl⟩ := hp
  rw [filtI_append]; exact List.prefix_append _ _
theorem filtI_app1 (f : Int → Int → Bool) (a : List Int) (x : Int) : filtI f 0 (a ++ [x]) = filtI f 0 a ++ (if f x a.length then [x] else []) := by
  rw [filtI_append, Nat.zero_add]; rfl
theorem filtI_prefix {f : Int → Int → Bool} {p l : List Int} {x : Int} (hp : p ++ [x] <+: l) (hk : f x p.length = true) : filtI f 0 p ++ [x] <+: filtI f 0 l := by
  have h := filtI_prefix0 (f := f) hp
  rw [filtI_app1, if_pos hk] at h; exact h

theorem fmapI_id {p : Int → Int → Bool} : ∀ (l : List Int) (i : Nat), (∀ x ∈ l, -9223372036854775808 ≤ x ∧ x ≤ 9223372036854775807) → fmapI (fun x i => (keyAt 0 0 x i, p x i)) i l = filtI p i l
  | [], i, _ => rfl
  | x :: l, i, h => by
    unfold fmapI filtI
    rw [fmapI_id l (i + 1) fun y hy => h y (List.mem_cons_of_mem _ hy)]
    have e : keyAt 0 0 x i = x := by unfold keyAt; simp; exact w64_in (h x (List.mem_cons_self ..))
    simp only [e]

theorem map_get {f : Int → Int → Int} {l : List Int} {k : Nat} {x : Int} (hk : (mapI f 0 (l.take k)).length = k) (h : (mapI f 0 (l.take k) ++ l.drop k)[k]? = some x) : l[k]? = some x := by
  rw [List.getElem?_append_right (by omega), List.getElem?_drop, hk, Nat.sub_self, Nat.add_zero] at h; exact h
theorem map_set {f : Int → Int → Int} {l : List Int} {k : Nat} {x : Int} (hk : (mapI f 0 (l.take k)).length = k) (hx : l[k]? = some x) : (mapI f 0 (l.take k) ++ l.drop k).set k (f x k) = mapI f 0 (l.take (k + 1)) ++ l.drop (k + 1) := by
  have hlt := (List.getElem?_eq_some_iff.1 hx).1
  rw [List.set_append_right _ _ (by omega), hk, Nat.sub_self, List.drop_eq_getElem_cons hlt, List.set_cons_zero, mapI_succ hx, List.append_assoc]; rfl
theorem mapI_app1 (f : Int → Int → Int) (a : List Int) (x : Int) : mapI f 0 (a ++ [x]) = mapI f 0 a ++ [f x a.length] := by
  rw [mapI_append, Nat.zero_add]; rfl
theorem mapI_prefix0 {f : Int → Int → Int} {p l : List Int} (hp : p <+: l) : mapI f 0 p <+: mapI f 0 l := by
  obtain ⟨t, rfl⟩ := hp
  rw [mapI_append]; exact List.prefix_append _ _
theorem mapI_prefix {f : Int → Int → Int} {p l : List Int} {x : Int} (hp : p ++ [x] <+: l) : mapI f 0 p ++ [f x p.length] <+: mapI f 0 l := by
  have h := mapI_prefix0 (f := f) hp
  rw [mapI_app1] at h; exact h

def flatI (f : Int → Int → List Int) : Nat → List Int → List Int
  | _, [] => []
  | i, x :: l => f x i ++ flatI f (i + 1) l
theorem flatI_append (f : Int → Int → List Int) : ∀ (a b : List Int) (i : Nat), flatI f i (a ++ b) = flatI f i a ++ flatI f (i + a.length) b
  | [], b, i => by simp [flatI]
  | x :: a, b, i => by
    simp only [List.cons_append, flatI, flatI_append f a b (i + 1), List.length_cons, List.append_assoc]
    rw [show i + 1 + a.length = i + (a.length + 1) by omega]
theorem flatI_app1 (f : Int → Int → List Int) (a : List Int) (x : Int) : flatI f 0 (a ++ [x]) = flatI f 0 a ++ f x a.length := by
  rw [flatI_append, Nat.zero_add]; simp [flatI]
theorem flatI_succ {f : Int → Int → List Int} {l : List Int} {k : Nat} {x : Int} (h : l[k]? = some x) : flatI f 0 (l.take (k + 1)) = flatI f 0 (l.take k) ++ f x k := by
  have hk := (List.getElem?_eq_some_iff.1 h).1
  rw [List.take_add_one, h]
  show flatI f 0 (l.take k ++ [x]) = _
  rw [flatI_app1, List.length_take, Nat.min_eq_left (Nat.le_of_lt hk)]
theorem flatI_len {f : Int → Int → List Int} (hf : ∀ x i, (f x i).length = 2) : ∀ (l : List Int) (i : Nat), (flatI f i l).length = 2 * l.length
  | [], i => rfl
  | x :: l, i => by simp only [flatI, List.length_append, hf, flatI_len hf l (i + 1), List.length_cons]; omega
theorem flatI_prefix0 {f : Int → Int → List Int} {p l : List Int} (hp : p <+: l) : flatI f 0 p <+: flatI f 0 l := by
  obtain ⟨t, rfl⟩ := hp
  rw [flatI_append]; exact List.prefix_append _ _
theorem flatI_prefix {f : Int → Int → List Int} {p l q : List Int} {x : Int} (hp : p ++ [x] <+: l) (hq : q <+: f x p.length) : flatI f 0 p ++ q <+: flatI f 0 l := by
  have h := flatI_prefix0 (f := f) hp
  rw [flatI_app1] at h
  exact ((List.prefix_append_right_inj _).2 hq).trans h

theorem fmapI_all (f : Int → Int → Int) : ∀ (l : List Int) (i : Nat), fmapI (fun x i => (f x i, predAt 4 0 [] x i)) i l = mapI f i l
  | [], i => rfl
  | x :: l, i => by unfold fmapI mapI; rw [fmapI_all f l (i + 1)]; simp [predAt]

set_option maxRecDepth 100000 in
set_option maxHeartbeats 4000000 in
theorem lo_Map {M : Hp} {v0 : Value} {l0 : List Int} (h0 : RdI M v0 l0){v1 : Value} {f1 : Int → Int → Int} (h1 : PF2I Try.prog v1 M f1) (hb : l0.length ≤ 1000000000000) :
    Pu Try.prog (.func (.func 143) #[] #[]) M [v0, v1] (fun r M' => RdI M' r (mapI f1 0 l0)) := by
  refine Pu_enter Try.func143 rfl Try.ntmps143 rfl Try.call143 ?_
  intro a w M1 H hM1 S E
  replace h0 := h0.le hM1
  replace h1 := h1.le hM1
  have b0 := h0.bound
  refine WP_seq ?_
  refine WP_region ?_
  refine S_v E rfl (R_assign E rfl) rfl ?_
  clear E a; intro a E
  refine WL_nil ?_
  refine T_n ?_
  refine WP_seq ?_
  refine WP_region ?_
  refine S_v E rfl (R_move E rfl) rfl ?_
  clear E a; intro a E
  refine S_v E rfl (R_lenV E rfl T22 h0.len) rfl ?_
  clear E a; intro a E
  refine S_x (X_makeN (k := (l0).length) E S rfl rfl rfl T22 (by omega) (by omega) (by omega) (by omega) ?_)
  clear E a S; rintro a w v_1 E S
  replace S := S.madeI
  refine S_v E rfl (R_assign E rfl) rfl ?_
  clear E a; intro a E
  refine WL_nil ?_
  refine T_n ?_
  refine WP_seq ?_
  refine WP_seq ?_
  refine WP_region ?_
  refine S_v E rfl (R_move E rfl) rfl ?_
  clear E a; intro a E
  refine S_v E rfl (R_lenV E rfl T22 h0.len) rfl ?_
  clear E a; intro a E
  refine S_v E rfl (R_move E rfl) rfl ?_
  clear E a; intro a E
  refine WL_nil ?_
  refine T_n ?_
  refine WP_block ?_
  replace S := S.re1 (l' := mapI f1 0 (l0.take 0) ++ List.replicate (l0.length - (mapI f1 0 (l0.take 0)).length) 0) (by first | (simp [mapI]; done) | (rw [show k = (mapI f1 0 (l0.take k)).length from hml2.symm]; rw [set_fill (by omega) (mapI_succ (by assumption))]; done) | (have e := set_fill (p := mapI f1 0 (l0.take k)) (n := l0.length) (by omega) (mapI_succ (f := f1) (by assumption)); rw [hml2] at e; rw [hml2]; exact e))
  refine WP_loop (γ := Nat) (fun (k : Nat) a w => ∃ (M_2 : Hp), Hp.le M1 M_2 ∧ St w M_2 (OwnI 3 v_1 (mapI f1 0 (l0.take k) ++ List.replicate (l0.length - (mapI f1 0 (l0.take k)).length) 0) :: H) ∧ Env a 27 [] [(0, v0), (1, v1), (5, v_1), (11, .int .i64 (((l0).length : Nat) : Int)), (12, .int .i64 ((k : Nat) : Int))] ∧ (k ≤ (l0).length)) (fun k => ((l0).length) - k) 0 ⟨M1, Hp.le.refl _, S, E.keep ⟨rfl, rfl, rfl, rfl, rfl, trivial⟩, by ((try clear S); (try clear E); first | assumption | omega | rfl | (simp; done) | (simp_all; done) | (simp [List.take_add_one, *]; done) | grind [List.take_add_one])⟩ ?_
  try clear E
  try clear S
  try clear a
  try clear w
  rintro k a w ⟨M_2, hM_2, S, E, hL0_0⟩
  replace h0 := h0.le hM_2
  replace h1 := h1.le hM_2
  have hml := mapI_len f1 (l0.take k) 0; simp only [List.length_take] at hml; have hml2 : (mapI f1 0 (l0.take k)).length = k := by omega
  refine WP_seq ?_
  refine WP_region ?_
  refine S_v E rfl (R_lss E rfl rfl) rfl ?_
  clear E a; intro a E
  refine WL_nil ?_
  refine T_n ?_
  refine WP_seq ?_
  refine WP_cond E rfl (fun hc_3 => ?_) (fun hc_3 => ?_)
  · replace hc_3 := of_decide_eq_true hc_3
    refine WP_skip ?_
    refine T_n ?_
    refine WP_seq ?_
    refine WP_block ?_
    refine WP_seq ?_
    refine WP_region ?_
    refine S_v E rfl (R_move E rfl) rfl ?_
    clear E a; intro a E
    refine S_v E rfl (R_assign E rfl) rfl ?_
    clear E a; intro a E
    refine WL_nil ?_
    refine T_n ?_
    refine WP_region ?_
    refine S_v E rfl (R_move E rfl) rfl ?_
    clear E a; intro a E
    refine S_v E rfl (R_move E rfl) rfl ?_
    clear E a; intro a E
    refine S_v E rfl (R_move E rfl) rfl ?_
    clear E a; intro a E
    refine S_v E rfl (R_move E rfl) rfl ?_
    clear E a; intro a E
    refine S_v E rfl (R_move E rfl) rfl ?_
    clear E a; intro a E
    obtain ⟨x_4, hx_4⟩ : ∃ x, (l0)[k]? = some x := ⟨_, List.getElem?_eq_getElem (by first | omega | (simp; done) | (simp; omega) | (simp_all; omega))⟩
    obtain ⟨p_5, hp_5, qp_5⟩ := h0.at hx_4
    refine S_v E rfl (R_idx E rfl rfl T22 hp_5 rfl) rfl ?_
    clear E a; intro a E
    refine S_v E rfl (R_loadM E rfl Try.isAgg3 S.imm qp_5) rfl ?_
    clear E a; intro a E
    refine S_v E rfl (R_move E rfl) rfl ?_
    clear E a; intro a E
    refine S_x (X_pu E S rfl rfl rfl (h1.2 x_4 ((k : Nat) : Int)) (Hp.le.refl _) ?_)
    clear E a S; rintro a _ w M_6 hM_6 rfl S E
    replace h0 := h0.le hM_6
    replace h1 := h1.le hM_6
    obtain ⟨p_7, hp_7⟩ := S.ptrC (k := k) (by first | omega | (simp; done) | (simp; omega) | (simp_all; omega))
    refine S_v E rfl (R_idx E rfl rfl T22 hp_7 rfl) rfl ?_
    clear E a; intro a E
    refine S_x0 (X_storeI E S rfl rfl (Try.sizeOf3 _) hp_7 ?_)
    clear E a S; rintro a w E S
    refine WL_nil ?_
    refine B_n ?_
    refine T_n ?_
    refine WP_region ?_
    refine S_v E rfl (R_addx (m := ((k + 1 : Nat) : Int)) E rfl rfl (by omega) (by omega)) rfl ?_
    clear E a; intro a E
    refine S_v E rfl (R_move E rfl) rfl ?_
    clear E a; intro a E
    refine WL_nil ?_
    refine T_n ?_
    replace S := S.re1 (l' := mapI f1 0 (l0.take (k + 1)) ++ List.replicate (l0.length - (mapI f1 0 (l0.take (k + 1))).length) 0) (by first | (simp [mapI]; done) | (rw [show k = (mapI f1 0 (l0.take k)).length from hml2.symm]; rw [set_fill (by omega) (mapI_succ (by assumption))]; done) | (have e := set_fill (p := mapI f1 0 (l0.take k)) (n := l0.length) (by omega) (mapI_succ (f := f1) (by assumption)); rw [hml2] at e; rw [hml2]; exact e))
    exact ⟨k + 1, ⟨M_6, (hM_2.trans hM_6), S, E.keep ⟨rfl, rfl, rfl, rfl, rfl, trivial⟩, by ((try clear S); (try clear E); first | assumption | omega | rfl | (simp; done) | (simp_all; done) | (simp [List.take_add_one, *]; done) | grind [List.take_add_one])⟩, by omega⟩
  · replace hc_3 := of_decide_eq_false hc_3
    refine WP_exit ?_
    refine T_x ?_
    refine T_x ?_
    refine B_x ?_
    refine T_n ?_
    refine WP_seq ?_
    refine WP_region ?_
    refine S_v E rfl (R_move E rfl) rfl ?_
    clear E a; intro a E
    refine S_v E rfl (R_assign E rfl) rfl ?_
    clear E a; intro a E
    refine WL_nil ?_
    refine T_n ?_
    refine WP_ret ?_
    have S0 := S; clear S
    obtain ⟨M_8, hM_8, hz_9, S⟩ := S0.freezeI (by (have hml := mapI_len f1 (l0.take k) 0; simp only [List.length_take] at hml; simp; omega))
    clear S0
    replace h0 := h0.le hM_8
    replace h1 := h1.le hM_8
    exact F_ret1 E Try.results143 rfl ⟨_, rfl, M_8, (hM_2.trans hM_8), (by rw [show (mapI f1 0 l0) = (mapI f1 0 (l0.take k) ++ List.replicate (l0.length - (mapI f1 0 (l0.take k)).length) 0) from by (have hml := mapI_len f1 (l0.take k) 0; simp only [List.length_take] at hml; rw [show l0.length - (mapI f1 0 (l0.take k)).length = 0 by omega, List.take_of_length_le (by omega)]; simp)]; exact hz_9), S⟩

set_option maxRecDepth 100000 in
set_option maxHeartbeats 4000000 in
theorem impl_mod {M : Hp} {x0 x1 : Int} (hn : x1 ≠ 0) (g1 : -9223372036854775808 ≤ x1 ∧ x1 ≤ 9223372036854775807) :
    Pu Try.prog (.func (.func 200) #[] #[]) M [.int .i64 x0, .int .i64 x1] (fun r M' => r = .int .i64 (x0 % x1)) := by
  refine Pu_enter Try.func200 rfl Try.ntmps200 rfl Try.call200 ?_
  intro a w M1 H hM1 S E
  have ht := tmod_emod x0 x1 hn
  refine WP_seq ?_
  refine WP_region ?_
  refine S_v E rfl (R_assign E rfl) rfl ?_
  clear E a; intro a E
  refine WL_nil ?_
  refine T_n ?_
  refine WP_seq ?_
  refine WP_region ?_
  refine S_v E rfl (R_move E rfl) rfl ?_
  clear E a; intro a E
  refine S_v E rfl (R_move E rfl) rfl ?_
  clear E a; intro a E
  refine S_v E rfl (R_rem E rfl rfl (by first | decide | omega)) rfl ?_
  clear E a; intro a E
  refine S_v E rfl (R_assign E rfl) rfl ?_
  clear E a; intro a E
  refine WL_nil ?_
  refine T_n ?_
  refine WP_seq ?_
  refine WP_seq ?_
  refine WP_region ?_
  refine S_v E rfl (R_move E rfl) rfl ?_
  clear E a; intro a E
  refine S_v E rfl (R_lss E rfl rfl) rfl ?_
  clear E a; intro a E
  refine WL_nil ?_
  refine T_n ?_
  refine WP_cond E rfl (fun hc_1 => ?_) (fun hc_1 => ?_)
  · replace hc_1 := of_decide_eq_true hc_1
    refine WP_seq ?_
    refine WP_seq ?_
    refine WP_region ?_
    refine S_v E rfl (R_move E rfl) rfl ?_
    clear E a; intro a E
    refine S_v E rfl (R_lss E rfl rfl) rfl ?_
    clear E a; intro a E
    refine WL_nil ?_
    refine T_n ?_
    refine WP_cond E rfl (fun hc_2 => ?_) (fun hc_2 => ?_)
    · replace hc_2 := of_decide_eq_true hc_2
      refine WP_seq ?_
      refine WP_region ?_
      refine S_v E rfl (R_move E rfl) rfl ?_
      clear E a; intro a E
      refine S_v E rfl (R_move E rfl) rfl ?_
      clear E a; intro a E
      refine S_v E rfl (R_subx (m := (Int.tmod x0 x1) - x1) E rfl rfl (by omega) (by omega)) rfl ?_
      clear E a; intro a E
      refine S_v E rfl (R_assign E rfl) rfl ?_
      clear E a; intro a E
      refine WL_nil ?_
      refine T_n ?_
      refine WP_ret ?_
      refine T_r ?_
      refine T_r ?_
      exact F_ret1 E Try.results200 rfl ⟨_, rfl, M1, (Hp.le.refl _), (congrArg (Value.int .i64) (by omega)), S⟩
    · replace hc_2 := of_decide_eq_false hc_2
      refine WP_skip ?_
      refine T_n ?_
      refine WP_seq ?_
      refine WP_region ?_
      refine S_v E rfl (R_move E rfl) rfl ?_
      clear E a; intro a E
      refine S_v E rfl (R_move E rfl) rfl ?_
      clear E a; intro a E
      refine S_v E rfl (R_addx (m := (Int.tmod x0 x1) + x1) E rfl rfl (by omega) (by omega)) rfl ?_
      clear E a; intro a E
      refine S_v E rfl (R_assign E rfl) rfl ?_
      clear E a; intro a E
      refine WL_nil ?_
      refine T_n ?_
      refine WP_ret ?_
      refine T_r ?_
      exact F_ret1 E Try.results200 rfl ⟨_, rfl, M1, (Hp.le.refl _), (congrArg (Value.int .i64) (by omega)), S⟩
  · replace hc_1 := of_decide_eq_false hc_1
    refine WP_skip ?_
    refine T_n ?_
    refine WP_seq ?_
    refine WP_region ?_
    refine S_v E rfl (R_move E rfl) rfl ?_
    clear E a; intro a E
    refine S_v E rfl (R_assign E rfl) rfl ?_
    clear E a; intro a E
    refine WL_nil ?_
    refine T_n ?_
    refine WP_ret ?_
    exact F_ret1 E Try.results200 rfl ⟨_, rfl, M1, (Hp.le.refl _), (congrArg (Value.int .i64) (by omega)), S⟩

set_option maxRecDepth 100000 in
set_option maxHeartbeats 4000000 in
theorem Key_at_c {M : Hp} {kk0 kn0 : Int} (gk0 : -9223372036854775808 ≤ kn0 ∧ kn0 ≤ 9223372036854775807){x1 x2 : Int} :
    PuC Try.prog 144 M [.agg #[.int .i64 kk0, .int .i64 kn0], .int .i64 x1, .int .i64 x2] (fun r M' => r = .int .i64 (keyAt kk0 kn0 x1 x2)) := by
  refine PuC_enter Try.func144 rfl Try.ntmps144 rfl ?_
  intro a w M1 H hM1 S E
  refine WP_seq ?_
  refine WP_region ?_
  refine S_x (X_box (cs := #[.int .i64 kk0, .int .i64 kn0]) E S rfl rfl rfl ?_)
  clear E a S; rintro a w b_1 E S
  obtain ⟨M_2, hM_2, hb_1, S⟩ := S.freezeB
  refine S_v E rfl (R_assign E rfl) rfl ?_
  clear E a; intro a E
  refine WL_nil ?_
  refine T_n ?_
  refine WP_seq ?_
  refine WP_seq ?_
  refine WP_region ?_
  refine S_v E rfl (R_fieldAddr E rfl (FA34_0 _)) rfl ?_
  clear E a; intro a E
  refine S_v E rfl (R_loadM E rfl Try.isAgg3 S.imm (cellM_boxo hb_1 rfl)) rfl ?_
  clear E a; intro a E
  refine WL_nil ?_
  refine T_n ?_
  refine WP_block ?_
  refine WP_seq ?_
  refine WP_region ?_
  refine S_v E rfl (R_eql E rfl rfl) rfl ?_
  clear E a; intro a E
  refine S_v E rfl (R_assign E rfl) rfl ?_
  clear E a; intro a E
  refine WL_nil ?_
  refine T_n ?_
  refine WP_cond E rfl (fun hc_3 => ?_) (fun hc_3 => ?_)
  · replace hc_3 := of_decide_eq_true hc_3
    refine WP_seq ?_
    refine WP_region ?_
    refine S_v E rfl (R_move E rfl) rfl ?_
    clear E a; intro a E
    refine S_v E rfl (R_fieldAddr E rfl (FA34_1 _)) rfl ?_
    clear E a; intro a E
    refine S_v E rfl (R_loadM E rfl Try.isAgg3 S.imm (cellM_boxo hb_1 rfl)) rfl ?_
    clear E a; intro a E
    refine S_v E rfl (R_add E rfl rfl) rfl ?_
    clear E a; intro a E
    refine S_v E rfl (R_assign E rfl) rfl ?_
    clear E a; intro a E
    refine WL_nil ?_
    refine T_n ?_
    refine WP_ret ?_
    refine B_r ?_
    refine T_r ?_
    exact F_ret1 E Try.results144 rfl ⟨_, rfl, M_2, hM_2, (congrArg (Value.int .i64) (by (clear E S; unfold keyAt w64; first | (simp [*]; done) | (simp_all; done)))), S⟩
  · replace hc_3 := of_decide_eq_false hc_3
    refine WP_seq ?_
    refine WP_region ?_
    refine S_v E rfl (R_eql E rfl rfl) rfl ?_
    clear E a; intro a E
    refine S_v E rfl (R_assign E rfl) rfl ?_
    clear E a; intro a E
    refine WL_nil ?_
    refine T_n ?_
    refine WP_cond E rfl (fun hc_4 => ?_) (fun hc_4 => ?_)
    · replace hc_4 := of_decide_eq_true hc_4
      refine WP_seq ?_
      refine WP_region ?_
      refine S_v E rfl (R_move E rfl) rfl ?_
      clear E a; intro a E
      refine S_v E rfl (R_fieldAddr E rfl (FA34_1 _)) rfl ?_
      clear E a; intro a E
      refine S_v E rfl (R_loadM E rfl Try.isAgg3 S.imm (cellM_boxo hb_1 rfl)) rfl ?_
      clear E a; intro a E
      refine S_v E rfl (R_mul E rfl rfl) rfl ?_
      clear E a; intro a E
      refine S_v E rfl (R_assign E rfl) rfl ?_
      clear E a; intro a E
      refine WL_nil ?_
      refine T_n ?_
      refine WP_ret ?_
      refine B_r ?_
      refine T_r ?_
      exact F_ret1 E Try.results144 rfl ⟨_, rfl, M_2, hM_2, (congrArg (Value.int .i64) (by (clear E S; unfold keyAt w64; first | (simp [*]; done) | (simp_all; done)))), S⟩
    · replace hc_4 := of_decide_eq_false hc_4
      refine WP_seq ?_
      refine WP_region ?_
      refine S_v E rfl (R_eql E rfl rfl) rfl ?_
      clear E a; intro a E
      refine S_v E rfl (R_assign E rfl) rfl ?_
      clear E a; intro a E
      refine WL_nil ?_
      refine T_n ?_
      refine WP_cond E rfl (fun hc_5 => ?_) (fun hc_5 => ?_)
      · replace hc_5 := of_decide_eq_true hc_5
        refine WP_seq ?_
        refine WP_region ?_
        refine S_v E rfl (R_fieldAddr E rfl (FA34_1 _)) rfl ?_
        clear E a; intro a E
        refine S_v E rfl (R_loadM E rfl Try.isAgg3 S.imm (cellM_boxo hb_1 rfl)) rfl ?_
        clear E a; intro a E
        refine S_v E rfl (R_neq E rfl rfl) rfl ?_
        clear E a; intro a E
        refine WL_nil ?_
        refine T_n ?_
        refine WP_cond E rfl (fun hc_6 => ?_) (fun hc_6 => ?_)
        · replace hc_6 := of_decide_eq_true hc_6
          refine WP_seq ?_
          refine WP_region ?_
          refine S_v E rfl (R_move E rfl) rfl ?_
          clear E a; intro a E
          refine S_v E rfl (R_fieldAddr E rfl (FA34_1 _)) rfl ?_
          clear E a; intro a E
          refine S_v E rfl (R_loadM E rfl Try.isAgg3 S.imm (cellM_boxo hb_1 rfl)) rfl ?_
          clear E a; intro a E
          refine S_x (X_pu E S rfl rfl rfl (impl_mod (by first | omega | assumption) (by omega)) (Hp.le.refl _) ?_)
          clear E a S; rintro a _ w M_7 hM_7 rfl S E
          replace hb_1 := hM_7.2 _ _ hb_1
          refine S_v E rfl (R_assign E rfl) rfl ?_
          clear E a; intro a E
          refine WL_nil ?_
          refine T_n ?_
          refine WP_ret ?_
          refine B_r ?_
          refine T_r ?_
          exact F_ret1 E Try.results144 rfl ⟨_, rfl, M_7, (hM_2.trans hM_7), (congrArg (Value.int .i64) (by (clear E S; unfold keyAt w64; first | (simp [*]; done) | (simp_all; done)))), S⟩
        · replace hc_6 := of_decide_eq_false hc_6
          refine WP_skip ?_
          refine B_n ?_
          refine T_n ?_
          refine WP_seq ?_
          refine WP_region ?_
          refine S_v E rfl (R_move E rfl) rfl ?_
          clear E a; intro a E
          refine S_v E rfl (R_assign E rfl) rfl ?_
          clear E a; intro a E
          refine WL_nil ?_
          refine T_n ?_
          refine WP_ret ?_
          exact F_ret1 E Try.results144 rfl ⟨_, rfl, M_2, hM_2, (congrArg (Value.int .i64) (by (clear E S; unfold keyAt w64; first | (simp [*]; done) | (simp_all; done)))), S⟩
      · replace hc_5 := of_decide_eq_false hc_5
        refine WP_seq ?_
        refine WP_region ?_
        refine S_v E rfl (R_eql E rfl rfl) rfl ?_
        clear E a; intro a E
        refine S_v E rfl (R_assign E rfl) rfl ?_
        clear E a; intro a E
        refine WL_nil ?_
        refine T_n ?_
        refine WP_cond E rfl (fun hc_8 => ?_) (fun hc_8 => ?_)
        · replace hc_8 := of_decide_eq_true hc_8
          refine WP_seq ?_
          refine WP_region ?_
          refine S_v E rfl (R_fieldAddr E rfl (FA34_1 _)) rfl ?_
          clear E a; intro a E
          refine S_v E rfl (R_loadM E rfl Try.isAgg3 S.imm (cellM_boxo hb_1 rfl)) rfl ?_
          clear E a; intro a E
          refine S_v E rfl (R_assign E rfl) rfl ?_
          clear E a; intro a E
          refine WL_nil ?_
          refine T_n ?_
          refine WP_ret ?_
          refine B_r ?_
          refine T_r ?_
          exact F_ret1 E Try.results144 rfl ⟨_, rfl, M_2, hM_2, (congrArg (Value.int .i64) (by (clear E S; unfold keyAt w64; first | (simp [*]; done) | (simp_all; done)))), S⟩
        · replace hc_8 := of_decide_eq_false hc_8
          refine WP_seq ?_
          refine WP_region ?_
          refine S_v E rfl (R_eql E rfl rfl) rfl ?_
          clear E a; intro a E
          refine S_v E rfl (R_assign E rfl) rfl ?_
          clear E a; intro a E
          refine WL_nil ?_
          refine T_n ?_
          refine WP_cond E rfl (fun hc_9 => ?_) (fun hc_9 => ?_)
          · replace hc_9 := of_decide_eq_true hc_9
            refine WP_seq ?_
            refine WP_region ?_
            refine S_v E rfl (R_move E rfl) rfl ?_
            clear E a; intro a E
            refine S_v E rfl (R_assign E rfl) rfl ?_
            clear E a; intro a E
            refine WL_nil ?_
            refine T_n ?_
            refine WP_ret ?_
            refine B_r ?_
            refine T_r ?_
            exact F_ret1 E Try.results144 rfl ⟨_, rfl, M_2, hM_2, (congrArg (Value.int .i64) (by (clear E S; unfold keyAt w64; first | (simp [*]; done) | (simp_all; done)))), S⟩
          · replace hc_9 := of_decide_eq_false hc_9
            refine WP_skip ?_
            refine B_n ?_
            refine T_n ?_
            refine WP_seq ?_
            refine WP_region ?_
            refine S_v E rfl (R_move E rfl) rfl ?_
            clear E a; intro a E
            refine S_v E rfl (R_assign E rfl) rfl ?_
            clear E a; intro a E
            refine WL_nil ?_
            refine T_n ?_
            refine WP_ret ?_
            exact F_ret1 E Try.results144 rfl ⟨_, rfl, M_2, hM_2, (congrArg (Value.int .i64) (by (clear E S; unfold keyAt w64; first | (simp [*]; done) | (simp_all; done)))), S⟩
theorem Key_at {M : Hp} {kk0 kn0 : Int} (gk0 : -9223372036854775808 ≤ kn0 ∧ kn0 ≤ 9223372036854775807){x1 x2 : Int} :
    Pu Try.prog (.func (.func 144) #[.agg #[.int .i64 kk0, .int .i64 kn0]] #[]) M [.int .i64 x1, .int .i64 x2] (fun r M' => r = .int .i64 (keyAt kk0 kn0 x1 x2)) := PuC.pu Try.call144 rfl (Key_at_c gk0)
theorem Key_at_d {M : Hp} {kk0 kn0 : Int} (gk0 : -9223372036854775808 ≤ kn0 ∧ kn0 ≤ 9223372036854775807){x1 x2 : Int} :
    Pu Try.prog (.func (.func 144) #[] #[]) M [.agg #[.int .i64 kk0, .int .i64 kn0], .int .i64 x1, .int .i64 x2] (fun r M' => r = .int .i64 (keyAt kk0 kn0 x1 x2)) := PuC.pu Try.call144 rfl (Key_at_c gk0)

set_option maxRecDepth 100000 in
set_option maxHeartbeats 4000000 in
theorem impl_Map {M : Hp} {v0 : Value} {l0 : List Int} (h0 : RdI M v0 l0){kk1 kn1 : Int} (gk1 : -9223372036854775808 ≤ kn1 ∧ kn1 ≤ 9223372036854775807) (hb : l0.length ≤ 1000000000000) :
    Pu Try.prog (.func (.func 57) #[] #[]) M [v0, .agg #[.int .i64 kk1, .int .i64 kn1]] (fun r M' => RdI M' r (mapI (keyAt kk1 kn1) 0 l0)) := by
  refine Pu_enter Try.func57 rfl Try.ntmps57 rfl Try.call57 ?_
  intro a w M1 H hM1 S E
  replace h0 := h0.le hM1
  have b0 := h0.bound
  refine WP_seq ?_
  refine WP_region ?_
  refine S_x (X_box (cs := #[.int .i64 kk1, .int .i64 kn1]) E S rfl rfl rfl ?_)
  clear E a S; rintro a w b_1 E S
  obtain ⟨M_2, hM_2, hb_1, S⟩ := S.freezeB
  replace h0 := h0.le hM_2
  refine S_v E rfl (R_assign E rfl) rfl ?_
  clear E a; intro a E
  refine WL_nil ?_
  refine T_n ?_
  refine WP_seq ?_
  refine WP_region ?_
  refine S_v E rfl (R_move E rfl) rfl ?_
  clear E a; intro a E
  refine S_v E rfl (R_loadGM E rfl (Try.isAgg34 _) (Try.sizeOf34 _) S.imm hb_1) rfl ?_
  clear E a; intro a E
  refine S_v E rfl (R_makeFunc E rfl rfl) rfl ?_
  clear E a; intro a E
  refine S_x (X_pu E S rfl rfl rfl (lo_Map h0 ⟨rfl, fun zx1 zx2 => Key_at (x1 := zx1) (x2 := zx2) (by omega)⟩ (by (first | omega | (simp; omega) | (simp; done) | (simp_all; omega) | grind))) (Hp.le.refl _) ?_)
  clear E a S; rintro a v_4 w M_3 hM_3 hv_4 S E
  replace h0 := h0.le hM_3
  replace hb_1 := hM_3.2 _ _ hb_1
  refine S_v E rfl (R_assign E rfl) rfl ?_
  clear E a; intro a E
  refine WL_nil ?_
  refine T_n ?_
  refine WP_ret ?_
  exact F_ret1 E Try.results57 rfl ⟨_, rfl, M_3, (hM_2.trans hM_3), hv_4, S⟩

set_option maxRecDepth 100000 in
set_option maxHeartbeats 4000000 in
theorem laws_few {M : Hp} {v0 : Value} {l0 : List (List Int)} (h0 : RdII M v0 l0) :
    Pu Try.prog (.func (.func 16) #[] #[]) M [v0] (fun r M' => r = .bool (decide (∀ x ∈ l0, x.length ≤ 300))) := by
  refine Pu_enter Try.func16 rfl Try.ntmps16 rfl Try.call16 ?_
  intro a w M1 H hM1 S E
  replace h0 := h0.le hM1
  have b0 := h0.bound
  refine WP_seq ?_
  refine WP_region ?_
  refine S_v E rfl (R_assign E rfl) rfl ?_
  clear E a; intro a E
  refine WL_nil ?_
  refine T_n ?_
  refine WP_seq ?_
  refine WP_seq ?_
  refine WP_region ?_
  refine S_v E rfl (R_move E rfl) rfl ?_
  clear E a; intro a E
  refine S_v E rfl (R_lenV E rfl T36 h0.len) rfl ?_
  clear E a; intro a E
  refine S_v E rfl (R_move E rfl) rfl ?_
  clear E a; intro a E
  refine WL_nil ?_
  refine T_n ?_
  refine WP_block ?_
  refine WP_loop (γ := Nat) (fun (k : Nat) a w => ∃ (M_1 : Hp), Hp.le M1 M_1 ∧ St w M_1 (H) ∧ Env a 15 [] [(5, v0), (6, .int .i64 (((l0).length : Nat) : Int)), (7, .int .i64 ((k : Nat) : Int))] ∧ (k ≤ (l0).length) ∧ (∀ x ∈ l0.take k, x.length ≤ 300)) (fun k => ((l0).length) - k) 0 ⟨M1, Hp.le.refl _, S, E.keep ⟨rfl, rfl, rfl, trivial⟩, by ((try clear S); (try clear E); first | assumption | omega | rfl | (simp; done) | (simp_all; done) | (simp [List.take_add_one, *]; done) | grind [List.take_add_one]), by ((try clear S); (try clear E); first | assumption | omega | rfl | (simp; done) | (simp_all; done) | (simp [List.take_add_one, *]; done) | grind [List.take_add_one])⟩ ?_
  try clear E
  try clear S
  try clear a
  try clear w
  rintro k a w ⟨M_1, hM_1, S, E, hL0_0, hL0_1⟩
  replace h0 := h0.le hM_1
  refine WP_seq ?_
  refine WP_region ?_
  refine S_v E rfl (R_lss E rfl rfl) rfl ?_
  clear E a; intro a E
  refine WL_nil ?_
  refine T_n ?_
  refine WP_seq ?_
  refine WP_cond E rfl (fun hc_2 => ?_) (fun hc_2 => ?_)
  · replace hc_2 := of_decide_eq_true hc_2
    refine WP_skip ?_
    refine T_n ?_
    refine WP_seq ?_
    refine WP_block ?_
    refine WP_seq ?_
    refine WP_region ?_
    obtain ⟨x_3, hx_3⟩ : ∃ x, (l0)[k]? = some x := ⟨_, List.getElem?_eq_getElem (by first | omega | (simp; done) | (simp; omega) | (simp_all; omega))⟩
    obtain ⟨p_4, u_5, hp_4, qp_4, hu_5⟩ := h0.at hx_3
    have bu_5 := hu_5.bound
    refine S_v E rfl (R_idx E rfl rfl T36 hp_4 rfl) rfl ?_
    clear E a; intro a E
    refine S_v E rfl (R_loadM E rfl Try.isAgg22 S.imm qp_4) rfl ?_
    clear E a; intro a E
    refine S_v E rfl (R_assign E rfl) rfl ?_
    clear E a; intro a E
    refine WL_nil ?_
    refine T_n ?_
    refine WP_seq ?_
    refine WP_region ?_
    refine S_v E rfl (R_move E rfl) rfl ?_
    clear E a; intro a E
    refine S_v E rfl (R_lenV E rfl T22 hu_5.len) rfl ?_
    clear E a; intro a E
    refine S_v E rfl (R_gtr E rfl rfl) rfl ?_
    clear E a; intro a E
    refine WL_nil ?_
    refine T_n ?_
    refine WP_cond E rfl (fun hc_6 => ?_) (fun hc_6 => ?_)
    · replace hc_6 := of_decide_eq_true hc_6
      refine WP_seq ?_
      refine WP_region ?_
      refine S_v E rfl (R_assign E rfl) rfl ?_
      clear E a; intro a E
      refine WL_nil ?_
      refine T_n ?_
      refine WP_ret ?_
      refine B_r ?_
      refine T_r ?_
      refine T_r ?_
      refine B_r ?_
      refine T_r ?_
      exact F_ret1 E Try.results16 rfl ⟨_, rfl, M_1, hM_1, (bF (by ((try clear S); (try clear E); first | assumption | omega | rfl | (simp; done) | (simp_all; done) | (simp [List.take_add_one, *]; done) | grind [List.take_add_one]))), S⟩
    · replace hc_6 := of_decide_eq_false hc_6
      refine WP_skip ?_
      refine B_n ?_
      refine T_n ?_
      refine WP_region ?_
      refine S_v E rfl (R_addx (m := ((k + 1 : Nat) : Int)) E rfl rfl (by omega) (by omega)) rfl ?_
      clear E a; intro a E
      refine S_v E rfl (R_move E rfl) rfl ?_
      clear E a; intro a E
      refine WL_nil ?_
      refine T_n ?_
      exact ⟨k + 1, ⟨M_1, hM_1, S, E.keep ⟨rfl, rfl, rfl, trivial⟩, by ((try clear S); (try clear E); first | assumption | omega | rfl | (simp; done) | (simp_all; done) | (simp [List.take_add_one, *]; done) | grind [List.take_add_one]), by ((try clear S); (try clear E); first | assumption | omega | rfl | (simp; done) | (simp_all; done) | (simp [List.take_add_one, *]; done) | grind [List.take_add_one])⟩, by omega⟩
  · replace hc_2 := of_decide_eq_false hc_2
    refine WP_exit ?_
    refine T_x ?_
    refine T_x ?_
    refine B_x ?_
    refine T_n ?_
    refine WP_seq ?_
    refine WP_region ?_
    refine S_v E rfl (R_assign E rfl) rfl ?_
    clear E a; intro a E
    refine WL_nil ?_
    refine T_n ?_
    refine WP_ret ?_
    exact F_ret1 E Try.results16 rfl ⟨_, rfl, M_1, hM_1, (bT (by ((try clear S); (try clear E); first | assumption | omega | rfl | (simp; done) | (simp_all; done) | (simp [List.take_add_one, *]; done) | grind [List.take_add_one]))), S⟩

set_option maxRecDepth 100000 in
set_option maxHeartbeats 4000000 in
theorem laws_just {M : Hp} {kk0 kn0 : Int} (gk0 : -9223372036854775808 ≤ kn0 ∧ kn0 ≤ 9223372036854775807) :
    Pu Try.prog (.func (.func 24) #[] #[]) M [.agg #[.int .i64 kk0, .int .i64 kn0]] (fun r M' => r = .bool (decide (-1099511627776 < kn0 ∧ kn0 < 1099511627776))) := by
  refine Pu_enter Try.func24 rfl Try.ntmps24 rfl Try.call24 ?_
  intro a w M1 H hM1 S E
  refine WP_seq ?_
  refine WP_region ?_
  refine S_x (X_box (cs := #[.int .i64 kk0, .int .i64 kn0]) E S rfl rfl rfl ?_)
  clear E a S; rintro a w b_1 E S
  obtain ⟨M_2, hM_2, hb_1, S⟩ := S.freezeB
  refine S_v E rfl (R_assign E rfl) rfl ?_
  clear E a; intro a E
  refine WL_nil ?_
  refine T_n ?_
  refine WP_seq ?_
  refine WP_region ?_
  refine S_v E rfl (R_fieldAddr E rfl (FA34_1 _)) rfl ?_
  clear E a; intro a E
  refine S_v E rfl (R_loadM E rfl Try.isAgg3 S.imm (cellM_boxo hb_1 rfl)) rfl ?_
  clear E a; intro a E
  refine S_v E rfl (R_gtr E rfl rfl) rfl ?_
  clear E a; intro a E
  refine S_v E rfl (R_move E rfl) rfl ?_
  clear E a; intro a E
  refine split_bool (decide ((-1099511627776) < kn0)) (fun hc_3 => ?_) (fun hc_3 => ?_)
  · replace E := E.val (t := 5) rfl hc_3
    replace E := E.val (t := 6) rfl hc_3
    replace hc_3 := of_decide_eq_true hc_3
    refine WL_guard_yes E rfl rfl ?_
    refine S_v E rfl (R_fieldAddr E rfl (FA34_1 _)) rfl ?_
    clear E a; intro a E
    refine WL_guard_yes E rfl rfl ?_
    refine S_v E rfl (R_loadM E rfl Try.isAgg3 S.imm (cellM_boxo hb_1 rfl)) rfl ?_
    clear E a; intro a E
    refine WL_guard_yes E rfl rfl ?_
    refine S_v E rfl (R_lss E rfl rfl) rfl ?_
    clear E a; intro a E
    refine S_v E rfl (R_pickT E rfl rfl) rfl ?_
    clear E a; intro a E
    refine S_v E rfl (R_assign E rfl) rfl ?_
    clear E a; intro a E
    refine WL_nil ?_
    refine T_n ?_
    refine WP_ret ?_
    exact F_ret1 E Try.results24 rfl ⟨_, rfl, M_2, hM_2, (congrArg Value.bool (by ((try clear S); (try clear E); first | assumption | omega | rfl | (simp; done) | (simp_all; done) | (simp [List.take_add_one, *]; done) | grind [List.take_add_one]))), S⟩
  · replace E := E.val (t := 5) rfl hc_3
    replace E := E.val (t := 6) rfl hc_3
    replace hc_3 := of_decide_eq_false hc_3
    refine WL_guard_no E rfl rfl rfl rfl fun a E => ?_
    refine WL_guard_no E rfl rfl rfl rfl fun a E => ?_
    refine WL_guard_no E rfl rfl rfl rfl fun a E => ?_
    refine S_v E rfl (R_pickF E rfl rfl) rfl ?_
    clear E a; intro a E
    refine S_v E rfl (R_assign E rfl) rfl ?_
    clear E a; intro a E
    refine WL_nil ?_
    refine T_n ?_
    refine WP_ret ?_
    exact F_ret1 E Try.results24 rfl ⟨_, rfl, M_2, hM_2, (bF (by ((try clear S); (try clear E); first | assumption | omega | rfl | (simp; done) | (simp_all; done) | (simp [List.take_add_one, *]; done) | grind [List.take_add_one]))), S⟩

set_option maxRecDepth 100000 in
set_option maxHeartbeats 4000000 in
theorem laws_modulo {M : Hp} {x0 x1 : Int} (hn : x1 ≠ 0) (g1 : -1099511627776 < x1 ∧ x1 < 1099511627776) :
    Pu Try.prog (.func (.func 114) #[] #[]) M [.int .i64 x0, .int .i64 x1] (fun r M' => r = .int .i64 (x0 % x1)) := by
  refine Pu_enter Try.func114 rfl Try.ntmps114 rfl Try.call114 ?_
  intro a w M1 H hM1 S E
  have ht := tmod_emod x0 x1 hn
  have ht2 := tmod_emod x0 (-x1) (by omega)
  have he : x0 % (-x1) = x0 % x1 := Int.emod_neg ..
  refine WP_seq ?_
  refine WP_region ?_
  refine S_v E rfl (R_assign E rfl) rfl ?_
  clear E a; intro a E
  refine WL_nil ?_
  refine T_n ?_
  refine WP_seq ?_
  refine WP_seq ?_
  refine WP_region ?_
  refine S_v E rfl (R_move E rfl) rfl ?_
  clear E a; intro a E
  refine S_v E rfl (R_lss E rfl rfl) rfl ?_
  clear E a; intro a E
  refine WL_nil ?_
  refine T_n ?_
  refine WP_cond E rfl (fun hc_1 => ?_) (fun hc_1 => ?_)
  · replace hc_1 := of_decide_eq_true hc_1
    refine WP_region ?_
    refine S_v E rfl (R_move E rfl) rfl ?_
    clear E a; intro a E
    refine S_v E rfl (R_negx (m := -x1) E rfl rfl (by omega)) rfl ?_
    clear E a; intro a E
    refine S_v E rfl (R_assign E rfl) rfl ?_
    clear E a; intro a E
    refine WL_nil ?_
    refine T_n ?_
    refine WP_seq ?_
    refine WP_region ?_
    refine S_v E rfl (R_move E rfl) rfl ?_
    clear E a; intro a E
    refine S_v E rfl (R_move E rfl) rfl ?_
    clear E a; intro a E
    refine S_v E rfl (R_rem E rfl rfl (by first | decide | omega)) rfl ?_
    clear E a; intro a E
    refine S_v E rfl (R_assign E rfl) rfl ?_
    clear E a; intro a E
    refine WL_nil ?_
    refine T_n ?_
    refine WP_seq ?_
    refine WP_seq ?_
    refine WP_region ?_
    refine S_v E rfl (R_move E rfl) rfl ?_
    clear E a; intro a E
    refine S_v E rfl (R_lss E rfl rfl) rfl ?_
    clear E a; intro a E
    refine WL_nil ?_
    refine T_n ?_
    refine WP_cond E rfl (fun hc_2 => ?_) (fun hc_2 => ?_)
    · replace hc_2 := of_decide_eq_true hc_2
      refine WP_region ?_
      refine S_v E rfl (R_move E rfl) rfl ?_
      clear E a; intro a E
      refine S_v E rfl (R_move E rfl) rfl ?_
      clear E a; intro a E
      refine S_v E rfl (R_addx (m := (Int.tmod x0 (-x1)) + (-x1)) E rfl rfl (by omega) (by omega)) rfl ?_
      clear E a; intro a E
      refine S_v E rfl (R_assign E rfl) rfl ?_
      clear E a; intro a E
      refine WL_nil ?_
      refine T_n ?_
      refine WP_seq ?_
      refine WP_region ?_
      refine S_v E rfl (R_move E rfl) rfl ?_
      clear E a; intro a E
      refine S_v E rfl (R_assign E rfl) rfl ?_
      clear E a; intro a E
      refine WL_nil ?_
      refine T_n ?_
      refine WP_ret ?_
      exact F_ret1 E Try.results114 rfl ⟨_, rfl, M1, (Hp.le.refl _), (congrArg (Value.int .i64) (by omega)), S⟩
    · replace hc_2 := of_decide_eq_false hc_2
      refine WP_skip ?_
      refine T_n ?_
      refine WP_seq ?_
      refine WP_region ?_
      refine S_v E rfl (R_move E rfl) rfl ?_
      clear E a; intro a E
      refine S_v E rfl (R_assign E rfl) rfl ?_
      clear E a; intro a E
      refine WL_nil ?_
      refine T_n ?_
      refine WP_ret ?_
      exact F_ret1 E Try.results114 rfl ⟨_, rfl, M1, (Hp.le.refl _), (congrArg (Value.int .i64) (by omega)), S⟩
  · replace hc_1 := of_decide_eq_false hc_1
    refine WP_skip ?_
    refine T_n ?_
    refine WP_seq ?_
    refine WP_region ?_
    refine S_v E rfl (R_move E rfl) rfl ?_
    clear E a; intro a E
    refine S_v E rfl (R_move E rfl) rfl ?_
    clear E a; intro a E
    refine S_v E rfl (R_rem E rfl rfl (by first | decide | omega)) rfl ?_
    clear E a; intro a E
    refine S_v E rfl (R_assign E rfl) rfl ?_
    clear E a; intro a E
    refine WL_nil ?_
    refine T_n ?_
    refine WP_seq ?_
    refine WP_seq ?_
    refine WP_region ?_
    refine S_v E rfl (R_move E rfl) rfl ?_
    clear E a; intro a E
    refine S_v E rfl (R_lss E rfl rfl) rfl ?_
    clear E a; intro a E
    refine WL_nil ?_
    refine T_n ?_
    refine WP_cond E rfl (fun hc_3 => ?_) (fun hc_3 => ?_)
    · replace hc_3 := of_decide_eq_true hc_3
      refine WP_region ?_
      refine S_v E rfl (R_move E rfl) rfl ?_
      clear E a; intro a E
      refine S_v E rfl (R_move E rfl) rfl ?_
      clear E a; intro a E
      refine S_v E rfl (R_addx (m := (Int.tmod x0 x1) + x1) E rfl rfl (by omega) (by omega)) rfl ?_
      clear E a; intro a E
      refine S_v E rfl (R_assign E rfl) rfl ?_
      clear E a; intro a E
      refine WL_nil ?_
      refine T_n ?_
      refine WP_seq ?_
      refine WP_region ?_
      refine S_v E rfl (R_move E rfl) rfl ?_
      clear E a; intro a E
      refine S_v E rfl (R_assign E rfl) rfl ?_
      clear E a; intro a E
      refine WL_nil ?_
      refine T_n ?_
      refine WP_ret ?_
      exact F_ret1 E Try.results114 rfl ⟨_, rfl, M1, (Hp.le.refl _), (congrArg (Value.int .i64) (by omega)), S⟩
    · replace hc_3 := of_decide_eq_false hc_3
      refine WP_skip ?_
      refine T_n ?_
      refine WP_seq ?_
      refine WP_region ?_
      refine S_v E rfl (R_move E rfl) rfl ?_
      clear E a; intro a E
      refine S_v E rfl (R_assign E rfl) rfl ?_
      clear E a; intro a E
      refine WL_nil ?_
      refine T_n ?_
      refine WP_ret ?_
      exact F_ret1 E Try.results114 rfl ⟨_, rfl, M1, (Hp.le.refl _), (congrArg (Value.int .i64) (by omega)), S⟩

set_option maxRecDepth 100000 in
set_option maxHeartbeats 4000000 in
theorem laws_stands {M : Hp} {kk0 kn0 : Int} (gk0 : -1099511627776 < kn0 ∧ kn0 < 1099511627776){x1 x2 : Int} :
    Pu Try.prog (.func (.func 26) #[] #[]) M [.agg #[.int .i64 kk0, .int .i64 kn0], .int .i64 x1, .int .i64 x2] (fun r M' => r = .int .i64 (keyAt kk0 kn0 x1 x2)) := by
  refine Pu_enter Try.func26 rfl Try.ntmps26 rfl Try.call26 ?_
  intro a w M1 H hM1 S E
  refine WP_seq ?_
  refine WP_region ?_
  refine S_x (X_box (cs := #[.int .i64 kk0, .int .i64 kn0]) E S rfl rfl rfl ?_)
  clear E a S; rintro a w b_1 E S
  obtain ⟨M_2, hM_2, hb_1, S⟩ := S.freezeB
  refine S_v E rfl (R_assign E rfl) rfl ?_
  clear E a; intro a E
  refine WL_nil ?_
  refine T_n ?_
  refine WP_seq ?_
  refine WP_seq ?_
  refine WP_region ?_
  refine S_v E rfl (R_fieldAddr E rfl (FA34_0 _)) rfl ?_
  clear E a; intro a E
  refine S_v E rfl (R_loadM E rfl Try.isAgg3 S.imm (cellM_boxo hb_1 rfl)) rfl ?_
  clear E a; intro a E
  refine WL_nil ?_
  refine T_n ?_
  refine WP_block ?_
  refine WP_seq ?_
  refine WP_region ?_
  refine S_v E rfl (R_eql E rfl rfl) rfl ?_
  clear E a; intro a E
  refine S_v E rfl (R_assign E rfl) rfl ?_
  clear E a; intro a E
  refine WL_nil ?_
  refine T_n ?_
  refine WP_cond E rfl (fun hc_3 => ?_) (fun hc_3 => ?_)
  · replace hc_3 := of_decide_eq_true hc_3
    refine WP_seq ?_
    refine WP_region ?_
    refine S_v E rfl (R_move E rfl) rfl ?_
    clear E a; intro a E
    refine S_v E rfl (R_fieldAddr E rfl (FA34_1 _)) rfl ?_
    clear E a; intro a E
    refine S_v E rfl (R_loadM E rfl Try.isAgg3 S.imm (cellM_boxo hb_1 rfl)) rfl ?_
    clear E a; intro a E
    refine S_v E rfl (R_add E rfl rfl) rfl ?_
    clear E a; intro a E
    refine S_v E rfl (R_assign E rfl) rfl ?_
    clear E a; intro a E
    refine WL_nil ?_
    refine T_n ?_
    refine WP_ret ?_
    refine B_r ?_
    refine T_r ?_
    exact F_ret1 E Try.results26 rfl ⟨_, rfl, M_2, hM_2, (congrArg (Value.int .i64) (by (clear E S; unfold keyAt w64; first | (simp [*]; done) | (simp_all; done)))), S⟩
  · replace hc_3 := of_decide_eq_false hc_3
    refine WP_seq ?_
    refine WP_region ?_
    refine S_v E rfl (R_eql E rfl rfl) rfl ?_
    clear E a; intro a E
    refine S_v E rfl (R_assign E rfl) rfl ?_
    clear E a; intro a E
    refine WL_nil ?_
    refine T_n ?_
    refine WP_cond E rfl (fun hc_4 => ?_) (fun hc_4 => ?_)
    · replace hc_4 := of_decide_eq_true hc_4
      refine WP_seq ?_
      refine WP_region ?_
      refine S_v E rfl (R_move E rfl) rfl ?_
      clear E a; intro a E
      refine S_v E rfl (R_fieldAddr E rfl (FA34_1 _)) rfl ?_
      clear E a; intro a E
      refine S_v E rfl (R_loadM E rfl Try.isAgg3 S.imm (cellM_boxo hb_1 rfl)) rfl ?_
      clear E a; intro a E
      refine S_v E rfl (R_mul E rfl rfl) rfl ?_
      clear E a; intro a E
      refine S_v E rfl (R_assign E rfl) rfl ?_
      clear E a; intro a E
      refine WL_nil ?_
      refine T_n ?_
      refine WP_ret ?_
      refine B_r ?_
      refine T_r ?_
      exact F_ret1 E Try.results26 rfl ⟨_, rfl, M_2, hM_2, (congrArg (Value.int .i64) (by (clear E S; unfold keyAt w64; first | (simp [*]; done) | (simp_all; done)))), S⟩
    · replace hc_4 := of_decide_eq_false hc_4
      refine WP_seq ?_
      refine WP_region ?_
      refine S_v E rfl (R_eql E rfl rfl) rfl ?_
      clear E a; intro a E
      refine S_v E rfl (R_assign E rfl) rfl ?_
      clear E a; intro a E
      refine WL_nil ?_
      refine T_n ?_
      refine WP_cond E rfl (fun hc_5 => ?_) (fun hc_5 => ?_)
      · replace hc_5 := of_decide_eq_true hc_5
        refine WP_seq ?_
        refine WP_region ?_
        refine S_v E rfl (R_fieldAddr E rfl (FA34_1 _)) rfl ?_
        clear E a; intro a E
        refine S_v E rfl (R_loadM E rfl Try.isAgg3 S.imm (cellM_boxo hb_1 rfl)) rfl ?_
        clear E a; intro a E
        refine S_v E rfl (R_neq E rfl rfl) rfl ?_
        clear E a; intro a E
        refine WL_nil ?_
        refine T_n ?_
        refine WP_cond E rfl (fun hc_6 => ?_) (fun hc_6 => ?_)
        · replace hc_6 := of_decide_eq_true hc_6
          refine WP_seq ?_
          refine WP_region ?_
          refine S_v E rfl (R_move E rfl) rfl ?_
          clear E a; intro a E
          refine S_v E rfl (R_fieldAddr E rfl (FA34_1 _)) rfl ?_
          clear E a; intro a E
          refine S_v E rfl (R_loadM E rfl Try.isAgg3 S.imm (cellM_boxo hb_1 rfl)) rfl ?_
          clear E a; intro a E
          refine S_x (X_pu E S rfl rfl rfl (laws_modulo (by first | omega | assumption) (by omega)) (Hp.le.refl _) ?_)
          clear E a S; rintro a _ w M_7 hM_7 rfl S E
          replace hb_1 := hM_7.2 _ _ hb_1
          refine S_v E rfl (R_assign E rfl) rfl ?_
          clear E a; intro a E
          refine WL_nil ?_
          refine T_n ?_
          refine WP_ret ?_
          refine B_r ?_
          refine T_r ?_
          exact F_ret1 E Try.results26 rfl ⟨_, rfl, M_7, (hM_2.trans hM_7), (congrArg (Value.int .i64) (by (clear E S; unfold keyAt w64; first | (simp [*]; done) | (simp_all; done)))), S⟩
        · replace hc_6 := of_decide_eq_false hc_6
          refine WP_skip ?_
          refine B_n ?_
          refine T_n ?_
          refine WP_seq ?_
          refine WP_region ?_
          refine S_v E rfl (R_move E rfl) rfl ?_
          clear E a; intro a E
          refine S_v E rfl (R_assign E rfl) rfl ?_
          clear E a; intro a E
          refine WL_nil ?_
          refine T_n ?_
          refine WP_ret ?_
          exact F_ret1 E Try.results26 rfl ⟨_, rfl, M_2, hM_2, (congrArg (Value.int .i64) (by (clear E S; unfold keyAt w64; first | (simp [*]; done) | (simp_all; done)))), S⟩
      · replace hc_5 := of_decide_eq_false hc_5
        refine WP_seq ?_
        refine WP_region ?_
        refine S_v E rfl (R_eql E rfl rfl) rfl ?_
        clear E a; intro a E
        refine S_v E rfl (R_assign E rfl) rfl ?_
        clear E a; intro a E
        refine WL_nil ?_
        refine T_n ?_
        refine WP_cond E rfl (fun hc_8 => ?_) (fun hc_8 => ?_)
        · replace hc_8 := of_decide_eq_true hc_8
          refine WP_seq ?_
          refine WP_region ?_
          refine S_v E rfl (R_fieldAddr E rfl (FA34_1 _)) rfl ?_
          clear E a; intro a E
          refine S_v E rfl (R_loadM E rfl Try.isAgg3 S.imm (cellM_boxo hb_1 rfl)) rfl ?_
          clear E a; intro a E
          refine S_v E rfl (R_assign E rfl) rfl ?_
          clear E a; intro a E
          refine WL_nil ?_
          refine T_n ?_
          refine WP_ret ?_
          refine B_r ?_
          refine T_r ?_
          exact F_ret1 E Try.results26 rfl ⟨_, rfl, M_2, hM_2, (congrArg (Value.int .i64) (by (clear E S; unfold keyAt w64; first | (simp [*]; done) | (simp_all; done)))), S⟩
        · replace hc_8 := of_decide_eq_false hc_8
          refine WP_seq ?_
          refine WP_region ?_
          refine S_v E rfl (R_eql E rfl rfl) rfl ?_
          clear E a; intro a E
          refine S_v E rfl (R_assign E rfl) rfl ?_
          clear E a; intro a E
          refine WL_nil ?_
          refine T_n ?_
          refine WP_cond E rfl (fun hc_9 => ?_) (fun hc_9 => ?_)
          · replace hc_9 := of_decide_eq_true hc_9
            refine WP_seq ?_
            refine WP_region ?_
            refine S_v E rfl (R_move E rfl) rfl ?_
            clear E a; intro a E
            refine S_v E rfl (R_assign E rfl) rfl ?_
            clear E a; intro a E
            refine WL_nil ?_
            refine T_n ?_
            refine WP_ret ?_
            refine B_r ?_
            refine T_r ?_
            exact F_ret1 E Try.results26 rfl ⟨_, rfl, M_2, hM_2, (congrArg (Value.int .i64) (by (clear E S; unfold keyAt w64; first | (simp [*]; done) | (simp_all; done)))), S⟩
          · replace hc_9 := of_decide_eq_false hc_9
            refine WP_skip ?_
            refine B_n ?_
            refine T_n ?_
            refine WP_seq ?_
            refine WP_region ?_
            refine S_v E rfl (R_move E rfl) rfl ?_
            clear E a; intro a E
            refine S_v E rfl (R_assign E rfl) rfl ?_
            clear E a; intro a E
            refine WL_nil ?_
            refine T_n ?_
            refine WP_ret ?_
            exact F_ret1 E Try.results26 rfl ⟨_, rfl, M_2, hM_2, (congrArg (Value.int .i64) (by (clear E S; unfold keyAt w64; first | (simp [*]; done) | (simp_all; done)))), S⟩

set_option maxRecDepth 100000 in
set_option maxHeartbeats 4000000 in
theorem spec_mod {M : Hp} {x0 x1 : Int} (hn : x1 ≠ 0) (g0 : -9223372036854775808 ≤ x0 ∧ x0 ≤ 9223372036854775807) (g1 : -9223372036854775808 ≤ x1 ∧ x1 ≤ 9223372036854775807) :
    Pu Try.prog (.func (.func 221) #[] #[]) M [.int .i64 x0, .int .i64 x1] (fun r M' => r = .int .i64 (x0 % x1)) := by
  refine Pu_enter Try.func221 rfl Try.ntmps221 rfl Try.call221 ?_
  intro a w M1 H hM1 S E
  refine WP_seq ?_
  refine WP_region ?_
  refine S_v E rfl (R_assign E rfl) rfl ?_
  clear E a; intro a E
  refine WL_nil ?_
  refine T_n ?_
  refine WP_seq ?_
  refine WP_region ?_
  refine S_v E rfl (R_move E rfl) rfl ?_
  clear E a; intro a E
  refine S_v E rfl (R_convm (m := x1 % 18446744073709551616) E rfl Try.underlying3 Try.underlying124 (by first | (rw [u64_wrap]; omega) | rw [u64_wrap])) rfl ?_
  clear E a; intro a E
  refine S_v E rfl (R_assign E rfl) rfl ?_
  clear E a; intro a E
  refine WL_nil ?_
  refine T_n ?_
  refine WP_seq ?_
  refine WP_seq ?_
  refine WP_region ?_
  refine S_v E rfl (R_move E rfl) rfl ?_
  clear E a; intro a E
  refine S_v E rfl (R_lss E rfl rfl) rfl ?_
  clear E a; intro a E
  refine WL_nil ?_
  refine T_n ?_
  refine WP_cond E rfl (fun hc_1 => ?_) (fun hc_1 => ?_)
  · replace hc_1 := of_decide_eq_true hc_1
    refine WP_region ?_
    refine S_v E rfl (R_move E rfl) rfl ?_
    clear E a; intro a E
    refine S_v E rfl (R_negm (m := -x1) E rfl (by first | (rw [u64_wrap]; omega) | rw [u64_wrap])) rfl ?_
    clear E a; intro a E
    refine S_v E rfl (R_assign E rfl) rfl ?_
    clear E a; intro a E
    refine WL_nil ?_
    refine T_n ?_
    refine WP_seq ?_
    refine WP_seq ?_
    refine WP_region ?_
    refine S_v E rfl (R_move E rfl) rfl ?_
    clear E a; intro a E
    refine S_v E rfl (R_geq E rfl rfl) rfl ?_
    clear E a; intro a E
    refine WL_nil ?_
    refine T_n ?_
    refine WP_cond E rfl (fun hc_2 => ?_) (fun hc_2 => ?_)
    · replace hc_2 := of_decide_eq_true hc_2
      refine WP_seq ?_
      refine WP_region ?_
      refine S_v E rfl (R_move E rfl) rfl ?_
      clear E a; intro a E
      refine S_v E rfl (R_convm (m := x0) E rfl Try.underlying3 Try.underlying124 (by first | (rw [u64_wrap]; omega) | rw [u64_wrap])) rfl ?_
      clear E a; intro a E
      refine S_v E rfl (R_move E rfl) rfl ?_
      clear E a; intro a E
      have hr_3 := tmod_nn (p := x0) (q := -x1) (by omega) (by omega)
      refine S_v E rfl (R_rem E rfl rfl (by first | decide | omega)) rfl ?_
      clear E a; intro a E
      refine S_v E rfl (R_convx E rfl Try.underlying124 Try.underlying3 (by omega)) rfl ?_
      clear E a; intro a E
      refine S_v E rfl (R_assign E rfl) rfl ?_
      clear E a; intro a E
      refine WL_nil ?_
      refine T_n ?_
      refine WP_ret ?_
      refine T_r ?_
      exact F_ret1 E Try.results221 rfl ⟨_, rfl, M1, (Hp.le.refl _), (congrArg (Value.int .i64) (by (clear E S; first | (have en : x1 < 0 := (by omega); have e3 : x0 % (-x1) = x0 % x1 := Int.emod_neg ..; have a1 := modA x0 (-x1) (by omega); omega) | (have e : x1 % 18446744073709551616 = x1 := (by omega); simp only [e] at *; have a1 := modA x0 x1 (by omega); omega)))), S⟩
    · replace hc_2 := of_decide_eq_false hc_2
      refine WP_skip ?_
      refine T_n ?_
      refine WP_seq ?_
      refine WP_region ?_
      refine S_v E rfl (R_move E rfl) rfl ?_
      clear E a; intro a E
      refine S_v E rfl (R_convm (m := x0 % 18446744073709551616) E rfl Try.underlying3 Try.underlying124 (by first | (rw [u64_wrap]; omega) | rw [u64_wrap])) rfl ?_
      clear E a; intro a E
      refine S_v E rfl (R_negm (m := -x0) E rfl (by first | (rw [u64_wrap]; omega) | rw [u64_wrap])) rfl ?_
      clear E a; intro a E
      refine S_v E rfl (R_move E rfl) rfl ?_
      clear E a; intro a E
      have hr_4 := tmod_nn (p := -x0) (q := -x1) (by omega) (by omega)
      refine S_v E rfl (R_rem E rfl rfl (by first | decide | omega)) rfl ?_
      clear E a; intro a E
      refine S_v E rfl (R_assign E rfl) rfl ?_
      clear E a; intro a E
      refine WL_nil ?_
      refine T_n ?_
      refine WP_seq ?_
      refine WP_seq ?_
      refine WP_region ?_
      refine S_v E rfl (R_move E rfl) rfl ?_
      clear E a; intro a E
      refine S_v E rfl (R_gtr E rfl rfl) rfl ?_
      clear E a; intro a E
      refine WL_nil ?_
      refine T_n ?_
      refine WP_cond E rfl (fun hc_5 => ?_) (fun hc_5 => ?_)
      · replace hc_5 := of_decide_eq_true hc_5
        refine WP_region ?_
        refine S_v E rfl (R_move E rfl) rfl ?_
        clear E a; intro a E
        refine S_v E rfl (R_move E rfl) rfl ?_
        clear E a; intro a E
        refine S_v E rfl (R_subm (m := (-x1) - (Int.tmod (-x0) (-x1))) E rfl rfl (by first | (rw [u64_wrap]; omega) | rw [u64_wrap])) rfl ?_
        clear E a; intro a E
        refine S_v E rfl (R_assign E rfl) rfl ?_
        clear E a; intro a E
        refine WL_nil ?_
        refine T_n ?_
        refine WP_seq ?_
        refine WP_region ?_
        refine S_v E rfl (R_move E rfl) rfl ?_
        clear E a; intro a E
        refine S_v E rfl (R_convx E rfl Try.underlying124 Try.underlying3 (by omega)) rfl ?_
        clear E a; intro a E
        refine S_v E rfl (R_assign E rfl) rfl ?_
        clear E a; intro a E
        refine WL_nil ?_
        refine T_n ?_
        refine WP_ret ?_
        exact F_ret1 E Try.results221 rfl ⟨_, rfl, M1, (Hp.le.refl _), (congrArg (Value.int .i64) (by (clear E S; first | (have en : x1 < 0 := (by omega); have e3 : x0 % (-x1) = x0 % x1 := Int.emod_neg ..; have a1 := modA x0 (-x1) (by omega); omega) | (have e : x1 % 18446744073709551616 = x1 := (by omega); simp only [e] at *; have a1 := modA x0 x1 (by omega); omega)))), S⟩
      · replace hc_5 := of_decide_eq_false hc_5
        refine WP_skip ?_
        refine T_n ?_
        refine WP_seq ?_
        refine WP_region ?_
        refine S_v E rfl (R_move E rfl) rfl ?_
        clear E a; intro a E
        refine S_v E rfl (R_convx E rfl Try.underlying124 Try.underlying3 (by omega)) rfl ?_
        clear E a; intro a E
        refine S_v E rfl (R_assign E rfl) rfl ?_
        clear E a; intro a E
        refine WL_nil ?_
        refine T_n ?_
        refine WP_ret ?_
        exact F_ret1 E Try.results221 rfl ⟨_, rfl, M1, (Hp.le.refl _), (congrArg (Value.int .i64) (by (clear E S; first | (have en : x1 < 0 := (by omega); have e3 : x0 % (-x1) = x0 % x1 := Int.emod_neg ..; have a1 := modA x0 (-x1) (by omega); omega) | (have e : x1 % 18446744073709551616 = x1 := (by omega); simp only [e] at *; have a1 := modA x0 x1 (by omega); omega)))), S⟩
  · replace hc_1 := of_decide_eq_false hc_1
    refine WP_skip ?_
    refine T_n ?_
    refine WP_seq ?_
    refine WP_seq ?_
    refine WP_region ?_
    refine S_v E rfl (R_move E rfl) rfl ?_
    clear E a; intro a E
    refine S_v E rfl (R_geq E rfl rfl) rfl ?_
    clear E a; intro a E
    refine WL_nil ?_
    refine T_n ?_
    refine WP_cond E rfl (fun hc_6 => ?_) (fun hc_6 => ?_)
    · replace hc_6 := of_decide_eq_true hc_6
      refine WP_seq ?_
      refine WP_region ?_
      refine S_v E rfl (R_move E rfl) rfl ?_
      clear E a; intro a E
      refine S_v E rfl (R_convm (m := x0) E rfl Try.underlying3 Try.underlying124 (by first | (rw [u64_wrap]; omega) | rw [u64_wrap])) rfl ?_
      clear E a; intro a E
      refine S_v E rfl (R_move E rfl) rfl ?_
      clear E a; intro a E
      have hr_7 := tmod_nn (p := x0) (q := x1 % 18446744073709551616) (by omega) (by omega)
      refine S_v E rfl (R_rem E rfl rfl (by first | decide | omega)) rfl ?_
      clear E a; intro a E
      refine S_v E rfl (R_convx E rfl Try.underlying124 Try.underlying3 (by omega)) rfl ?_
      clear E a; intro a E
      refine S_v E rfl (R_assign E rfl) rfl ?_
      clear E a; intro a E
      refine WL_nil ?_
      refine T_n ?_
      refine WP_ret ?_
      refine T_r ?_
      exact F_ret1 E Try.results221 rfl ⟨_, rfl, M1, (Hp.le.refl _), (congrArg (Value.int .i64) (by (clear E S; first | (have en : x1 < 0 := (by omega); have e3 : x0 % (-x1) = x0 % x1 := Int.emod_neg ..; have a1 := modA x0 (-x1) (by omega); omega) | (have e : x1 % 18446744073709551616 = x1 := (by omega); simp only [e] at *; have a1 := modA x0 x1 (by omega); omega)))), S⟩
    · replace hc_6 := of_decide_eq_false hc_6
      refine WP_skip ?_
      refine T_n ?_
      refine WP_seq ?_
      refine WP_region ?_
      refine S_v E rfl (R_move E rfl) rfl ?_
      clear E a; intro a E
      refine S_v E rfl (R_convm (m := x0 % 18446744073709551616) E rfl Try.underlying3 Try.underlying124 (by first | (rw [u64_wrap]; omega) | rw [u64_wrap])) rfl ?_
      clear E a; intro a E
      refine S_v E rfl (R_negm (m := -x0) E rfl (by first | (rw [u64_wrap]; omega) | rw [u64_wrap])) rfl ?_
      clear E a; intro a E
      refine S_v E rfl (R_move E rfl) rfl ?_
      clear E a; intro a E
      have hr_8 := tmod_nn (p := -x0) (q := x1 % 18446744073709551616) (by omega) (by omega)
      refine S_v E rfl (R_rem E rfl rfl (by first | decide | omega)) rfl ?_
      clear E a; intro a E
      refine S_v E rfl (R_assign E rfl) rfl ?_
      clear E a; intro a E
      refine WL_nil ?_
      refine T_n ?_
      refine WP_seq ?_
      refine WP_seq ?_
      refine WP_region ?_
      refine S_v E rfl (R_move E rfl) rfl ?_
      clear E a; intro a E
      refine S_v E rfl (R_gtr E rfl rfl) rfl ?_
      clear E a; intro a E
      refine WL_nil ?_
      refine T_n ?_
      refine WP_cond E rfl (fun hc_9 => ?_) (fun hc_9 => ?_)
      · replace hc_9 := of_decide_eq_true hc_9
        refine WP_region ?_
        refine S_v E rfl (R_move E rfl) rfl ?_
        clear E a; intro a E
        refine S_v E rfl (R_move E rfl) rfl ?_
        clear E a; intro a E
        refine S_v E rfl (R_subm (m := (x1 % 18446744073709551616) - (Int.tmod (-x0) (x1 % 18446744073709551616))) E rfl rfl (by first | (rw [u64_wrap]; omega) | rw [u64_wrap])) rfl ?_
        clear E a; intro a E
        refine S_v E rfl (R_assign E rfl) rfl ?_
        clear E a; intro a E
        refine WL_nil ?_
        refine T_n ?_
        refine WP_seq ?_
        refine WP_region ?_
        refine S_v E rfl (R_move E rfl) rfl ?_
        clear E a; intro a E
        refine S_v E rfl (R_convx E rfl Try.underlying124 Try.underlying3 (by omega)) rfl ?_
        clear E a; intro a E
        refine S_v E rfl (R_assign E rfl) rfl ?_
        clear E a; intro a E
        refine WL_nil ?_
        refine T_n ?_
        refine WP_ret ?_
        exact F_ret1 E Try.results221 rfl ⟨_, rfl, M1, (Hp.le.refl _), (congrArg (Value.int .i64) (by (clear E S; first | (have en : x1 < 0 := (by omega); have e3 : x0 % (-x1) = x0 % x1 := Int.emod_neg ..; have a1 := modA x0 (-x1) (by omega); omega) | (have e : x1 % 18446744073709551616 = x1 := (by omega); simp only [e] at *; have a1 := modA x0 x1 (by omega); omega)))), S⟩
      · replace hc_9 := of_decide_eq_false hc_9
        refine WP_skip ?_
        refine T_n ?_
        refine WP_seq ?_
        refine WP_region ?_
        refine S_v E rfl (R_move E rfl) rfl ?_
        clear E a; intro a E
        refine S_v E rfl (R_convx E rfl Try.underlying124 Try.underlying3 (by omega)) rfl ?_
        clear E a; intro a E
        refine S_v E rfl (R_assign E rfl) rfl ?_
        clear E a; intro a E
        refine WL_nil ?_
        refine T_n ?_
        refine WP_ret ?_
        exact F_ret1 E Try.results221 rfl ⟨_, rfl, M1, (Hp.le.refl _), (congrArg (Value.int .i64) (by (clear E S; first | (have en : x1 < 0 := (by omega); have e3 : x0 % (-x1) = x0 % x1 := Int.emod_neg ..; have a1 := modA x0 (-x1) (by omega); omega) | (have e : x1 % 18446744073709551616 = x1 := (by omega); simp only [e] at *; have a1 := modA x0 x1 (by omega); omega)))), S⟩

set_option maxRecDepth 100000 in
set_option maxHeartbeats 4000000 in
theorem SKey_Of_c {M : Hp} {kk0 kn0 : Int} (gk0 : -9223372036854775808 ≤ kn0 ∧ kn0 ≤ 9223372036854775807){x1 x2 : Int} (gx : -9223372036854775808 ≤ x1 ∧ x1 ≤ 9223372036854775807) :
    PuC Try.prog 145 M [.agg #[.int .i64 kk0, .int .i64 kn0], .int .i64 x1, .int .i64 x2] (fun r M' => r = .int .i64 (keyAt kk0 kn0 x1 x2)) := by
  refine PuC_enter Try.func145 rfl Try.ntmps145 rfl ?_
  intro a w M1 H hM1 S E
  refine WP_seq ?_
  refine WP_region ?_
  refine S_x (X_box (cs := #[.int .i64 kk0, .int .i64 kn0]) E S rfl rfl rfl ?_)
  clear E a S; rintro a w b_1 E S
  obtain ⟨M_2, hM_2, hb_1, S⟩ := S.freezeB
  refine S_v E rfl (R_assign E rfl) rfl ?_
  clear E a; intro a E
  refine WL_nil ?_
  refine T_n ?_
  refine WP_seq ?_
  refine WP_seq ?_
  refine WP_region ?_
  refine S_v E rfl (R_fieldAddr E rfl (FA52_0 _)) rfl ?_
  clear E a; intro a E
  refine S_v E rfl (R_loadM E rfl Try.isAgg3 S.imm (cellM_boxo hb_1 rfl)) rfl ?_
  clear E a; intro a E
  refine WL_nil ?_
  refine T_n ?_
  refine WP_block ?_
  refine WP_seq ?_
  refine WP_region ?_
  refine S_v E rfl (R_eql E rfl rfl) rfl ?_
  clear E a; intro a E
  refine S_v E rfl (R_assign E rfl) rfl ?_
  clear E a; intro a E
  refine WL_nil ?_
  refine T_n ?_
  refine WP_cond E rfl (fun hc_3 => ?_) (fun hc_3 => ?_)
  · replace hc_3 := of_decide_eq_true hc_3
    refine WP_seq ?_
    refine WP_region ?_
    refine S_v E rfl (R_move E rfl) rfl ?_
    clear E a; intro a E
    refine S_v E rfl (R_fieldAddr E rfl (FA52_1 _)) rfl ?_
    clear E a; intro a E
    refine S_v E rfl (R_loadM E rfl Try.isAgg3 S.imm (cellM_boxo hb_1 rfl)) rfl ?_
    clear E a; intro a E
    refine S_v E rfl (R_add E rfl rfl) rfl ?_
    clear E a; intro a E
    refine S_v E rfl (R_assign E rfl) rfl ?_
    clear E a; intro a E
    refine WL_nil ?_
    refine T_n ?_
    refine WP_ret ?_
    refine B_r ?_
    refine T_r ?_
    exact F_ret1 E Try.results145 rfl ⟨_, rfl, M_2, hM_2, (congrArg (Value.int .i64) (by (clear E S; unfold keyAt w64; first | (simp [*]; done) | (simp_all; done)))), S⟩
  · replace hc_3 := of_decide_eq_false hc_3
    refine WP_seq ?_
    refine WP_region ?_
    refine S_v E rfl (R_eql E rfl rfl) rfl ?_
    clear E a; intro a E
    refine S_v E rfl (R_assign E rfl) rfl ?_
    clear E a; intro a E
    refine WL_nil ?_
    refine T_n ?_
    refine WP_cond E rfl (fun hc_4 => ?_) (fun hc_4 => ?_)
    · replace hc_4 := of_decide_eq_true hc_4
      refine WP_seq ?_
      refine WP_region ?_
      refine S_v E rfl (R_move E rfl) rfl ?_
      clear E a; intro a E
      refine S_v E rfl (R_fieldAddr E rfl (FA52_1 _)) rfl ?_
      clear E a; intro a E
      refine S_v E rfl (R_loadM E rfl Try.isAgg3 S.imm (cellM_boxo hb_1 rfl)) rfl ?_
      clear E a; intro a E
      refine S_v E rfl (R_mul E rfl rfl) rfl ?_
      clear E a; intro a E
      refine S_v E rfl (R_assign E rfl) rfl ?_
      clear E a; intro a E
      refine WL_nil ?_
      refine T_n ?_
      refine WP_ret ?_
      refine B_r ?_
      refine T_r ?_
      exact F_ret1 E Try.results145 rfl ⟨_, rfl, M_2, hM_2, (congrArg (Value.int .i64) (by (clear E S; unfold keyAt w64; first | (simp [*]; done) | (simp_all; done)))), S⟩
    · replace hc_4 := of_decide_eq_false hc_4
      refine WP_seq ?_
      refine WP_region ?_
      refine S_v E rfl (R_eql E rfl rfl) rfl ?_
      clear E a; intro a E
      refine S_v E rfl (R_assign E rfl) rfl ?_
      clear E a; intro a E
      refine WL_nil ?_
      refine T_n ?_
      refine WP_cond E rfl (fun hc_5 => ?_) (fun hc_5 => ?_)
      · replace hc_5 := of_decide_eq_true hc_5
        refine WP_seq ?_
        refine WP_region ?_
        refine S_v E rfl (R_fieldAddr E rfl (FA52_1 _)) rfl ?_
        clear E a; intro a E
        refine S_v E rfl (R_loadM E rfl Try.isAgg3 S.imm (cellM_boxo hb_1 rfl)) rfl ?_
        clear E a; intro a E
        refine S_v E rfl (R_neq E rfl rfl) rfl ?_
        clear E a; intro a E
        refine WL_nil ?_
        refine T_n ?_
        refine WP_cond E rfl (fun hc_6 => ?_) (fun hc_6 => ?_)
        · replace hc_6 := of_decide_eq_true hc_6
          refine WP_seq ?_
          refine WP_region ?_
          refine S_v E rfl (R_move E rfl) rfl ?_
          clear E a; intro a E
          refine S_v E rfl (R_fieldAddr E rfl (FA52_1 _)) rfl ?_
          clear E a; intro a E
          refine S_v E rfl (R_loadM E rfl Try.isAgg3 S.imm (cellM_boxo hb_1 rfl)) rfl ?_
          clear E a; intro a E
          refine S_x (X_pu E S rfl rfl rfl (spec_mod (by first | omega | assumption) (by omega) (by omega)) (Hp.le.refl _) ?_)
          clear E a S; rintro a _ w M_7 hM_7 rfl S E
          replace hb_1 := hM_7.2 _ _ hb_1
          refine S_v E rfl (R_assign E rfl) rfl ?_
          clear E a; intro a E
          refine WL_nil ?_
          refine T_n ?_
          refine WP_ret ?_
          refine B_r ?_
          refine T_r ?_
          exact F_ret1 E Try.results145 rfl ⟨_, rfl, M_7, (hM_2.trans hM_7), (congrArg (Value.int .i64) (by (clear E S; unfold keyAt w64; first | (simp [*]; done) | (simp_all; done)))), S⟩
        · replace hc_6 := of_decide_eq_false hc_6
          refine WP_skip ?_
          refine B_n ?_
          refine T_n ?_
          refine WP_seq ?_
          refine WP_region ?_
          refine S_v E rfl (R_move E rfl) rfl ?_
          clear E a; intro a E
          refine S_v E rfl (R_assign E rfl) rfl ?_
          clear E a; intro a E
          refine WL_nil ?_
          refine T_n ?_
          refine WP_ret ?_
          exact F_ret1 E Try.results145 rfl ⟨_, rfl, M_2, hM_2, (congrArg (Value.int .i64) (by (clear E S; unfold keyAt w64; first | (simp [*]; done) | (simp_all; done)))), S⟩
      · replace hc_5 := of_decide_eq_false hc_5
        refine WP_seq ?_
        refine WP_region ?_
        refine S_v E rfl (R_eql E rfl rfl) rfl ?_
        clear E a; intro a E
        refine S_v E rfl (R_assign E rfl) rfl ?_
        clear E a; intro a E
        refine WL_nil ?_
        refine T_n ?_
        refine WP_cond E rfl (fun hc_8 => ?_) (fun hc_8 => ?_)
        · replace hc_8 := of_decide_eq_true hc_8
          refine WP_seq ?_
          refine WP_region ?_
          refine S_v E rfl (R_fieldAddr E rfl (FA52_1 _)) rfl ?_
          clear E a; intro a E
          refine S_v E rfl (R_loadM E rfl Try.isAgg3 S.imm (cellM_boxo hb_1 rfl)) rfl ?_
          clear E a; intro a E
          refine S_v E rfl (R_assign E rfl) rfl ?_
          clear E a; intro a E
          refine WL_nil ?_
          refine T_n ?_
          refine WP_ret ?_
          refine B_r ?_
          refine T_r ?_
          exact F_ret1 E Try.results145 rfl ⟨_, rfl, M_2, hM_2, (congrArg (Value.int .i64) (by (clear E S; unfold keyAt w64; first | (simp [*]; done) | (simp_all; done)))), S⟩
        · replace hc_8 := of_decide_eq_false hc_8
          refine WP_seq ?_
          refine WP_region ?_
          refine S_v E rfl (R_eql E rfl rfl) rfl ?_
          clear E a; intro a E
          refine S_v E rfl (R_assign E rfl) rfl ?_
          clear E a; intro a E
          refine WL_nil ?_
          refine T_n ?_
          refine WP_cond E rfl (fun hc_9 => ?_) (fun hc_9 => ?_)
          · replace hc_9 := of_decide_eq_true hc_9
            refine WP_seq ?_
            refine WP_region ?_
            refine S_v E rfl (R_move E rfl) rfl ?_
            clear E a; intro a E
            refine S_v E rfl (R_assign E rfl) rfl ?_
            clear E a; intro a E
            refine WL_nil ?_
            refine T_n ?_
            refine WP_ret ?_
            refine B_r ?_
            refine T_r ?_
            exact F_ret1 E Try.results145 rfl ⟨_, rfl, M_2, hM_2, (congrArg (Value.int .i64) (by (clear E S; unfold keyAt w64; first | (simp [*]; done) | (simp_all; done)))), S⟩
          · replace hc_9 := of_decide_eq_false hc_9
            refine WP_skip ?_
            refine B_n ?_
            refine T_n ?_
            refine WP_seq ?_
            refine WP_region ?_
            refine S_v E rfl (R_move E rfl) rfl ?_
            clear E a; intro a E
            refine S_v E rfl (R_assign E rfl) rfl ?_
            clear E a; intro a E
            refine WL_nil ?_
            refine T_n ?_
            refine WP_ret ?_
            exact F_ret1 E Try.results145 rfl ⟨_, rfl, M_2, hM_2, (congrArg (Value.int .i64) (by (clear E S; unfold keyAt w64; first | (simp [*]; done) | (simp_all; done)))), S⟩
theorem SKey_Of {M : Hp} {kk0 kn0 : Int} (gk0 : -9223372036854775808 ≤ kn0 ∧ kn0 ≤ 9223372036854775807){x1 x2 : Int} (gx : -9223372036854775808 ≤ x1 ∧ x1 ≤ 9223372036854775807) :
    Pu Try.prog (.func (.func 145) #[.agg #[.int .i64 kk0, .int .i64 kn0]] #[]) M [.int .i64 x1, .int .i64 x2] (fun r M' => r = .int .i64 (keyAt kk0 kn0 x1 x2)) := PuC.pu Try.call145 rfl (SKey_Of_c gk0 gx)
theorem SKey_Of_d {M : Hp} {kk0 kn0 : Int} (gk0 : -9223372036854775808 ≤ kn0 ∧ kn0 ≤ 9223372036854775807){x1 x2 : Int} (gx : -9223372036854775808 ≤ x1 ∧ x1 ≤ 9223372036854775807) :
    Pu Try.prog (.func (.func 145) #[] #[]) M [.agg #[.int .i64 kk0, .int .i64 kn0], .int .i64 x1, .int .i64 x2] (fun r M' => r = .int .i64 (keyAt kk0 kn0 x1 x2)) := PuC.pu Try.call145 rfl (SKey_Of_c gk0 gx)

set_option maxRecDepth 100000 in
set_option maxHeartbeats 4000000 in
theorem spec_Map {M : Hp} {v0 : Value} {l0 : List Int} (h0 : RdI M v0 l0){kk1 kn1 : Int} (gk1 : -9223372036854775808 ≤ kn1 ∧ kn1 ≤ 9223372036854775807) (hb : l0.length ≤ 1000000000000) (hr0 : (∀ x ∈ l0, -9223372036854775808 ≤ x ∧ x ≤ 9223372036854775807)) :
    Pu Try.prog (.func (.func 58) #[] #[]) M [v0, .agg #[.int .i64 kk1, .int .i64 kn1]] (fun r M' => RdI M' r (mapI (keyAt kk1 kn1) 0 l0)) := by
  refine Pu_enter Try.func58 rfl Try.ntmps58 rfl Try.call58 ?_
  intro a w M1 H hM1 S E
  replace h0 := h0.le hM1
  have b0 := h0.bound
  refine WP_seq ?_
  refine WP_region ?_
  refine S_x (X_box (cs := #[.int .i64 kk1, .int .i64 kn1]) E S rfl rfl rfl ?_)
  clear E a S; rintro a w b_1 E S
  obtain ⟨M_2, hM_2, hb_1, S⟩ := S.freezeB
  replace h0 := h0.le hM_2
  refine S_v E rfl (R_assign E rfl) rfl ?_
  clear E a; intro a E
  refine WL_nil ?_
  refine T_n ?_
  refine WP_seq ?_
  refine WP_region ?_
  refine S_v E rfl (R_assign E rfl) rfl ?_
  clear E a; intro a E
  refine WL_nil ?_
  refine T_n ?_
  refine WP_seq ?_
  refine WP_seq ?_
  refine WP_region ?_
  refine S_v E rfl (R_move E rfl) rfl ?_
  clear E a; intro a E
  refine S_v E rfl (R_lenV E rfl T22 h0.len) rfl ?_
  clear E a; intro a E
  refine S_v E rfl (R_move E rfl) rfl ?_
  clear E a; intro a E
  refine WL_nil ?_
  refine T_n ?_
  refine WP_block ?_
  replace S := (S.ownNil (e := 3) (sz := 1)).made0
  replace S := S.re1 (l' := mapI (keyAt kk1 kn1) 0 (l0.take 0)) (by first | (simp [mapI]; done) | (rw [mapI_succ (by assumption)]; done))
  refine WP_loop (γ := Nat) (fun (k : Nat) a w => ∃ (M_4 : Hp) (u5 : Value), Hp.le M_2 M_4 ∧ St w M_4 (OwnI 3 u5 (mapI (keyAt kk1 kn1) 0 (l0.take k)) :: H) ∧ Env a 24 [] [(3, .pointer (some ⟨b_1, 0, none⟩)), (5, u5), (8, v0), (9, .int .i64 (((l0).length : Nat) : Int)), (10, .int .i64 ((k : Nat) : Int))] ∧ (k ≤ (l0).length)) (fun k => ((l0).length) - k) 0 ⟨M_2, _, Hp.le.refl _, S, E.keep ⟨rfl, rfl, rfl, rfl, rfl, trivial⟩, by ((try clear S); (try clear E); first | assumption | omega | rfl | (simp; done) | (simp_all; done) | (simp [List.take_add_one, *]; done) | grind [List.take_add_one])⟩ ?_
  try clear E
  try clear S
  try clear a
  try clear w
  rintro k a w ⟨M_4, u5, hM_4, S, E, hL0_0⟩
  replace h0 := h0.le hM_4
  replace hb_1 := hM_4.2 _ _ hb_1
  have hml := mapI_len (keyAt kk1 kn1) (l0.take k) 0; simp only [List.length_take] at hml
  refine WP_seq ?_
  refine WP_region ?_
  refine S_v E rfl (R_lss E rfl rfl) rfl ?_
  clear E a; intro a E
  refine WL_nil ?_
  refine T_n ?_
  refine WP_seq ?_
  refine WP_cond E rfl (fun hc_5 => ?_) (fun hc_5 => ?_)
  · replace hc_5 := of_decide_eq_true hc_5
    refine WP_skip ?_
    refine T_n ?_
    refine WP_seq ?_
    refine WP_block ?_
    refine WP_seq ?_
    refine WP_region ?_
    refine S_v E rfl (R_move E rfl) rfl ?_
    clear E a; intro a E
    obtain ⟨x_6, hx_6⟩ : ∃ x, (l0)[k]? = some x := ⟨_, List.getElem?_eq_getElem (by first | omega | (simp; done) | (simp; omega) | (simp_all; omega))⟩
    obtain ⟨p_7, hp_7, qp_7⟩ := h0.at hx_6
    refine S_v E rfl (R_idx E rfl rfl T22 hp_7 rfl) rfl ?_
    clear E a; intro a E
    refine S_v E rfl (R_loadM E rfl Try.isAgg3 S.imm qp_7) rfl ?_
    clear E a; intro a E
    refine S_v E rfl (R_assign E rfl) rfl ?_
    clear E a; intro a E
    refine S_v E rfl (R_assign E rfl) rfl ?_
    clear E a; intro a E
    refine WL_nil ?_
    refine T_n ?_
    refine WP_region ?_
    refine S_v E rfl (R_move E rfl) rfl ?_
    clear E a; intro a E
    refine S_v E rfl (R_loadGM E rfl (Try.isAgg52 _) (Try.sizeOf52 _) S.imm hb_1) rfl ?_
    clear E a; intro a E
    refine S_v E rfl (R_move E rfl) rfl ?_
    clear E a; intro a E
    refine S_v E rfl (R_move E rfl) rfl ?_
    clear E a; intro a E
    refine S_x (X_pu E S rfl rfl rfl (SKey_Of_d (by omega) (by first | omega | assumption | exact hr0 _ (List.mem_of_getElem? (by assumption)))) (Hp.le.refl _) ?_)
    clear E a S; rintro a _ w M_8 hM_8 rfl S E
    replace h0 := h0.le hM_8
    replace hb_1 := hM_8.2 _ _ hb_1
    refine S_x (X_buildI (ys := [keyAt kk1 kn1 x_6 ((k : Nat) : Int)]) E S rfl T22 rfl rfl rfl ?_)
    clear E a S; rintro a w v_9 E S
    replace S := S.front1
    replace S := S.front1
    refine S_x (X_appendB (xs := mapI (keyAt kk1 kn1) 0 (l0.take k)) (ys := [keyAt kk1 kn1 x_6 ((k : Nat) : Int)]) E S rfl rfl rfl T22 (by first | omega | (simp; done) | (simp; omega) | (simp_all; omega)) ?_)
    clear E a S; rintro a w v_10 E S
    refine S_v E rfl (R_assign E rfl) rfl ?_
    clear E a; intro a E
    refine WL_nil ?_
    refine B_n ?_
    refine T_n ?_
    refine WP_region ?_
    refine S_v E rfl (R_addx (m := ((k + 1 : Nat) : Int)) E rfl rfl (by omega) (by omega)) rfl ?_
    clear E a; intro a E
    refine S_v E rfl (R_move E rfl) rfl ?_
    clear E a; intro a E
    refine WL_nil ?_
    refine T_n ?_
    replace S := S.re1 (l' := mapI (keyAt kk1 kn1) 0 (l0.take (k + 1))) (by first | (simp [mapI]; done) | (rw [mapI_succ (by assumption)]; done))
    exact ⟨k + 1, ⟨M_8, _, (hM_4.trans hM_8), S, E.keep ⟨rfl, rfl, rfl, rfl, rfl, trivial⟩, by ((try clear S); (try clear E); first | assumption | omega | rfl | (simp; done) | (simp_all; done) | (simp [List.take_add_one, *]; done) | grind [List.take_add_one])⟩, by omega⟩
  · replace hc_5 := of_decide_eq_false hc_5
    refine WP_exit ?_
    refine T_x ?_
    refine T_x ?_
    refine B_x ?_
    refine T_n ?_
    refine WP_seq ?_
    refine WP_region ?_
    refine S_v E rfl (R_move E rfl) rfl ?_
    clear E a; intro a E
    refine S_v E rfl (R_assign E rfl) rfl ?_
    clear E a; intro a E
    refine WL_nil ?_
    refine T_n ?_
    refine WP_ret ?_
    have S0 := S; clear S
    obtain ⟨M_11, hM_11, hz_12, S⟩ := S0.freezeI (by (have hml := mapI_len (keyAt kk1 kn1) (l0.take k) 0; simp only [List.length_take] at hml; omega))
    clear S0
    replace h0 := h0.le hM_11
    replace hb_1 := hM_11.2 _ _ hb_1
    exact F_ret1 E Try.results58 rfl ⟨_, rfl, M_11, (hM_2.trans (hM_4.trans hM_11)), (by rw [show (mapI (keyAt kk1 kn1) 0 l0) = (mapI (keyAt kk1 kn1) 0 (l0.take k)) from by (rw [List.take_of_length_le (by omega)])]; exact hz_12), S⟩

set_option maxRecDepth 100000 in
set_option maxHeartbeats 4000000 in
theorem laws_eq {M : Hp} {v0 v1 : Value} {l0 l1 : List Int} (h0 : RdI M v0 l0) (h1 : RdI M v1 l1) :
    Pu Try.prog (.func (.func 18) #[] #[]) M [v0, v1] (fun r M' => r = .bool (decide (l0 = l1))) := by
  refine Pu_enter Try.func18 rfl Try.ntmps18 rfl Try.call18 ?_
  intro a w M1 H hM1 S E
  replace h0 := h0.le hM1
  replace h1 := h1.le hM1
  have b0 := h0.bound
  have b1 := h1.bound
  refine WP_seq ?_
  refine WP_region ?_
  refine S_v E rfl (R_assign E rfl) rfl ?_
  clear E a; intro a E
  refine WL_nil ?_
  refine T_n ?_
  refine WP_seq ?_
  refine WP_seq ?_
  refine WP_region ?_
  refine S_v E rfl (R_move E rfl) rfl ?_
  clear E a; intro a E
  refine S_v E rfl (R_lenV E rfl T22 h0.len) rfl ?_
  clear E a; intro a E
  refine S_v E rfl (R_move E rfl) rfl ?_
  clear E a; intro a E
  refine S_v E rfl (R_lenV E rfl T22 h1.len) rfl ?_
  clear E a; intro a E
  refine S_v E rfl (R_neq E rfl rfl) rfl ?_
  clear E a; intro a E
  refine WL_nil ?_
  refine T_n ?_
  refine WP_cond E rfl (fun hc_1 => ?_) (fun hc_1 => ?_)
  · replace hc_1 := of_decide_eq_true hc_1
    refine WP_seq ?_
    refine WP_region ?_
    refine S_v E rfl (R_assign E rfl) rfl ?_
    clear E a; intro a E
    refine WL_nil ?_
    refine T_n ?_
    refine WP_ret ?_
    refine T_r ?_
    exact F_ret1 E Try.results18 rfl ⟨_, rfl, M1, (Hp.le.refl _), (bF (by ((try clear S); (try clear E); first | assumption | omega | rfl | (simp; done) | (simp_all; done) | (simp [List.take_add_one, *]; done) | grind [List.take_add_one]))), S⟩
  · replace hc_1 := of_decide_eq_false hc_1
    refine WP_skip ?_
    refine T_n ?_
    refine WP_seq ?_
    refine WP_seq ?_
    refine WP_region ?_
    refine S_v E rfl (R_move E rfl) rfl ?_
    clear E a; intro a E
    refine S_v E rfl (R_lenV E rfl T22 h0.len) rfl ?_
    clear E a; intro a E
    refine S_v E rfl (R_move E rfl) rfl ?_
    clear E a; intro a E
    refine WL_nil ?_
    refine T_n ?_
    refine WP_block ?_
    refine WP_loop (γ := Nat) (fun (k : Nat) a w => ∃ (M_2 : Hp), Hp.le M1 M_2 ∧ St w M_2 (H) ∧ Env a 26 [] [(0, v0), (1, v1), (12, .int .i64 (((l0).length : Nat) : Int)), (13, .int .i64 ((k : Nat) : Int))] ∧ (k ≤ (l0).length) ∧ (l0.length = l1.length) ∧ (l0.take k = l1.take k)) (fun k => ((l0).length) - k) 0 ⟨M1, Hp.le.refl _, S, E.keep ⟨rfl, rfl, rfl, rfl, trivial⟩, by ((try clear S); (try clear E); first | assumption | omega | rfl | (simp; done) | (simp_all; done) | (simp [List.take_add_one, *]; done) | grind [List.take_add_one]), by ((try clear S); (try clear E); first | assumption | omega | rfl | (simp; done) | (simp_all; done) | (simp [List.take_add_one, *]; done) | grind [List.take_add_one]), by ((try clear S); (try clear E); first | assumption | omega | rfl | (simp; done) | (simp_all; done) | (simp [List.take_add_one, *]; done) | grind [List.take_add_one])⟩ ?_
    try clear E
    try clear S
    try clear a
    try clear w
    rintro k a w ⟨M_2, hM_2, S, E, hL0_0, hL0_1, hL0_2⟩
    replace h0 := h0.le hM_2
    replace h1 := h1.le hM_2
    refine WP_seq ?_
    refine WP_region ?_
    refine S_v E rfl (R_lss E rfl rfl) rfl ?_
    clear E a; intro a E
    refine WL_nil ?_
    refine T_n ?_
    refine WP_seq ?_
    refine WP_cond E rfl (fun hc_3 => ?_) (fun hc_3 => ?_)
    · replace hc_3 := of_decide_eq_true hc_3
      refine WP_skip ?_
      refine T_n ?_
      refine WP_seq ?_
      refine WP_block ?_
      refine WP_seq ?_
      refine WP_region ?_
      refine S_v E rfl (R_move E rfl) rfl ?_
      clear E a; intro a E
      refine S_v E rfl (R_assign E rfl) rfl ?_
      clear E a; intro a E
      refine WL_nil ?_
      refine T_n ?_
      refine WP_seq ?_
      replace S := S.mono_heap (w' := World.drew _) rfl
      refine WP_drawn (C := fun x w => agree M_2 w) (bf := (fun i => [])) [0, 1, 2, 3, 4, 5, 6, 7, 8] [0, 1, 2, 3, 4, 5, 6, 7, 8] Try.mixed (by kernel_rfl) (fun x hq => S.imm) ?_
      refine D_v E rfl rfl rfl (fun w hC => (R_move E rfl)) ?_
      clear E a; intro a E
      refine D_v E rfl rfl rfl (fun w hC => (R_move E rfl)) ?_
      clear E a; intro a E
      obtain ⟨x_4, hx_4⟩ : ∃ x, (l0)[k]? = some x := ⟨_, List.getElem?_eq_getElem (by first | omega | (simp; done) | (simp; omega) | (simp_all; omega))⟩
      obtain ⟨p_5, hp_5, qp_5⟩ := h0.at hx_4
      refine D_v E rfl rfl rfl (fun w hC => (R_idx E rfl rfl T22 hp_5 rfl)) ?_
      clear E a; intro a E
      refine D_v E rfl rfl rfl (fun w hC => (R_loadM E rfl Try.isAgg3 hC qp_5)) ?_
      clear E a; intro a E
      refine D_v E rfl rfl rfl (fun w hC => (R_move E rfl)) ?_
      clear E a; intro a E
      refine D_v E rfl rfl rfl (fun w hC => (R_move E rfl)) ?_
      clear E a; intro a E
      obtain ⟨x_6, hx_6⟩ : ∃ x, (l1)[k]? = some x := ⟨_, List.getElem?_eq_getElem (by first | omega | (simp; done) | (simp; omega) | (simp_all; omega))⟩
      obtain ⟨p_7, hp_7, qp_7⟩ := h1.at hx_6
      refine D_v E rfl rfl rfl (fun w hC => (R_idx E rfl rfl T22 hp_7 rfl)) ?_
      clear E a; intro a E
      refine D_v E rfl rfl rfl (fun w hC => (R_loadM E rfl Try.isAgg3 hC qp_7)) ?_
      clear E a; intro a E
      refine D_v E rfl rfl rfl (fun w hC => (R_neq E rfl rfl)) ?_
      clear E a; intro a E
      refine D_end (NoP_n ?_)
      refine T_n ?_
      refine WP_cond E rfl (fun hc_8 => ?_) (fun hc_8 => ?_)
      · replace hc_8 := of_decide_eq_true hc_8
        refine WP_seq ?_
        refine WP_region ?_
        refine S_v E rfl (R_assign E rfl) rfl ?_
        clear E a; intro a E
        refine WL_nil ?_
        refine T_n ?_
        refine WP_ret ?_
        refine B_r ?_
        refine T_r ?_
        refine T_r ?_
        refine B_r ?_
        refine T_r ?_
        exact F_ret1 E Try.results18 rfl ⟨_, rfl, M_2, hM_2, (bF (by ((try clear S); (try clear E); first | assumption | omega | rfl | (simp; done) | (simp_all; done) | (simp [List.take_add_one, *]; done) | grind [List.take_add_one]))), S⟩
      · replace hc_8 := of_decide_eq_false hc_8
        refine WP_skip ?_
        refine B_n ?_
        refine T_n ?_
        refine WP_region ?_
        refine S_v E rfl (R_addx (m := ((k + 1 : Nat) : Int)) E rfl rfl (by omega) (by omega)) rfl ?_
        clear E a; intro a E
        refine S_v E rfl (R_move E rfl) rfl ?_
        clear E a; intro a E
        refine WL_nil ?_
        refine T_n ?_
        exact ⟨k + 1, ⟨M_2, hM_2, S, E.keep ⟨rfl, rfl, rfl, rfl, trivial⟩, by ((try clear S); (try clear E); first | assumption | omega | rfl | (simp; done) | (simp_all; done) | (simp [List.take_add_one, *]; done) | grind [List.take_add_one]), by ((try clear S); (try clear E); first | assumption | omega | rfl | (simp; done) | (simp_all; done) | (simp [List.take_add_one, *]; done) | grind [List.take_add_one]), by ((try clear S); (try clear E); first | assumption | omega | rfl | (simp; done) | (simp_all; done) | (simp [List.take_add_one, *]; done) | grind [List.take_add_one])⟩, by omega⟩
    · replace hc_3 := of_decide_eq_false hc_3
      refine WP_exit ?_
      refine T_x ?_
      refine T_x ?_
      refine B_x ?_
      refine T_n ?_
      refine WP_seq ?_
      refine WP_region ?_
      refine S_v E rfl (R_assign E rfl) rfl ?_
      clear E a; intro a E
      refine WL_nil ?_
      refine T_n ?_
      refine WP_ret ?_
      exact F_ret1 E Try.results18 rfl ⟨_, rfl, M_2, hM_2, (bT (by ((try clear S); (try clear E); first | assumption | omega | rfl | (simp; done) | (simp_all; done) | (simp [List.take_add_one, *]; done) | grind [List.take_add_one]))), S⟩

set_option maxRecDepth 100000 in
set_option maxHeartbeats 4000000 in
theorem spec_FlatMap {M : Hp} {v0 : Value} {l0 : List Int} (h0 : RdI M v0 l0){kk1 kn1 : Int} (gk1 : -9223372036854775808 ≤ kn1 ∧ kn1 ≤ 9223372036854775807) (hb : l0.length ≤ 1000000000) (hr0 : (∀ x ∈ l0, -9223372036854775808 ≤ x ∧ x ≤ 9223372036854775807)) :
    Pu Try.prog (.func (.func 59) #[] #[]) M [v0, .agg #[.int .i64 kk1, .int .i64 kn1]] (fun r M' => RdI M' r (flatI (fun x i => [x, keyAt kk1 kn1 x i]) 0 l0)) := by
  refine Pu_enter Try.func59 rfl Try.ntmps59 rfl Try.call59 ?_
  intro a w M1 H hM1 S E
  replace h0 := h0.le hM1
  have b0 := h0.bound
  refine WP_seq ?_
  refine WP_region ?_
  refine S_x (X_box (cs := #[.int .i64 kk1, .int .i64 kn1]) E S rfl rfl rfl ?_)
  clear E a S; rintro a w b_1 E S
  obtain ⟨M_2, hM_2, hb_1, S⟩ := S.freezeB
  replace h0 := h0.le hM_2
  refine S_v E rfl (R_assign E rfl) rfl ?_
  clear E a; intro a E
  refine WL_nil ?_
  refine T_n ?_
  refine WP_seq ?_
  refine WP_region ?_
  refine S_v E rfl (R_assign E rfl) rfl ?_
  clear E a; intro a E
  refine WL_nil ?_
  refine T_n ?_
  refine WP_seq ?_
  refine WP_seq ?_
  refine WP_region ?_
  refine S_v E rfl (R_move E rfl) rfl ?_
  clear E a; intro a E
  refine S_v E rfl (R_lenV E rfl T22 h0.len) rfl ?_
  clear E a; intro a E
  refine S_v E rfl (R_move E rfl) rfl ?_
  clear E a; intro a E
  refine WL_nil ?_
  refine T_n ?_
  refine WP_block ?_
  replace S := (S.ownNil (e := 3) (sz := 1)).made0
  replace S := S.re1 (l' := flatI (fun x i => [x, keyAt kk1 kn1 x i]) 0 (l0.take 0)) (by first | (simp [flatI]; done) | (rw [flatI_succ (by assumption)]; done))
  refine WP_loop (γ := Nat) (fun (k : Nat) a w => ∃ (M_4 : Hp) (u5 : Value), Hp.le M_2 M_4 ∧ St w M_4 (OwnI 3 u5 (flatI (fun x i => [x, keyAt kk1 kn1 x i]) 0 (l0.take k)) :: H) ∧ Env a 25 [] [(3, .pointer (some ⟨b_1, 0, none⟩)), (5, u5), (8, v0), (9, .int .i64 (((l0).length : Nat) : Int)), (10, .int .i64 ((k : Nat) : Int))] ∧ (k ≤ (l0).length)) (fun k => ((l0).length) - k) 0 ⟨M_2, _, Hp.le.refl _, S, E.keep ⟨rfl, rfl, rfl, rfl, rfl, trivial⟩, by ((try clear S); (try clear E); first | assumption | omega | rfl | (simp; done) | (simp_all; done) | (simp [List.take_add_one, *]; done) | grind [List.take_add_one])⟩ ?_
  try clear E
  try clear S
  try clear a
  try clear w
  rintro k a w ⟨M_4, u5, hM_4, S, E, hL0_0⟩
  replace h0 := h0.le hM_4
  replace hb_1 := hM_4.2 _ _ hb_1
  have hfl := flatI_len (f := (fun x i => [x, keyAt kk1 kn1 x i])) (fun _ _ => rfl) (l0.take k) 0; simp only [List.length_take] at hfl
  refine WP_seq ?_
  refine WP_region ?_
  refine S_v E rfl (R_lss E rfl rfl) rfl ?_
  clear E a; intro a E
  refine WL_nil ?_
  refine T_n ?_
  refine WP_seq ?_
  refine WP_cond E rfl (fun hc_5 => ?_) (fun hc_5 => ?_)
  · replace hc_5 := of_decide_eq_true hc_5
    refine WP_skip ?_
    refine T_n ?_
    refine WP_seq ?_
    refine WP_block ?_
    refine WP_seq ?_
    refine WP_region ?_
    refine S_v E rfl (R_move E rfl) rfl ?_
    clear E a; intro a E
    obtain ⟨x_6, hx_6⟩ : ∃ x, (l0)[k]? = some x := ⟨_, List.getElem?_eq_getElem (by first | omega | (simp; done) | (simp; omega) | (simp_all; omega))⟩
    obtain ⟨p_7, hp_7, qp_7⟩ := h0.at hx_6
    refine S_v E rfl (R_idx E rfl rfl T22 hp_7 rfl) rfl ?_
    clear E a; intro a E
    refine S_v E rfl (R_loadM E rfl Try.isAgg3 S.imm qp_7) rfl ?_
    clear E a; intro a E
    refine S_v E rfl (R_assign E rfl) rfl ?_
    clear E a; intro a E
    refine S_v E rfl (R_assign E rfl) rfl ?_
    clear E a; intro a E
    refine WL_nil ?_
    refine T_n ?_
    refine WP_region ?_
    refine S_v E rfl (R_move E rfl) rfl ?_
    clear E a; intro a E
    refine S_v E rfl (R_move E rfl) rfl ?_
    clear E a; intro a E
    refine S_v E rfl (R_loadGM E rfl (Try.isAgg52 _) (Try.sizeOf52 _) S.imm hb_1) rfl ?_
    clear E a; intro a E
    refine S_v E rfl (R_move E rfl) rfl ?_
    clear E a; intro a E
    refine S_v E rfl (R_move E rfl) rfl ?_
    clear E a; intro a E
    refine S_x (X_pu E S rfl rfl rfl (SKey_Of_d (by omega) (by first | omega | assumption | exact hr0 _ (List.mem_of_getElem? (by assumption)))) (Hp.le.refl _) ?_)
    clear E a S; rintro a _ w M_8 hM_8 rfl S E
    replace h0 := h0.le hM_8
    replace hb_1 := hM_8.2 _ _ hb_1
    refine S_x (X_buildI (ys := [x_6, keyAt kk1 kn1 x_6 ((k : Nat) : Int)]) E S rfl T22 rfl rfl rfl ?_)
    clear E a S; rintro a w v_9 E S
    replace S := S.front1
    replace S := S.front1
    refine S_x (X_appendB (xs := flatI (fun x i => [x, keyAt kk1 kn1 x i]) 0 (l0.take k)) (ys := [x_6, keyAt kk1 kn1 x_6 ((k : Nat) : Int)]) E S rfl rfl rfl T22 (by first | omega | (simp; done) | (simp; omega) | (simp_all; omega)) ?_)
    clear E a S; rintro a w v_10 E S
    refine S_v E rfl (R_assign E rfl) rfl ?_
    clear E a; intro a E
    refine WL_nil ?_
    refine B_n ?_
    refine T_n ?_
    refine WP_region ?_
    refine S_v E rfl (R_addx (m := ((k + 1 : Nat) : Int)) E rfl rfl (by omega) (by omega)) rfl ?_
    clear E a; intro a E
    refine S_v E rfl (R_move E rfl) rfl ?_
    clear E a; intro a E
    refine WL_nil ?_
    refine T_n ?_
    replace S := S.re1 (l' := flatI (fun x i => [x, keyAt kk1 kn1 x i]) 0 (l0.take (k + 1))) (by first | (simp [flatI]; done) | (rw [flatI_succ (by assumption)]; done))
    exact ⟨k + 1, ⟨M_8, _, (hM_4.trans hM_8), S, E.keep ⟨rfl, rfl, rfl, rfl, rfl, trivial⟩, by ((try clear S); (try clear E); first | assumption | omega | rfl | (simp; done) | (simp_all; done) | (simp [List.take_add_one, *]; done) | grind [List.take_add_one])⟩, by omega⟩
  · replace hc_5 := of_decide_eq_false hc_5
    refine WP_exit ?_
    refine T_x ?_
    refine T_x ?_
    refine B_x ?_
    refine T_n ?_
    refine WP_seq ?_
    refine WP_region ?_
    refine S_v E rfl (R_move E rfl) rfl ?_
    clear E a; intro a E
    refine S_v E rfl (R_assign E rfl) rfl ?_
    clear E a; intro a E
    refine WL_nil ?_
    refine T_n ?_
    refine WP_ret ?_
    have S0 := S; clear S
    obtain ⟨M_11, hM_11, hz_12, S⟩ := S0.freezeI (by (have hfl := flatI_len (f := (fun x i => [x, keyAt kk1 kn1 x i])) (fun _ _ => rfl) (l0.take k) 0; simp only [List.length_take] at hfl; omega))
    clear S0
    replace h0 := h0.le hM_11
    replace hb_1 := hM_11.2 _ _ hb_1
    exact F_ret1 E Try.results59 rfl ⟨_, rfl, M_11, (hM_2.trans (hM_4.trans hM_11)), (by rw [show (flatI (fun x i => [x, keyAt kk1 kn1 x i]) 0 l0) = (flatI (fun x i => [x, keyAt kk1 kn1 x i]) 0 (l0.take k)) from by (rw [List.take_of_length_le (by omega)])]; exact hz_12), S⟩

set_option maxRecDepth 100000 in
set_option maxHeartbeats 4000000 in
theorem impl_fresh {M : Hp} {v0 : Value} {l0 : List Int} (h0 : RdI M v0 l0)(hb : l0.length ≤ 1000000000000) :
    Sp Try.prog (.func (.func 117) #[] #[]) M [v0] [] (fun r M' C' => C' = [OwnI 3 r l0]) := by
  refine Sp_enter Try.func117 rfl Try.ntmps117 rfl Try.call117 ?_
  intro a w M1 H hM1 S E
  replace h0 := h0.le hM1
  have b0 := h0.bound
  refine WP_seq ?_
  refine WP_region ?_
  refine S_v E rfl (R_assign E rfl) rfl ?_
  clear E a; intro a E
  refine WL_nil ?_
  refine T_n ?_
  refine WP_seq ?_
  refine WP_region ?_
  refine S_x (X_buildI (ys := []) E S rfl T22 rfl rfl rfl ?_)
  clear E a S; rintro a w v_1 E S
  refine S_v E rfl (R_move E rfl) rfl ?_
  clear E a; intro a E
  refine S_x (X_appendI (xs := ([] : List Int)) E S rfl rfl rfl T22 h0 (by first | omega | (simp; done) | (simp; omega) | (simp_all; omega)) ?_)
  clear E a S; rintro a w v_2 E S
  refine S_v E rfl (R_assign E rfl) rfl ?_
  clear E a; intro a E
  refine WL_nil ?_
  refine T_n ?_
  refine WP_ret ?_
  replace S := S.re1 (l' := l0) (by ((try clear S); (try clear E); first | assumption | omega | rfl | (simp; done) | (simp_all; done) | (simp [List.take_add_one, *]; done) | grind [List.take_add_one]))
  exact F_ret1 E Try.results117 rfl ⟨_, rfl, M1, _, (Hp.le.refl _), rfl, S⟩

set_option maxRecDepth 100000 in
set_option maxHeartbeats 4000000 in
theorem mutable_MapI {M : Hp} {v0 : Value} {l0 : List Int} {v1 : Value} {f1 : Int → Int → Int} (h1 : PF2I Try.prog v1 M f1) (b0 : l0.length ≤ 1000000000000) :
    Sp Try.prog (.func (.func 146) #[] #[]) M [v0, v1] [OwnI 3 v0 l0] (fun r M' C' => C' = [OwnI 3 v0 (mapI f1 0 l0)]) := by
  refine Sp_enter Try.func146 rfl Try.ntmps146 rfl Try.call146 ?_
  intro a w M1 H hM1 S E
  replace S : St w M1 (OwnI 3 v0 l0 :: _) := S
  replace h1 := h1.le hM1
  refine WP_seq ?_
  refine WP_region ?_
  refine S_v E rfl (R_move E rfl) rfl ?_
  clear E a; intro a E
  refine S_v E rfl (R_lenV E rfl T22 S.lenC) rfl ?_
  clear E a; intro a E
  refine S_v E rfl (R_move E rfl) rfl ?_
  clear E a; intro a E
  refine WL_nil ?_
  refine T_n ?_
  refine WP_block ?_
  replace S := S.re1 (l' := mapI f1 0 (l0.take 0) ++ l0.drop 0) (by first | (simp [mapI]; done) | (have hmk : (mapI f1 0 (l0.take k)).length = k := (by rw [mapI_len, List.length_take]; omega); exact map_set hmk (map_get hmk (by assumption))))
  refine WP_loop (γ := Nat) (fun (k : Nat) a w => ∃ (M_1 : Hp), Hp.le M1 M_1 ∧ St w M_1 (OwnI 3 v0 (mapI f1 0 (l0.take k) ++ l0.drop k) :: H) ∧ Env a 21 [] [(0, v0), (1, v1), (6, .int .i64 (((l0).length : Nat) : Int)), (7, .int .i64 ((k : Nat) : Int))] ∧ (k ≤ (l0).length)) (fun k => ((l0).length) - k) 0 ⟨M1, Hp.le.refl _, S, E.keep ⟨rfl, rfl, rfl, rfl, trivial⟩, by ((try clear S); (try clear E); first | assumption | omega | rfl | (simp; done) | (simp_all; done) | (simp [List.take_add_one, *]; done) | grind [List.take_add_one])⟩ ?_
  try clear E
  try clear S
  try clear a
  try clear w
  rintro k a w ⟨M_1, hM_1, S, E, hL0_0⟩
  replace h1 := h1.le hM_1
  have hmk0 := mapI_len f1 (l0.take k) 0; simp only [List.length_take] at hmk0
  refine WP_seq ?_
  refine WP_region ?_
  refine S_v E rfl (R_lss E rfl rfl) rfl ?_
  clear E a; intro a E
  refine WL_nil ?_
  refine T_n ?_
  refine WP_seq ?_
  refine WP_cond E rfl (fun hc_2 => ?_) (fun hc_2 => ?_)
  · replace hc_2 := of_decide_eq_true hc_2
    refine WP_skip ?_
    refine T_n ?_
    refine WP_seq ?_
    refine WP_block ?_
    refine WP_seq ?_
    refine WP_region ?_
    refine S_v E rfl (R_move E rfl) rfl ?_
    clear E a; intro a E
    refine S_v E rfl (R_assign E rfl) rfl ?_
    clear E a; intro a E
    refine WL_nil ?_
    refine T_n ?_
    refine WP_region ?_
    refine S_v E rfl (R_move E rfl) rfl ?_
    clear E a; intro a E
    refine S_v E rfl (R_move E rfl) rfl ?_
    clear E a; intro a E
    refine S_v E rfl (R_move E rfl) rfl ?_
    clear E a; intro a E
    refine S_v E rfl (R_move E rfl) rfl ?_
    clear E a; intro a E
    refine S_v E rfl (R_move E rfl) rfl ?_
    clear E a; intro a E
    obtain ⟨p_3, hp_3⟩ := S.ptrC (k := k) (by first | omega | (simp; done) | (simp; omega))
    refine S_v E rfl (R_idx E rfl rfl T22 hp_3 rfl) rfl ?_
    clear E a; intro a E
    obtain ⟨x_4, hx_4⟩ : ∃ x, (mapI f1 0 (l0.take k) ++ l0.drop k)[k]? = some x := ⟨_, List.getElem?_eq_getElem (by first | omega | (simp; done) | (simp; omega))⟩
    refine S_v E rfl (R_load E rfl (Try.isAgg3 _) (S.cellI hp_3 hx_4)) rfl ?_
    clear E a; intro a E
    refine S_v E rfl (R_move E rfl) rfl ?_
    clear E a; intro a E
    refine S_x (X_pu E S rfl rfl rfl (h1.2 x_4 ((k : Nat) : Int)) (Hp.le.refl _) ?_)
    clear E a S; rintro a _ w M_5 hM_5 rfl S E
    replace h1 := h1.le hM_5
    refine S_v E rfl (R_idx E rfl rfl T22 hp_3 rfl) rfl ?_
    clear E a; intro a E
    refine S_x0 (X_storeI E S rfl rfl (Try.sizeOf3 _) hp_3 ?_)
    clear E a S; rintro a w E S
    refine WL_nil ?_
    refine B_n ?_
    refine T_n ?_
    refine WP_region ?_
    refine S_v E rfl (R_addx (m := ((k + 1 : Nat) : Int)) E rfl rfl (by omega) (by omega)) rfl ?_
    clear E a; intro a E
    refine S_v E rfl (R_move E rfl) rfl ?_
    clear E a; intro a E
    refine WL_nil ?_
    refine T_n ?_
    replace S := S.re1 (l' := mapI f1 0 (l0.take (k + 1)) ++ l0.drop (k + 1)) (by first | (simp [mapI]; done) | (have hmk : (mapI f1 0 (l0.take k)).length = k := (by rw [mapI_len, List.length_take]; omega); exact map_set hmk (map_get hmk (by assumption))))
    exact ⟨k + 1, ⟨M_5, (hM_1.trans hM_5), S, E.keep ⟨rfl, rfl, rfl, rfl, trivial⟩, by ((try clear S); (try clear E); first | assumption | omega | rfl | (simp; done) | (simp_all; done) | (simp [List.take_add_one, *]; done) | grind [List.take_add_one])⟩, by omega⟩
  · replace hc_2 := of_decide_eq_false hc_2
    refine WP_exit ?_
    refine T_x ?_
    refine T_x ?_
    refine B_x ?_
    refine F_nrm ?_
    replace S := S.re1 (l' := mapI f1 0 l0) (by (rw [List.drop_eq_nil_of_le (by omega), List.take_of_length_le (by omega), List.append_nil]))
    exact F_ret0 E Try.results146 ⟨_, rfl, M_1, _, hM_1, rfl, S⟩

set_option maxRecDepth 100000 in
set_option maxHeartbeats 4000000 in
theorem impl_MapInPlace {M : Hp} {v0 : Value} {l0 : List Int} (h0 : RdI M v0 l0){kk1 kn1 : Int} (gk1 : -9223372036854775808 ≤ kn1 ∧ kn1 ≤ 9223372036854775807) (hb : l0.length ≤ 1000000000000) :
    Pu Try.prog (.func (.func 60) #[] #[]) M [v0, .agg #[.int .i64 kk1, .int .i64 kn1]] (fun r M' => RdI M' r (mapI (keyAt kk1 kn1) 0 l0)) := by
  refine Pu_enter Try.func60 rfl Try.ntmps60 rfl Try.call60 ?_
  intro a w M1 H hM1 S E
  replace h0 := h0.le hM1
  have b0 := h0.bound
  have hml := mapI_len (keyAt kk1 kn1) l0 0
  refine WP_seq ?_
  refine WP_region ?_
  refine S_x (X_box (cs := #[.int .i64 kk1, .int .i64 kn1]) E S rfl rfl rfl ?_)
  clear E a S; rintro a w b_1 E S
  obtain ⟨M_2, hM_2, hb_1, S⟩ := S.freezeB
  replace h0 := h0.le hM_2
  refine S_v E rfl (R_assign E rfl) rfl ?_
  clear E a; intro a E
  refine WL_nil ?_
  refine T_n ?_
  refine WP_seq ?_
  refine WP_region ?_
  refine S_v E rfl (R_move E rfl) rfl ?_
  clear E a; intro a E
  refine S_x (X_sp (p := []) E S rfl rfl rfl (impl_fresh h0 (by (first | omega | (simp; omega) | (simp; done) | (simp_all; omega) | grind))) (Hp.le.refl _) ?_)
  clear E a S; rintro a v_4 w M_3 _ hM_3 rfl S E
  replace S : St w M_3 (OwnI 3 v_4 l0 :: _) := S
  replace h0 := h0.le hM_3
  replace hb_1 := hM_3.2 _ _ hb_1
  refine S_v E rfl (R_assign E rfl) rfl ?_
  clear E a; intro a E
  refine WL_nil ?_
  refine T_n ?_
  refine WP_seq ?_
  refine WP_region ?_
  refine S_v E rfl (R_move E rfl) rfl ?_
  clear E a; intro a E
  refine S_v E rfl (R_loadGM E rfl (Try.isAgg34 _) (Try.sizeOf34 _) S.imm hb_1) rfl ?_
  clear E a; intro a E
  refine S_v E rfl (R_makeFunc E rfl rfl) rfl ?_
  clear E a; intro a E
  refine S_x (X_sp (p := [OwnI 3 v_4 l0]) E S rfl rfl rfl (mutable_MapI ⟨rfl, fun zx1 zx2 => Key_at (x1 := zx1) (x2 := zx2) (by omega)⟩ (by (first | omega | (simp; omega) | (simp; done) | (simp_all; omega) | grind))) (Hp.le.refl _) ?_)
  clear E a S; rintro a v_6 w M_5 _ hM_5 rfl S E
  replace S : St w M_5 (OwnI 3 v_4 (mapI (keyAt kk1 kn1) 0 l0) :: _) := S
  replace h0 := h0.le hM_5
  replace hb_1 := hM_5.2 _ _ hb_1
  refine WL_nil ?_
  refine T_n ?_
  refine WP_seq ?_
  refine WP_region ?_
  refine S_v E rfl (R_move E rfl) rfl ?_
  clear E a; intro a E
  refine S_v E rfl (R_assign E rfl) rfl ?_
  clear E a; intro a E
  refine WL_nil ?_
  refine T_n ?_
  refine WP_ret ?_
  have S0 := S; clear S
  obtain ⟨M_7, hM_7, hz_8, S⟩ := S0.freezeI (by (first | omega | (simp; omega) | (simp; done) | (simp_all; omega) | grind))
  clear S0
  replace h0 := h0.le hM_7
  replace hb_1 := hM_7.2 _ _ hb_1
  exact F_ret1 E Try.results60 rfl ⟨_, rfl, M_7, (hM_2.trans (hM_3.trans (hM_5.trans hM_7))), hz_8, S⟩

set_option maxRecDepth 100000 in
set_option maxHeartbeats 4000000 in
theorem slices_Values1 {M : Hp} {v0 : Value} {l0 : List Int} (h0 : RdI M v0 l0){bx1 : Nat} (hbx1 : M bx1 = some (.cells #[v0] 22)) :
    SeqV Try.prog (.func (.func 199) #[] #[.pointer (some ⟨bx1, 0, none⟩)]) M (RInt) l0 := by
  refine SeqV_enter Try.func199 rfl Try.ntmps199 rfl Try.call199 ?_
  intro y J X a w M1 c H hJM hM1 hY hJ S E
  replace hbx1 := hM1.2 _ _ hbx1
  replace h0 := h0.le hM1
  have b0 := h0.bound
  refine WP_seq ?_
  refine WP_region ?_
  refine S_v E rfl (R_loadM E rfl Try.isAgg22 S.imm (cellM_box hbx1)) rfl ?_
  clear E a; intro a E
  refine S_v E rfl (R_lenV E rfl T22 h0.len) rfl ?_
  clear E a; intro a E
  refine S_v E rfl (R_move E rfl) rfl ?_
  clear E a; intro a E
  refine WL_nil ?_
  refine T_n ?_
  refine WP_block ?_
  refine WP_loop (γ := Nat) (fun (k : Nat) a w => ∃ (M_1 : Hp) (cL0 : HProp), Hp.le M1 M_1 ∧ St w M_1 (mks [] :: cL0 :: H) ∧ Env a 16 (([] : List Nat).map mk) [(0, y), (5, v0), (6, .int .i64 (((l0).length : Nat) : Int)), (7, .int .i64 ((k : Nat) : Int))] ∧ (k ≤ (l0).length) ∧ J (l0.take k) M_1 cL0) (fun k => ((l0).length) - k) 0 ⟨M1, _, Hp.le.refl _, S, E.keep ⟨rfl, rfl, rfl, rfl, trivial⟩, by ((try clear S); (try clear E); first | assumption | omega | rfl | (simp; done) | (simp_all; done) | (simp [List.take_add_one, *]; done) | grind [List.take_add_one]), J_eq hJ (by ((try clear S); (try clear E); first | assumption | omega | rfl | (simp; done) | (simp_all; done) | (simp [List.take_add_one, *]; done) | grind [List.take_add_one]))⟩ ?_
  try clear E
  try clear S
  try clear a
  try clear w
  rintro k a w ⟨M_1, cL0, hM_1, S, E, hL0_0, hJ⟩
  replace hbx1 := hM_1.2 _ _ hbx1
  replace h0 := h0.le hM_1
  refine WP_seq ?_
  refine WP_region ?_
  refine S_v E rfl (R_lss E rfl rfl) rfl ?_
  clear E a; intro a E
  refine WL_nil ?_
  refine T_n ?_
  refine WP_seq ?_
  refine WP_cond E rfl (fun hc_2 => ?_) (fun hc_2 => ?_)
  · replace hc_2 := of_decide_eq_true hc_2
    refine WP_skip ?_
    refine T_n ?_
    refine WP_seq ?_
    refine WP_block ?_
    refine WP_seq ?_
    refine WP_region ?_
    obtain ⟨x_3, hx_3⟩ : ∃ x, (l0)[k]? = some x := ⟨_, List.getElem?_eq_getElem (by first | omega | (simp; done) | (simp; omega) | (simp_all; omega))⟩
    obtain ⟨p_4, hp_4, qp_4⟩ := h0.at hx_3
    refine S_v E rfl (R_idx E rfl rfl T22 hp_4 rfl) rfl ?_
    clear E a; intro a E
    refine S_v E rfl (R_loadM E rfl Try.isAgg3 S.imm qp_4) rfl ?_
    clear E a; intro a E
    refine S_v E rfl (R_assign E rfl) rfl ?_
    clear E a; intro a E
    refine WL_nil ?_
    refine T_n ?_
    refine WP_seq ?_
    refine WP_region ?_
    refine S_v E rfl (R_move E rfl) rfl ?_
    clear E a; intro a E
    refine S_v E rfl (R_move E rfl) rfl ?_
    clear E a; intro a E
    replace S := S.front1
    refine S_x (X_yield (x := x_3) E S rfl rfl rfl hY hM_1 (by (first | (simp; done) | exact List.prefix_refl _ | (rw [pre_take (by assumption)]; exact List.take_prefix _ _) | exact pre_take_lt (by assumption))) rfl hJ ?_)
    clear E a S; rintro a w M_5 c_6 go_7 hM_5 hJ S E
    replace hbx1 := hM_5.2 _ _ hbx1
    replace h0 := h0.le hM_5
    cases go_7
    · replace hJ : X (l0.take k ++ [x_3]) M_5 c_6 := hJ
      refine S_v E rfl (R_not E rfl) rfl ?_
      clear E a; intro a E
      refine WL_nil ?_
      refine T_n ?_
      refine WP_condT E rfl rfl ?_
      refine WP_ret ?_
      refine B_r ?_
      refine T_r ?_
      refine T_r ?_
      refine B_r ?_
      replace S := S.front1
      exact F_retM0 E S Try.results199 (fun w S => ⟨_, rfl, M_5, _, (hM_1.trans hM_5), .inr ⟨(l0.take k ++ [x_3]), (by first | assumption | ((first | (simp; done) | exact List.prefix_refl _ | (rw [pre_take (by assumption)]; exact List.take_prefix _ _) | exact pre_take_lt (by assumption)))), hJ⟩, S⟩)
    · replace hJ : J (l0.take k ++ [x_3]) M_5 c_6 := hJ
      refine S_v E rfl (R_not E rfl) rfl ?_
      clear E a; intro a E
      refine WL_nil ?_
      refine T_n ?_
      refine WP_condF E rfl rfl ?_
      refine WP_skip ?_
      refine B_n ?_
      refine T_n ?_
      refine WP_region ?_
      refine S_v E rfl (R_addx (m := ((k + 1 : Nat) : Int)) E rfl rfl (by omega) (by omega)) rfl ?_
      clear E a; intro a E
      refine S_v E rfl (R_move E rfl) rfl ?_
      clear E a; intro a E
      refine WL_nil ?_
      refine T_n ?_
      replace S := S.front1
      exact ⟨k + 1, ⟨M_5, _, (hM_1.trans hM_5), S, E.keep ⟨rfl, rfl, rfl, rfl, trivial⟩, by ((try clear S); (try clear E); first | assumption | omega | rfl | (simp; done) | (simp_all; done) | (simp [List.take_add_one, *]; done) | grind [List.take_add_one]), J_eq hJ (by ((try clear S); (try clear E); first | assumption | omega | rfl | (simp; done) | (simp_all; done) | (simp [List.take_add_one, *]; done) | grind [List.take_add_one]))⟩, by omega⟩
  · replace hc_2 := of_decide_eq_false hc_2
    refine WP_exit ?_
    refine T_x ?_
    refine T_x ?_
    refine B_x ?_
    refine F_nrm ?_
    replace S := S.front1
    replace S := S.front1
    have hpre : l0.take k = l0 := by ((try clear S); (try clear E); first | rfl | (simp; done) | (simp_all; done) | grind [List.take_add_one])
    rw [hpre] at hJ
    exact F_retM0 E S Try.results199 (fun w S => ⟨_, rfl, M_1, _, hM_1, .inl hJ, S⟩)

set_option maxRecDepth 100000 in
set_option maxHeartbeats 4000000 in
theorem slices_Values {M : Hp} {v0 : Value} {l0 : List Int} (h0 : RdI M v0 l0) :
    Pu Try.prog (.func (.func 108) #[] #[]) M [v0] (fun r M' => SeqV Try.prog r M' RInt l0) := by
  refine Pu_enter Try.func108 rfl Try.ntmps108 rfl Try.call108 ?_
  intro a w M1 H hM1 S E
  replace h0 := h0.le hM1
  have b0 := h0.bound
  refine WP_seq ?_
  refine WP_region ?_
  refine S_x (X_box (cs := #[v0]) E S rfl rfl (cells_one (RdS.one' h0)) ?_)
  clear E a S; rintro a w b_1 E S
  obtain ⟨M_2, hM_2, hb_1, S⟩ := S.freezeB
  replace h0 := h0.le hM_2
  refine S_v E rfl (R_assign E rfl) rfl ?_
  clear E a; intro a E
  refine WL_nil ?_
  refine T_n ?_
  refine WP_seq ?_
  refine WP_region ?_
  refine S_v E rfl (R_makeFunc E rfl rfl) rfl ?_
  clear E a; intro a E
  refine S_v E rfl (R_assign E rfl) rfl ?_
  clear E a; intro a E
  refine WL_nil ?_
  refine T_n ?_
  refine WP_ret ?_
  exact F_ret1 E Try.results108 rfl ⟨_, rfl, M_2, hM_2, (SeqV_eq (slices_Values1 h0 hb_1) (by ((try clear S); (try clear E); first | rfl | (simp; done) | (simp_all; done) | grind [List.take_add_one]))), S⟩

set_option maxRecDepth 100000 in
set_option maxHeartbeats 4000000 in
theorem it_MapI1 {M : Hp} {v0 : Value} {l0 : List Int} (h0 : SeqV Try.prog v0 M (RInt) l0) {v1 : Value} {f1 : Int → Int → Int} (h1 : PF2I Try.prog v1 M f1) (hb : l0.length ≤ 1000000000000) {bx8 bx9 : Nat} (hbx8 : M bx8 = some (.cells #[v0] 70)) (hbx9 : M bx9 = some (.cells #[v1] 77)) :
    SeqV Try.prog (.func (.func 222) #[] #[.pointer (some ⟨bx8, 0, none⟩), .pointer (some ⟨bx9, 0, none⟩)]) M (RInt) (mapI f1 0 l0) := by
  refine SeqV_enter Try.func222 rfl Try.ntmps222 rfl Try.call222 ?_
  intro y J X a w M1 c H hJM hM1 hY hJ S E
  replace h0 := h0.le hM1
  replace h1 := h1.le hM1
  replace hbx8 := hM1.2 _ _ hbx8
  replace hbx9 := hM1.2 _ _ hbx9
  refine WP_seq ?_
  refine WP_region ?_
  refine S_x (X_box (cs := #[y]) E S rfl rfl (cells_one hY.1) ?_)
  clear E a S; rintro a w b_1 E S
  obtain ⟨M_2, hM_2, hb_1, S⟩ := S.freezeB
  replace h0 := h0.le hM_2
  replace h1 := h1.le hM_2
  replace hbx8 := hM_2.2 _ _ hbx8
  replace hbx9 := hM_2.2 _ _ hbx9
  replace hJ := hJM _ _ _ _ hM_2 hJ
  refine WL_nil ?_
  refine T_n ?_
  refine WP_seq ?_
  refine WP_region ?_
  refine S_x (X_alloc (cs := #[.int .i64 0]) E S rfl Try.zeroValue3 rfl ?_)
  clear E a S; rintro a w b_3 E S
  refine WL_nil ?_
  refine T_n ?_
  refine WP_seq ?_
  refine WP_region ?_
  refine S_v E rfl (R_loadM E rfl Try.isAgg70 S.imm (cellM_box hbx8)) rfl ?_
  clear E a; intro a E
  refine WL_nil ?_
  refine T_n ?_
  refine WP_block ?_
  replace S := S.front2
  replace S := S.front1
  replace E := E.keep (l' := [(2, .pointer (some ⟨bx9, 0, none⟩)), (3, .pointer (some ⟨b_1, 0, none⟩)), (4, .pointer (some ⟨b_3, 0, none⟩)), (6, v0)]) ⟨rfl, rfl, rfl, rfl, trivial⟩
  replace S := S.front1
  replace S := S.front1
  replace S := S.blk_int (j := ((([] : List Int)).length : Int)) (by (first | (simp; done) | omega))
  have S0 := S; clear S; have S := St.pack [blk b_3 (.cells #[.int .i64 ((([] : List Int)).length : Int)] 3), c] S0; clear S0
  refine WP_range (RV := RInt) (l := l0) (fun pre M c => ∃ (c0 : HProp), c = bigs [blk b_3 (.cells #[.int .i64 ((pre).length : Int)] 3), c0] ∧ (J (mapI f1 0 (pre)) M c0)) (fun cd pre M c => cd = .ret ∧ ∃ z, z <+: (mapI f1 0 l0) ∧ X z M c) E S rfl h0 (Hp.le.refl _) (fun _ _ _ h => by rw [h]; rfl) (by decide) (by rintro _ M M' c hM ⟨c0, rfl, f0⟩; exact ⟨_, rfl, hJM _ _ _ _ hM f0⟩) ⟨_, rfl, J_eq hJ (by ((try clear S); (try clear E); first | assumption | omega | rfl | (simp; done) | (simp_all; done) | (simp [List.take_add_one, *]; done) | grind [List.take_add_one]))⟩ ?_ ?_ ?_
  clear E S
  · rintro lb_5 rec_6 pre x _ a w M_4 _ G hM_4 hp_7 rfl ⟨c0, rfl, f0⟩ E S
    replace E : Env a 17 [] [(7, .int .i64 x), (2, .pointer (some ⟨bx9, 0, none⟩)), (3, .pointer (some ⟨b_1, 0, none⟩)), (4, .pointer (some ⟨b_3, 0, none⟩)), (6, v0)] := E
    replace S := S.swap.unpack2
    have hq0 := prefix_lt hp_7
    replace h0 := h0.le hM_4
    replace h1 := h1.le hM_4
    replace hbx8 := hM_4.2 _ _ hbx8
    replace hbx9 := hM_4.2 _ _ hbx9
    replace hb_1 := hM_4.2 _ _ hb_1
    refine WP_region ?_
    refine S_v E rfl (R_assign E rfl) rfl ?_
    clear E a; intro a E
    refine WL_nil ?_
    refine T_n ?_
    replace S := S.front2
    refine rb S ?_
    clear S; intro w S
    refine WP_block ?_
    refine WP_seq ?_
    refine WP_seq ?_
    have hbx9k8 := hbx9
    have hb_1k8 := hb_1
    replace S := S.mono_heap (w' := World.drew _) rfl
    refine WP_drawn (C := fun x w => agree M_4 w ∧ (x = 3 → w.heap[b_3]? = some (.cells #[.int .i64 ((pre).length : Int)] 3))) (bf := (fun i => bif Nat.beq i 4 then [3] else bif Nat.beq i 5 then [3] else [])) [0, 1, 2, 3, 6] [0, 1, 2, 3, 4, 5, 6] Try.mixed (by kernel_rfl) (fun x hq => ⟨S.imm, fun _ => (S.mem (.tail _ (.head _)))⟩) ?_
    refine D_v E rfl rfl rfl (fun w hC => (R_loadM E rfl Try.isAgg102 hC.1 (cellM_box hb_1k8))) ?_
    clear E a; intro a E
    refine D_v E rfl rfl rfl (fun w hC => (R_loadM E rfl Try.isAgg77 hC.1 (cellM_box hbx9k8))) ?_
    clear E a; intro a E
    refine D_v E rfl rfl rfl (fun w hC => (R_move E rfl)) ?_
    clear E a; intro a E
    refine D_v E rfl rfl rfl (fun w hC => (R_load E rfl (Try.isAgg3 _) (cell_blk (hC.2 rfl)))) ?_
    clear E a; intro a E
    refine D_x rfl rfl rfl (X_pu E S rfl rfl rfl (h1.2 x ((pre).length : Int)) (Hp.le.refl _) ?_)
    clear E a S; rintro a _ w M_9 hM_9 rfl S E
    replace h0 := h0.le hM_9
    replace h1 := h1.le hM_9
    replace hbx8 := hM_9.2 _ _ hbx8
    replace hbx9 := hM_9.2 _ _ hbx9
    replace hb_1 := hM_9.2 _ _ hb_1
    replace f0 := hJM _ _ _ _ hM_9 f0
    refine ⟨fun x hq hb => ⟨(agree_le hM_9 S.imm), (fun e => by subst e; exact absurd hb (by decide))⟩, ?_⟩
    replace S := S.front2
    refine D_x rfl rfl rfl (X_yield (x := f1 x ((pre).length : Int)) E S rfl rfl rfl hY (hM_2.trans (hM_4.trans hM_9)) (by exact mapI_prefix (by assumption)) rfl f0 ?_)
    clear E a S; rintro a w M_10 c_11 go_12 hM_10 f0 S E
    replace h0 := h0.le hM_10
    replace h1 := h1.le hM_10
    replace hbx8 := hM_10.2 _ _ hbx8
    replace hbx9 := hM_10.2 _ _ hbx9
    replace hb_1 := hM_10.2 _ _ hb_1
    refine ⟨fun x hq hb => ⟨(agree_le (hM_9.trans hM_10) S.imm), (fun e => by subst e; exact absurd hb (by decide))⟩, ?_⟩
    cases go_12
    · replace f0 : X (mapI f1 0 (pre) ++ [f1 x ((pre).length : Int)]) M_10 c_11 := f0
      refine D_v E rfl rfl rfl (fun w hC => (R_not E rfl)) ?_
      clear E a; intro a E
      refine D_end (NoP_n ?_)
      refine T_n ?_
      refine WP_condT E rfl rfl ?_
      refine WP_ret ?_
      refine T_r ?_
      refine B_r ?_
      replace S := S.front2
      replace S := S.drop
      replace S := S.front1
      exact ⟨M_10, _, (hM_9.trans hM_10), ⟨rfl, _, (by first | assumption | (exact mapI_prefix (by assumption)) | (exact mapI_prefix0 (by assumption))), f0⟩, S⟩
    · replace f0 : J (mapI f1 0 (pre) ++ [f1 x ((pre).length : Int)]) M_10 c_11 := f0
      refine D_v E rfl rfl rfl (fun w hC => (R_not E rfl)) ?_
      clear E a; intro a E
      refine D_end (NoP_n ?_)
      refine T_n ?_
      refine WP_condF E rfl rfl ?_
      refine WP_skip ?_
      refine T_n ?_
      refine WP_region ?_
      refine S_v E rfl (R_load E rfl (Try.isAgg3 _) (cell_blk (S.mem (.tail _ (.tail _ (.head _)))))) rfl ?_
      clear E a; intro a E
      refine S_v E rfl (R_addx (m := (((pre).length + 1 : Nat) : Int)) E rfl rfl (by omega) (by omega)) rfl ?_
      clear E a; intro a E
      replace S := S.front2
      refine S_x0 (X_store E S rfl rfl (Try.sizeOf3 _) rfl ?_)
      clear E a S; rintro a w E S
      refine WL_nil ?_
      refine B_n ?_
      replace S := S.front1
      replace S := S.front1
      replace S := S.front1
      replace S := S.front1
      replace S := S.blk_int (j := (((pre ++ [x])).length : Int)) (by (first | (simp; done) | omega))
      have S0 := S; clear S; have S := (St.pack [blk b_3 (.cells #[.int .i64 (((pre ++ [x])).length : Int)] 3), c_11] S0).swap; clear S0
      exact ⟨M_10, _, (hM_9.trans hM_10), ⟨_, rfl, J_eq f0 (by (rw [mapI_app1]))⟩, S⟩
  · rintro a w M_13 _ D_14 hM_13 ⟨c0, rfl, f0⟩ S E
    replace S := S.unpack2
    replace h0 := h0.le hM_13
    replace h1 := h1.le hM_13
    replace hbx8 := hM_13.2 _ _ hbx8
    replace hbx9 := hM_13.2 _ _ hbx9
    replace hb_1 := hM_13.2 _ _ hb_1
    refine B_n ?_
    refine F_nrm ?_
    replace S := S.drop
    replace S := S.front1
    have hpre : mapI f1 0 (l0) = mapI f1 0 l0 := by ((try clear S); (try clear E); first | rfl | (simp; done) | (simp_all; done) | grind [List.take_add_one])
    rw [hpre] at f0
    exact F_retM0 E S Try.results222 (fun w S => ⟨_, rfl, M_13, _, (hM_2.trans hM_13), .inl f0, S⟩)
  · rintro a w M_15 c_ D_16 p_17 _ hM_15 hp_18 ⟨rfl, z_, hz_, f0⟩ S E
    replace h0 := h0.le hM_15
    replace h1 := h1.le hM_15
    replace hbx8 := hM_15.2 _ _ hbx8
    replace hbx9 := hM_15.2 _ _ hbx9
    replace hb_1 := hM_15.2 _ _ hb_1
    refine WP_ret ?_
    refine B_r ?_
    replace S := S.front1
    exact F_retM0 E S Try.results222 (fun w S => ⟨_, rfl, M_15, _, (hM_2.trans hM_15), .inr ⟨z_, (by first | assumption | (exact mapI_prefix0 (by assumption))), f0⟩, S⟩)

set_option maxRecDepth 100000 in
set_option maxHeartbeats 4000000 in
theorem it_MapI {M : Hp} {v0 : Value} {l0 : List Int} (h0 : SeqV Try.prog v0 M (RInt) l0) {v1 : Value} {f1 : Int → Int → Int} (h1 : PF2I Try.prog v1 M f1) (hb : l0.length ≤ 1000000000000) :
    Pu Try.prog (.func (.func 147) #[] #[]) M [v0, v1] (fun r M' => SeqV Try.prog r M' RInt (mapI f1 0 l0)) := by
  refine Pu_enter Try.func147 rfl Try.ntmps147 rfl Try.call147 ?_
  intro a w M1 H hM1 S E
  replace h0 := h0.le hM1
  replace h1 := h1.le hM1
  refine WP_seq ?_
  refine WP_region ?_
  refine S_x (X_box (cs := #[v0]) E S rfl rfl (cells_one h0.1) ?_)
  clear E a S; rintro a w b_1 E S
  obtain ⟨M_2, hM_2, hb_1, S⟩ := S.freezeB
  replace h0 := h0.le hM_2
  replace h1 := h1.le hM_2
  refine S_x (X_box (cs := #[v1]) E S rfl rfl (cells_one h1.1) ?_)
  clear E a S; rintro a w b_3 E S
  obtain ⟨M_4, hM_4, hb_3, S⟩ := S.freezeB
  replace h0 := h0.le hM_4
  replace h1 := h1.le hM_4
  replace hb_1 := hM_4.2 _ _ hb_1
  refine S_v E rfl (R_assign E rfl) rfl ?_
  clear E a; intro a E
  refine WL_nil ?_
  refine T_n ?_
  refine WP_seq ?_
  refine WP_region ?_
  refine S_v E rfl (R_makeFunc E rfl rfl) rfl ?_
  clear E a; intro a E
  refine S_v E rfl (R_assign E rfl) rfl ?_
  clear E a; intro a E
  refine WL_nil ?_
  refine T_n ?_
  refine WP_ret ?_
  exact F_ret1 E Try.results147 rfl ⟨_, rfl, M_4, (hM_2.trans hM_4), (SeqV_eq (it_MapI1 (f1 := f1) h0 h1 (by (first | omega | (simp; omega) | (simp; done) | (simp_all; omega) | grind)) hb_1 hb_3) (by ((try clear S); (try clear E); first | rfl | (simp; done) | (simp_all; done) | grind [List.take_add_one]))), S⟩

set_option maxRecDepth 100000 in
set_option maxHeartbeats 4000000 in
theorem slices_AppendSeq {M : Hp} {v1 : Value} {l1 : List Int} (h1 : SeqV Try.prog v1 M (RInt) l1)(hb : l1.length ≤ 1000000000000) :
    Pu Try.prog (.func (.func 196) #[] #[]) M [.slice none 0 0, v1] (fun r M' => RdI M' r l1) := by
  refine Pu_enter Try.func196 rfl Try.ntmps196 rfl Try.call196 ?_
  intro a w M1 H hM1 S E
  replace h1 := h1.le hM1
  replace S : St w M1 (mks [] :: _) := S.empty
  replace E : Env a 13 (([] : List Nat).map mk) _ := E
  refine WP_seq ?_
  refine WP_region ?_
  refine S_x (X_box (cs := #[.slice none 0 0]) E S rfl rfl rfl ?_)
  clear E a S; rintro a w b_1 E S
  refine S_v E rfl (R_assign E rfl) rfl ?_
  clear E a; intro a E
  refine WL_nil ?_
  refine T_n ?_
  refine WP_seq ?_
  refine WP_seq ?_
  refine WP_region ?_
  refine S_v E rfl (R_move E rfl) rfl ?_
  clear E a; intro a E
  refine WL_nil ?_
  refine T_n ?_
  refine WP_block ?_
  replace S := (S.ownNil (e := 3) (sz := 1)).made0
  replace S := S.front1
  replace E := E.keep (l' := [(2, .pointer (some ⟨b_1, 0, none⟩)), (6, v1)]) ⟨rfl, rfl, trivial⟩
  replace S := S.front1
  replace S := S.re1 (l' := ([] : List Int)) (by ((try clear S); (try clear E); first | assumption | omega | rfl | (simp; done) | (simp_all; done) | (simp [List.take_add_one, *]; done) | grind [List.take_add_one]))
  replace S := S.front1
  have S0 := S; clear S; have S := St.pack [blk b_1 (.cells #[(.slice none 0 0)] 22), OwnI 3 (.slice none 0 0) ([] : List Int)] S0; clear S0
  refine WP_range (RV := RInt) (l := l1) (fun pre M c => ∃ (u2 : Value), c = bigs [blk b_1 (.cells #[u2] 22), OwnI 3 u2 pre]) (fun _ _ _ _ => False) E S rfl h1 (Hp.le.refl _) (fun _ _ _ h => by rw [h]; rfl) (by decide) (by rintro _ M M' c hM ⟨u2, rfl⟩; exact ⟨_, rfl⟩) ⟨_, rfl⟩ ?_ ?_ ?_
  clear E S
  · rintro lb_4 rec_5 pre x _ a w M_3 _ G hM_3 hp_6 rfl ⟨u2, rfl⟩ E S
    replace E : Env a 13 [] [(7, .int .i64 x), (2, .pointer (some ⟨b_1, 0, none⟩)), (6, v1)] := E
    replace S := S.swap.unpack2
    have hq0 := prefix_lt hp_6
    replace h1 := h1.le hM_3
    refine WP_region ?_
    refine S_v E rfl (R_assign E rfl) rfl ?_
    clear E a; intro a E
    refine WL_nil ?_
    refine T_n ?_
    replace S := S.front2
    refine rb S ?_
    clear S; intro w S
    refine WP_block ?_
    refine WP_region ?_
    refine S_v E rfl (R_load E rfl (Try.isAgg22 _) (cell_blk (S.mem (.tail _ (.head _))))) rfl ?_
    clear E a; intro a E
    refine S_v E rfl (R_move E rfl) rfl ?_
    clear E a; intro a E
    refine S_x (X_buildI (ys := [x]) E S rfl T22 rfl rfl rfl ?_)
    clear E a S; rintro a w v_8 E S
    replace S := S.front3
    replace S := S.front1
    refine S_x (X_appendB (xs := pre) (ys := [x]) E S rfl rfl rfl T22 (by first | omega | (simp; done) | (simp; omega) | (simp_all; omega)) ?_)
    clear E a S; rintro a w v_9 E S
    have ho_10 := S.oneI
    replace S := S.front2
    refine S_x0 (X_store E S rfl rfl (Try.sizeOf22 _) ho_10 ?_)
    clear E a S; rintro a w E S
    refine WL_nil ?_
    refine B_n ?_
    replace S := S.front1
    replace S := S.front1
    replace S := S.front1
    replace S := S.front1
    have S0 := S; clear S; have S := (St.pack [blk b_1 (.cells #[v_9] 22), OwnI 3 v_9 (pre ++ [x])] S0).swap; clear S0
    exact ⟨M_3, _, (Hp.le.refl _), ⟨_, rfl⟩, S⟩
  · rintro a w M_11 _ D_12 hM_11 ⟨u2, rfl⟩ S E
    replace S := S.unpack2
    replace h1 := h1.le hM_11
    refine B_n ?_
    refine T_n ?_
    refine WP_seq ?_
    refine WP_region ?_
    refine S_v E rfl (R_load E rfl (Try.isAgg22 _) (cell_blk (S.mem (.head _)))) rfl ?_
    clear E a; intro a E
    refine S_v E rfl (R_assign E rfl) rfl ?_
    clear E a; intro a E
    refine WL_nil ?_
    refine T_n ?_
    refine WP_ret ?_
    replace S := S.front1
    have S0 := S; clear S
    obtain ⟨M_13, hM_13, hz_14, S⟩ := S0.freezeI (by (first | omega | (simp; omega) | (simp; done) | (simp_all; omega) | grind))
    clear S0
    replace h1 := h1.le hM_13
    replace S := S.drop
    exact F_retM1 E S Try.results196 rfl (fun w S => ⟨_, rfl, M_13, (hM_11.trans hM_13), hz_14, S⟩)
  · rintro _ _ _ _ _ _ _ _ _ hX; exact hX.elim

set_option maxRecDepth 100000 in
set_option maxHeartbeats 4000000 in
theorem slices_Collect {M : Hp} {v0 : Value} {l0 : List Int} (h0 : SeqV Try.prog v0 M (RInt) l0)(hb : l0.length ≤ 1000000000000) :
    Pu Try.prog (.func (.func 106) #[] #[]) M [v0] (fun r M' => RdI M' r l0) := by
  refine Pu_enter Try.func106 rfl Try.ntmps106 rfl Try.call106 ?_
  intro a w M1 H hM1 S E
  replace h0 := h0.le hM1
  refine WP_seq ?_
  refine WP_region ?_
  refine S_v E rfl (R_assign E rfl) rfl ?_
  clear E a; intro a E
  refine WL_nil ?_
  refine T_n ?_
  refine WP_seq ?_
  refine WP_region ?_
  refine S_v E rfl (R_move E rfl) rfl ?_
  clear E a; intro a E
  refine S_x (X_pu E S rfl rfl rfl (slices_AppendSeq h0 (by (first | omega | (simp; omega) | (simp; done) | (simp_all; omega) | grind))) (Hp.le.refl _) ?_)
  clear E a S; rintro a v_2 w M_1 hM_1 hv_2 S E
  replace h0 := h0.le hM_1
  refine S_v E rfl (R_assign E rfl) rfl ?_
  clear E a; intro a E
  refine WL_nil ?_
  refine T_n ?_
  refine WP_ret ?_
  exact F_ret1 E Try.results106 rfl ⟨_, rfl, M_1, hM_1, hv_2, S⟩

set_option maxRecDepth 100000 in
set_option maxHeartbeats 4000000 in
theorem impl_MapSeq {M : Hp} {v0 : Value} {l0 : List Int} (h0 : RdI M v0 l0){kk1 kn1 : Int} (gk1 : -9223372036854775808 ≤ kn1 ∧ kn1 ≤ 9223372036854775807) (hb : l0.length ≤ 1000000000000) :
    Pu Try.prog (.func (.func 61) #[] #[]) M [v0, .agg #[.int .i64 kk1, .int .i64 kn1]] (fun r M' => RdI M' r (mapI (keyAt kk1 kn1) 0 l0)) := by
  refine Pu_enter Try.func61 rfl Try.ntmps61 rfl Try.call61 ?_
  intro a w M1 H hM1 S E
  replace h0 := h0.le hM1
  have b0 := h0.bound
  have hml := mapI_len (keyAt kk1 kn1) l0 0
  refine WP_seq ?_
  refine WP_region ?_
  refine S_x (X_box (cs := #[.int .i64 kk1, .int .i64 kn1]) E S rfl rfl rfl ?_)
  clear E a S; rintro a w b_1 E S
  obtain ⟨M_2, hM_2, hb_1, S⟩ := S.freezeB
  replace h0 := h0.le hM_2
  refine S_v E rfl (R_assign E rfl) rfl ?_
  clear E a; intro a E
  refine WL_nil ?_
  refine T_n ?_
  refine WP_seq ?_
  have hb_1k2 := hb_1
  replace S := S.mono_heap (w' := World.drew _) rfl
  refine WP_drawn (C := fun x w => agree M_2 w) (bf := (fun i => [])) [0, 2, 3, 6] [0, 2, 3, 1, 4, 5, 6] Try.mixed (by kernel_rfl) (fun x hq => S.imm) ?_
  refine D_v E rfl rfl rfl (fun w hC => (R_move E rfl)) ?_
  clear E a; intro a E
  refine D_v E rfl rfl rfl (fun w hC => (R_loadGM E rfl (Try.isAgg34 _) (Try.sizeOf34 _) hC hb_1k2)) ?_
  clear E a; intro a E
  refine D_v E rfl rfl rfl (fun w hC => (R_makeFunc E rfl rfl)) ?_
  clear E a; intro a E
  refine D_x rfl rfl rfl (X_pu E S rfl rfl rfl (slices_Values h0) (Hp.le.refl _) ?_)
  clear E a S; rintro a v_4 w M_3 hM_3 hv_4 S E
  replace h0 := h0.le hM_3
  replace hb_1 := hM_3.2 _ _ hb_1
  refine ⟨fun x hq hb => (agree_le hM_3 S.imm), ?_⟩
  refine D_x rfl rfl rfl (X_pu E S rfl rfl rfl (it_MapI hv_4 ⟨rfl, fun zx1 zx2 => Key_at (x1 := zx1) (x2 := zx2) (by omega)⟩ (by (first | omega | (simp; omega) | (simp; done) | (simp_all; omega) | grind))) (Hp.le.refl _) ?_)
  clear E a S; rintro a v_6 w M_5 hM_5 hv_6 S E
  replace h0 := h0.le hM_5
  replace hb_1 := hM_5.2 _ _ hb_1
  replace hv_4 := hv_4.le hM_5
  refine ⟨fun x hq hb => (agree_le (hM_3.trans hM_5) S.imm), ?_⟩
  refine D_x rfl rfl rfl (X_pu E S rfl rfl rfl (slices_Collect hv_6 (by (first | omega | (simp; omega) | (simp; done) | (simp_all; omega) | grind))) (Hp.le.refl _) ?_)
  clear E a S; rintro a v_8 w M_7 hM_7 hv_8 S E
  replace h0 := h0.le hM_7
  replace hb_1 := hM_7.2 _ _ hb_1
  replace hv_4 := hv_4.le hM_7
  replace hv_6 := hv_6.le hM_7
  refine ⟨fun x hq hb => (agree_le (hM_3.trans (hM_5.trans hM_7)) S.imm), ?_⟩
  refine D_v E rfl rfl rfl (fun w hC => (R_assign E rfl)) ?_
  clear E a; intro a E
  refine D_end (NoP_n ?_)
  refine T_n ?_
  refine WP_ret ?_
  exact F_ret1 E Try.results61 rfl ⟨_, rfl, M_7, (hM_2.trans (hM_3.trans (hM_5.trans hM_7))), hv_8, S⟩

set_option maxRecDepth 100000 in
set_option maxHeartbeats 4000000 in
theorem lo_FilterMap {M : Hp} {v0 : Value} {l0 : List Int} (h0 : RdI M v0 l0){v1 : Value} {f1 : Int → Int → Int × Bool} (h1 : PF2T Try.prog v1 M f1) (hb : l0.length ≤ 1000000000000) :
    Pu Try.prog (.func (.func 148) #[] #[]) M [v0, v1] (fun r M' => RdI M' r (fmapI f1 0 l0)) := by
  refine Pu_enter Try.func148 rfl Try.ntmps148 rfl Try.call148 ?_
  intro a w M1 H hM1 S E
  replace h0 := h0.le hM1
  replace h1 := h1.le hM1
  have b0 := h0.bound
  refine WP_seq ?_
  refine WP_region ?_
  refine S_v E rfl (R_assign E rfl) rfl ?_
  clear E a; intro a E
  refine WL_nil ?_
  refine T_n ?_
  refine WP_seq ?_
  refine WP_region ?_
  refine S_v E rfl (R_move E rfl) rfl ?_
  clear E a; intro a E
  refine S_v E rfl (R_lenV E rfl T22 h0.len) rfl ?_
  clear E a; intro a E
  refine S_x (X_make0 (k := (l0).length) E S rfl rfl rfl T22 rfl (by omega) (by omega) (by omega) ?_)
  clear E a S; rintro a w v_1 E S
  replace S := S.made0
  refine S_v E rfl (R_assign E rfl) rfl ?_
  clear E a; intro a E
  refine WL_nil ?_
  refine T_n ?_
  refine WP_seq ?_
  refine WP_seq ?_
  refine WP_region ?_
  refine S_v E rfl (R_move E rfl) rfl ?_
  clear E a; intro a E
  refine S_v E rfl (R_lenV E rfl T22 h0.len) rfl ?_
  clear E a; intro a E
  refine S_v E rfl (R_move E rfl) rfl ?_
  clear E a; intro a E
  refine WL_nil ?_
  refine T_n ?_
  refine WP_block ?_
  replace S := S.re1 (l' := fmapI f1 0 (l0.take 0)) (by first | (simp [fmapI]; done) | (rw [fmapI_succ (by assumption)]; simp [*]; done))
  refine WP_loop (γ := Nat) (fun (k : Nat) a w => ∃ (M_2 : Hp) (u5 : Value), Hp.le M1 M_2 ∧ St w M_2 (OwnI 3 u5 (fmapI f1 0 (l0.take k)) :: H) ∧ Env a 34 [] [(0, v0), (1, v1), (5, u5), (13, .int .i64 (((l0).length : Nat) : Int)), (14, .int .i64 ((k : Nat) : Int))] ∧ (k ≤ (l0).length)) (fun k => ((l0).length) - k) 0 ⟨M1, _, Hp.le.refl _, S, E.keep ⟨rfl, rfl, rfl, rfl, rfl, trivial⟩, by ((try clear S); (try clear E); first | assumption | omega | rfl | (simp; done) | (simp_all; done) | (simp [List.take_add_one, *]; done) | grind [List.take_add_one])⟩ ?_
  try clear E
  try clear S
  try clear a
  try clear w
  rintro k a w ⟨M_2, u5, hM_2, S, E, hL0_0⟩
  replace h0 := h0.le hM_2
  replace h1 := h1.le hM_2
  have hfl := fmapI_len f1 (l0.take k) 0; simp only [List.length_take] at hfl
  refine WP_seq ?_
  refine WP_region ?_
  refine S_v E rfl (R_lss E rfl rfl) rfl ?_
  clear E a; intro a E
  refine WL_nil ?_
  refine T_n ?_
  refine WP_seq ?_
  refine WP_cond E rfl (fun hc_3 => ?_) (fun hc_3 => ?_)
  · replace hc_3 := of_decide_eq_true hc_3
    refine WP_skip ?_
    refine T_n ?_
    refine WP_seq ?_
    refine WP_block ?_
    refine WP_seq ?_
    refine WP_region ?_
    refine S_v E rfl (R_move E rfl) rfl ?_
    clear E a; intro a E
    refine S_v E rfl (R_assign E rfl) rfl ?_
    clear E a; intro a E
    refine WL_nil ?_
    refine T_n ?_
    refine WP_seq ?_
    refine WP_region ?_
    refine S_v E rfl (R_move E rfl) rfl ?_
    clear E a; intro a E
    refine S_v E rfl (R_move E rfl) rfl ?_
    clear E a; intro a E
    refine S_v E rfl (R_move E rfl) rfl ?_
    clear E a; intro a E
    obtain ⟨x_4, hx_4⟩ : ∃ x, (l0)[k]? = some x := ⟨_, List.getElem?_eq_getElem (by first | omega | (simp; done) | (simp; omega) | (simp_all; omega))⟩
    obtain ⟨p_5, hp_5, qp_5⟩ := h0.at hx_4
    refine S_v E rfl (R_idx E rfl rfl T22 hp_5 rfl) rfl ?_
    clear E a; intro a E
    refine S_v E rfl (R_loadM E rfl Try.isAgg3 S.imm qp_5) rfl ?_
    clear E a; intro a E
    refine S_v E rfl (R_move E rfl) rfl ?_
    clear E a; intro a E
    refine S_x (X_pu E S rfl rfl rfl (h1.2 x_4 ((k : Nat) : Int)) (Hp.le.refl _) ?_)
    clear E a S; rintro a _ w M_6 hM_6 rfl S E
    replace h0 := h0.le hM_6
    replace h1 := h1.le hM_6
    refine S_v E rfl (R_move E rfl) rfl ?_
    clear E a; intro a E
    refine S_v E rfl (R_extract E rfl rfl) rfl ?_
    clear E a; intro a E
    refine S_v E rfl (R_extract E rfl rfl) rfl ?_
    clear E a; intro a E
    refine S_v E rfl (R_assign E rfl) rfl ?_
    clear E a; intro a E
    refine S_v E rfl (R_assign E rfl) rfl ?_
    clear E a; intro a E
    refine WL_nil ?_
    refine T_n ?_
    refine WP_seq ?_
    refine WP_region ?_
    refine S_v E rfl (R_move E rfl) rfl ?_
    clear E a; intro a E
    refine WL_nil ?_
    refine T_n ?_
    refine WP_cond E rfl (fun hc_7 => ?_) (fun hc_7 => ?_)
    · refine WP_region ?_
      refine S_v E rfl (R_move E rfl) rfl ?_
      clear E a; intro a E
      refine S_v E rfl (R_move E rfl) rfl ?_
      clear E a; intro a E
      refine S_x (X_buildI (ys := [(f1 x_4 ((k : Nat) : Int)).1]) E S rfl T22 rfl rfl rfl ?_)
      clear E a S; rintro a w v_8 E S
      replace S := S.front1
      replace S := S.front1
      refine S_x (X_appendB (xs := fmapI f1 0 (l0.take k)) (ys := [(f1 x_4 ((k : Nat) : Int)).1]) E S rfl rfl rfl T22 (by first | omega | (simp; done) | (simp; omega) | (simp_all; omega)) ?_)
      clear E a S; rintro a w v_9 E S
      refine S_v E rfl (R_assign E rfl) rfl ?_
      clear E a; intro a E
      refine WL_nil ?_
      refine B_n ?_
      refine T_n ?_
      refine WP_region ?_
      refine S_v E rfl (R_addx (m := ((k + 1 : Nat) : Int)) E rfl rfl (by omega) (by omega)) rfl ?_
      clear E a; intro a E
      refine S_v E rfl (R_move E rfl) rfl ?_
      clear E a; intro a E
      refine WL_nil ?_
      refine T_n ?_
      replace S := S.re1 (l' := fmapI f1 0 (l0.take (k + 1))) (by first | (simp [fmapI]; done) | (rw [fmapI_succ (by assumption)]; simp [*]; done))
      exact ⟨k + 1, ⟨M_6, _, (hM_2.trans hM_6), S, E.keep ⟨rfl, rfl, rfl, rfl, rfl, trivial⟩, by ((try clear S); (try clear E); first | assumption | omega | rfl | (simp; done) | (simp_all; done) | (simp [List.take_add_one, *]; done) | grind [List.take_add_one])⟩, by omega⟩
    · refine WP_skip ?_
      refine B_n ?_
      refine T_n ?_
      refine WP_region ?_
      refine S_v E rfl (R_addx (m := ((k + 1 : Nat) : Int)) E rfl rfl (by omega) (by omega)) rfl ?_
      clear E a; intro a E
      refine S_v E rfl (R_move E rfl) rfl ?_
      clear E a; intro a E
      refine WL_nil ?_
      refine T_n ?_
      replace S := S.re1 (l' := fmapI f1 0 (l0.take (k + 1))) (by first | (simp [fmapI]; done) | (rw [fmapI_succ (by assumption)]; simp [*]; done))
      exact ⟨k + 1, ⟨M_6, _, (hM_2.trans hM_6), S, E.keep ⟨rfl, rfl, rfl, rfl, rfl, trivial⟩, by ((try clear S); (try clear E); first | assumption | omega | rfl | (simp; done) | (simp_all; done) | (simp [List.take_add_one, *]; done) | grind [List.take_add_one])⟩, by omega⟩
  · replace hc_3 := of_decide_eq_false hc_3
    refine WP_exit ?_
    refine T_x ?_
    refine T_x ?_
    refine B_x ?_
    refine T_n ?_
    refine WP_seq ?_
    refine WP_region ?_
    refine S_v E rfl (R_move E rfl) rfl ?_
    clear E a; intro a E
    refine S_v E rfl (R_assign E rfl) rfl ?_
    clear E a; intro a E
    refine WL_nil ?_
    refine T_n ?_
    refine WP_ret ?_
    have S0 := S; clear S
    obtain ⟨M_10, hM_10, hz_11, S⟩ := S0.freezeI (by (have hfl := fmapI_len f1 (l0.take k) 0; simp only [List.length_take] at hfl; omega))
    clear S0
    replace h0 := h0.le hM_10
    replace h1 := h1.le hM_10
    exact F_ret1 E Try.results148 rfl ⟨_, rfl, M_10, (hM_2.trans hM_10), (by rw [show (fmapI f1 0 l0) = (fmapI f1 0 (l0.take k)) from by (rw [List.take_of_length_le (by omega)])]; exact hz_11), S⟩

set_option maxRecDepth 100000 in
set_option maxHeartbeats 4000000 in
theorem slices_Index {M : Hp} {v0 : Value} {l0 : List Int} (h0 : RdI M v0 l0){x1 : Int} :
    Pu Try.prog (.func (.func 242) #[] #[]) M [v0, .int .i64 x1] (fun r M' => r = .int .i64 (idxOf l0 x1)) := by
  refine Pu_enter Try.func242 rfl Try.ntmps242 rfl Try.call242 ?_
  intro a w M1 H hM1 S E
  replace h0 := h0.le hM1
  have b0 := h0.bound
  refine WP_seq ?_
  refine WP_region ?_
  refine S_v E rfl (R_assign E rfl) rfl ?_
  clear E a; intro a E
  refine WL_nil ?_
  refine T_n ?_
  refine WP_seq ?_
  refine WP_seq ?_
  refine WP_region ?_
  refine S_v E rfl (R_move E rfl) rfl ?_
  clear E a; intro a E
  refine S_v E rfl (R_lenV E rfl T22 h0.len) rfl ?_
  clear E a; intro a E
  refine S_v E rfl (R_move E rfl) rfl ?_
  clear E a; intro a E
  refine WL_nil ?_
  refine T_n ?_
  refine WP_block ?_
  refine WP_loop (γ := Nat) (fun (k : Nat) a w => ∃ (M_1 : Hp), Hp.le M1 M_1 ∧ St w M_1 (H) ∧ Env a 19 [] [(0, v0), (1, .int .i64 x1), (7, .int .i64 (((l0).length : Nat) : Int)), (8, .int .i64 ((k : Nat) : Int))] ∧ (k ≤ (l0).length) ∧ (∀ j, j < k → l0[j]? ≠ some x1)) (fun k => ((l0).length) - k) 0 ⟨M1, Hp.le.refl _, S, E.keep ⟨rfl, rfl, rfl, rfl, trivial⟩, by ((try clear S); (try clear E); first | assumption | omega | rfl | (simp; done) | (simp_all; done) | (simp [List.take_add_one, *]; done) | grind [List.take_add_one]), by ((try clear S); (try clear E); first | assumption | omega | rfl | (simp; done) | (simp_all; done) | (simp [List.take_add_one, *]; done) | grind [List.take_add_one])⟩ ?_
  try clear E
  try clear S
  try clear a
  try clear w
  rintro k a w ⟨M_1, hM_1, S, E, hL0_0, hL0_1⟩
  replace h0 := h0.le hM_1
  refine WP_seq ?_
  refine WP_region ?_
  refine S_v E rfl (R_lss E rfl rfl) rfl ?_
  clear E a; intro a E
  refine WL_nil ?_
  refine T_n ?_
  refine WP_seq ?_
  refine WP_cond E rfl (fun hc_2 => ?_) (fun hc_2 => ?_)
  · replace hc_2 := of_decide_eq_true hc_2
    refine WP_skip ?_
    refine T_n ?_
    refine WP_seq ?_
    refine WP_block ?_
    refine WP_seq ?_
    refine WP_region ?_
    refine S_v E rfl (R_move E rfl) rfl ?_
    clear E a; intro a E
    refine S_v E rfl (R_assign E rfl) rfl ?_
    clear E a; intro a E
    refine WL_nil ?_
    refine T_n ?_
    refine WP_seq ?_
    refine WP_region ?_
    refine S_v E rfl (R_move E rfl) rfl ?_
    clear E a; intro a E
    refine S_v E rfl (R_move E rfl) rfl ?_
    clear E a; intro a E
    refine S_v E rfl (R_move E rfl) rfl ?_
    clear E a; intro a E
    obtain ⟨x_3, hx_3⟩ : ∃ x, (l0)[k]? = some x := ⟨_, List.getElem?_eq_getElem (by first | omega | (simp; done) | (simp; omega) | (simp_all; omega))⟩
    obtain ⟨p_4, hp_4, qp_4⟩ := h0.at hx_3
    refine S_v E rfl (R_idx E rfl rfl T22 hp_4 rfl) rfl ?_
    clear E a; intro a E
    refine S_v E rfl (R_loadM E rfl Try.isAgg3 S.imm qp_4) rfl ?_
    clear E a; intro a E
    refine S_v E rfl (R_eql E rfl rfl) rfl ?_
    clear E a; intro a E
    refine WL_nil ?_
    refine T_n ?_
    refine WP_cond E rfl (fun hc_5 => ?_) (fun hc_5 => ?_)
    · replace hc_5 := of_decide_eq_true hc_5
      refine WP_seq ?_
      refine WP_region ?_
      refine S_v E rfl (R_move E rfl) rfl ?_
      clear E a; intro a E
      refine S_v E rfl (R_assign E rfl) rfl ?_
      clear E a; intro a E
      refine WL_nil ?_
      refine T_n ?_
      refine WP_ret ?_
      refine B_r ?_
      refine T_r ?_
      refine T_r ?_
      refine B_r ?_
      refine T_r ?_
      exact F_ret1 E Try.results242 rfl ⟨_, rfl, M_1, hM_1, (congrArg (Value.int .i64) (by (rw [idxOf_some (k := k) (by simp_all) hL0_1]))), S⟩
    · replace hc_5 := of_decide_eq_false hc_5
      refine WP_skip ?_
      refine B_n ?_
      refine T_n ?_
      refine WP_region ?_
      refine S_v E rfl (R_addx (m := ((k + 1 : Nat) : Int)) E rfl rfl (by omega) (by omega)) rfl ?_
      clear E a; intro a E
      refine S_v E rfl (R_move E rfl) rfl ?_
      clear E a; intro a E
      refine WL_nil ?_
      refine T_n ?_
      exact ⟨k + 1, ⟨M_1, hM_1, S, E.keep ⟨rfl, rfl, rfl, rfl, trivial⟩, by ((try clear S); (try clear E); first | assumption | omega | rfl | (simp; done) | (simp_all; done) | (simp [List.take_add_one, *]; done) | grind [List.take_add_one]), by ((try clear S); (try clear E); first | assumption | omega | rfl | (simp; done) | (simp_all; done) | (simp [List.take_add_one, *]; done) | grind [List.take_add_one])⟩, by omega⟩
  · replace hc_2 := of_decide_eq_false hc_2
    refine WP_exit ?_
    refine T_x ?_
    refine T_x ?_
    refine B_x ?_
    refine T_n ?_
    refine WP_seq ?_
    refine WP_region ?_
    refine S_v E rfl (R_assign E rfl) rfl ?_
    clear E a; intro a E
    refine WL_nil ?_
    refine T_n ?_
    refine WP_ret ?_
    exact F_ret1 E Try.results242 rfl ⟨_, rfl, M_1, hM_1, (congrArg (Value.int .i64) (by (rw [idxOf_none (fun j e => by have := (List.getElem?_eq_some_iff.1 e).1; exact hL0_1 j (by omega) e)]))), S⟩

set_option maxRecDepth 100000 in
set_option maxHeartbeats 4000000 in
theorem slices_Contains {M : Hp} {v0 : Value} {l0 : List Int} (h0 : RdI M v0 l0){x1 : Int} :
    Pu Try.prog (.func (.func 201) #[] #[]) M [v0, .int .i64 x1] (fun r M' => r = .bool (decide (x1 ∈ l0))) := by
  refine Pu_enter Try.func201 rfl Try.ntmps201 rfl Try.call201 ?_
  intro a w M1 H hM1 S E
  replace h0 := h0.le hM1
  have b0 := h0.bound
  refine WP_seq ?_
  refine WP_region ?_
  refine S_v E rfl (R_assign E rfl) rfl ?_
  clear E a; intro a E
  refine WL_nil ?_
  refine T_n ?_
  refine WP_seq ?_
  refine WP_region ?_
  refine S_v E rfl (R_move E rfl) rfl ?_
  clear E a; intro a E
  refine S_v E rfl (R_move E rfl) rfl ?_
  clear E a; intro a E
  refine S_x (X_pu E S rfl rfl rfl (slices_Index h0) (Hp.le.refl _) ?_)
  clear E a S; rintro a _ w M_1 hM_1 rfl S E
  replace h0 := h0.le hM_1
  refine S_v E rfl (R_geq E rfl rfl) rfl ?_
  clear E a; intro a E
  refine S_v E rfl (R_assign E rfl) rfl ?_
  clear E a; intro a E
  refine WL_nil ?_
  refine T_n ?_
  refine WP_ret ?_
  exact F_ret1 E Try.results201 rfl ⟨_, rfl, M_1, hM_1, (congrArg Value.bool (by (first | exact idxOf_mem _ _ | rfl))), S⟩

set_option maxRecDepth 100000 in
set_option maxHeartbeats 4000000 in
theorem Pred_at_c {M : Hp} {pk0 pn0 : Int} {w0 : Value} {pl0 : List Int} (hw0 : RdI M w0 pl0) (gn0 : -9223372036854775808 ≤ pn0 ∧ pn0 ≤ 9223372036854775807){x1 x2 : Int} :
    PuC Try.prog 110 M [.agg #[.int .i64 pk0, .int .i64 pn0, w0], .int .i64 x1, .int .i64 x2] (fun r M' => r = .bool (predAt pk0 pn0 pl0 x1 x2)) := by
  refine PuC_enter Try.func110 rfl Try.ntmps110 rfl ?_
  intro a w M1 H hM1 S E
  replace hw0 := hw0.le hM1
  have bw0 := hw0.bound
  refine WP_seq ?_
  refine WP_region ?_
  refine S_x (X_box (cs := #[.int .i64 pk0, .int .i64 pn0, w0]) E S rfl rfl rfl ?_)
  clear E a S; rintro a w b_1 E S
  obtain ⟨M_2, hM_2, hb_1, S⟩ := S.freezeB
  replace hw0 := hw0.le hM_2
  refine S_v E rfl (R_assign E rfl) rfl ?_
  clear E a; intro a E
  refine WL_nil ?_
  refine T_n ?_
  refine WP_seq ?_
  refine WP_seq ?_
  refine WP_region ?_
  refine S_v E rfl (R_fieldAddr E rfl (FA29_0 _)) rfl ?_
  clear E a; intro a E
  refine S_v E rfl (R_loadM E rfl Try.isAgg3 S.imm (cellM_boxo hb_1 rfl)) rfl ?_
  clear E a; intro a E
  refine WL_nil ?_
  refine T_n ?_
  refine WP_block ?_
  refine WP_seq ?_
  refine WP_region ?_
  refine S_v E rfl (R_eql E rfl rfl) rfl ?_
  clear E a; intro a E
  refine S_v E rfl (R_assign E rfl) rfl ?_
  clear E a; intro a E
  refine WL_nil ?_
  refine T_n ?_
  refine WP_cond E rfl (fun hc_3 => ?_) (fun hc_3 => ?_)
  · replace hc_3 := of_decide_eq_true hc_3
    refine WP_seq ?_
    refine WP_region ?_
    refine S_v E rfl (R_move E rfl) rfl ?_
    clear E a; intro a E
    refine S_v E rfl (R_fieldAddr E rfl (FA29_1 _)) rfl ?_
    clear E a; intro a E
    refine S_v E rfl (R_loadM E rfl Try.isAgg3 S.imm (cellM_boxo hb_1 rfl)) rfl ?_
    clear E a; intro a E
    refine S_v E rfl (R_lss E rfl rfl) rfl ?_
    clear E a; intro a E
    refine S_v E rfl (R_assign E rfl) rfl ?_
    clear E a; intro a E
    refine WL_nil ?_
    refine T_n ?_
    refine WP_ret ?_
    refine B_r ?_
    refine T_r ?_
    exact F_ret1 E Try.results110 rfl ⟨_, rfl, M_2, hM_2, (congrArg Value.bool (by (clear E S; unfold predAt; first | (have e := (first_eq (l := pl0) (by assumption)).1; simp_all; done) | (have e : pl0 = [] := List.eq_nil_of_length_eq_zero (by omega); simp_all; done) | (simp_all; done)))), S⟩
  · replace hc_3 := of_decide_eq_false hc_3
    refine WP_seq ?_
    refine WP_region ?_
    refine S_v E rfl (R_eql E rfl rfl) rfl ?_
    clear E a; intro a E
    refine S_v E rfl (R_assign E rfl) rfl ?_
    clear E a; intro a E
    refine WL_nil ?_
    refine T_n ?_
    refine WP_cond E rfl (fun hc_4 => ?_) (fun hc_4 => ?_)
    · replace hc_4 := of_decide_eq_true hc_4
      refine WP_seq ?_
      refine WP_region ?_
      refine S_v E rfl (R_assign E rfl) rfl ?_
      clear E a; intro a E
      refine WL_nil ?_
      refine T_n ?_
      refine WP_seq ?_
      refine WP_seq ?_
      refine WP_region ?_
      refine S_v E rfl (R_fieldAddr E rfl (FA29_2 _)) rfl ?_
      clear E a; intro a E
      refine S_v E rfl (R_loadM E rfl Try.isAgg22 S.imm (cellM_boxo hb_1 rfl)) rfl ?_
      clear E a; intro a E
      refine S_v E rfl (R_lenV E rfl T22 hw0.len) rfl ?_
      clear E a; intro a E
      refine S_v E rfl (R_gtr E rfl rfl) rfl ?_
      clear E a; intro a E
      refine WL_nil ?_
      refine T_n ?_
      refine WP_cond E rfl (fun hc_5 => ?_) (fun hc_5 => ?_)
      · replace hc_5 := of_decide_eq_true hc_5
        refine WP_region ?_
        refine S_v E rfl (R_fieldAddr E rfl (FA29_2 _)) rfl ?_
        clear E a; intro a E
        refine S_v E rfl (R_loadM E rfl Try.isAgg22 S.imm (cellM_boxo hb_1 rfl)) rfl ?_
        clear E a; intro a E
        obtain ⟨x_6, hx_6⟩ : ∃ x, (pl0)[0]? = some x := ⟨_, List.getElem?_eq_getElem (by first | omega | (simp; done) | (simp; omega) | (simp_all; omega))⟩
        obtain ⟨p_7, hp_7, qp_7⟩ := hw0.at hx_6
        refine S_v E rfl (R_idx E rfl rfl T22 hp_7 (by omega)) rfl ?_
        clear E a; intro a E
        refine S_v E rfl (R_loadM E rfl Try.isAgg3 S.imm qp_7) rfl ?_
        clear E a; intro a E
        refine S_v E rfl (R_assign E rfl) rfl ?_
        clear E a; intro a E
        refine WL_nil ?_
        refine T_n ?_
        refine WP_seq ?_
        refine WP_region ?_
        refine S_v E rfl (R_fieldAddr E rfl (FA29_1 _)) rfl ?_
        clear E a; intro a E
        refine S_v E rfl (R_loadM E rfl Try.isAgg3 S.imm (cellM_boxo hb_1 rfl)) rfl ?_
        clear E a; intro a E
        refine S_v E rfl (R_neq E rfl rfl) rfl ?_
        clear E a; intro a E
        refine S_v E rfl (R_move E rfl) rfl ?_
        clear E a; intro a E
        refine split_bool (decide (pn0 ≠ 0)) (fun hc_8 => ?_) (fun hc_8 => ?_)
        · replace E := E.val (t := 28) rfl hc_8
          replace E := E.val (t := 29) rfl hc_8
          replace hc_8 := of_decide_eq_true hc_8
          refine WL_guard_yes E rfl rfl ?_
          refine S_v E rfl (R_move E rfl) rfl ?_
          clear E a; intro a E
          refine WL_guard_yes E rfl rfl ?_
          refine S_v E rfl (R_fieldAddr E rfl (FA29_1 _)) rfl ?_
          clear E a; intro a E
          refine WL_guard_yes E rfl rfl ?_
          refine S_v E rfl (R_loadM E rfl Try.isAgg3 S.imm (cellM_boxo hb_1 rfl)) rfl ?_
          clear E a; intro a E
          refine WL_guard_yes E rfl rfl ?_
          refine S_x (X_pu E S rfl rfl rfl (impl_mod (by first | omega | assumption) (by omega)) (Hp.le.refl _) ?_)
          clear E a S; rintro a _ w M_9 hM_9 rfl S E
          replace hw0 := hw0.le hM_9
          replace hb_1 := hM_9.2 _ _ hb_1
          refine WL_guard_yes E rfl rfl ?_
          refine S_v E rfl (R_move E rfl) rfl ?_
          clear E a; intro a E
          refine WL_guard_yes E rfl rfl ?_
          refine S_v E rfl (R_eql E rfl rfl) rfl ?_
          clear E a; intro a E
          refine S_v E rfl (R_pickT E rfl rfl) rfl ?_
          clear E a; intro a E
          refine S_v E rfl (R_assign E rfl) rfl ?_
          clear E a; intro a E
          refine WL_nil ?_
          refine T_n ?_
          refine WP_ret ?_
          refine B_r ?_
          refine T_r ?_
          exact F_ret1 E Try.results110 rfl ⟨_, rfl, M_9, (hM_2.trans hM_9), (congrArg Value.bool (by (clear E S; unfold predAt; first | (have e := (first_eq (l := pl0) (by assumption)).1; simp_all; done) | (have e : pl0 = [] := List.eq_nil_of_length_eq_zero (by omega); simp_all; done) | (simp_all; done)))), S⟩
        · replace E := E.val (t := 28) rfl hc_8
          replace E := E.val (t := 29) rfl hc_8
          replace hc_8 := of_decide_eq_false hc_8
          refine WL_guard_no E rfl rfl rfl rfl fun a E => ?_
          refine WL_guard_no E rfl rfl rfl rfl fun a E => ?_
          refine WL_guard_no E rfl rfl rfl rfl fun a E => ?_
          refine WL_guard_no E rfl rfl rfl rfl fun a E => ?_
          refine WL_guard_no E rfl rfl rfl rfl fun a E => ?_
          refine WL_guard_no E rfl rfl rfl rfl fun a E => ?_
          refine S_v E rfl (R_pickF E rfl rfl) rfl ?_
          clear E a; intro a E
          refine S_v E rfl (R_assign E rfl) rfl ?_
          clear E a; intro a E
          refine WL_nil ?_
          refine T_n ?_
          refine WP_ret ?_
          refine B_r ?_
          refine T_r ?_
          exact F_ret1 E Try.results110 rfl ⟨_, rfl, M_2, hM_2, (congrArg Value.bool (by (clear E S; unfold predAt; first | (have e := (first_eq (l := pl0) (by assumption)).1; simp_all; done) | (have e : pl0 = [] := List.eq_nil_of_length_eq_zero (by omega); simp_all; done) | (simp_all; done)))), S⟩
      · replace hc_5 := of_decide_eq_false hc_5
        refine WP_skip ?_
        refine T_n ?_
        refine WP_seq ?_
        refine WP_region ?_
        refine S_v E rfl (R_fieldAddr E rfl (FA29_1 _)) rfl ?_
        clear E a; intro a E
        refine S_v E rfl (R_loadM E rfl Try.isAgg3 S.imm (cellM_boxo hb_1 rfl)) rfl ?_
        clear E a; intro a E
        refine S_v E rfl (R_neq E rfl rfl) rfl ?_
        clear E a; intro a E
        refine S_v E rfl (R_move E rfl) rfl ?_
        clear E a; intro a E
        refine split_bool (decide (pn0 ≠ 0)) (fun hc_10 => ?_) (fun hc_10 => ?_)
        · replace E := E.val (t := 28) rfl hc_10
          replace E := E.val (t := 29) rfl hc_10
          replace hc_10 := of_decide_eq_true hc_10
          refine WL_guard_yes E rfl rfl ?_
          refine S_v E rfl (R_move E rfl) rfl ?_
          clear E a; intro a E
          refine WL_guard_yes E rfl rfl ?_
          refine S_v E rfl (R_fieldAddr E rfl (FA29_1 _)) rfl ?_
          clear E a; intro a E
          refine WL_guard_yes E rfl rfl ?_
          refine S_v E rfl (R_loadM E rfl Try.isAgg3 S.imm (cellM_boxo hb_1 rfl)) rfl ?_
          clear E a; intro a E
          refine WL_guard_yes E rfl rfl ?_
          refine S_x (X_pu E S rfl rfl rfl (impl_mod (by first | omega | assumption) (by omega)) (Hp.le.refl _) ?_)
          clear E a S; rintro a _ w M_11 hM_11 rfl S E
          replace hw0 := hw0.le hM_11
          replace hb_1 := hM_11.2 _ _ hb_1
          refine WL_guard_yes E rfl rfl ?_
          refine S_v E rfl (R_move E rfl) rfl ?_
          clear E a; intro a E
          refine WL_guard_yes E rfl rfl ?_
          refine S_v E rfl (R_eql E rfl rfl) rfl ?_
          clear E a; intro a E
          refine S_v E rfl (R_pickT E rfl rfl) rfl ?_
          clear E a; intro a E
          refine S_v E rfl (R_assign E rfl) rfl ?_
          clear E a; intro a E
          refine WL_nil ?_
          refine T_n ?_
          refine WP_ret ?_
          refine B_r ?_
          refine T_r ?_
          exact F_ret1 E Try.results110 rfl ⟨_, rfl, M_11, (hM_2.trans hM_11), (congrArg Value.bool (by (clear E S; unfold predAt; first | (have e := (first_eq (l := pl0) (by assumption)).1; simp_all; done) | (have e : pl0 = [] := List.eq_nil_of_length_eq_zero (by omega); simp_all; done) | (simp_all; done)))), S⟩
        · replace E := E.val (t := 28) rfl hc_10
          replace E := E.val (t := 29) rfl hc_10
          replace hc_10 := of_decide_eq_false hc_10
          refine WL_guard_no E rfl rfl rfl rfl fun a E => ?_
          refine WL_guard_no E rfl rfl rfl rfl fun a E => ?_
          refine WL_guard_no E rfl rfl rfl rfl fun a E => ?_
          refine WL_guard_no E rfl rfl rfl rfl fun a E => ?_
          refine WL_guard_no E rfl rfl rfl rfl fun a E => ?_
          refine WL_guard_no E rfl rfl rfl rfl fun a E => ?_
          refine S_v E rfl (R_pickF E rfl rfl) rfl ?_
          clear E a; intro a E
          refine S_v E rfl (R_assign E rfl) rfl ?_
          clear E a; intro a E
          refine WL_nil ?_
          refine T_n ?_
          refine WP_ret ?_
          refine B_r ?_
          refine T_r ?_
          exact F_ret1 E Try.results110 rfl ⟨_, rfl, M_2, hM_2, (congrArg Value.bool (by (clear E S; unfold predAt; first | (have e := (first_eq (l := pl0) (by assumption)).1; simp_all; done) | (have e : pl0 = [] := List.eq_nil_of_length_eq_zero (by omega); simp_all; done) | (simp_all; done)))), S⟩
    · replace hc_4 := of_decide_eq_false hc_4
      refine WP_seq ?_
      refine WP_region ?_
      refine S_v E rfl (R_eql E rfl rfl) rfl ?_
      clear E a; intro a E
      refine S_v E rfl (R_assign E rfl) rfl ?_
      clear E a; intro a E
      refine WL_nil ?_
      refine T_n ?_
      refine WP_cond E rfl (fun hc_12 => ?_) (fun hc_12 => ?_)
      · replace hc_12 := of_decide_eq_true hc_12
        refine WP_seq ?_
        refine WP_region ?_
        refine S_v E rfl (R_fieldAddr E rfl (FA29_2 _)) rfl ?_
        clear E a; intro a E
        refine S_v E rfl (R_loadM E rfl Try.isAgg22 S.imm (cellM_boxo hb_1 rfl)) rfl ?_
        clear E a; intro a E
        refine S_v E rfl (R_move E rfl) rfl ?_
        clear E a; intro a E
        refine S_x (X_pu E S rfl rfl rfl (slices_Contains hw0) (Hp.le.refl _) ?_)
        clear E a S; rintro a _ w M_13 hM_13 rfl S E
        replace hw0 := hw0.le hM_13
        replace hb_1 := hM_13.2 _ _ hb_1
        refine S_v E rfl (R_assign E rfl) rfl ?_
        clear E a; intro a E
        refine WL_nil ?_
        refine T_n ?_
        refine WP_ret ?_
        refine B_r ?_
        refine T_r ?_
        exact F_ret1 E Try.results110 rfl ⟨_, rfl, M_13, (hM_2.trans hM_13), (congrArg Value.bool (by (clear E S; unfold predAt; first | (have e := (first_eq (l := pl0) (by assumption)).1; simp_all; done) | (have e : pl0 = [] := List.eq_nil_of_length_eq_zero (by omega); simp_all; done) | (simp_all; done)))), S⟩
      · replace hc_12 := of_decide_eq_false hc_12
        refine WP_seq ?_
        refine WP_region ?_
        refine S_v E rfl (R_eql E rfl rfl) rfl ?_
        clear E a; intro a E
        refine S_v E rfl (R_assign E rfl) rfl ?_
        clear E a; intro a E
        refine WL_nil ?_
        refine T_n ?_
        refine WP_cond E rfl (fun hc_14 => ?_) (fun hc_14 => ?_)
        · replace hc_14 := of_decide_eq_true hc_14
          refine WP_seq ?_
          refine WP_region ?_
          refine S_v E rfl (R_move E rfl) rfl ?_
          clear E a; intro a E
          refine S_v E rfl (R_rem E rfl rfl (by first | decide | omega)) rfl ?_
          clear E a; intro a E
          refine S_v E rfl (R_eql E rfl rfl) rfl ?_
          clear E a; intro a E
          refine S_v E rfl (R_assign E rfl) rfl ?_
          clear E a; intro a E
          refine WL_nil ?_
          refine T_n ?_
          refine WP_ret ?_
          refine B_r ?_
          refine T_r ?_
          exact F_ret1 E Try.results110 rfl ⟨_, rfl, M_2, hM_2, (congrArg Value.bool (by (clear E S; unfold predAt; first | (have e := (first_eq (l := pl0) (by assumption)).1; simp_all; done) | (have e : pl0 = [] := List.eq_nil_of_length_eq_zero (by omega); simp_all; done) | (simp_all; done)))), S⟩
        · replace hc_14 := of_decide_eq_false hc_14
          refine WP_skip ?_
          refine B_n ?_
          refine T_n ?_
          refine WP_seq ?_
          refine WP_region ?_
          refine S_v E rfl (R_fieldAddr E rfl (FA29_0 _)) rfl ?_
          clear E a; intro a E
          refine S_v E rfl (R_loadM E rfl Try.isAgg3 S.imm (cellM_boxo hb_1 rfl)) rfl ?_
          clear E a; intro a E
          refine S_v E rfl (R_eql E rfl rfl) rfl ?_
          clear E a; intro a E
          refine S_v E rfl (R_assign E rfl) rfl ?_
          clear E a; intro a E
          refine WL_nil ?_
          refine T_n ?_
          refine WP_ret ?_
          exact F_ret1 E Try.results110 rfl ⟨_, rfl, M_2, hM_2, (congrArg Value.bool (by (clear E S; unfold predAt; first | (have e := (first_eq (l := pl0) (by assumption)).1; simp_all; done) | (have e : pl0 = [] := List.eq_nil_of_length_eq_zero (by omega); simp_all; done) | (simp_all; done)))), S⟩
theorem Pred_at {M : Hp} {pk0 pn0 : Int} {w0 : Value} {pl0 : List Int} (hw0 : RdI M w0 pl0) (gn0 : -9223372036854775808 ≤ pn0 ∧ pn0 ≤ 9223372036854775807){x1 x2 : Int} :
    Pu Try.prog (.func (.func 110) #[.agg #[.int .i64 pk0, .int .i64 pn0, w0]] #[]) M [.int .i64 x1, .int .i64 x2] (fun r M' => r = .bool (predAt pk0 pn0 pl0 x1 x2)) := PuC.pu Try.call110 rfl (Pred_at_c hw0 gn0)
theorem Pred_at_d {M : Hp} {pk0 pn0 : Int} {w0 : Value} {pl0 : List Int} (hw0 : RdI M w0 pl0) (gn0 : -9223372036854775808 ≤ pn0 ∧ pn0 ≤ 9223372036854775807){x1 x2 : Int} :
    Pu Try.prog (.func (.func 110) #[] #[]) M [.agg #[.int .i64 pk0, .int .i64 pn0, w0], .int .i64 x1, .int .i64 x2] (fun r M' => r = .bool (predAt pk0 pn0 pl0 x1 x2)) := PuC.pu Try.call110 rfl (Pred_at_c hw0 gn0)

set_option maxRecDepth 100000 in
set_option maxHeartbeats 4000000 in
theorem impl_FilterMap1 {M : Hp} {kk8 kn8 : Int} (gk8 : -9223372036854775808 ≤ kn8 ∧ kn8 ≤ 9223372036854775807) {bx8 : Nat} (hbx8 : M bx8 = some (.cells #[.int .i64 kk8, .int .i64 kn8] 34)) {pk9 pn9 : Int} {w9 : Value} {pl9 : List Int} (hw9 : RdI M w9 pl9) (gn9 : -9223372036854775808 ≤ pn9 ∧ pn9 ≤ 9223372036854775807) {bx9 : Nat} (hbx9 : M bx9 = some (.cells #[.int .i64 pk9, .int .i64 pn9, w9] 29)) {x0 x1 : Int} :
    Pu Try.prog (.func (.func 149) #[] #[.pointer (some ⟨bx8, 0, none⟩), .pointer (some ⟨bx9, 0, none⟩)]) M [.int .i64 x0, .int .i64 x1] (fun r M' => r = .tuple #[.int .i64 (keyAt kk8 kn8 x0 x1), .bool (predAt pk9 pn9 pl9 x0 x1)]) := by
  refine Pu_enter Try.func149 rfl Try.ntmps149 rfl Try.call149 ?_
  intro a w M1 H hM1 S E
  replace hbx8 := hM1.2 _ _ hbx8
  replace hbx9 := hM1.2 _ _ hbx9
  replace hw9 := hw9.le hM1
  refine WP_seq ?_
  refine WP_region ?_
  refine S_v E rfl (R_assign E rfl) rfl ?_
  clear E a; intro a E
  refine S_v E rfl (R_assign E rfl) rfl ?_
  clear E a; intro a E
  refine WL_nil ?_
  refine T_n ?_
  refine WP_seq ?_
  have hbx8k0 := hbx8
  have hbx9k0 := hbx9
  replace S := S.mono_heap (w' := World.drew _) rfl
  refine WP_drawn (C := fun x w => agree M1 w) (bf := (fun i => [])) [0, 1, 2, 4, 5, 6, 8, 9] [0, 1, 2, 4, 5, 6, 3, 7, 8, 9] Try.mixed (by kernel_rfl) (fun x hq => S.imm) ?_
  refine D_v E rfl rfl rfl (fun w hC => (R_loadGM E rfl (Try.isAgg34 _) (Try.sizeOf34 _) hC hbx8k0)) ?_
  clear E a; intro a E
  refine D_v E rfl rfl rfl (fun w hC => (R_move E rfl)) ?_
  clear E a; intro a E
  refine D_v E rfl rfl rfl (fun w hC => (R_move E rfl)) ?_
  clear E a; intro a E
  refine D_v E rfl rfl rfl (fun w hC => (R_loadGM E rfl (Try.isAgg29 _) (Try.sizeOf29 _) hC hbx9k0)) ?_
  clear E a; intro a E
  refine D_v E rfl rfl rfl (fun w hC => (R_move E rfl)) ?_
  clear E a; intro a E
  refine D_v E rfl rfl rfl (fun w hC => (R_move E rfl)) ?_
  clear E a; intro a E
  refine D_x rfl rfl rfl (X_pu E S rfl rfl rfl (Key_at_d (by omega)) (Hp.le.refl _) ?_)
  clear E a S; rintro a _ w M_1 hM_1 rfl S E
  replace hbx8 := hM_1.2 _ _ hbx8
  replace hbx9 := hM_1.2 _ _ hbx9
  replace hw9 := hw9.le hM_1
  refine ⟨fun x hq hb => (agree_le hM_1 S.imm), ?_⟩
  refine D_x rfl rfl rfl (X_pu E S rfl rfl rfl (Pred_at_d hw9 (by omega)) (Hp.le.refl _) ?_)
  clear E a S; rintro a _ w M_2 hM_2 rfl S E
  replace hbx8 := hM_2.2 _ _ hbx8
  replace hbx9 := hM_2.2 _ _ hbx9
  replace hw9 := hw9.le hM_2
  refine ⟨fun x hq hb => (agree_le (hM_1.trans hM_2) S.imm), ?_⟩
  refine D_v E rfl rfl rfl (fun w hC => (R_assign E rfl)) ?_
  clear E a; intro a E
  refine D_v E rfl rfl rfl (fun w hC => (R_assign E rfl)) ?_
  clear E a; intro a E
  refine D_end (NoP_n ?_)
  refine T_n ?_
  refine WP_ret ?_
  exact F_ret2 E Try.results149 rfl rfl ⟨_, rfl, M_2, (hM_1.trans hM_2), (by first | rfl | (simp; done) | (simp_all; done)), S⟩

set_option maxRecDepth 100000 in
set_option maxHeartbeats 4000000 in
theorem impl_FilterMap {M : Hp} {v0 : Value} {l0 : List Int} (h0 : RdI M v0 l0){pk1 pn1 : Int} {w1 : Value} {pl1 : List Int} (hw1 : RdI M w1 pl1) (gn1 : -9223372036854775808 ≤ pn1 ∧ pn1 ≤ 9223372036854775807) {kk2 kn2 : Int} (gk2 : -9223372036854775808 ≤ kn2 ∧ kn2 ≤ 9223372036854775807) (hb : l0.length ≤ 1000000000000) :
    Pu Try.prog (.func (.func 62) #[] #[]) M [v0, .agg #[.int .i64 pk1, .int .i64 pn1, w1], .agg #[.int .i64 kk2, .int .i64 kn2]] (fun r M' => RdI M' r (fmapI (fun x i => (keyAt kk2 kn2 x i, predAt pk1 pn1 pl1 x i)) 0 l0)) := by
  refine Pu_enter Try.func62 rfl Try.ntmps62 rfl Try.call62 ?_
  intro a w M1 H hM1 S E
  replace h0 := h0.le hM1
  replace hw1 := hw1.le hM1
  have b0 := h0.bound
  refine WP_seq ?_
  refine WP_region ?_
  refine S_x (X_box (cs := #[.int .i64 pk1, .int .i64 pn1, w1]) E S rfl rfl rfl ?_)
  clear E a S; rintro a w b_1 E S
  obtain ⟨M_2, hM_2, hb_1, S⟩ := S.freezeB
  replace h0 := h0.le hM_2
  replace hw1 := hw1.le hM_2
  refine S_x (X_box (cs := #[.int .i64 kk2, .int .i64 kn2]) E S rfl rfl rfl ?_)
  clear E a S; rintro a w b_3 E S
  obtain ⟨M_4, hM_4, hb_3, S⟩ := S.freezeB
  replace h0 := h0.le hM_4
  replace hw1 := hw1.le hM_4
  replace hb_1 := hM_4.2 _ _ hb_1
  refine S_v E rfl (R_assign E rfl) rfl ?_
  clear E a; intro a E
  refine WL_nil ?_
  refine T_n ?_
  refine WP_seq ?_
  refine WP_region ?_
  refine S_v E rfl (R_move E rfl) rfl ?_
  clear E a; intro a E
  refine S_v E rfl (R_makeFunc E rfl rfl) rfl ?_
  clear E a; intro a E
  refine S_x (X_pu E S rfl rfl rfl (lo_FilterMap h0 (f1 := (fun x i => (keyAt kk2 kn2 x i, predAt pk1 pn1 pl1 x i))) ⟨rfl, fun zx0 zx1 => impl_FilterMap1 (x0 := zx0) (x1 := zx1) (by omega) hb_3 hw1 (by omega) hb_1⟩ (by (first | omega | (simp; omega) | (simp; done) | (simp_all; omega) | grind))) (Hp.le.refl _) ?_)
  clear E a S; rintro a v_6 w M_5 hM_5 hv_6 S E
  replace h0 := h0.le hM_5
  replace hw1 := hw1.le hM_5
  replace hb_1 := hM_5.2 _ _ hb_1
  replace hb_3 := hM_5.2 _ _ hb_3
  refine S_v E rfl (R_assign E rfl) rfl ?_
  clear E a; intro a E
  refine WL_nil ?_
  refine T_n ?_
  refine WP_ret ?_
  exact F_ret1 E Try.results62 rfl ⟨_, rfl, M_5, (hM_2.trans (hM_4.trans hM_5)), hv_6, S⟩

set_option maxRecDepth 100000 in
set_option maxHeartbeats 4000000 in
theorem it_FilterMapI1 {M : Hp} {v0 : Value} {l0 : List Int} (h0 : SeqV Try.prog v0 M (RInt) l0) {v1 : Value} {f1 : Int → Int → Int × Bool} (h1 : PF2T Try.prog v1 M f1) (hb : l0.length ≤ 1000000000000) {bx8 bx9 : Nat} (hbx8 : M bx8 = some (.cells #[v0] 70)) (hbx9 : M bx9 = some (.cells #[v1] 95)) :
    SeqV Try.prog (.func (.func 223) #[] #[.pointer (some ⟨bx8, 0, none⟩), .pointer (some ⟨bx9, 0, none⟩)]) M (RInt) (fmapI f1 0 l0) := by
  refine SeqV_enter Try.func223 rfl Try.ntmps223 rfl Try.call223 ?_
  intro y J X a w M1 c H hJM hM1 hY hJ S E
  replace h0 := h0.le hM1
  replace h1 := h1.le hM1
  replace hbx8 := hM1.2 _ _ hbx8
  replace hbx9 := hM1.2 _ _ hbx9
  refine WP_seq ?_
  refine WP_region ?_
  refine S_x (X_box (cs := #[y]) E S rfl rfl (cells_one hY.1) ?_)
  clear E a S; rintro a w b_1 E S
  obtain ⟨M_2, hM_2, hb_1, S⟩ := S.freezeB
  replace h0 := h0.le hM_2
  replace h1 := h1.le hM_2
  replace hbx8 := hM_2.2 _ _ hbx8
  replace hbx9 := hM_2.2 _ _ hbx9
  replace hJ := hJM _ _ _ _ hM_2 hJ
  refine WL_nil ?_
  refine T_n ?_
  refine WP_seq ?_
  refine WP_region ?_
  refine S_x (X_alloc (cs := #[.int .i64 0]) E S rfl Try.zeroValue3 rfl ?_)
  clear E a S; rintro a w b_3 E S
  refine WL_nil ?_
  refine T_n ?_
  refine WP_seq ?_
  refine WP_region ?_
  refine S_v E rfl (R_loadM E rfl Try.isAgg70 S.imm (cellM_box hbx8)) rfl ?_
  clear E a; intro a E
  refine WL_nil ?_
  refine T_n ?_
  refine WP_block ?_
  replace S := S.front2
  replace S := S.front1
  replace E := E.keep (l' := [(2, .pointer (some ⟨bx9, 0, none⟩)), (3, .pointer (some ⟨b_1, 0, none⟩)), (4, .pointer (some ⟨b_3, 0, none⟩)), (8, v0)]) ⟨rfl, rfl, rfl, rfl, trivial⟩
  replace S := S.front1
  replace S := S.front1
  replace S := S.blk_int (j := ((([] : List Int)).length : Int)) (by (first | (simp; done) | omega))
  have S0 := S; clear S; have S := St.pack [blk b_3 (.cells #[.int .i64 ((([] : List Int)).length : Int)] 3), c] S0; clear S0
  refine WP_range (RV := RInt) (l := l0) (fun pre M c => ∃ (c0 : HProp), c = bigs [blk b_3 (.cells #[.int .i64 ((pre).length : Int)] 3), c0] ∧ (J (fmapI f1 0 (pre)) M c0)) (fun cd pre M c => cd = .ret ∧ ∃ z, z <+: (fmapI f1 0 l0) ∧ X z M c) E S rfl h0 (Hp.le.refl _) (fun _ _ _ h => by rw [h]; rfl) (by decide) (by rintro _ M M' c hM ⟨c0, rfl, f0⟩; exact ⟨_, rfl, hJM _ _ _ _ hM f0⟩) ⟨_, rfl, J_eq hJ (by ((try clear S); (try clear E); first | assumption | omega | rfl | (simp; done) | (simp_all; done) | (simp [List.take_add_one, *]; done) | grind [List.take_add_one]))⟩ ?_ ?_ ?_
  clear E S
  · rintro lb_5 rec_6 pre x _ a w M_4 _ G hM_4 hp_7 rfl ⟨c0, rfl, f0⟩ E S
    replace E : Env a 26 [] [(9, .int .i64 x), (2, .pointer (some ⟨bx9, 0, none⟩)), (3, .pointer (some ⟨b_1, 0, none⟩)), (4, .pointer (some ⟨b_3, 0, none⟩)), (8, v0)] := E
    replace S := S.swap.unpack2
    have hq0 := prefix_lt hp_7
    replace h0 := h0.le hM_4
    replace h1 := h1.le hM_4
    replace hbx8 := hM_4.2 _ _ hbx8
    replace hbx9 := hM_4.2 _ _ hbx9
    replace hb_1 := hM_4.2 _ _ hb_1
    refine WP_region ?_
    refine S_v E rfl (R_assign E rfl) rfl ?_
    clear E a; intro a E
    refine WL_nil ?_
    refine T_n ?_
    replace S := S.front2
    refine rb S ?_
    clear S; intro w S
    refine WP_block ?_
    refine WP_seq ?_
    refine WP_seq ?_
    refine WP_region ?_
    refine S_v E rfl (R_loadM E rfl Try.isAgg95 S.imm (cellM_box hbx9)) rfl ?_
    clear E a; intro a E
    refine S_v E rfl (R_move E rfl) rfl ?_
    clear E a; intro a E
    refine S_v E rfl (R_load E rfl (Try.isAgg3 _) (cell_blk (S.mem (.tail _ (.head _))))) rfl ?_
    clear E a; intro a E
    refine S_x (X_pu E S rfl rfl rfl (h1.2 x ((pre).length : Int)) (Hp.le.refl _) ?_)
    clear E a S; rintro a _ w M_9 hM_9 rfl S E
    replace h0 := h0.le hM_9
    replace h1 := h1.le hM_9
    replace hbx8 := hM_9.2 _ _ hbx8
    replace hbx9 := hM_9.2 _ _ hbx9
    replace hb_1 := hM_9.2 _ _ hb_1
    replace f0 := hJM _ _ _ _ hM_9 f0
    refine S_v E rfl (R_move E rfl) rfl ?_
    clear E a; intro a E
    refine S_v E rfl (R_extract E rfl rfl) rfl ?_
    clear E a; intro a E
    refine S_v E rfl (R_extract E rfl rfl) rfl ?_
    clear E a; intro a E
    refine S_v E rfl (R_assign E rfl) rfl ?_
    clear E a; intro a E
    refine S_v E rfl (R_assign E rfl) rfl ?_
    clear E a; intro a E
    refine WL_nil ?_
    refine T_n ?_
    refine WP_seq ?_
    refine WP_region ?_
    refine S_v E rfl (R_move E rfl) rfl ?_
    clear E a; intro a E
    refine S_v E rfl (R_move E rfl) rfl ?_
    clear E a; intro a E
    refine split_bool ((f1 x ((pre).length : Int)).2) (fun hc_10 => ?_) (fun hc_10 => ?_)
    · replace E := E.val (t := 16) rfl hc_10
      replace E := E.val (t := 7) rfl hc_10
      replace E := E.val (t := 17) rfl hc_10
      replace E := E.val (t := 18) rfl hc_10
      refine WL_guard_yes E rfl rfl ?_
      refine S_v E rfl (R_loadM E rfl Try.isAgg102 S.imm (cellM_box hb_1)) rfl ?_
      clear E a; intro a E
      refine WL_guard_yes E rfl rfl ?_
      refine S_v E rfl (R_move E rfl) rfl ?_
      clear E a; intro a E
      replace S := S.front2
      refine WL_guard_yes E rfl rfl ?_
      refine S_x (X_yield (x := (f1 x ((pre).length : Int)).1) E S rfl rfl rfl hY (hM_2.trans (hM_4.trans hM_9)) (by exact fmapI_prefix (by assumption) (by assumption)) rfl f0 ?_)
      clear E a S; rintro a w M_11 c_12 go_13 hM_11 f0 S E
      replace h0 := h0.le hM_11
      replace h1 := h1.le hM_11
      replace hbx8 := hM_11.2 _ _ hbx8
      replace hbx9 := hM_11.2 _ _ hbx9
      replace hb_1 := hM_11.2 _ _ hb_1
      cases go_13
      · replace f0 : X (fmapI f1 0 (pre) ++ [(f1 x ((pre).length : Int)).1]) M_11 c_12 := f0
        refine WL_guard_yes E rfl rfl ?_
        refine S_v E rfl (R_not E rfl) rfl ?_
        clear E a; intro a E
        refine S_v E rfl (R_pickT E rfl rfl) rfl ?_
        clear E a; intro a E
        refine WL_nil ?_
        refine T_n ?_
        refine WP_condT E rfl rfl ?_
        refine WP_ret ?_
        refine T_r ?_
        refine B_r ?_
        replace S := S.front2
        replace S := S.drop
        replace S := S.front1
        exact ⟨M_11, _, (hM_9.trans hM_11), ⟨rfl, _, (by first | assumption | (exact fmapI_prefix (by assumption) (by assumption)) | (exact fmapI_prefix0 (by assumption))), f0⟩, S⟩
      · replace f0 : J (fmapI f1 0 (pre) ++ [(f1 x ((pre).length : Int)).1]) M_11 c_12 := f0
        refine WL_guard_yes E rfl rfl ?_
        refine S_v E rfl (R_not E rfl) rfl ?_
        clear E a; intro a E
        refine S_v E rfl (R_pickT E rfl rfl) rfl ?_
        clear E a; intro a E
        refine WL_nil ?_
        refine T_n ?_
        refine WP_condF E rfl rfl ?_
        refine WP_skip ?_
        refine T_n ?_
        refine WP_region ?_
        refine S_v E rfl (R_load E rfl (Try.isAgg3 _) (cell_blk (S.mem (.tail _ (.tail _ (.head _)))))) rfl ?_
        clear E a; intro a E
        refine S_v E rfl (R_addx (m := (((pre).length + 1 : Nat) : Int)) E rfl rfl (by omega) (by omega)) rfl ?_
        clear E a; intro a E
        replace S := S.front2
        refine S_x0 (X_store E S rfl rfl (Try.sizeOf3 _) rfl ?_)
        clear E a S; rintro a w E S
        refine WL_nil ?_
        refine B_n ?_
        replace S := S.front1
        replace S := S.front1
        replace S := S.front1
        replace S := S.front1
        replace S := S.blk_int (j := (((pre ++ [x])).length : Int)) (by (first | (simp; done) | omega))
        have S0 := S; clear S; have S := (St.pack [blk b_3 (.cells #[.int .i64 (((pre ++ [x])).length : Int)] 3), c_12] S0).swap; clear S0
        exact ⟨M_11, _, (hM_9.trans hM_11), ⟨_, rfl, J_eq f0 (by (rw [fmapI_app1]; simp [*]))⟩, S⟩
    · replace E := E.val (t := 16) rfl hc_10
      replace E := E.val (t := 7) rfl hc_10
      replace E := E.val (t := 17) rfl hc_10
      replace E := E.val (t := 18) rfl hc_10
      refine WL_guard_no E rfl rfl rfl rfl fun a E => ?_
      refine WL_guard_no E rfl rfl rfl rfl fun a E => ?_
      refine WL_guard_no E rfl rfl rfl rfl fun a E => ?_
      refine WL_guard_no E rfl rfl rfl rfl fun a E => ?_
      refine S_v E rfl (R_pickF E rfl rfl) rfl ?_
      clear E a; intro a E
      refine WL_nil ?_
      refine T_n ?_
      refine WP_condF E rfl rfl ?_
      refine WP_skip ?_
      refine T_n ?_
      refine WP_region ?_
      refine S_v E rfl (R_load E rfl (Try.isAgg3 _) (cell_blk (S.mem (.tail _ (.head _))))) rfl ?_
      clear E a; intro a E
      refine S_v E rfl (R_addx (m := (((pre).length + 1 : Nat) : Int)) E rfl rfl (by omega) (by omega)) rfl ?_
      clear E a; intro a E
      replace S := S.front1
      refine S_x0 (X_store E S rfl rfl (Try.sizeOf3 _) rfl ?_)
      clear E a S; rintro a w E S
      refine WL_nil ?_
      refine B_n ?_
      replace S := S.front2
      replace S := S.front1
      replace S := S.front1
      replace S := S.front1
      replace S := S.blk_int (j := (((pre ++ [x])).length : Int)) (by (first | (simp; done) | omega))
      have S0 := S; clear S; have S := (St.pack [blk b_3 (.cells #[.int .i64 (((pre ++ [x])).length : Int)] 3), c0] S0).swap; clear S0
      exact ⟨M_9, _, hM_9, ⟨_, rfl, J_eq f0 (by (rw [fmapI_app1]; simp [*]))⟩, S⟩
  · rintro a w M_14 _ D_15 hM_14 ⟨c0, rfl, f0⟩ S E
    replace S := S.unpack2
    replace h0 := h0.le hM_14
    replace h1 := h1.le hM_14
    replace hbx8 := hM_14.2 _ _ hbx8
    replace hbx9 := hM_14.2 _ _ hbx9
    replace hb_1 := hM_14.2 _ _ hb_1
    refine B_n ?_
    refine F_nrm ?_
    replace S := S.drop
    replace S := S.front1
    have hpre : fmapI f1 0 (l0) = fmapI f1 0 l0 := by ((try clear S); (try clear E); first | rfl | (simp; done) | (simp_all; done) | grind [List.take_add_one])
    rw [hpre] at f0
    exact F_retM0 E S Try.results223 (fun w S => ⟨_, rfl, M_14, _, (hM_2.trans hM_14), .inl f0, S⟩)
  · rintro a w M_16 c_ D_17 p_18 _ hM_16 hp_19 ⟨rfl, z_, hz_, f0⟩ S E
    replace h0 := h0.le hM_16
    replace h1 := h1.le hM_16
    replace hbx8 := hM_16.2 _ _ hbx8
    replace hbx9 := hM_16.2 _ _ hbx9
    replace hb_1 := hM_16.2 _ _ hb_1
    refine WP_ret ?_
    refine B_r ?_
    replace S := S.front1
    exact F_retM0 E S Try.results223 (fun w S => ⟨_, rfl, M_16, _, (hM_2.trans hM_16), .inr ⟨z_, (by first | assumption | (exact fmapI_prefix0 (by assumption))), f0⟩, S⟩)

set_option maxRecDepth 100000 in
set_option maxHeartbeats 4000000 in
theorem it_FilterMapI {M : Hp} {v0 : Value} {l0 : List Int} (h0 : SeqV Try.prog v0 M (RInt) l0) {v1 : Value} {f1 : Int → Int → Int × Bool} (h1 : PF2T Try.prog v1 M f1) (hb : l0.length ≤ 1000000000000) :
    Pu Try.prog (.func (.func 150) #[] #[]) M [v0, v1] (fun r M' => SeqV Try.prog r M' RInt (fmapI f1 0 l0)) := by
  refine Pu_enter Try.func150 rfl Try.ntmps150 rfl Try.call150 ?_
  intro a w M1 H hM1 S E
  replace h0 := h0.le hM1
  replace h1 := h1.le hM1
  refine WP_seq ?_
  refine WP_region ?_
  refine S_x (X_box (cs := #[v0]) E S rfl rfl (cells_one h0.1) ?_)
  clear E a S; rintro a w b_1 E S
  obtain ⟨M_2, hM_2, hb_1, S⟩ := S.freezeB
  replace h0 := h0.le hM_2
  replace h1 := h1.le hM_2
  refine S_x (X_box (cs := #[v1]) E S rfl rfl (cells_one h1.1) ?_)
  clear E a S; rintro a w b_3 E S
  obtain ⟨M_4, hM_4, hb_3, S⟩ := S.freezeB
  replace h0 := h0.le hM_4
  replace h1 := h1.le hM_4
  replace hb_1 := hM_4.2 _ _ hb_1
  refine S_v E rfl (R_assign E rfl) rfl ?_
  clear E a; intro a E
  refine WL_nil ?_
  refine T_n ?_
  refine WP_seq ?_
  refine WP_region ?_
  refine S_v E rfl (R_makeFunc E rfl rfl) rfl ?_
  clear E a; intro a E
  refine S_v E rfl (R_assign E rfl) rfl ?_
  clear E a; intro a E
  refine WL_nil ?_
  refine T_n ?_
  refine WP_ret ?_
  exact F_ret1 E Try.results150 rfl ⟨_, rfl, M_4, (hM_2.trans hM_4), (SeqV_eq (it_FilterMapI1 (f1 := f1) h0 h1 (by (first | omega | (simp; omega) | (simp; done) | (simp_all; omega) | grind)) hb_1 hb_3) (by ((try clear S); (try clear E); first | rfl | (simp; done) | (simp_all; done) | grind [List.take_add_one]))), S⟩

set_option maxRecDepth 100000 in
set_option maxHeartbeats 4000000 in
theorem impl_FilterMapSeq1 {M : Hp} {kk8 kn8 : Int} (gk8 : -9223372036854775808 ≤ kn8 ∧ kn8 ≤ 9223372036854775807) {bx8 : Nat} (hbx8 : M bx8 = some (.cells #[.int .i64 kk8, .int .i64 kn8] 34)) {pk9 pn9 : Int} {w9 : Value} {pl9 : List Int} (hw9 : RdI M w9 pl9) (gn9 : -9223372036854775808 ≤ pn9 ∧ pn9 ≤ 9223372036854775807) {bx9 : Nat} (hbx9 : M bx9 = some (.cells #[.int .i64 pk9, .int .i64 pn9, w9] 29)) {x0 x1 : Int} :
    Pu Try.prog (.func (.func 151) #[] #[.pointer (some ⟨bx8, 0, none⟩), .pointer (some ⟨bx9, 0, none⟩)]) M [.int .i64 x0, .int .i64 x1] (fun r M' => r = .tuple #[.int .i64 (keyAt kk8 kn8 x0 x1), .bool (predAt pk9 pn9 pl9 x0 x1)]) := by
  refine Pu_enter Try.func151 rfl Try.ntmps151 rfl Try.call151 ?_
  intro a w M1 H hM1 S E
  replace hbx8 := hM1.2 _ _ hbx8
  replace hbx9 := hM1.2 _ _ hbx9
  replace hw9 := hw9.le hM1
  refine WP_seq ?_
  refine WP_region ?_
  refine S_v E rfl (R_assign E rfl) rfl ?_
  clear E a; intro a E
  refine S_v E rfl (R_assign E rfl) rfl ?_
  clear E a; intro a E
  refine WL_nil ?_
  refine T_n ?_
  refine WP_seq ?_
  have hbx8k0 := hbx8
  have hbx9k0 := hbx9
  replace S := S.mono_heap (w' := World.drew _) rfl
  refine WP_drawn (C := fun x w => agree M1 w) (bf := (fun i => [])) [0, 1, 2, 4, 5, 6, 8, 9] [0, 1, 2, 4, 5, 6, 3, 7, 8, 9] Try.mixed (by kernel_rfl) (fun x hq => S.imm) ?_
  refine D_v E rfl rfl rfl (fun w hC => (R_loadGM E rfl (Try.isAgg34 _) (Try.sizeOf34 _) hC hbx8k0)) ?_
  clear E a; intro a E
  refine D_v E rfl rfl rfl (fun w hC => (R_move E rfl)) ?_
  clear E a; intro a E
  refine D_v E rfl rfl rfl (fun w hC => (R_move E rfl)) ?_
  clear E a; intro a E
  refine D_v E rfl rfl rfl (fun w hC => (R_loadGM E rfl (Try.isAgg29 _) (Try.sizeOf29 _) hC hbx9k0)) ?_
  clear E a; intro a E
  refine D_v E rfl rfl rfl (fun w hC => (R_move E rfl)) ?_
  clear E a; intro a E
  refine D_v E rfl rfl rfl (fun w hC => (R_move E rfl)) ?_
  clear E a; intro a E
  refine D_x rfl rfl rfl (X_pu E S rfl rfl rfl (Key_at_d (by omega)) (Hp.le.refl _) ?_)
  clear E a S; rintro a _ w M_1 hM_1 rfl S E
  replace hbx8 := hM_1.2 _ _ hbx8
  replace hbx9 := hM_1.2 _ _ hbx9
  replace hw9 := hw9.le hM_1
  refine ⟨fun x hq hb => (agree_le hM_1 S.imm), ?_⟩
  refine D_x rfl rfl rfl (X_pu E S rfl rfl rfl (Pred_at_d hw9 (by omega)) (Hp.le.refl _) ?_)
  clear E a S; rintro a _ w M_2 hM_2 rfl S E
  replace hbx8 := hM_2.2 _ _ hbx8
  replace hbx9 := hM_2.2 _ _ hbx9
  replace hw9 := hw9.le hM_2
  refine ⟨fun x hq hb => (agree_le (hM_1.trans hM_2) S.imm), ?_⟩
  refine D_v E rfl rfl rfl (fun w hC => (R_assign E rfl)) ?_
  clear E a; intro a E
  refine D_v E rfl rfl rfl (fun w hC => (R_assign E rfl)) ?_
  clear E a; intro a E
  refine D_end (NoP_n ?_)
  refine T_n ?_
  refine WP_ret ?_
  exact F_ret2 E Try.results151 rfl rfl ⟨_, rfl, M_2, (hM_1.trans hM_2), (by first | rfl | (simp; done) | (simp_all; done)), S⟩

set_option maxRecDepth 100000 in
set_option maxHeartbeats 4000000 in
theorem impl_FilterMapSeq {M : Hp} {v0 : Value} {l0 : List Int} (h0 : RdI M v0 l0){pk1 pn1 : Int} {w1 : Value} {pl1 : List Int} (hw1 : RdI M w1 pl1) (gn1 : -9223372036854775808 ≤ pn1 ∧ pn1 ≤ 9223372036854775807) {kk2 kn2 : Int} (gk2 : -9223372036854775808 ≤ kn2 ∧ kn2 ≤ 9223372036854775807) (hb : l0.length ≤ 1000000000000) :
    Pu Try.prog (.func (.func 63) #[] #[]) M [v0, .agg #[.int .i64 pk1, .int .i64 pn1, w1], .agg #[.int .i64 kk2, .int .i64 kn2]] (fun r M' => RdI M' r (fmapI (fun x i => (keyAt kk2 kn2 x i, predAt pk1 pn1 pl1 x i)) 0 l0)) := by
  refine Pu_enter Try.func63 rfl Try.ntmps63 rfl Try.call63 ?_
  intro a w M1 H hM1 S E
  replace h0 := h0.le hM1
  replace hw1 := hw1.le hM1
  have b0 := h0.bound
  have hfl := fmapI_len (fun x i => (keyAt kk2 kn2 x i, predAt pk1 pn1 pl1 x i)) l0 0
  refine WP_seq ?_
  refine WP_region ?_
  refine S_x (X_box (cs := #[.int .i64 pk1, .int .i64 pn1, w1]) E S rfl rfl rfl ?_)
  clear E a S; rintro a w b_1 E S
  obtain ⟨M_2, hM_2, hb_1, S⟩ := S.freezeB
  replace h0 := h0.le hM_2
  replace hw1 := hw1.le hM_2
  refine S_x (X_box (cs := #[.int .i64 kk2, .int .i64 kn2]) E S rfl rfl rfl ?_)
  clear E a S; rintro a w b_3 E S
  obtain ⟨M_4, hM_4, hb_3, S⟩ := S.freezeB
  replace h0 := h0.le hM_4
  replace hw1 := hw1.le hM_4
  replace hb_1 := hM_4.2 _ _ hb_1
  refine S_v E rfl (R_assign E rfl) rfl ?_
  clear E a; intro a E
  refine WL_nil ?_
  refine T_n ?_
  refine WP_seq ?_
  refine WP_region ?_
  refine S_v E rfl (R_move E rfl) rfl ?_
  clear E a; intro a E
  refine S_x (X_pu E S rfl rfl rfl (slices_Values h0) (Hp.le.refl _) ?_)
  clear E a S; rintro a v_6 w M_5 hM_5 hv_6 S E
  replace h0 := h0.le hM_5
  replace hw1 := hw1.le hM_5
  replace hb_1 := hM_5.2 _ _ hb_1
  replace hb_3 := hM_5.2 _ _ hb_3
  refine S_v E rfl (R_makeFunc E rfl rfl) rfl ?_
  clear E a; intro a E
  refine S_x (X_pu E S rfl rfl rfl (it_FilterMapI hv_6 (f1 := (fun x i => (keyAt kk2 kn2 x i, predAt pk1 pn1 pl1 x i))) ⟨rfl, fun zx0 zx1 => impl_FilterMapSeq1 (x0 := zx0) (x1 := zx1) (by omega) hb_3 hw1 (by omega) hb_1⟩ (by (first | omega | (simp; omega) | (simp; done) | (simp_all; omega) | grind))) (Hp.le.refl _) ?_)
  clear E a S; rintro a v_8 w M_7 hM_7 hv_8 S E
  replace h0 := h0.le hM_7
  replace hw1 := hw1.le hM_7
  replace hb_1 := hM_7.2 _ _ hb_1
  replace hb_3 := hM_7.2 _ _ hb_3
  replace hv_6 := hv_6.le hM_7
  refine S_x (X_pu E S rfl rfl rfl (slices_Collect hv_8 (by (first | omega | (simp; omega) | (simp; done) | (simp_all; omega) | grind))) (Hp.le.refl _) ?_)
  clear E a S; rintro a v_10 w M_9 hM_9 hv_10 S E
  replace h0 := h0.le hM_9
  replace hw1 := hw1.le hM_9
  replace hb_1 := hM_9.2 _ _ hb_1
  replace hb_3 := hM_9.2 _ _ hb_3
  replace hv_6 := hv_6.le hM_9
  replace hv_8 := hv_8.le hM_9
  refine S_v E rfl (R_assign E rfl) rfl ?_
  clear E a; intro a E
  refine WL_nil ?_
  refine T_n ?_
  refine WP_ret ?_
  exact F_ret1 E Try.results63 rfl ⟨_, rfl, M_9, (hM_2.trans (hM_4.trans (hM_5.trans (hM_7.trans hM_9)))), hv_10, S⟩

set_option maxRecDepth 100000 in
set_option maxHeartbeats 4000000 in
theorem lo_FlatMap {M : Hp} {v0 : Value} {l0 : List Int} (h0 : RdI M v0 l0){v1 : Value} {f1 : Int → Int → List Int} (h1 : PF2L Try.prog v1 M f1) (hb : l0.length ≤ 1000000000) (hf2 : ∀ x i, (f1 x i).length = 2) :
    Pu Try.prog (.func (.func 152) #[] #[]) M [v0, v1] (fun r M' => RdI M' r (flatI f1 0 l0)) := by
  refine Pu_enter Try.func152 rfl Try.ntmps152 rfl Try.call152 ?_
  intro a w M1 H hM1 S E
  replace h0 := h0.le hM1
  replace h1 := h1.le hM1
  have b0 := h0.bound
  refine WP_seq ?_
  refine WP_region ?_
  refine S_v E rfl (R_assign E rfl) rfl ?_
  clear E a; intro a E
  refine WL_nil ?_
  refine T_n ?_
  refine WP_seq ?_
  refine WP_region ?_
  refine S_v E rfl (R_move E rfl) rfl ?_
  clear E a; intro a E
  refine S_v E rfl (R_lenV E rfl T22 h0.len) rfl ?_
  clear E a; intro a E
  refine S_x (X_make0 (k := (l0).length) E S rfl rfl rfl T22 rfl (by omega) (by omega) (by omega) ?_)
  clear E a S; rintro a w v_1 E S
  replace S := S.made0
  refine S_v E rfl (R_assign E rfl) rfl ?_
  clear E a; intro a E
  refine WL_nil ?_
  refine T_n ?_
  refine WP_seq ?_
  refine WP_seq ?_
  refine WP_region ?_
  refine S_v E rfl (R_move E rfl) rfl ?_
  clear E a; intro a E
  refine S_v E rfl (R_lenV E rfl T22 h0.len) rfl ?_
  clear E a; intro a E
  refine S_v E rfl (R_move E rfl) rfl ?_
  clear E a; intro a E
  refine WL_nil ?_
  refine T_n ?_
  refine WP_block ?_
  replace S := S.re1 (l' := flatI f1 0 (l0.take 0)) (by first | (simp [flatI]; done) | (rw [flatI_succ (by assumption)]; done))
  refine WP_loop (γ := Nat) (fun (k : Nat) a w => ∃ (M_2 : Hp) (u5 : Value), Hp.le M1 M_2 ∧ St w M_2 (OwnI 3 u5 (flatI f1 0 (l0.take k)) :: H) ∧ Env a 26 [] [(0, v0), (1, v1), (5, u5), (11, .int .i64 (((l0).length : Nat) : Int)), (12, .int .i64 ((k : Nat) : Int))] ∧ (k ≤ (l0).length)) (fun k => ((l0).length) - k) 0 ⟨M1, _, Hp.le.refl _, S, E.keep ⟨rfl, rfl, rfl, rfl, rfl, trivial⟩, by ((try clear S); (try clear E); first | assumption | omega | rfl | (simp; done) | (simp_all; done) | (simp [List.take_add_one, *]; done) | grind [List.take_add_one])⟩ ?_
  try clear E
  try clear S
  try clear a
  try clear w
  rintro k a w ⟨M_2, u5, hM_2, S, E, hL0_0⟩
  replace h0 := h0.le hM_2
  replace h1 := h1.le hM_2
  have hfl := flatI_len hf2 (l0.take k) 0; simp only [List.length_take] at hfl
  refine WP_seq ?_
  refine WP_region ?_
  refine S_v E rfl (R_lss E rfl rfl) rfl ?_
  clear E a; intro a E
  refine WL_nil ?_
  refine T_n ?_
  refine WP_seq ?_
  refine WP_cond E rfl (fun hc_3 => ?_) (fun hc_3 => ?_)
  · replace hc_3 := of_decide_eq_true hc_3
    refine WP_skip ?_
    refine T_n ?_
    refine WP_seq ?_
    refine WP_block ?_
    refine WP_seq ?_
    refine WP_region ?_
    refine S_v E rfl (R_move E rfl) rfl ?_
    clear E a; intro a E
    refine S_v E rfl (R_assign E rfl) rfl ?_
    clear E a; intro a E
    refine WL_nil ?_
    refine T_n ?_
    refine WP_region ?_
    refine S_v E rfl (R_move E rfl) rfl ?_
    clear E a; intro a E
    refine S_v E rfl (R_move E rfl) rfl ?_
    clear E a; intro a E
    refine S_v E rfl (R_move E rfl) rfl ?_
    clear E a; intro a E
    refine S_v E rfl (R_move E rfl) rfl ?_
    clear E a; intro a E
    obtain ⟨x_4, hx_4⟩ : ∃ x, (l0)[k]? = some x := ⟨_, List.getElem?_eq_getElem (by first | omega | (simp; done) | (simp; omega) | (simp_all; omega))⟩
    obtain ⟨p_5, hp_5, qp_5⟩ := h0.at hx_4
    refine S_v E rfl (R_idx E rfl rfl T22 hp_5 rfl) rfl ?_
    clear E a; intro a E
    refine S_v E rfl (R_loadM E rfl Try.isAgg3 S.imm qp_5) rfl ?_
    clear E a; intro a E
    refine S_v E rfl (R_move E rfl) rfl ?_
    clear E a; intro a E
    refine S_x (X_pu E S rfl rfl rfl (h1.2 x_4 ((k : Nat) : Int)) (Hp.le.refl _) ?_)
    clear E a S; rintro a v_7 w M_6 hM_6 hv_7 S E
    replace h0 := h0.le hM_6
    replace h1 := h1.le hM_6
    refine S_x (X_appendI (xs := flatI f1 0 (l0.take k)) E S rfl rfl rfl T22 hv_7 (by (rw [hf2]; omega)) ?_)
    clear E a S; rintro a w v_8 E S
    refine S_v E rfl (R_assign E rfl) rfl ?_
    clear E a; intro a E
    refine WL_nil ?_
    refine B_n ?_
    refine T_n ?_
    refine WP_region ?_
    refine S_v E rfl (R_addx (m := ((k + 1 : Nat) : Int)) E rfl rfl (by omega) (by omega)) rfl ?_
    clear E a; intro a E
    refine S_v E rfl (R_move E rfl) rfl ?_
    clear E a; intro a E
    refine WL_nil ?_
    refine T_n ?_
    replace S := S.re1 (l' := flatI f1 0 (l0.take (k + 1))) (by first | (simp [flatI]; done) | (rw [flatI_succ (by assumption)]; done))
    exact ⟨k + 1, ⟨M_6, _, (hM_2.trans hM_6), S, E.keep ⟨rfl, rfl, rfl, rfl, rfl, trivial⟩, by ((try clear S); (try clear E); first | assumption | omega | rfl | (simp; done) | (simp_all; done) | (simp [List.take_add_one, *]; done) | grind [List.take_add_one])⟩, by omega⟩
  · replace hc_3 := of_decide_eq_false hc_3
    refine WP_exit ?_
    refine T_x ?_
    refine T_x ?_
    refine B_x ?_
    refine T_n ?_
    refine WP_seq ?_
    refine WP_region ?_
    refine S_v E rfl (R_move E rfl) rfl ?_
    clear E a; intro a E
    refine S_v E rfl (R_assign E rfl) rfl ?_
    clear E a; intro a E
    refine WL_nil ?_
    refine T_n ?_
    refine WP_ret ?_
    have S0 := S; clear S
    obtain ⟨M_9, hM_9, hz_10, S⟩ := S0.freezeI (by (have hfl := flatI_len hf2 (l0.take k) 0; simp only [List.length_take] at hfl; omega))
    clear S0
    replace h0 := h0.le hM_9
    replace h1 := h1.le hM_9
    exact F_ret1 E Try.results152 rfl ⟨_, rfl, M_9, (hM_2.trans hM_9), (by rw [show (flatI f1 0 l0) = (flatI f1 0 (l0.take k)) from by (rw [List.take_of_length_le (by omega)])]; exact hz_10), S⟩

set_option maxRecDepth 100000 in
set_option maxHeartbeats 4000000 in
theorem impl_FlatMap1 {M : Hp} {kk9 kn9 : Int} (gk9 : -9223372036854775808 ≤ kn9 ∧ kn9 ≤ 9223372036854775807) {bx9 : Nat} (hbx9 : M bx9 = some (.cells #[.int .i64 kk9, .int .i64 kn9] 34)) {x0 x1 : Int} :
    Pu Try.prog (.func (.func 153) #[] #[.pointer (some ⟨bx9, 0, none⟩)]) M [.int .i64 x0, .int .i64 x1] (fun r M' => RdI M' r [x0, keyAt kk9 kn9 x0 x1]) := by
  refine Pu_enter Try.func153 rfl Try.ntmps153 rfl Try.call153 ?_
  intro a w M1 H hM1 S E
  replace hbx9 := hM1.2 _ _ hbx9
  refine WP_seq ?_
  refine WP_region ?_
  refine S_v E rfl (R_assign E rfl) rfl ?_
  clear E a; intro a E
  refine WL_nil ?_
  refine T_n ?_
  refine WP_seq ?_
  refine WP_region ?_
  refine S_v E rfl (R_move E rfl) rfl ?_
  clear E a; intro a E
  refine S_v E rfl (R_loadGM E rfl (Try.isAgg34 _) (Try.sizeOf34 _) S.imm hbx9) rfl ?_
  clear E a; intro a E
  refine S_v E rfl (R_move E rfl) rfl ?_
  clear E a; intro a E
  refine S_v E rfl (R_move E rfl) rfl ?_
  clear E a; intro a E
  refine S_x (X_pu E S rfl rfl rfl (Key_at_d (by omega)) (Hp.le.refl _) ?_)
  clear E a S; rintro a _ w M_1 hM_1 rfl S E
  replace hbx9 := hM_1.2 _ _ hbx9
  refine S_x (X_buildI (ys := [x0, keyAt kk9 kn9 x0 x1]) E S rfl T22 rfl rfl rfl ?_)
  clear E a S; rintro a w v_2 E S
  refine S_v E rfl (R_assign E rfl) rfl ?_
  clear E a; intro a E
  refine WL_nil ?_
  refine T_n ?_
  refine WP_ret ?_
  have S0 := S; clear S
  obtain ⟨M_3, hM_3, hz_4, S⟩ := S0.freezeI (by (first | omega | (simp; omega) | (simp; done) | (simp_all; omega) | grind))
  clear S0
  replace hbx9 := hM_3.2 _ _ hbx9
  exact F_ret1 E Try.results153 rfl ⟨_, rfl, M_3, (hM_1.trans hM_3), hz_4, S⟩

set_option maxRecDepth 100000 in
set_option maxHeartbeats 4000000 in
theorem impl_FlatMap {M : Hp} {v0 : Value} {l0 : List Int} (h0 : RdI M v0 l0){kk1 kn1 : Int} (gk1 : -9223372036854775808 ≤ kn1 ∧ kn1 ≤ 9223372036854775807) (hb : l0.length ≤ 1000000000) :
    Pu Try.prog (.func (.func 64) #[] #[]) M [v0, .agg #[.int .i64 kk1, .int .i64 kn1]] (fun r M' => RdI M' r (flatI (fun x i => [x, keyAt kk1 kn1 x i]) 0 l0)) := by
  refine Pu_enter Try.func64 rfl Try.ntmps64 rfl Try.call64 ?_
  intro a w M1 H hM1 S E
  replace h0 := h0.le hM1
  have b0 := h0.bound
  refine WP_seq ?_
  refine WP_region ?_
  refine S_x (X_box (cs := #[.int .i64 kk1, .int .i64 kn1]) E S rfl rfl rfl ?_)
  clear E a S; rintro a w b_1 E S
  obtain ⟨M_2, hM_2, hb_1, S⟩ := S.freezeB
  replace h0 := h0.le hM_2
  refine S_v E rfl (R_assign E rfl) rfl ?_
  clear E a; intro a E
  refine WL_nil ?_
  refine T_n ?_
  refine WP_seq ?_
  refine WP_region ?_
  refine S_v E rfl (R_move E rfl) rfl ?_
  clear E a; intro a E
  refine S_v E rfl (R_makeFunc E rfl rfl) rfl ?_
  clear E a; intro a E
  refine S_x (X_pu E S rfl rfl rfl (lo_FlatMap h0 (f1 := (fun x i => [x, keyAt kk1 kn1 x i])) ⟨rfl, fun zx0 zx1 => impl_FlatMap1 (x0 := zx0) (x1 := zx1) (by omega) hb_1⟩ (by (first | omega | (simp; omega) | (simp; done) | (simp_all; omega) | grind)) (by exact fun _ _ => rfl)) (Hp.le.refl _) ?_)
  clear E a S; rintro a v_4 w M_3 hM_3 hv_4 S E
  replace h0 := h0.le hM_3
  replace hb_1 := hM_3.2 _ _ hb_1
  refine S_v E rfl (R_assign E rfl) rfl ?_
  clear E a; intro a E
  refine WL_nil ?_
  refine T_n ?_
  refine WP_ret ?_
  exact F_ret1 E Try.results64 rfl ⟨_, rfl, M_3, (hM_2.trans hM_3), hv_4, S⟩

set_option maxRecDepth 100000 in
set_option maxHeartbeats 4000000 in
theorem it_FlatMapI1 {M : Hp} {v0 : Value} {l0 : List Int} (h0 : SeqV Try.prog v0 M (RInt) l0) {v1 : Value} {f1 : Int → Int → List Int} (h1 : PF2Q Try.prog v1 M f1) (hb : l0.length ≤ 1000000000) {bx8 bx9 : Nat} (hbx8 : M bx8 = some (.cells #[v0] 70)) (hbx9 : M bx9 = some (.cells #[v1] 100)) :
    SeqV Try.prog (.func (.func 224) #[] #[.pointer (some ⟨bx8, 0, none⟩), .pointer (some ⟨bx9, 0, none⟩)]) M (RInt) (flatI f1 0 l0) := by
  refine SeqV_enter Try.func224 rfl Try.ntmps224 rfl Try.call224 ?_
  intro y J X a w M1 c H hJM hM1 hY hJ S E
  replace h0 := h0.le hM1
  replace h1 := h1.le hM1
  replace hbx8 := hM1.2 _ _ hbx8
  replace hbx9 := hM1.2 _ _ hbx9
  refine WP_seq ?_
  refine WP_region ?_
  refine S_x (X_box (cs := #[y]) E S rfl rfl (cells_one hY.1) ?_)
  clear E a S; rintro a w b_1 E S
  obtain ⟨M_2, hM_2, hb_1, S⟩ := S.freezeB
  replace h0 := h0.le hM_2
  replace h1 := h1.le hM_2
  replace hbx8 := hM_2.2 _ _ hbx8
  replace hbx9 := hM_2.2 _ _ hbx9
  replace hJ := hJM _ _ _ _ hM_2 hJ
  refine WL_nil ?_
  refine T_n ?_
  refine WP_seq ?_
  refine WP_region ?_
  refine S_x (X_alloc (cs := #[.int .i64 0]) E S rfl Try.zeroValue3 rfl ?_)
  clear E a S; rintro a w b_3 E S
  refine WL_nil ?_
  refine T_n ?_
  refine WP_seq ?_
  refine WP_region ?_
  refine S_v E rfl (R_loadM E rfl Try.isAgg70 S.imm (cellM_box hbx8)) rfl ?_
  clear E a; intro a E
  refine WL_nil ?_
  refine T_n ?_
  refine WP_block ?_
  replace S := S.front2
  replace S := S.front1
  replace E := E.keep (l' := [(2, .pointer (some ⟨bx9, 0, none⟩)), (3, .pointer (some ⟨b_1, 0, none⟩)), (4, .pointer (some ⟨b_3, 0, none⟩)), (7, v0)]) ⟨rfl, rfl, rfl, rfl, trivial⟩
  replace S := S.front1
  replace S := S.front1
  replace S := S.blk_int (j := ((([] : List Int)).length : Int)) (by (first | (simp; done) | omega))
  have S0 := S; clear S; have S := St.pack [blk b_3 (.cells #[.int .i64 ((([] : List Int)).length : Int)] 3), c] S0; clear S0
  refine WP_range (RV := RInt) (l := l0) (fun pre M c => ∃ (c0 : HProp), c = bigs [blk b_3 (.cells #[.int .i64 ((pre).length : Int)] 3), c0] ∧ (J (flatI f1 0 (pre)) M c0)) (fun cd pre M c => cd = .ret ∧ ∃ z, z <+: (flatI f1 0 l0) ∧ X z M c) E S rfl h0 (Hp.le.refl _) (fun _ _ _ h => by rw [h]; rfl) (by decide) (by rintro _ M M' c hM ⟨c0, rfl, f0⟩; exact ⟨_, rfl, hJM _ _ _ _ hM f0⟩) ⟨_, rfl, J_eq hJ (by ((try clear S); (try clear E); first | assumption | omega | rfl | (simp; done) | (simp_all; done) | (simp [List.take_add_one, *]; done) | grind [List.take_add_one]))⟩ ?_ ?_ ?_
  clear E S
  · rintro lb_5 rec_6 pre x _ a w M_4 _ G hM_4 hp_7 rfl ⟨c0, rfl, f0⟩ E S
    replace E : Env a 20 [] [(8, .int .i64 x), (2, .pointer (some ⟨bx9, 0, none⟩)), (3, .pointer (some ⟨b_1, 0, none⟩)), (4, .pointer (some ⟨b_3, 0, none⟩)), (7, v0)] := E
    replace S := S.swap.unpack2
    have hq0 := prefix_lt hp_7
    replace h0 := h0.le hM_4
    replace h1 := h1.le hM_4
    replace hbx8 := hM_4.2 _ _ hbx8
    replace hbx9 := hM_4.2 _ _ hbx9
    replace hb_1 := hM_4.2 _ _ hb_1
    refine WP_region ?_
    refine S_v E rfl (R_assign E rfl) rfl ?_
    clear E a; intro a E
    refine WL_nil ?_
    refine T_n ?_
    replace S := S.front2
    refine rb S ?_
    clear S; intro w S
    refine WP_block ?_
    refine WP_seq ?_
    refine WP_seq ?_
    refine WP_region ?_
    refine S_v E rfl (R_loadM E rfl Try.isAgg100 S.imm (cellM_box hbx9)) rfl ?_
    clear E a; intro a E
    refine S_v E rfl (R_move E rfl) rfl ?_
    clear E a; intro a E
    refine S_v E rfl (R_load E rfl (Try.isAgg3 _) (cell_blk (S.mem (.tail _ (.head _))))) rfl ?_
    clear E a; intro a E
    refine S_x (X_pu E S rfl rfl rfl (h1.2 x ((pre).length : Int)) (Hp.le.refl _) ?_)
    clear E a S; rintro a v_10 w M_9 hM_9 hv_10 S E
    replace h0 := h0.le hM_9
    replace h1 := h1.le hM_9
    replace hbx8 := hM_9.2 _ _ hbx8
    replace hbx9 := hM_9.2 _ _ hbx9
    replace hb_1 := hM_9.2 _ _ hb_1
    replace f0 := hJM _ _ _ _ hM_9 f0
    refine WL_nil ?_
    refine T_n ?_
    refine WP_block ?_
    replace S := S.front2
    replace S := S.front2
    replace E := E.keep (l' := [(3, .pointer (some ⟨b_1, 0, none⟩)), (4, .pointer (some ⟨b_3, 0, none⟩)), (12, v_10)]) ⟨rfl, rfl, rfl, trivial⟩
    replace S := S.front1
    replace S := S.front1
    have S0 := S; clear S; have S := St.pack [blk b_3 (.cells #[.int .i64 ((pre).length : Int)] 3), c0] S0; clear S0
    refine WP_range' (RV := RInt) (l := f1 x ((pre).length : Int)) (fun pre2 M c => ∃ (c1 : HProp), c = bigs [blk b_3 (.cells #[.int .i64 ((pre).length : Int)] 3), c1] ∧ (J (flatI f1 0 pre ++ pre2) M c1)) (fun cd pre2 M c => cd = .ret ∧ ∃ z, z <+: (flatI f1 0 l0) ∧ X z M c) E S rfl hv_10 (Hp.le.refl _) (fun _ _ _ h => by rw [h]; rfl) (by decide) (by rintro _ M M' c hM ⟨c1, rfl, f0⟩; exact ⟨_, rfl, hJM _ _ _ _ hM f0⟩) ⟨_, rfl, J_eq f0 (by ((try clear S); (try clear E); first | assumption | omega | rfl | (simp; done) | (simp_all; done) | (simp [List.take_add_one, *]; done) | grind [List.take_add_one]))⟩ ?_ ?_ ?_
    clear E S
    · rintro lb_12 rec_13 pre2 x2 _ a w M_11 _ G hM_11 hp_14 rfl ⟨c1, rfl, f0⟩ E S
      replace E : Env a 20 [] [(13, .int .i64 x2), (3, .pointer (some ⟨b_1, 0, none⟩)), (4, .pointer (some ⟨b_3, 0, none⟩)), (12, v_10)] := E
      replace S := S.swap.unpack2
      have hq1 := prefix_lt hp_14
      replace h0 := h0.le hM_11
      replace h1 := h1.le hM_11
      replace hbx8 := hM_11.2 _ _ hbx8
      replace hbx9 := hM_11.2 _ _ hbx9
      replace hb_1 := hM_11.2 _ _ hb_1
      replace hv_10 := hv_10.le hM_11
      refine WP_region ?_
      refine S_v E rfl (R_assign E rfl) rfl ?_
      clear E a; intro a E
      refine WL_nil ?_
      refine T_n ?_
      replace S := S.front2
      refine rb S ?_
      clear S; intro w S
      refine WP_block ?_
      refine WP_seq ?_
      refine WP_region ?_
      refine S_v E rfl (R_loadM E rfl Try.isAgg102 S.imm (cellM_box hb_1)) rfl ?_
      clear E a; intro a E
      refine S_v E rfl (R_move E rfl) rfl ?_
      clear E a; intro a E
      replace S := S.front2
      refine S_x (X_yield (x := x2) E S rfl rfl rfl hY (hM_2.trans (hM_4.trans (hM_9.trans hM_11))) (by (rw [List.append_assoc]; exact flatI_prefix (by assumption) (by assumption))) rfl f0 ?_)
      clear E a S; rintro a w M_16 c_17 go_18 hM_16 f0 S E
      replace h0 := h0.le hM_16
      replace h1 := h1.le hM_16
      replace hbx8 := hM_16.2 _ _ hbx8
      replace hbx9 := hM_16.2 _ _ hbx9
      replace hb_1 := hM_16.2 _ _ hb_1
      replace hv_10 := hv_10.le hM_16
      cases go_18
      · replace f0 : X (flatI f1 0 pre ++ pre2 ++ [x2]) M_16 c_17 := f0
        refine S_v E rfl (R_not E rfl) rfl ?_
        clear E a; intro a E
        refine WL_nil ?_
        refine T_n ?_
        refine WP_condT E rfl rfl ?_
        refine WP_ret ?_
        refine B_r ?_
        replace S := S.front2
        replace S := S.drop
        replace S := S.front1
        exact ⟨M_16, _, hM_16, ⟨rfl, _, (by first | assumption | ((rw [List.append_assoc]; exact flatI_prefix (by assumption) (by assumption))) | (assumption)), f0⟩, S⟩
      · replace f0 : J (flatI f1 0 pre ++ pre2 ++ [x2]) M_16 c_17 := f0
        refine S_v E rfl (R_not E rfl) rfl ?_
        clear E a; intro a E
        refine WL_nil ?_
        refine T_n ?_
        refine WP_condF E rfl rfl ?_
        refine WP_skip ?_
        refine B_n ?_
        replace S := S.front2
        replace S := S.front1
        replace S := S.front1
        have S0 := S; clear S; have S := (St.pack [blk b_3 (.cells #[.int .i64 ((pre).length : Int)] 3), c_17] S0).swap; clear S0
        exact ⟨M_16, _, hM_16, ⟨_, rfl, J_eq f0 (by (rw [List.append_assoc]))⟩, S⟩
    · rintro a w M_19 _ hM_19 ⟨c1, rfl, f0⟩ S E
      replace S := S.unpack2
      replace h0 := h0.le hM_19
      replace h1 := h1.le hM_19
      replace hbx8 := hM_19.2 _ _ hbx8
      replace hbx9 := hM_19.2 _ _ hbx9
      replace hb_1 := hM_19.2 _ _ hb_1
      replace hv_10 := hv_10.le hM_19
      refine B_n ?_
      refine T_n ?_
      refine WP_region ?_
      refine S_v E rfl (R_load E rfl (Try.isAgg3 _) (cell_blk (S.mem (.head _)))) rfl ?_
      clear E a; intro a E
      refine S_v E rfl (R_addx (m := (((pre).length + 1 : Nat) : Int)) E rfl rfl (by omega) (by omega)) rfl ?_
      clear E a; intro a E
      refine S_x0 (X_store E S rfl rfl (Try.sizeOf3 _) rfl ?_)
      clear E a S; rintro a w E S
      refine WL_nil ?_
      refine B_n ?_
      replace S := S.front1
      replace S := S.front1
      replace S := S.front1
      replace S := S.front1
      replace S := S.blk_int (j := (((pre ++ [x])).length : Int)) (by (first | (simp; done) | omega))
      have S0 := S; clear S; have S := (St.pack [blk b_3 (.cells #[.int .i64 (((pre ++ [x])).length : Int)] 3), c1] S0).swap; clear S0
      exact ⟨M_19, _, (hM_9.trans hM_19), ⟨_, rfl, J_eq f0 (by (rw [flatI_app1]))⟩, S⟩
    · rintro a w M_21 c_ p_23 _ hM_21 hp_24 ⟨rfl, z_, hz_, f0⟩ S E
      replace h0 := h0.le hM_21
      replace h1 := h1.le hM_21
      replace hbx8 := hM_21.2 _ _ hbx8
      replace hbx9 := hM_21.2 _ _ hbx9
      replace hb_1 := hM_21.2 _ _ hb_1
      replace hv_10 := hv_10.le hM_21
      refine WP_ret ?_
      refine B_r ?_
      refine T_r ?_
      refine B_r ?_
      replace S := S.front1
      exact ⟨M_21, _, (hM_9.trans hM_21), ⟨rfl, _, (by first | assumption | ((rw [List.append_assoc]; exact flatI_prefix (by assumption) (by assumption))) | (assumption)), f0⟩, S⟩
  · rintro a w M_25 _ D_26 hM_25 ⟨c0, rfl, f0⟩ S E
    replace S := S.unpack2
    replace h0 := h0.le hM_25
    replace h1 := h1.le hM_25
    replace hbx8 := hM_25.2 _ _ hbx8
    replace hbx9 := hM_25.2 _ _ hbx9
    replace hb_1 := hM_25.2 _ _ hb_1
    refine B_n ?_
    refine F_nrm ?_
    replace S := S.drop
    replace S := S.front1
    have hpre : flatI f1 0 (l0) = flatI f1 0 l0 := by ((try clear S); (try clear E); first | rfl | (simp; done) | (simp_all; done) | grind [List.take_add_one])
    rw [hpre] at f0
    exact F_retM0 E S Try.results224 (fun w S => ⟨_, rfl, M_25, _, (hM_2.trans hM_25), .inl f0, S⟩)
  · rintro a w M_27 c_ D_28 p_29 _ hM_27 hp_30 ⟨rfl, z_, hz_, f0⟩ S E
    replace h0 := h0.le hM_27
    replace h1 := h1.le hM_27
    replace hbx8 := hM_27.2 _ _ hbx8
    replace hbx9 := hM_27.2 _ _ hbx9
    replace hb_1 := hM_27.2 _ _ hb_1
    refine WP_ret ?_
    refine B_r ?_
    replace S := S.front1
    exact F_retM0 E S Try.results224 (fun w S => ⟨_, rfl, M_27, _, (hM_2.trans hM_27), .inr ⟨z_, (by first | assumption | (assumption)), f0⟩, S⟩)

set_option maxRecDepth 100000 in
set_option maxHeartbeats 4000000 in
theorem it_FlatMapI {M : Hp} {v0 : Value} {l0 : List Int} (h0 : SeqV Try.prog v0 M (RInt) l0) {v1 : Value} {f1 : Int → Int → List Int} (h1 : PF2Q Try.prog v1 M f1) (hb : l0.length ≤ 1000000000) :
    Pu Try.prog (.func (.func 154) #[] #[]) M [v0, v1] (fun r M' => SeqV Try.prog r M' RInt (flatI f1 0 l0)) := by
  refine Pu_enter Try.func154 rfl Try.ntmps154 rfl Try.call154 ?_
  intro a w M1 H hM1 S E
  replace h0 := h0.le hM1
  replace h1 := h1.le hM1
  refine WP_seq ?_
  refine WP_region ?_
  refine S_x (X_box (cs := #[v0]) E S rfl rfl (cells_one h0.1) ?_)
  clear E a S; rintro a w b_1 E S
  obtain ⟨M_2, hM_2, hb_1, S⟩ := S.freezeB
  replace h0 := h0.le hM_2
  replace h1 := h1.le hM_2
  refine S_x (X_box (cs := #[v1]) E S rfl rfl (cells_one h1.1) ?_)
  clear E a S; rintro a w b_3 E S
  obtain ⟨M_4, hM_4, hb_3, S⟩ := S.freezeB
  replace h0 := h0.le hM_4
  replace h1 := h1.le hM_4
  replace hb_1 := hM_4.2 _ _ hb_1
  refine S_v E rfl (R_assign E rfl) rfl ?_
  clear E a; intro a E
  refine WL_nil ?_
  refine T_n ?_
  refine WP_seq ?_
  refine WP_region ?_
  refine S_v E rfl (R_makeFunc E rfl rfl) rfl ?_
  clear E a; intro a E
  refine S_v E rfl (R_assign E rfl) rfl ?_
  clear E a; intro a E
  refine WL_nil ?_
  refine T_n ?_
  refine WP_ret ?_
  exact F_ret1 E Try.results154 rfl ⟨_, rfl, M_4, (hM_2.trans hM_4), (SeqV_eq (it_FlatMapI1 (f1 := f1) h0 h1 (by (first | omega | (simp; omega) | (simp; done) | (simp_all; omega) | grind)) hb_1 hb_3) (by ((try clear S); (try clear E); first | rfl | (simp; done) | (simp_all; done) | grind [List.take_add_one]))), S⟩

set_option maxRecDepth 100000 in
set_option maxHeartbeats 4000000 in
theorem impl_FlatMapSeq1 {M : Hp} {kk9 kn9 : Int} (gk9 : -9223372036854775808 ≤ kn9 ∧ kn9 ≤ 9223372036854775807) {bx9 : Nat} (hbx9 : M bx9 = some (.cells #[.int .i64 kk9, .int .i64 kn9] 34)) {x0 x1 : Int} :
    Pu Try.prog (.func (.func 155) #[] #[.pointer (some ⟨bx9, 0, none⟩)]) M [.int .i64 x0, .int .i64 x1] (fun r M' => SeqV Try.prog r M' RInt [x0, keyAt kk9 kn9 x0 x1]) := by
  refine Pu_enter Try.func155 rfl Try.ntmps155 rfl Try.call155 ?_
  intro a w M1 H hM1 S E
  replace hbx9 := hM1.2 _ _ hbx9
  refine WP_seq ?_
  refine WP_region ?_
  refine S_v E rfl (R_assign E rfl) rfl ?_
  clear E a; intro a E
  refine WL_nil ?_
  refine T_n ?_
  refine WP_seq ?_
  refine WP_region ?_
  refine S_v E rfl (R_move E rfl) rfl ?_
  clear E a; intro a E
  refine S_v E rfl (R_loadGM E rfl (Try.isAgg34 _) (Try.sizeOf34 _) S.imm hbx9) rfl ?_
  clear E a; intro a E
  refine S_v E rfl (R_move E rfl) rfl ?_
  clear E a; intro a E
  refine S_v E rfl (R_move E rfl) rfl ?_
  clear E a; intro a E
  refine S_x (X_pu E S rfl rfl rfl (Key_at_d (by omega)) (Hp.le.refl _) ?_)
  clear E a S; rintro a _ w M_1 hM_1 rfl S E
  replace hbx9 := hM_1.2 _ _ hbx9
  refine S_x (X_buildI (ys := [x0, keyAt kk9 kn9 x0 x1]) E S rfl T22 rfl rfl rfl ?_)
  clear E a S; rintro a w v_2 E S
  have S0 := S; clear S
  obtain ⟨M_3, hM_3, hz_4, S⟩ := S0.freezeI (by (first | omega | (simp; omega) | (simp; done) | (simp_all; omega) | grind))
  clear S0
  replace hbx9 := hM_3.2 _ _ hbx9
  refine S_x (X_pu E S rfl rfl rfl (slices_Values hz_4) (Hp.le.refl _) ?_)
  clear E a S; rintro a v_6 w M_5 hM_5 hv_6 S E
  replace hbx9 := hM_5.2 _ _ hbx9
  replace hz_4 := hz_4.le hM_5
  refine S_v E rfl (R_assign E rfl) rfl ?_
  clear E a; intro a E
  refine WL_nil ?_
  refine T_n ?_
  refine WP_ret ?_
  exact F_ret1 E Try.results155 rfl ⟨_, rfl, M_5, (hM_1.trans (hM_3.trans hM_5)), hv_6, S⟩

set_option maxRecDepth 100000 in
set_option maxHeartbeats 4000000 in
theorem impl_FlatMapSeq {M : Hp} {v0 : Value} {l0 : List Int} (h0 : RdI M v0 l0){kk1 kn1 : Int} (gk1 : -9223372036854775808 ≤ kn1 ∧ kn1 ≤ 9223372036854775807) (hb : l0.length ≤ 1000000000) :
    Pu Try.prog (.func (.func 65) #[] #[]) M [v0, .agg #[.int .i64 kk1, .int .i64 kn1]] (fun r M' => RdI M' r (flatI (fun x i => [x, keyAt kk1 kn1 x i]) 0 l0)) := by
  refine Pu_enter Try.func65 rfl Try.ntmps65 rfl Try.call65 ?_
  intro a w M1 H hM1 S E
  replace h0 := h0.le hM1
  have b0 := h0.bound
  have hfl := flatI_len (f := (fun x i => [x, keyAt kk1 kn1 x i])) (fun _ _ => rfl) (l0) 0
  refine WP_seq ?_
  refine WP_region ?_
  refine S_x (X_box (cs := #[.int .i64 kk1, .int .i64 kn1]) E S rfl rfl rfl ?_)
  clear E a S; rintro a w b_1 E S
  obtain ⟨M_2, hM_2, hb_1, S⟩ := S.freezeB
  replace h0 := h0.le hM_2
  refine S_v E rfl (R_assign E rfl) rfl ?_
  clear E a; intro a E
  refine WL_nil ?_
  refine T_n ?_
  refine WP_seq ?_
  refine WP_region ?_
  refine S_v E rfl (R_move E rfl) rfl ?_
  clear E a; intro a E
  refine S_x (X_pu E S rfl rfl rfl (slices_Values h0) (Hp.le.refl _) ?_)
  clear E a S; rintro a v_4 w M_3 hM_3 hv_4 S E
  replace h0 := h0.le hM_3
  replace hb_1 := hM_3.2 _ _ hb_1
  refine S_v E rfl (R_makeFunc E rfl rfl) rfl ?_
  clear E a; intro a E
  refine S_x (X_pu E S rfl rfl rfl (it_FlatMapI hv_4 (f1 := (fun x i => [x, keyAt kk1 kn1 x i])) ⟨rfl, fun zx0 zx1 => impl_FlatMapSeq1 (x0 := zx0) (x1 := zx1) (by omega) hb_1⟩ (by (first | omega | (simp; omega) | (simp; done) | (simp_all; omega) | grind))) (Hp.le.refl _) ?_)
  clear E a S; rintro a v_6 w M_5 hM_5 hv_6 S E
  replace h0 := h0.le hM_5
  replace hb_1 := hM_5.2 _ _ hb_1
  replace hv_4 := hv_4.le hM_5
  refine S_x (X_pu E S rfl rfl rfl (slices_Collect hv_6 (by (first | omega | (simp; omega) | (simp; done) | (simp_all; omega) | grind))) (Hp.le.refl _) ?_)
  clear E a S; rintro a v_8 w M_7 hM_7 hv_8 S E
  replace h0 := h0.le hM_7
  replace hb_1 := hM_7.2 _ _ hb_1
  replace hv_4 := hv_4.le hM_7
  replace hv_6 := hv_6.le hM_7
  refine S_v E rfl (R_assign E rfl) rfl ?_
  clear E a; intro a E
  refine WL_nil ?_
  refine T_n ?_
  refine WP_ret ?_
  exact F_ret1 E Try.results65 rfl ⟨_, rfl, M_7, (hM_2.trans (hM_3.trans (hM_5.trans hM_7))), hv_8, S⟩

end Go.Proofs.Ytealhfcckjdclaa.wFnMapRoads
