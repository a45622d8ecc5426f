/- Walks through the functions that laws.FnGroups reaches: what each computes; no conditions beyond what each theorem states. -/
import Derived.Test.YtjadmhlojchapaaProg
import Derived.Test.YtjadmhlojchapaaSlZ
import Derived.Ground.SlgmProg
import Derived.Ground.GgsProg
set_option linter.unusedVariables false
set_option linter.unusedSimpArgs false
namespace Go.Proofs.Ytjadmhlojchapaa.wFnGroups
open Go Go.Sl
theorem Try.mixed : Try.prog.follows .mixedOrders = true := by kernel_rfl
theorem T33 : SlT Try.prog 33 3 1 8 (.int .i64 0) := ⟨Try.underlying33, ⟨Try.t3, by kernel_rfl, rfl, rfl, rfl⟩, rfl, by decide⟩
theorem T34 : SlT Try.prog 34 33 1 24 (.slice none 0 0) := ⟨Try.underlying34, ⟨Try.t33, by kernel_rfl, rfl, rfl, rfl⟩, rfl, by decide⟩
theorem T51 : SlT Try.prog 51 57 2 32 (.agg #[(.int .i64 0), (.slice none 0 0)]) := ⟨Try.underlying51, ⟨Try.t57, by kernel_rfl, rfl, rfl, rfl⟩, rfl, by decide⟩
theorem T59 : SlT Try.prog 59 107 2 32 (.agg #[(.int .i64 0), (.slice none 0 0)]) := ⟨Try.underlying59, ⟨Try.t107, by kernel_rfl, rfl, rfl, rfl⟩, rfl, by decide⟩
theorem MT102 : MapT Try.prog 102 3 33 (.slice none 0 0) := ⟨Try.underlying102, Try.underlying3, ⟨Try.t33, by kernel_rfl, rfl⟩⟩
theorem MT118 : MapT Try.prog 118 3 3 (.int .i64 0) := ⟨Try.underlying118, Try.underlying3, ⟨Try.t3, by kernel_rfl, rfl⟩⟩
theorem FB107_0_i (x0 : Int) (w : World) : (Instr.build 107 #[(0, (.int .i64 x0))]).run Try.prog w = .ok (.agg #[(.int .i64 x0), (.slice none 0 0)]) w := run_build _ _ _ _ (by kernel_rfl)
theorem FB50__ (w : World) : (Instr.build 50 #[]).run Try.prog w = .ok (.agg #[(.int .i64 0), (.int .i64 0)]) w := run_build _ _ _ _ (by kernel_rfl)
theorem FB57_0_1_is (x0 : Int) (x1 : Option Addr) (n1 c1 : Nat) (w : World) : (Instr.build 57 #[(0, (.int .i64 x0)), (1, (.slice x1 n1 c1))]).run Try.prog w = .ok (.agg #[(.int .i64 x0), (.slice x1 n1 c1)]) w := run_build _ _ _ _ (by kernel_rfl)
theorem FB61_0_i (x0 : Int) (w : World) : (Instr.build 61 #[(0, (.int .i64 x0))]).run Try.prog w = .ok (.agg #[(.int .i64 x0), (.int .i64 0)]) w := run_build _ _ _ _ (by kernel_rfl)
theorem FA107_0 (p : Addr) (w : World) : (Instr.fieldAt 107 (.pointer (some p)) 0).run Try.prog w = .ok (.pointer (some (p.add 0))) w := by kernel_rfl
theorem FA107_1 (p : Addr) (w : World) : (Instr.fieldAt 107 (.pointer (some p)) 1).run Try.prog w = .ok (.pointer (some (p.add 1))) w := by kernel_rfl
theorem FA50_0 (p : Addr) (w : World) : (Instr.fieldAt 50 (.pointer (some p)) 0).run Try.prog w = .ok (.pointer (some (p.add 0))) w := by kernel_rfl
theorem FA50_1 (p : Addr) (w : World) : (Instr.fieldAt 50 (.pointer (some p)) 1).run Try.prog w = .ok (.pointer (some (p.add 1))) w := by kernel_rfl
theorem FA57_0 (p : Addr) (w : World) : (Instr.fieldAt 57 (.pointer (some p)) 0).run Try.prog w = .ok (.pointer (some (p.add 0))) w := by kernel_rfl
theorem FA57_1 (p : Addr) (w : World) : (Instr.fieldAt 57 (.pointer (some p)) 1).run Try.prog w = .ok (.pointer (some (p.add 1))) w := by kernel_rfl
theorem FA61_0 (p : Addr) (w : World) : (Instr.fieldAt 61 (.pointer (some p)) 0).run Try.prog w = .ok (.pointer (some (p.add 0))) w := by kernel_rfl
theorem FA61_1 (p : Addr) (w : World) : (Instr.fieldAt 61 (.pointer (some p)) 1).run Try.prog w = .ok (.pointer (some (p.add 1))) w := by kernel_rfl

def spliceL (l : List Int) (i : Int) (m : List Int) : List Int :=
  let j := min (if i < 0 then (i + l.length).toNat else i.toNat) l.length
  l.take j ++ m ++ l.drop j

theorem splice_same (l m : List Int) (i : Int) : (spliceL l i m).length = (l ++ m).length ∧ ∀ x ∈ spliceL l i m, (spliceL l i m).count x = (l ++ m).count x := by
  have h : (spliceL l i m).Perm (l ++ m) := by
    unfold spliceL
    generalize min (if i < 0 then (i + l.length).toNat else i.toNat) l.length = j
    have e : l ++ m = l.take j ++ l.drop j ++ m := by rw [List.take_append_drop]
    rw [e, List.append_assoc, List.append_assoc]
    exact List.Perm.append_left _ List.perm_append_comm
  exact ⟨h.length_eq, fun x _ => h.count_eq x⟩

def cutAt (l b : List Int) : Option Nat := (List.range (l.length + 1)).find? (fun i => decide ((l.drop i).take b.length = b))
def cutL (l b : List Int) : List Int × List Int × Bool :=
  match cutAt l b with
  | some k => (l.take k, l.drop (k + b.length), true)
  | none => (l, [], false)
theorem cutAt_some {l b : List Int} {k : Nat} (hk : k ≤ l.length) (h : (l.drop k).take b.length = b) (hn : ∀ j, j < k → ¬ (l.drop j).take b.length = b) : cutAt l b = some k := by
  unfold cutAt
  rw [List.find?_range_eq_some]
  exact ⟨by simpa using h, by simp; omega, fun j hj => by simpa using hn j hj⟩
theorem cutAt_none {l b : List Int} (hn : ∀ j, j ≤ l.length → ¬ (l.drop j).take b.length = b) : cutAt l b = none := by
  unfold cutAt
  rw [List.find?_range_eq_none]
  intro j hj
  simpa using hn j (by omega)
theorem cutL_some {l b : List Int} {k : Nat} (hk : k ≤ l.length) (h : (l.drop k).take b.length = b) (hn : ∀ j, j < k → ¬ (l.drop j).take b.length = b) : cutL l b = (l.take k, l.drop (k + b.length), true) := by
  unfold cutL; rw [cutAt_some hk h hn]
theorem cutL_none {l b : List Int} {k : Nat} (hk : l.length < k + b.length) (hn : ∀ j, j < k → ¬ (l.drop j).take b.length = b) : cutL l b = (l, [], false) := by
  unfold cutL; rw [cutAt_none]
  intro j hj e
  by_cases h : j < k
  · exact hn j h e
  · have := congrArg List.length e
    simp at this; omega
theorem cut_len {l b : List Int} : (cutL l b).1.length ≤ l.length ∧ (cutL l b).2.1.length ≤ l.length := by
  unfold cutL; split <;> simp <;> omega
theorem take_ne {l b : List Int} {k j : Nat} {x y : Int} (hx : l[k + j]? = some x) (hy : b[j]? = some y) (h : x ≠ y) : ¬ (l.drop k).take b.length = b := by
  intro e
  have hj := (List.getElem?_eq_some_iff.1 hy).1
  have : ((l.drop k).take b.length)[j]? = some x := by rw [List.getElem?_take, if_pos hj, List.getElem?_drop]; exact hx
  rw [e, hy] at this; exact h (Option.some.inj this).symm

def AtL (l b : List Int) (i xa : Int) : Prop :=
  (xa = -1 ∧ ∀ j : Nat, i < j → ¬ (l.drop j).take b.length = b) ∨ (∃ p : Nat, xa = p ∧ i < p ∧ p ≤ l.length ∧ (l.drop p).take b.length = b ∧ ∀ j : Nat, i < j → j < p → ¬ (l.drop j).take b.length = b)
theorem AtL_start {l b : List Int} {i : Int} (hb : ¬ (b.length : Int) = 0) (hi : i = (l.length : Int) - b.length) : AtL l b i (-1) := by
  refine .inl ⟨rfl, fun j hj e => ?_⟩
  have := congrArg List.length e
  simp at this; omega
theorem AtL_yes {l b : List Int} {i j xa : Int} (h : AtL l b i xa) (h0 : 0 ≤ i) (h1 : i ≤ l.length) (hj : j = i - 1) (hp : (l.drop i.toNat).take b.length = b) : AtL l b j i := by
  refine .inr ⟨i.toNat, by omega, by omega, by omega, hp, fun k h1 h2 => by omega⟩
theorem AtL_no {l b : List Int} {i j xa : Int} (h : AtL l b i xa) (h0 : 0 ≤ i) (hj : j = i - 1) (hp : ¬ (l.drop i.toNat).take b.length = b) : AtL l b j xa := by
  rcases h with ⟨rfl, h⟩ | ⟨p, rfl, h1, h2, h3, h4⟩
  · refine .inl ⟨rfl, fun k hk => ?_⟩
    by_cases e : (k : Int) = i
    · rw [show k = i.toNat by omega]; exact hp
    · exact h k (by omega)
  · refine .inr ⟨p, rfl, by omega, h2, h3, fun k hk hkp => ?_⟩
    by_cases e : (k : Int) = i
    · rw [show k = i.toNat by omega]; exact hp
    · exact h4 k (by omega) hkp
theorem AtL_end {l b : List Int} {i xa : Int} (h : AtL l b i xa) (h0 : i < 0) :
    (xa = -1 ∧ cutL l b = (l, [], false)) ∨ (∃ p : Nat, xa = p ∧ p ≤ l.length ∧ p + b.length ≤ l.length ∧ cutL l b = (l.take p, l.drop (p + b.length), true) ∧ l.take p ++ b ++ l.drop (p + b.length) = l) := by
  rcases h with ⟨rfl, h⟩ | ⟨p, rfl, h1, h2, h3, h4⟩
  · exact .inl ⟨rfl, cutL_none (k := l.length + 1) (by omega) fun j _ => h j (by omega)⟩
  · refine .inr ⟨p, rfl, h2, ?_, cutL_some h2 h3 fun j hj => h4 j (by omega) hj, ?_⟩
    · have := congrArg List.length h3
      simp at this; omega
    · have e : l.drop p = b ++ l.drop (p + b.length) := by
        conv => lhs; rw [← List.take_append_drop b.length (l.drop p), h3, List.drop_drop]
      rw [List.append_assoc, ← e, List.take_append_drop]

def maxLen (ll : List (List Int)) : Nat := ll.foldl (fun a x => max a x.length) 0
def rowI (i : Nat) (ll : List (List Int)) : List Int := ll.filterMap (fun l => l[i]?)
def interP (k : Nat) (ll : List (List Int)) : List Int := (List.range k).flatMap (fun i => rowI i ll)
def total (ll : List (List Int)) : Nat := (ll.map List.length).sum
theorem maxLen_succ {ll : List (List Int)} {k : Nat} {x : List Int} (h : ll[k]? = some x) : maxLen (ll.take (k + 1)) = max (maxLen (ll.take k)) x.length := by
  simp [maxLen, List.take_add_one, h]
theorem foldl_max_le (ll : List (List Int)) : ∀ a, a ≤ ll.foldl (fun a x => max a x.length) a ∧ ∀ x ∈ ll, x.length ≤ ll.foldl (fun a x => max a x.length) a := by
  induction ll with
  | nil => intro a; simp
  | cons y ll ih =>
    intro a
    obtain ⟨h1, h2⟩ := ih (max a y.length)
    simp only [List.foldl_cons, List.mem_cons]
    refine ⟨by omega, fun x hx => ?_⟩
    rcases hx with rfl | hx
    · omega
    · exact h2 x hx
theorem le_maxLen {ll : List (List Int)} {x : List Int} (h : x ∈ ll) : x.length ≤ maxLen ll := (foldl_max_le ll 0).2 x h
theorem maxLen_le {ll : List (List Int)} {b : Nat} (h : ∀ x ∈ ll, x.length ≤ b) : maxLen ll ≤ b := by
  unfold maxLen
  suffices ∀ a, a ≤ b → ll.foldl (fun a x => max a x.length) a ≤ b from this 0 (by omega)
  induction ll with
  | nil => intro a ha; exact ha
  | cons y ll ih => intro a ha; exact ih (fun x hx => h x (by simp [hx])) _ (by have := h y (by simp); show max a y.length ≤ b; omega)
theorem total_succ {ll : List (List Int)} {k : Nat} {x : List Int} (h : ll[k]? = some x) : total (ll.take (k + 1)) = total (ll.take k) + x.length := by
  simp [total, List.take_add_one, h]
theorem total_take_le (ll : List (List Int)) (k : Nat) : total (ll.take k) ≤ total ll := by
  unfold total
  conv => rhs; rw [← List.take_append_drop k ll]
  rw [List.map_append, List.sum_append]; omega
theorem total_le {ll : List (List Int)} {b : Nat} (h : ∀ x ∈ ll, x.length ≤ b) : total ll ≤ ll.length * b := by
  induction ll with
  | nil => simp [total]
  | cons y ll ih =>
    have h1 := h y (by simp)
    have h2 := ih (fun x hx => h x (by simp [hx]))
    simp only [total, List.map_cons, List.sum_cons, List.length_cons, Nat.succ_mul] at *; omega
theorem interP_succ (k : Nat) (ll : List (List Int)) : interP (k + 1) ll = interP k ll ++ rowI k ll := by
  simp [interP, List.range_succ, List.flatMap_append]
theorem rowI_cons (k : Nat) (x : List Int) (ll : List (List Int)) : (rowI k (x :: ll)).length = (if k < x.length then 1 else 0) + (rowI k ll).length := by
  unfold rowI
  by_cases h : k < x.length
  · rw [List.filterMap_cons, List.getElem?_eq_getElem h]; simp [h]; omega
  · rw [List.filterMap_cons, List.getElem?_eq_none (by omega)]; simp [h]
theorem interP_nil (k : Nat) : interP k [] = [] := by simp [interP, rowI, List.flatMap_eq_nil_iff]
theorem interP_cons (k : Nat) (x : List Int) (ll : List (List Int)) : (interP k (x :: ll)).length = min k x.length + (interP k ll).length := by
  induction k with
  | zero => simp [interP]
  | succ k ih => rw [interP_succ, interP_succ, List.length_append, List.length_append, ih, rowI_cons]; split <;> omega
theorem interP_le (k : Nat) (ll : List (List Int)) : (interP k ll).length ≤ total ll := by
  induction ll with
  | nil => simp [interP_nil, total]
  | cons x ll ih => rw [interP_cons]; simp only [total, List.map_cons, List.sum_cons] at *; omega
theorem interP_full {k : Nat} {ll : List (List Int)} (h : ∀ x ∈ ll, x.length ≤ k) : (interP k ll).length = total ll := by
  induction ll with
  | nil => simp [interP_nil, total]
  | cons x ll ih =>
    have h1 := h x (by simp)
    have h2 := ih fun y hy => h y (by simp [hy])
    rw [interP_cons]; simp only [total, List.map_cons, List.sum_cons] at *; omega
theorem rowI_succ {ll : List (List Int)} {j i : Nat} {x : List Int} (h : ll[j]? = some x) : rowI i (ll.take (j + 1)) = rowI i (ll.take j) ++ x[i]?.toList := by
  unfold rowI
  rw [List.take_add_one, h, List.filterMap_append]
  cases e : x[i]? <;> simp [e]
theorem rowI_take_le (i j : Nat) (ll : List (List Int)) : (rowI i (ll.take j)).length ≤ (rowI i ll).length := by
  unfold rowI
  conv => rhs; rw [← List.take_append_drop j ll, List.filterMap_append, List.length_append]
  omega
theorem inter_row_le (i j : Nat) (ll : List (List Int)) : (interP i ll).length + (rowI i (ll.take j)).length ≤ total ll := by
  have h := interP_le (i + 1) ll
  rw [interP_succ, List.length_append] at h
  have := rowI_take_le i j ll; omega
theorem inter_row_lt {i j : Nat} {ll : List (List Int)} {x : List Int} (h : ll[j]? = some x) (hi : i < x.length) : (interP i ll).length + (rowI i (ll.take j)).length < total ll := by
  have h1 := inter_row_le i (j + 1) ll
  rw [rowI_succ h, List.getElem?_eq_getElem hi] at h1
  simp at h1; omega
theorem rowI_out {i : Nat} {ll : List (List Int)} (h : ∀ x ∈ ll, x.length ≤ i) : rowI i ll = [] := by
  unfold rowI
  rw [List.filterMap_eq_nil_iff]
  intro x hx
  exact List.getElem?_eq_none (h x hx)
theorem interP_stable {ll : List (List Int)} {m : Nat} (h : ∀ x ∈ ll, x.length ≤ m) : ∀ k, m ≤ k → interP k ll = interP m ll := by
  intro k hk
  induction k with
  | zero => rw [show m = 0 by omega]
  | succ k ih =>
    by_cases e : m = k + 1
    · rw [e]
    · rw [interP_succ, ih (by omega), rowI_out fun x hx => by have := h x hx; omega, List.append_nil]
def interL (ll : List (List Int)) : List Int := interP (maxLen ll) ll
theorem interL_eq {ll : List (List Int)} {k : Nat} (h : maxLen ll ≤ k) : interP k ll = interL ll :=
  interP_stable (fun x hx => le_maxLen hx) k h
theorem maxLen_total (ll : List (List Int)) : maxLen ll ≤ total ll := by
  refine maxLen_le fun x hx => ?_
  obtain ⟨k, hk⟩ := List.getElem?_of_mem hx
  have := total_take_le ll (k + 1)
  rw [total_succ hk] at this; omega
theorem interL_length (ll : List (List Int)) : (interL ll).length = total ll := interP_full fun x hx => le_maxLen hx
theorem rowI_perm (ll : List (List Int)) (k : Nat) : (rowI k ll ++ (ll.map (List.drop (k + 1))).flatten).Perm (ll.map (List.drop k)).flatten := by
  induction ll with
  | nil => simp [rowI]
  | cons x ll ih =>
    unfold rowI at *
    rw [List.filterMap_cons]
    simp only [List.map_cons, List.flatten_cons]
    cases e : x[k]? with
    | none =>
      have hk : x.length ≤ k := by simpa using e
      simp only [List.drop_eq_nil_of_le hk, List.drop_eq_nil_of_le (Nat.le_succ_of_le hk), List.nil_append]
      exact ih
    | some y =>
      have hk := (List.getElem?_eq_some_iff.1 e)
      obtain ⟨h1, h2⟩ := hk
      rw [List.drop_eq_getElem_cons h1, h2]
      simp only [List.cons_append]
      refine List.Perm.cons y ?_
      rw [← List.append_assoc]
      refine (List.Perm.append_right _ List.perm_append_comm).trans ?_
      rw [List.append_assoc]
      exact List.Perm.append_left _ ih
theorem interP_perm (ll : List (List Int)) : ∀ k, (interP k ll ++ (ll.map (List.drop k)).flatten).Perm ll.flatten := by
  intro k
  induction k with
  | zero => simp [interP, show (List.drop 0 : List Int → List Int) = id from funext fun _ => rfl]
  | succ k ih =>
    rw [interP_succ, List.append_assoc]
    exact (List.Perm.append_left _ (rowI_perm ll k)).trans ih
theorem interL_perm (ll : List (List Int)) : (interL ll).Perm ll.flatten := by
  have h := interP_perm ll (maxLen ll)
  have e : (ll.map (List.drop (maxLen ll))).flatten = [] := by
    rw [List.flatten_eq_nil_iff]
    intro l hl
    obtain ⟨x, hx, rfl⟩ := List.mem_map.1 hl
    exact List.drop_eq_nil_of_le (le_maxLen hx)
  rw [e, List.append_nil] at h; exact h
theorem inter_same (ll : List (List Int)) : (interL ll).length = ll.flatten.length ∧ ∀ x ∈ interL ll, (interL ll).count x = ll.flatten.count x :=
  ⟨(interL_perm ll).length_eq, fun x _ => (interL_perm ll).count_eq x⟩
theorem flatten_len (ll : List (List Int)) : ll.flatten.length = total ll := by simp [total, List.length_flatten]
theorem flatten_succ {ll : List (List Int)} {k : Nat} {x : List Int} (h : ll[k]? = some x) : (ll.take (k + 1)).flatten = (ll.take k).flatten ++ x := by
  simp [List.take_add_one, h]
theorem set_fill {p q : List Int} {n : Nat} {y : Int} (h : p.length < n) (hq : q = p ++ [y]) : (p ++ List.replicate (n - p.length) (0 : Int)).set p.length y = q ++ List.replicate (n - q.length) (0 : Int) := by
  subst hq
  rw [List.set_append_right _ _ (Nat.le_refl _), Nat.sub_self]
  obtain ⟨m, hm⟩ : ∃ m, n - p.length = m + 1 := ⟨n - p.length - 1, by omega⟩
  rw [hm, List.replicate_succ, List.set_cons_zero]
  simp; omega

theorem List.mem_take_succ_of {α : Type} {l : List α} {k : Nat} {x : α} (h : l[k]? = some x) : x ∈ l.take (k + 1) := by
  rw [List.take_add_one, h]; simp
theorem take_mem_exists {α : Type} {l : List α} {k : Nat} {x : α} {p : α → Prop} (h : l[k]? = some x) : (∃ y ∈ l.take (k + 1), p y) ↔ (∃ y ∈ l.take k, p y) ∨ p x := by
  rw [List.take_add_one, h]
  simp only [Option.toList_some, List.mem_append, List.mem_singleton]
  constructor
  · rintro ⟨y, hy | rfl, hp⟩
    · exact .inl ⟨y, hy, hp⟩
    · exact .inr hp
  · rintro (⟨y, hy, hp⟩ | hp)
    · exact ⟨y, .inl hy, hp⟩
    · exact ⟨x, .inr rfl, hp⟩

theorem flat_prefix {l : List (List Int)} {k : Nat} {xk p : List Int} {x : Int} (h : l[k]? = some xk) (hp : p ++ [x] <+: xk) : ((l.take k).flatten ++ p) ++ [x] <+: l.flatten := by
  have h1 : (l.take (k + 1)).flatten <+: l.flatten := by
    conv => rhs; rw [← List.take_append_drop (k + 1) l, List.flatten_append]
    exact List.prefix_append _ _
  rw [flatten_succ h] at h1
  rw [List.append_assoc]
  exact ((List.prefix_append_right_inj _).2 hp).trans h1
theorem flat_prefix0 {l : List (List Int)} {k : Nat} {xk p : List Int} (h : l[k]? = some xk) (hp : p <+: xk) : ((l.take k).flatten ++ p) <+: l.flatten := by
  have h1 : (l.take (k + 1)).flatten <+: l.flatten := by
    conv => rhs; rw [← List.take_append_drop (k + 1) l, List.flatten_append]
    exact List.prefix_append _ _
  rw [flatten_succ h] at h1
  exact ((List.prefix_append_right_inj _).2 hp).trans h1
theorem total_append (a b : List (List Int)) : total (a ++ b) = total a + total b := by simp [total]

/-- the first k items and the last k ones have changed their places -/
def swapK (l : List Int) (k : Nat) : List Int := (List.range l.length).map fun i => if i < k ∨ l.length ≤ i + k then l.getD (l.length - 1 - i) 0 else l.getD i 0
theorem swapK_zero (l : List Int) : l = swapK l 0 := by
  apply List.ext_getElem?
  intro i
  unfold swapK
  rw [List.getElem?_map]
  by_cases h : i < l.length
  · rw [List.getElem?_range h, Option.map_some, if_neg (by omega), List.getElem?_eq_getElem h]; simp [List.getD_eq_getElem?_getD, h]
  · rw [List.getElem?_eq_none (by omega), List.getElem?_eq_none (by simp; omega)]; rfl
theorem swapK_length (l : List Int) (k : Nat) : (swapK l k).length = l.length := by simp [swapK]
theorem swapK_get {l : List Int} {k i : Nat} (h : i < l.length) : (swapK l k)[i]? = some (if i < k ∨ l.length ≤ i + k then l.getD (l.length - 1 - i) 0 else l.getD i 0) := by
  unfold swapK; rw [List.getElem?_map, List.getElem?_range h]; rfl
theorem swapK_succ {l : List Int} {k j : Nat} {x y : Int} (hk : 2 * k + 1 < l.length) (hj : j = l.length - 1 - k) (hx : (swapK l k)[j]? = some x) (hy : (swapK l k)[k]? = some y) : ((swapK l k).set k x).set j y = swapK l (k + 1) := by
  subst hj
  rw [swapK_get (by omega)] at hx hy
  rw [if_neg (by omega)] at hx hy
  apply List.ext_getElem?
  intro i
  by_cases h : i < l.length
  · rw [swapK_get h, List.getElem?_set, List.getElem?_set, swapK_length, List.length_set, swapK_length]
    by_cases h1 : l.length - 1 - k = i
    · rw [if_pos h1, if_pos (by omega), if_pos (by omega), ← hy, ← h1]; congr 2; omega
    · rw [if_neg h1]
      by_cases h2 : k = i
      · rw [if_pos h2, if_pos (by omega), if_pos (by omega), ← hx, ← h2]
      · rw [if_neg h2, swapK_get h]
        by_cases h3 : i < k ∨ l.length ≤ i + k
        · rw [if_pos h3, if_pos (by omega)]
        · rw [if_neg h3, if_neg (by omega)]
  · rw [List.getElem?_eq_none (by simp [swapK_length]; omega), List.getElem?_eq_none (by simp [swapK_length]; omega)]
theorem swapK_half {l : List Int} {k : Nat} (h : l.length / 2 ≤ k) : swapK l k = l.reverse := by
  apply List.ext_getElem?
  intro i
  by_cases hi : i < l.length
  · rw [swapK_get hi, List.getElem?_reverse hi]
    by_cases h3 : i < k ∨ l.length ≤ i + k
    · rw [if_pos h3, List.getElem?_eq_getElem (by omega)]; simp [List.getD_eq_getElem?_getD, List.getElem?_eq_getElem (show l.length - 1 - i < l.length by omega)]
    · rw [if_neg h3, List.getElem?_eq_getElem (by omega)]
      have : l.length - 1 - i = i := by omega
      simp [List.getD_eq_getElem?_getD, List.getElem?_eq_getElem hi, this]
  · rw [List.getElem?_eq_none (by simp [swapK_length]; omega), List.getElem?_eq_none (by simp; omega)]
theorem tdiv2 (n : Nat) : IntKind.i64.wrap (Int.tdiv (n : Int) 2) = IntKind.i64.wrap ((n / 2 : Nat) : Int) := by congr 1

theorem first_eq {l : List Int} {x : Int} (h : l[0]? = some x) : l.headD 0 = x ∧ l.isEmpty = false := by
  cases l with
  | nil => cases h
  | cons y l => cases h; exact ⟨rfl, rfl⟩
theorem last_eq {l : List Int} {x : Int} {k : Nat} (h : l[k]? = some x) (hk : k + 1 = l.length) : l.getLastD 0 = x ∧ l.isEmpty = false := by
  cases l with
  | nil => cases h
  | cons y l =>
    refine ⟨?_, rfl⟩
    have : k = l.length := by simpa using hk
    subst this
    rw [List.getLastD_cons, List.getLastD_eq_getLast?, List.getLast?_eq_getElem?]
    cases l with
    | nil => cases h; rfl
    | cons z l => rw [show (z :: l).length - 1 = l.length by simp]; rw [show (y :: z :: l)[(z :: l).length]? = (z :: l)[l.length]? by simp] at h; rw [h]; rfl

theorem rev_step {l : List Int} {k j : Nat} {x : Int} (hk : k < l.length) (hj : (j : Int) = (l.length : Int) - 1 - k) (h : l[j]? = some x) : (l.drop (l.length - k)).reverse ++ [x] = (l.drop (l.length - (k + 1))).reverse := by
  have e : j = l.length - (k + 1) := by omega
  subst e
  rw [List.drop_eq_getElem_cons (show l.length - (k + 1) < l.length by omega), show l.length - (k + 1) + 1 = l.length - k by omega, List.reverse_cons]
  rw [List.getElem?_eq_getElem (by omega)] at h
  rw [Option.some.inj h]
theorem rev_prefix {l : List Int} {k j : Nat} {x : Int} (hk : k < l.length) (hj : (j : Int) = (l.length : Int) - 1 - k) (h : l[j]? = some x) : (l.drop (l.length - k)).reverse ++ [x] <+: l.reverse := by
  rw [rev_step hk hj h]
  conv => rhs; rw [← List.take_append_drop (l.length - (k + 1)) l, List.reverse_append]
  exact List.prefix_append _ _

theorem turn_head (l : List Int) : l.headD 0 = l.reverse.getLastD 0 := by cases l <;> simp [List.getLastD_eq_getLast?]

def predAt (k n : Int) (l : List Int) (x i : Int) : Bool :=
  if k = 0 then decide (x < n) else if k = 1 then (decide (n ≠ 0) && decide (x % n = l.headD 0)) else if k = 2 then decide (x ∈ l) else if k = 3 then decide (Int.tmod i 2 = 0) else decide (k = 4)
theorem tmod_emod (a b : Int) (hb : b ≠ 0) : (Int.tmod a b = a % b ∨ Int.tmod a b = a % b - b.natAbs) ∧ 0 ≤ a % b ∧ a % b < b.natAbs := by
  refine ⟨?_, Int.emod_nonneg _ hb, ?_⟩
  · rw [Int.tmod_eq_emod]; split <;> simp
  · have := Int.emod_lt a hb; omega
def filtI (f : Int → Int → Bool) : Nat → List Int → List Int
  | _, [] => []
  | i, x :: l => if f x i then x :: filtI f (i + 1) l else filtI f (i + 1) l
theorem filtI_append (f : Int → Int → Bool) : ∀ (a b : List Int) (i : Nat), filtI f i (a ++ b) = filtI f i a ++ filtI f (i + a.length) b
  | [], b, i => by simp [filtI]
  | x :: a, b, i => by
    simp only [List.cons_append, filtI, filtI_append f a b (i + 1), List.length_cons]
    rw [show i + 1 + a.length = i + (a.length + 1) by omega]
    split <;> rfl
theorem filtI_succ {f : Int → Int → Bool} {l : List Int} {k : Nat} {x : Int} (h : l[k]? = some x) : filtI f 0 (l.take (k + 1)) = filtI f 0 (l.take k) ++ (if f x k then [x] else []) := by
  have hk := (List.getElem?_eq_some_iff.1 h).1
  rw [List.take_add_one, h, filtI_append]
  simp only [Option.toList_some, filtI, List.length_take, Nat.zero_add, Nat.min_eq_left (Nat.le_of_lt hk)]
theorem filtI_len (f : Int → Int → Bool) : ∀ (l : List Int) (i : Nat), (filtI f i l).length ≤ l.length
  | [], i => by simp [filtI]
  | x :: l, i => by have := filtI_len f l (i + 1); unfold filtI; split <;> simp <;> omega
theorem filtI_filter {f : Int → Int → Bool} {g : Int → Bool} (h : ∀ x i, f x i = g x) : ∀ (l : List Int) (i : Nat), filtI f i l = l.filter g
  | [], i => rfl
  | x :: l, i => by unfold filtI; rw [h, List.filter_cons, filtI_filter h l (i + 1)]
theorem predAt_free {k n : Int} {l : List Int} (h : ¬ k = 3) (x i : Int) : predAt k n l x i = predAt k n l x 0 := by
  unfold predAt; simp [h]
theorem countP_succ {g : Int → Bool} {l : List Int} {k : Nat} {x : Int} (h : l[k]? = some x) : (l.take (k + 1)).countP g = (l.take k).countP g + (if g x then 1 else 0) := by
  rw [List.take_add_one, h, List.countP_append]; simp [List.countP_cons]

/-- the first place of an item, -1 if there is none -/
def idxOf (l : List Int) (x : Int) : Int := match (List.range l.length).find? (fun i => decide (l[i]? = some x)) with | some i => (i : Int) | none => -1
theorem idxOf_some {l : List Int} {x : Int} {k : Nat} (h : l[k]? = some x) (hn : ∀ j, j < k → l[j]? ≠ some x) : idxOf l x = (k : Int) := by
  have hk := (List.getElem?_eq_some_iff.1 h).1
  have : (List.range l.length).find? (fun i => decide (l[i]? = some x)) = some k := by
    rw [List.find?_range_eq_some]
    exact ⟨by simpa using h, by simpa using hk, fun j hj => by simpa using hn j hj⟩
  unfold idxOf; rw [this]
theorem idxOf_none {l : List Int} {x : Int} (hn : ∀ j : Nat, l[j]? ≠ some x) : idxOf l x = -1 := by
  have : (List.range l.length).find? (fun i => decide (l[i]? = some x)) = none := by
    rw [List.find?_range_eq_none]
    intro i hi; simpa using hn i
  unfold idxOf; rw [this]
theorem idxOf_mem (l : List Int) (x : Int) : decide (0 ≤ idxOf l x) = decide (x ∈ l) := by
  by_cases h : x ∈ l
  · rw [decide_eq_true h]
    cases e : (List.range l.length).find? (fun i => decide (l[i]? = some x)) with
    | some i => unfold idxOf; rw [e]; simp
    | none =>
      rw [List.find?_range_eq_none] at e
      obtain ⟨k, hk⟩ := List.getElem?_of_mem h
      have := e k (List.getElem?_eq_some_iff.1 hk).1
      simp [hk] at this
  · rw [decide_eq_false h, idxOf_none (fun j e => h (List.mem_of_getElem? e))]; rfl

theorem filt_twice (f g : Int → Int → Bool) (hf : ∀ x i, f x i = f x 0) (hg : ∀ x i, g x i = g x 0) (l : List Int) :
    filtI g 0 (filtI f 0 l) = filtI f 0 (filtI g 0 l) ∧ filtI f 0 (filtI g 0 (filtI f 0 l)) = filtI g 0 (filtI f 0 l) ∧ filtI (fun x i => !g x i) 0 (filtI g 0 (filtI f 0 l)) = [] ∧
    filtI f 0 (filtI (fun x i => !f x i) 0 l) = [] ∧ (filtI f 0 l).length = l.countP (fun x => f x 0) ∧ l.length = l.countP (fun x => f x 0) + (filtI (fun x i => !f x i) 0 l).length := by
  have h1 := fun l i => filtI_filter hf l i
  have h2 := fun l i => filtI_filter hg l i
  have h3 := fun l i => filtI_filter (f := fun x i => !f x i) (g := fun x => !f x 0) (fun x i => by rw [hf]) l i
  have h4 := fun l i => filtI_filter (f := fun x i => !g x i) (g := fun x => !g x 0) (fun x i => by rw [hg]) l i
  simp only [h1, h2, h3, h4, List.filter_filter]
  refine ⟨List.filter_congr fun x _ => Bool.and_comm _ _, List.filter_congr fun x _ => by cases f x 0 <;> cases g x 0 <;> rfl, ?_, ?_, (List.countP_eq_length_filter).symm, ?_⟩
  · rw [List.filter_eq_nil_iff]; intro x _; cases f x 0 <;> cases g x 0 <;> simp
  · rw [List.filter_eq_nil_iff]; intro x _; cases f x 0 <;> simp
  · have e : (fun x => !f x 0) = (fun a => decide ¬f a 0 = true) := funext fun x => by cases f x 0 <;> rfl
    rw [← List.countP_eq_length_filter, e]; exact List.length_eq_countP_add_countP _

theorem head_prefix {p l : List Int} {x : Int} (h : p.head? = some x) (hp : p <+: l) : l.headD 0 = x ∧ l.isEmpty = false := by
  obtain ⟨t, rfl⟩ := hp
  cases p with
  | nil => cases h
  | cons y p => cases h; exact ⟨rfl, rfl⟩

theorem getLastD_append1 (l : List Int) (x : Int) : (l ++ [x]).getLastD 0 = x := by rw [List.getLastD_eq_getLast?, List.getLast?_append]; rfl
def nthL (l : List Int) (i : Int) : Option Int := if 0 ≤ i then l[i.toNat]? else if -(l.length : Int) ≤ i then l[((l.length : Int) + i).toNat]? else none
def nthS (l : List Int) (i : Int) : Option Int := if 0 ≤ i then l[i.toNat]? else none
theorem nthL_none {l : List Int} {i : Int} (h : (l.length : Int) ≤ i ∨ i < -(l.length : Int)) : nthL l i = none := by
  unfold nthL
  split
  · exact List.getElem?_eq_none (by omega)
  · rw [if_neg (by omega)]
theorem nthL_pos {l : List Int} {i x : Int} (h : 0 ≤ i) (hx : l[i.toNat]? = some x) : nthL l i = some x := by unfold nthL; rw [if_pos h, hx]
theorem nthL_neg {l : List Int} {i x : Int} (h : ¬ 0 ≤ i) (h2 : -(l.length : Int) ≤ i) (hx : l[((l.length : Int) + i).toNat]? = some x) : nthL l i = some x := by unfold nthL; rw [if_neg h, if_pos h2, hx]
theorem nthS_stop {p l : List Int} {i x : Int} (h : 0 ≤ i) (hx : p[i.toNat]? = some x) (hp : p <+: l) : nthS l i = some x := by
  obtain ⟨t, rfl⟩ := hp
  unfold nthS; rw [if_pos h, List.getElem?_append_left (List.getElem?_eq_some_iff.1 hx).1, hx]
theorem nthS_out {l : List Int} {i : Int} (h : i < 0 ∨ (l.length : Int) ≤ i) : nthS l i = none := by
  unfold nthS; split
  · exact List.getElem?_eq_none (by omega)
  · rfl
theorem nthS_L {l : List Int} {i : Int} (h : ¬ i < 0) : nthS l i = nthL l i := by unfold nthS nthL; rw [if_pos (by omega), if_pos (by omega)]

def w64 (x : Int) : Int := IntKind.i64.wrap x
def keyAt (k n x i : Int) : Int :=
  if k = 0 then w64 (x + n) else if k = 1 then w64 (x * n) else if k = 2 then (if n = 0 then x else x % n) else if k = 3 then n else if k = 4 then i else x
theorem w64_in {x : Int} (h : -9223372036854775808 ≤ x ∧ x ≤ 9223372036854775807) : w64 x = x := wrap_in h
theorem w64_range (x : Int) : -9223372036854775808 ≤ w64 x ∧ w64 x ≤ 9223372036854775807 := by
  unfold w64 IntKind.wrap; simp [IntKind.signed, IntKind.bits]; omega
theorem w64_eq (x : Int) : ∃ q : Int, w64 x = x + q * 18446744073709551616 := by
  unfold w64 IntKind.wrap; simp [IntKind.signed, IntKind.bits]
  exact ⟨-((x + 9223372036854775808) / 18446744073709551616), by omega⟩
theorem w64_congr {x y q : Int} (h : x = y + q * 18446744073709551616) : w64 x = w64 y := by
  unfold w64 IntKind.wrap; simp [IntKind.signed, IntKind.bits]; omega
theorem w64_add (x y : Int) : w64 (w64 x + y) = w64 (x + y) := by
  obtain ⟨q, h⟩ := w64_eq x
  exact w64_congr (q := q) (by rw [h]; omega)
theorem w64_mul (x y : Int) : w64 (w64 x * y) = w64 (x * y) := by
  obtain ⟨q, h⟩ := w64_eq x
  refine w64_congr (q := q * y) ?_
  rw [h, Int.add_mul, Int.mul_assoc, Int.mul_assoc, Int.mul_comm 18446744073709551616 y]
def mapI (f : Int → Int → Int) : Nat → List Int → List Int
  | _, [] => []
  | i, x :: l => f x i :: mapI f (i + 1) l
theorem mapI_len (f : Int → Int → Int) : ∀ (l : List Int) (i : Nat), (mapI f i l).length = l.length
  | [], i => rfl
  | x :: l, i => by simp [mapI, mapI_len f l (i + 1)]
theorem mapI_append (f : Int → Int → Int) : ∀ (a b : List Int) (i : Nat), mapI f i (a ++ b) = mapI f i a ++ mapI f (i + a.length) b
  | [], b, i => by simp [mapI]
  | x :: a, b, i => by
    simp only [List.cons_append, mapI, mapI_append f a b (i + 1), List.length_cons]
    rw [show i + 1 + a.length = i + (a.length + 1) by omega]
theorem mapI_succ {f : Int → Int → Int} {l : List Int} {k : Nat} {x : Int} (h : l[k]? = some x) : mapI f 0 (l.take (k + 1)) = mapI f 0 (l.take k) ++ [f x k] := by
  have hk := (List.getElem?_eq_some_iff.1 h).1
  rw [List.take_add_one, h, mapI_append]
  simp only [Option.toList_some, mapI, List.length_take, Nat.zero_add, Nat.min_eq_left (Nat.le_of_lt hk)]

theorem modA (x n : Int) (hn : 0 < n) : (0 ≤ x % n ∧ x % n < n) ∧ (((-x) % n = 0 ∧ x % n = 0) ∨ (0 < (-x) % n ∧ x % n = n - (-x) % n)) := by
  have h1 := Int.emod_nonneg x (show n ≠ 0 by omega)
  have h2 := Int.emod_lt_of_pos x hn
  refine ⟨⟨h1, h2⟩, ?_⟩
  have h3 := Int.emod_nonneg (-x) (show n ≠ 0 by omega)
  have h4 := Int.emod_lt_of_pos (-x) hn
  have h5 : (x % n + (-x) % n) % n = 0 := by rw [← Int.add_emod, Int.add_right_neg, Int.zero_emod]
  have h6 : n ∣ (x % n + (-x) % n) := Int.dvd_of_emod_eq_zero h5
  obtain ⟨q, hq⟩ := h6
  have h7 : q = 0 ∨ q = 1 := by
    have hq0 : 0 ≤ q := by
      refine Int.not_lt.1 fun hlt => ?_
      have : n * q < 0 := Int.mul_neg_of_pos_of_neg hn hlt
      omega
    have hq2 : q < 2 := by
      refine Int.not_le.1 fun hle => ?_
      have : n * 2 ≤ n * q := Int.mul_le_mul_of_nonneg_left hle (by omega)
      omega
    omega
  rcases h7 with rfl | rfl
  · left; omega
  · by_cases h8 : (-x) % n = 0
    · omega
    · right; omega

theorem wsum_succ {l : List Int} {k : Nat} {x : Int} (h : l[k]? = some x) : w64 (w64 (l.take k).sum + x) = w64 ((l.take (k + 1)).sum) := by
  rw [w64_add, List.take_add_one, h, List.sum_append]; simp
theorem wsumby_succ {l : List Int} {k : Nat} {x : Int} (f : Int → Int) (h : l[k]? = some x) : w64 (w64 ((l.take k).map f).sum + f x) = w64 (((l.take (k + 1)).map f).sum) := by
  rw [w64_add, List.take_add_one, h, List.map_append, List.sum_append]; simp
def prod (l : List Int) : Int := l.foldl (fun a x => a * x) 1
theorem prod_append1 (l : List Int) (x : Int) : prod (l ++ [x]) = prod l * x := by simp [prod]
theorem wprod_succ {l : List Int} {k : Nat} {x : Int} (h : l[k]? = some x) : w64 (w64 (prod (l.take k)) * x) = w64 (prod (l.take (k + 1))) := by
  rw [w64_mul, List.take_add_one, h]; simp [prod_append1]
theorem wsumby_app (f : Int → Int) (l : List Int) (x : Int) : w64 (w64 (l.map f).sum + f x) = w64 ((l ++ [x]).map f).sum := by rw [w64_add]; simp
theorem wprodby_app (f : Int → Int) (l : List Int) (x : Int) : w64 (w64 (prod (l.map f)) * f x) = w64 (prod ((l ++ [x]).map f)) := by rw [w64_mul]; simp [prod_append1]
theorem w64_zero : w64 0 = 0 := by decide
theorem w64_one : w64 1 = 1 := by decide

theorem w64_add2 (x y : Int) : w64 (x + y) = w64 (w64 x + w64 y) := by rw [w64_add, Int.add_comm x (w64 y), w64_add, Int.add_comm]
theorem sum_rev (l : List Int) : l.reverse.sum = l.sum := by
  induction l with
  | nil => rfl
  | cons x l ih => rw [List.reverse_cons, List.sum_append, ih]; simp [Int.add_comm]
theorem mapI_map {f : Int → Int → Int} {g : Int → Int} (h : ∀ x i, f x i = g x) : ∀ (l : List Int) (i : Nat), mapI f i l = l.map g
  | [], i => rfl
  | x :: l, i => by unfold mapI; rw [h, mapI_map h l (i + 1)]; rfl
theorem keyAt_free {k n : Int} (h : ¬ k = 4) (x i : Int) : keyAt k n x i = keyAt k n x 0 := by unfold keyAt; simp [h]

def foldI (f : Int → Int → Int → Int) : Nat → Int → List Int → Int
  | _, s, [] => s
  | i, s, x :: l => foldI f (i + 1) (f s x i) l
theorem foldI_append (f : Int → Int → Int → Int) : ∀ (a b : List Int) (i : Nat) (s : Int), foldI f i s (a ++ b) = foldI f (i + a.length) (foldI f i s a) b
  | [], b, i, s => by simp [foldI]
  | x :: a, b, i, s => by
    simp only [List.cons_append, foldI, foldI_append f a b (i + 1), List.length_cons]
    rw [show i + 1 + a.length = i + (a.length + 1) by omega]
theorem foldI_app1 (f : Int → Int → Int → Int) (a : List Int) (x : Int) (s : Int) : foldI f 0 s (a ++ [x]) = f (foldI f 0 s a) x a.length := by
  rw [foldI_append, Nat.zero_add]; rfl
theorem foldI_succ {f : Int → Int → Int → Int} {l : List Int} {k : Nat} {x : Int} (s : Int) (h : l[k]? = some x) : f (foldI f 0 s (l.take k)) x k = foldI f 0 s (l.take (k + 1)) := by
  have hk := (List.getElem?_eq_some_iff.1 h).1
  rw [List.take_add_one, h]
  show _ = foldI f 0 s (l.take k ++ [x])
  rw [foldI_app1, List.length_take, Nat.min_eq_left (Nat.le_of_lt hk)]
theorem foldI_free {f : Int → Int → Int → Int} (hf : ∀ s x i, f s x i = f s x 0) : ∀ (l : List Int) (i : Nat) (s : Int), foldI f i s l = l.foldl (fun s x => f s x 0) s
  | [], i, s => rfl
  | x :: l, i, s => by unfold foldI; rw [hf, foldI_free hf l (i + 1)]; rfl
theorem foldI_congr {f g : Int → Int → Int → Int} (h : ∀ s x i, f s x i = g s x i) (i : Nat) (s : Int) (l : List Int) : foldI f i s l = foldI g i s l := by
  rw [show f = g from funext fun s => funext fun x => funext fun i => h s x i]
def rstep (k n s x i : Int) : Int := w64 (w64 (s * 31) + keyAt k n x i)
theorem foldr_step {f : Int → Int → Int → Int} (hf : ∀ s x i, f s x i = f s x 0) {l : List Int} {k j : Nat} {x i : Int} (s : Int) (hk : k < l.length) (hj : (j : Int) = (l.length : Int) - 1 - k) (h : l[j]? = some x) :
    f (foldI f 0 s (l.drop (l.length - k)).reverse) x i = foldI f 0 s (l.drop (l.length - (k + 1))).reverse := by
  rw [← rev_step hk hj h, foldI_app1, hf _ _ i, hf _ _ ((_ : Nat) : Int)]

theorem rstep_free {k n : Int} (h : ¬ k = 4) (s x i : Int) : rstep k n s x i = rstep k n s x 0 := by unfold rstep; rw [keyAt_free h]
theorem fold_both {k n : Int} (h : ¬ k = 4) (a b : List Int) (s : Int) : foldI (rstep k n) 0 s (a ++ b) = foldI (rstep k n) 0 (foldI (rstep k n) 0 s a) b := by
  rw [foldI_free (rstep_free h), foldI_free (rstep_free h), foldI_free (rstep_free h), List.foldl_append]
theorem fold_rev {k n : Int} (h : ¬ k = 4) (l : List Int) (s : Int) : foldI (fun s x i => rstep k n s x 0) 0 s l = foldI (rstep k n) 0 s l :=
  (foldI_congr (rstep_free h) 0 s l).symm

def PF2T (P : Program) (fv : Value) (M : Hp) (f : Int → Int → Int × Bool) : Prop := fv.oneCell' = true ∧ ∀ x i : Int, Pu P fv M [.int .i64 x, .int .i64 i] (fun r _ => r = .tuple #[.int .i64 (f x i).1, .bool (f x i).2])
theorem PF2T.le {P : Program} {fv : Value} {M M' : Hp} {f : Int → Int → Int × Bool} (h : PF2T P fv M f) (hM : Hp.le M M') : PF2T P fv M' f := ⟨h.1, fun x i => (h.2 x i).le hM⟩
/-- what is kept, as what it is made of -/
def fmapI (f : Int → Int → Int × Bool) : Nat → List Int → List Int
  | _, [] => []
  | i, x :: l => if (f x i).2 then (f x i).1 :: fmapI f (i + 1) l else fmapI f (i + 1) l
theorem fmapI_append (f : Int → Int → Int × Bool) : ∀ (a b : List Int) (i : Nat), fmapI f i (a ++ b) = fmapI f i a ++ fmapI f (i + a.length) b
  | [], b, i => by simp [fmapI]
  | x :: a, b, i => by
    simp only [List.cons_append, fmapI, fmapI_append f a b (i + 1), List.length_cons]
    rw [show i + 1 + a.length = i + (a.length + 1) by omega]
    split <;> rfl
theorem fmapI_app1 (f : Int → Int → Int × Bool) (a : List Int) (x : Int) : fmapI f 0 (a ++ [x]) = fmapI f 0 a ++ (if (f x a.length).2 then [(f x a.length).1] else []) := by
  rw [fmapI_append, Nat.zero_add]; rfl
theorem fmapI_succ {f : Int → Int → Int × Bool} {l : List Int} {k : Nat} {x : Int} (h : l[k]? = some x) : fmapI f 0 (l.take (k + 1)) = fmapI f 0 (l.take k) ++ (if (f x k).2 then [(f x k).1] else []) := by
  have hk := (List.getElem?_eq_some_iff.1 h).1
  rw [List.take_add_one, h]
  show fmapI f 0 (l.take k ++ [x]) = _
  rw [fmapI_app1, List.length_take, Nat.min_eq_left (Nat.le_of_lt hk)]
theorem fmapI_len (f : Int → Int → Int × Bool) : ∀ (l : List Int) (i : Nat), (fmapI f i l).length ≤ l.length
  | [], i => by simp [fmapI]
  | x :: l, i => by have := fmapI_len f l (i + 1); unfold fmapI; split <;> simp <;> omega

theorem fmapI_prefix0 {f : Int → Int → Int × Bool} {p l : List Int} (hp : p <+: l) : fmapI f 0 p <+: fmapI f 0 l := by
  obtain ⟨t, rfl⟩ := hp
  rw [fmapI_append]; exact List.prefix_append _ _
theorem fmapI_prefix {f : Int → Int → Int × Bool} {p l : List Int} {x : Int} (hp : p ++ [x] <+: l) (hk : (f x p.length).2 = true) : fmapI f 0 p ++ [(f x p.length).1] <+: fmapI f 0 l := by
  have h := fmapI_prefix0 (f := f) hp
  rw [fmapI_app1, if_pos hk] at h; exact h
theorem fmapI_filt {f g : Int → Int → Int} {p : Int → Int → Bool} (hg : ∀ x i, g x i = g x 0) (hfg : f = g) : ∀ (l : List Int) (i : Nat), mapI g 0 (filtI p i l) = fmapI (fun x i => (f x i, p x i)) i l := by
  subst hfg
  intro l
  have h0 : ∀ (a : List Int) (i j : Nat), mapI f i a = mapI f j a := fun a i j => by rw [mapI_map hg, mapI_map hg]
  induction l with
  | nil => intro i; rfl
  | cons x l ih =>
    intro i
    unfold filtI fmapI
    by_cases h : p x i = true
    · rw [if_pos h, if_pos h]; unfold mapI; rw [h0 _ _ 0, ih, hg x, hg x i]
    · rw [if_neg h, if_neg h]; exact ih _

theorem comp_get {a l : List Int} {k : Nat} {x : Int} (hk : a.length ≤ k) (h : (a ++ l.drop a.length)[k]? = some x) : l[k]? = some x := by
  rw [List.getElem?_append_right hk, List.getElem?_drop, Nat.add_sub_cancel' hk] at h; exact h
theorem comp_set {a b l : List Int} {x : Int} (hk : a.length < l.length) (hb : b = a ++ [x]) : (a ++ l.drop a.length).set a.length x = b ++ l.drop b.length := by
  subst hb
  rw [List.set_append_right _ _ (Nat.le_refl _), Nat.sub_self, List.drop_eq_getElem_cons hk, List.set_cons_zero]
  simp
theorem filtI_prefix0 {f : Int → Int → Bool} {p l : List Int} (hp : p <+: l) : filtI f 0 p <+: filtI f 0 l := by
  obtain ⟨t, rfl⟩ := hp
  rw [filtI_append]; exact List.prefix_append _ _
theorem filtI_app1 (f : Int → Int → Bool) (a : List Int) (x : Int) : filtI f 0 (a ++ [x]) = filtI f 0 a ++ (if f x a.length then [x] else []) := by
  rw [filtI_append, Nat.zero_add]; rfl
theorem filtI_prefix {f : Int → Int → Bool} {p l : List Int} {x : Int} (hp : p ++ [x] <+: l) (hk : f x p.length = true) : filtI f 0 p ++ [x] <+: filtI f 0 l := by
  have h := filtI_prefix0 (f := f) hp
  rw [filtI_app1, if_pos hk] at h; exact h

theorem fmapI_id {p : Int → Int → Bool} : ∀ (l : List Int) (i : Nat), (∀ x ∈ l, -9223372036854775808 ≤ x ∧ x ≤ 9223372036854775807) → fmapI (fun x i => (keyAt 0 0 x i, p x i)) i l = filtI p i l
  | [], i, _ => rfl
  | x :: l, i, h => by
    unfold fmapI filtI
    rw [fmapI_id l (i + 1) fun y hy => h y (List.mem_cons_of_mem _ hy)]
    have e : keyAt 0 0 x i = x := by unfold keyAt; simp; exact w64_in (h x (List.mem_cons_self ..))
    simp only [e]

theorem map_get {f : Int → Int → Int} {l : List Int} {k : Nat} {x : Int} (hk : (mapI f 0 (l.take k)).length = k) (h : (mapI f 0 (l.take k) ++ l.drop k)[k]? = some x) : l[k]? = some x := by
  rw [List.getElem?_append_right (by omega), List.getElem?_drop, hk, Nat.sub_self, Nat.add_zero] at h; exact h
theorem map_set {f : Int → Int → Int} {l : List Int} {k : Nat} {x : Int} (hk : (mapI f 0 (l.take k)).length = k) (hx : l[k]? = some x) : (mapI f 0 (l.take k) ++ l.drop k).set k (f x k) = mapI f 0 (l.take (k + 1)) ++ l.drop (k + 1) := by
  have hlt := (List.getElem?_eq_some_iff.1 hx).1
  rw [List.set_append_right _ _ (by omega), hk, Nat.sub_self, List.drop_eq_getElem_cons hlt, List.set_cons_zero, mapI_succ hx, List.append_assoc]; rfl
theorem mapI_app1 (f : Int → Int → Int) (a : List Int) (x : Int) : mapI f 0 (a ++ [x]) = mapI f 0 a ++ [f x a.length] := by
  rw [mapI_append, Nat.zero_add]; rfl
theorem mapI_prefix0 {f : Int → Int → Int} {p l : List Int} (hp : p <+: l) : mapI f 0 p <+: mapI f 0 l := by
  obtain ⟨t, rfl⟩ := hp
  rw [mapI_append]; exact List.prefix_append _ _
theorem mapI_prefix {f : Int → Int → Int} {p l : List Int} {x : Int} (hp : p ++ [x] <+: l) : mapI f 0 p ++ [f x p.length] <+: mapI f 0 l := by
  have h := mapI_prefix0 (f := f) hp
  rw [mapI_app1] at h; exact h

def flatI (f : Int → Int → List Int) : Nat → List Int → List Int
  | _, [] => []
  | i, x :: l => f x i ++ flatI f (i + 1) l
theorem flatI_append (f : Int → Int → List Int) : ∀ (a b : List Int) (i : Nat), flatI f i (a ++ b) = flatI f i a ++ flatI f (i + a.length) b
  | [], b, i => by simp [flatI]
  | x :: a, b, i => by
    simp only [List.cons_append, flatI, flatI_append f a b (i + 1), List.length_cons, List.append_assoc]
    rw [show i + 1 + a.length = i + (a.length + 1) by omega]
theorem flatI_app1 (f : Int → Int → List Int) (a : List Int) (x : Int) : flatI f 0 (a ++ [x]) = flatI f 0 a ++ f x a.length := by
  rw [flatI_append, Nat.zero_add]; simp [flatI]
theorem flatI_succ {f : Int → Int → List Int} {l : List Int} {k : Nat} {x : Int} (h : l[k]? = some x) : flatI f 0 (l.take (k + 1)) = flatI f 0 (l.take k) ++ f x k := by
  have hk := (List.getElem?_eq_some_iff.1 h).1
  rw [List.take_add_one, h]
  show flatI f 0 (l.take k ++ [x]) = _
  rw [flatI_app1, List.length_take, Nat.min_eq_left (Nat.le_of_lt hk)]
theorem flatI_len {f : Int → Int → List Int} (hf : ∀ x i, (f x i).length = 2) : ∀ (l : List Int) (i : Nat), (flatI f i l).length = 2 * l.length
  | [], i => rfl
  | x :: l, i => by simp only [flatI, List.length_append, hf, flatI_len hf l (i + 1), List.length_cons]; omega
theorem flatI_prefix0 {f : Int → Int → List Int} {p l : List Int} (hp : p <+: l) : flatI f 0 p <+: flatI f 0 l := by
  obtain ⟨t, rfl⟩ := hp
  rw [flatI_append]; exact List.prefix_append _ _
theorem flatI_prefix {f : Int → Int → List Int} {p l q : List Int} {x : Int} (hp : p ++ [x] <+: l) (hq : q <+: f x p.length) : flatI f 0 p ++ q <+: flatI f 0 l := by
  have h := flatI_prefix0 (f := f) hp
  rw [flatI_app1] at h
  exact ((List.prefix_append_right_inj _).2 hq).trans h

theorem fmapI_all (f : Int → Int → Int) : ∀ (l : List Int) (i : Nat), fmapI (fun x i => (f x i, predAt 4 0 [] x i)) i l = mapI f i l
  | [], i => rfl
  | x :: l, i => by unfold fmapI mapI; rw [fmapI_all f l (i + 1)]; simp [predAt]

def rangeL (n : Int) : List Int := (List.range n.natAbs).map fun (i : Nat) => (if decide (n < 0) = true then (-1 : Int) else 1) * (i : Int)
def rangeP (n : Int) (k : Nat) : List Int := (List.range k).map fun (i : Nat) => (if decide (n < 0) = true then (-1 : Int) else 1) * (i : Int)
theorem rangeP_len (n : Int) (k : Nat) : (rangeP n k).length = k := by simp [rangeP]
theorem rangeP_succ (n : Int) (k : Nat) : rangeP n (k + 1) = rangeP n k ++ [(if decide (n < 0) = true then (-1 : Int) else 1) * (k : Int)] := by simp [rangeP, List.range_succ]

def rngL (c st : Int) (k : Nat) : List Int := (List.range k).map fun (i : Nat) => st * (i : Int)
theorem rngL_len (c st : Int) (k : Nat) : (rngL c st k).length = k := by simp [rngL]
theorem rngL_succ (c st : Int) (k : Nat) : rngL c st k ++ [st * (k : Int)] = rngL c st (k + 1) := by simp [rngL, List.range_succ]
theorem rngL_prefix (c st : Int) {k n : Nat} (h : k < n) : rngL c st k ++ [st * (k : Int)] <+: rngL c st n := by
  rw [rngL_succ]
  obtain ⟨m, rfl⟩ : ∃ m, n = k + 1 + m := ⟨n - (k + 1), by omega⟩
  have e : List.range (k + 1 + m) = List.range (k + 1) ++ (List.range m).map (fun x => k + 1 + x) := List.range_add ..
  unfold rngL; rw [e, List.map_append]; exact List.prefix_append _ _

def timesP (f : Int → Int) (k : Nat) : List Int := (List.range k).map fun (i : Nat) => f (i : Int)
theorem timesP_len (f : Int → Int) (k : Nat) : (timesP f k).length = k := by simp [timesP]
theorem timesP_succ (f : Int → Int) (k : Nat) : timesP f (k + 1) = timesP f k ++ [f (k : Int)] := by simp [timesP, List.range_succ]
theorem timesP_prefix (f : Int → Int) {k n : Nat} (h : k < n) : timesP f k ++ [f (k : Int)] <+: timesP f n := by
  rw [← timesP_succ]
  obtain ⟨m, rfl⟩ : ∃ m, n = k + 1 + m := ⟨n - (k + 1), by omega⟩
  have e : List.range (k + 1 + m) = List.range (k + 1) ++ (List.range m).map (fun x => k + 1 + x) := List.range_add ..
  unfold timesP; rw [e, List.map_append]; exact List.prefix_append _ _

theorem neg_range {n : Int} (h : n < 0) (h2 : -1000000 ≤ n) : mapI (keyAt 1 (-1)) 0 (rangeL n) = rangeL (-n) := by
  rw [mapI_map (g := fun x => keyAt 1 (-1) x 0) (fun x i => keyAt_free (by decide) x i)]
  unfold rangeL
  rw [List.map_map, Int.natAbs_neg]
  apply List.map_congr_left
  intro i hi
  have hi2 := List.mem_range.1 hi
  have hn : ¬ (-n < 0) := by omega
  simp only [Function.comp, h, hn, keyAt]
  simp
  exact w64_in (by omega)
theorem times_range {n : Int} (h : ¬ n < 0) : timesP (fun x => keyAt 4 0 x x) n.toNat = rangeL n := by
  unfold timesP rangeL
  rw [show n.toNat = n.natAbs by omega]
  apply List.map_congr_left
  intro i hi
  simp [h, keyAt]
theorem map_range {n : Int} (f : Int → Int → Int) (h : ¬ n < 0) : mapI f 0 (rangeL n) = timesP (fun x => f x x) n.toNat := by
  unfold timesP rangeL
  rw [show n.toNat = n.natAbs by omega]
  generalize n.natAbs = m
  induction m with
  | zero => rfl
  | succ m ih =>
    rw [List.range_succ, List.map_append, List.map_append, mapI_append, ih]
    simp [h, mapI]

def hasP (l m : List Int) : Bool := decide (l.take m.length = m)
theorem hasP_no {l m : List Int} {k : Nat} {x y : Int} (hx : l[k]? = some x) (hy : m[k]? = some y) (hne : x ≠ y) : hasP l m = false := by
  apply decide_eq_false; intro e
  have hk := (List.getElem?_eq_some_iff.1 hy).1
  have h2 : (l.take m.length)[k]? = some x := by rw [List.getElem?_take, if_pos hk, hx]
  rw [e, hy] at h2; exact hne (Option.some.inj h2).symm
theorem hasP_short {l m : List Int} (h : l.length < m.length) : hasP l m = false := by
  apply decide_eq_false; intro e
  have := congrArg List.length e; simp at this; omega
theorem hasP_yes {l m : List Int} {k : Nat} (hk : ¬ k < m.length) (h : l.take k = m.take k) (hle : k ≤ m.length) : hasP l m = true := by
  have e : k = m.length := by omega
  subst e; apply decide_eq_true; rw [h, List.take_length]
def hasS (l m : List Int) : Bool := decide (l.drop (l.length - m.length) = m)
theorem hasS_short {l m : List Int} (h : l.length < m.length) : hasS l m = false := by
  apply decide_eq_false; intro e
  have := congrArg List.length e; simp at this; omega
theorem hasS_no {l m : List Int} {k : Nat} {x y : Int} (hx : l[l.length - m.length + k]? = some x) (hy : m[k]? = some y) (hne : x ≠ y) : hasS l m = false := by
  apply decide_eq_false; intro e
  have h2 : (l.drop (l.length - m.length))[k]? = some x := by rw [List.getElem?_drop, hx]
  rw [e, hy] at h2; exact hne (Option.some.inj h2).symm
theorem hasS_yes {l m : List Int} (hle : m.length ≤ l.length) (h : ∀ k x y, l[l.length - m.length + k]? = some x → m[k]? = some y → x = y) : hasS l m = true := by
  apply decide_eq_true
  apply List.ext_getElem?
  intro k
  rw [List.getElem?_drop]
  by_cases hk : k < m.length
  · have h1 : l.length - m.length + k < l.length := by omega
    rw [List.getElem?_eq_getElem h1, List.getElem?_eq_getElem hk]
    exact congrArg some (h k _ _ (List.getElem?_eq_getElem h1) (List.getElem?_eq_getElem hk))
  · rw [List.getElem?_eq_none (by omega), List.getElem?_eq_none (by omega)]
def ringL (n : Nat) (p : List Int) : List Int := p.zipIdx.foldl (fun r xi => r.set (xi.2 % n) xi.1) (List.replicate n 0)
theorem ringL_app (n : Nat) (p : List Int) (x : Int) : ringL n (p ++ [x]) = (ringL n p).set (p.length % n) x := by
  simp [ringL, List.zipIdx_append, List.foldl_append]
theorem ringL_len (n : Nat) (p : List Int) : (ringL n p).length = n := by
  unfold ringL
  suffices h : ∀ (q : List (Int × Nat)) (r : List Int), (q.foldl (fun r xi => r.set (xi.2 % n) xi.1) r).length = r.length by rw [h]; simp
  intro q; induction q with
  | nil => intro r; rfl
  | cons a q ih => intro r; rw [List.foldl_cons, ih, List.length_set]

def keyL (l : List Int) : List Int := l.foldl addS []
theorem keyL_succ {l : List Int} {k : Nat} {x : Int} (h : l[k]? = some x) : keyL (l.take (k + 1)) = addS (keyL (l.take k)) x := by rw [List.take_add_one, h]; simp [keyL]
theorem mem_foldl_addS (l : List Int) : ∀ (s : List Int) (x : Int), x ∈ l.foldl addS s ↔ x ∈ s ∨ x ∈ l := by
  induction l with
  | nil => intro s x; simp
  | cons a l ih => intro s x; rw [List.foldl_cons, ih, mem_addS]; simp [or_assoc]
theorem mem_keyL {l : List Int} {x : Int} : x ∈ keyL l ↔ x ∈ l := by unfold keyL; rw [mem_foldl_addS]; simp
theorem keyL_nodup (l : List Int) : (keyL l).Nodup := by
  unfold keyL
  suffices h : ∀ (l s : List Int), s.Nodup → (l.foldl addS s).Nodup from h l [] (by simp)
  intro l; induction l with
  | nil => intro s h; exact h
  | cons a l ih => intro s h; exact ih _ (addS_nodup h a)
def wnthL (l s : List Int) : List Int := filtI (fun _ i => !decide (i ∈ s)) 0 l

def sliceL (l : List Int) (i j : Int) : List Int := (l.take j.toNat).drop i.toNat
theorem sl_eq {l : List Int} {a b a' b' : Nat} (h : min b l.length = min b' l.length) (h2 : a = a' ∨ (l.length ≤ a ∧ l.length ≤ a')) : (l.take b).drop a = (l.take b').drop a' := by
  have e : ∀ c : Nat, l.take c = l.take (min c l.length) := fun c => by
    by_cases hc : c ≤ l.length
    · rw [Nat.min_eq_left hc]
    · rw [Nat.min_eq_right (by omega), List.take_length, List.take_of_length_le (by omega)]
  rw [e b, h, ← e b']
  rcases h2 with rfl | ⟨h3, h4⟩
  · rfl
  · rw [List.drop_eq_nil_of_le (by simp; omega), List.drop_eq_nil_of_le (by simp; omega)]
theorem sliceL_len (l : List Int) (i j : Int) : (sliceL l i j).length ≤ l.length := by simp [sliceL]; omega
def spF (l m : List Int) (i : Nat) : List Int := l.take i ++ m ++ l.drop i
def spP (p m : List Int) (i : Nat) : List Int := if p.length ≤ i then p else p.take i ++ m ++ p.drop i
theorem spP_le {p m : List Int} {i : Nat} (h : p.length ≤ i) : spP p m i = p := if_pos h
theorem spP_snoc {p m : List Int} {i : Nat} {x : Int} (h : p.length ≠ i) : spP (p ++ [x]) m i = spP p m i ++ [x] := by
  unfold spP
  by_cases h1 : p.length ≤ i
  · rw [if_pos h1, if_pos (by simp; omega)]
  · rw [if_neg h1, if_neg (by simp; omega), List.take_append_of_le_length (by omega), List.drop_append_of_le_length (by omega)]; simp
theorem spP_at {p m : List Int} {i : Nat} {x : Int} (h : p.length = i) : spP (p ++ [x]) m i = p ++ m ++ [x] := by
  unfold spP; rw [if_neg (by simp; omega), ← h]; simp
theorem spP_pref {p l m : List Int} {i : Nat} (h : p <+: l) : spP p m i <+: spF l m i := by
  obtain ⟨r, rfl⟩ := h
  unfold spP spF
  by_cases h1 : p.length ≤ i
  · rw [if_pos h1, List.take_append, List.take_of_length_le h1, List.append_assoc, List.append_assoc]; exact List.prefix_append _ _
  · rw [if_neg h1, List.take_append_of_le_length (by omega), List.drop_append_of_le_length (by omega), ← List.append_assoc]; exact List.prefix_append _ _
theorem spF_at {p r m : List Int} {i : Nat} (h : p.length = i) : spF (p ++ r) m i = p ++ m ++ r := by unfold spF; rw [← h]; simp
theorem spM_pref {p l m : List Int} {i k : Nat} {x y : Int} (h : p ++ [x] <+: l) (hi : p.length = i) (hy : m[k]? = some y) : p ++ m.take k ++ [y] <+: spF l m i := by
  obtain ⟨r, rfl⟩ := h
  rw [show spF (p ++ [x] ++ r) m i = p ++ m ++ ([x] ++ r) by rw [List.append_assoc, spF_at hi], List.append_assoc, List.append_assoc]
  rw [show m.take k ++ [y] = m.take (k + 1) by rw [List.take_add_one, hy]; rfl]
  exact List.prefix_append_right_inj _ |>.2 ((List.take_prefix _ _).trans (List.prefix_append _ _))
theorem spE_pref {l m : List Int} {i k : Nat} {y : Int} (hi : l.length ≤ i) (hy : m[k]? = some y) : l ++ m.take k ++ [y] <+: spF l m i := by
  unfold spF
  rw [List.take_of_length_le hi, List.drop_eq_nil_of_le hi, List.append_nil, List.append_assoc, show m.take k ++ [y] = m.take (k + 1) by rw [List.take_add_one, hy]; rfl]
  exact List.prefix_append_right_inj _ |>.2 (List.take_prefix _ _)
theorem spP_at_pref {p l m : List Int} {i : Nat} {x : Int} (hi : p.length = i) (h : p ++ [x] <+: l) : p ++ m ++ [x] <+: spF l m i := by rw [← spP_at hi]; exact spP_pref h
theorem spP_snoc_pref {p l m : List Int} {i : Nat} {x : Int} (hi : p.length ≠ i) (h : p ++ [x] <+: l) : spP p m i ++ [x] <+: spF l m i := by rw [← spP_snoc hi]; exact spP_pref h
theorem spF_end {l m : List Int} {i : Nat} (h : l.length ≤ i) : spF l m i = l ++ m := by unfold spF; rw [List.take_of_length_le h, List.drop_eq_nil_of_le h, List.append_nil]
theorem spP_end {l m : List Int} {i : Nat} (h : ¬ l.length ≤ i) : spP l m i = spF l m i := if_neg h
theorem spF_nil (l : List Int) (i : Nat) : spF l [] i = l := by simp [spF]
theorem spF_len (l m : List Int) (i : Nat) : (spF l m i).length = l.length + m.length := by simp [spF]; omega

def toldL (i : Int) (k : Nat) : List Int := (List.range k).map fun (j : Nat) => i + (j : Int)
theorem toldL_len (i : Int) (k : Nat) : (toldL i k).length = k := by simp [toldL]
theorem toldL_succ (i : Int) (k : Nat) : toldL i (k + 1) = toldL i k ++ [i + (k : Int)] := by simp [toldL, List.range_succ]
theorem mem_toldL {i : Int} {k : Nat} {x : Int} : x ∈ toldL i k ↔ i ≤ x ∧ x < i + k := by
  unfold toldL; rw [List.mem_map]
  constructor
  · rintro ⟨j, hj, rfl⟩; have := List.mem_range.1 hj; omega
  · rintro ⟨h1, h2⟩; exact ⟨(x - i).toNat, List.mem_range.2 (by omega), by omega⟩
theorem filtI_all {f : Int → Int → Bool} : ∀ (l : List Int) (i : Nat), (∀ x (j : Nat), i ≤ j → j < i + l.length → f x j = true) → filtI f i l = l
  | [], _, _ => rfl
  | x :: l, i, h => by
    simp only [filtI]; rw [if_pos (h x i (Nat.le_refl _) (by simp)), filtI_all l (i + 1) fun y j h1 h2 => h y j (by omega) (by simp at h2 ⊢; omega)]
theorem filtI_none {f : Int → Int → Bool} : ∀ (l : List Int) (i : Nat), (∀ x (j : Nat), i ≤ j → j < i + l.length → f x j = false) → filtI f i l = []
  | [], _, _ => rfl
  | x :: l, i, h => by
    simp only [filtI]; rw [h x i (Nat.le_refl _) (by simp), filtI_none l (i + 1) fun y j h1 h2 => h y j (by omega) (by simp at h2 ⊢; omega)]; simp
theorem splice_in {l m : List Int} {i : Int} (h0 : 0 ≤ i) (h1 : i ≤ l.length) : spliceL l i m = l.take i.toNat ++ m ++ l.drop i.toNat := by
  unfold spliceL; rw [show min (if i < 0 then (i + l.length).toNat else i.toNat) l.length = i.toNat by rw [if_neg (by omega)]; omega]
theorem wnth_splice {l m : List Int} {i : Int} {k : Nat} (h0 : 0 ≤ i) (h1 : i ≤ l.length) (hk : k = m.length) : wnthL (l.take i.toNat ++ m ++ l.drop i.toNat) (toldL i k) = l := by
  unfold wnthL
  have e1 : (l.take i.toNat).length = i.toNat := by simp; omega
  rw [filtI_append, filtI_append, filtI_all (l.take i.toNat) 0, filtI_none m, filtI_all (l.drop i.toNat)]
  · simp
  · intro x j a b; simp only [Bool.not_eq_true', decide_eq_false_iff_not, mem_toldL]; simp at a; omega
  · intro x j a b; simp only [Bool.not_eq_false', decide_eq_true_eq, mem_toldL]; simp at a b; omega
  · intro x j a b; simp only [Bool.not_eq_true', decide_eq_false_iff_not, mem_toldL]; simp at a b; omega
theorem slice_splice {l m : List Int} {i : Int} (h0 : 0 ≤ i) (h1 : i ≤ l.length) : sliceL (l.take i.toNat ++ m ++ l.drop i.toNat) i (i + m.length) = m := by
  have e1 : (l.take i.toNat).length = i.toNat := by simp; omega
  unfold sliceL
  rw [show (i + (m.length : Int)).toNat = (l.take i.toNat ++ m).length by simp; omega, List.take_left]
  generalize l.take i.toNat = p at e1 ⊢
  rw [← e1]; simp

theorem filter_succ {p : Int → Bool} {l : List Int} {k : Nat} {x : Int} (h : l[k]? = some x) : (l.take (k + 1)).filter p = (l.take k).filter p ++ (if p x then [x] else []) := by
  rw [List.take_add_one, h, List.filter_append]; simp only [Option.toList_some, List.filter_cons, List.filter_nil]
theorem filtI_flt (p : Int → Bool) : ∀ (l : List Int) (i : Nat), filtI (fun x _ => p x) i l = l.filter p
  | [], _ => rfl
  | x :: l, i => by simp only [filtI, List.filter_cons, filtI_flt p l]

theorem compact_eq (l : List Int) : l.filter (fun x => decide (x ≠ 0)) = l.filter (fun x => !decide (x ∈ [0])) := by
  congr 1; funext x; simp
theorem reject_eq (l s : List Int) : filtI (fun x i => !(predAt 2 0 s x i)) 0 l = l.filter (fun x => !decide (x ∈ s)) := by
  rw [← filtI_flt (fun x => !decide (x ∈ s)) l 0]; simp [predAt]
theorem compact_len (l : List Int) : (l.filter (fun x => !decide (x ∈ [0]))).length = l.length - l.count 0 := by
  induction l with
  | nil => rfl
  | cons a l ih =>
    have := List.count_le_length (a := (0 : Int)) (l := l)
    by_cases h : a = 0
    · subst h; simp at ih ⊢; omega
    · rw [List.filter_cons_of_pos (by simpa using h), List.count_cons_of_ne (by simpa using h)]; simp at ih ⊢; omega

theorem reject_eq' (l s : List Int) (n : Int) : filtI (fun x i => !(predAt 2 n s x i)) 0 l = l.filter (fun x => !decide (x ∈ s)) := by
  rw [← filtI_flt (fun x => !decide (x ∈ s)) l 0]; simp [predAt]

theorem take_prefix_eq {p l : List Int} {n : Nat} (h : p <+: l) (hn : p.length = n) : p = l.take n := by
  obtain ⟨r, rfl⟩ := h; rw [← hn, List.take_left]
theorem prefix_take {p l : List Int} {n : Nat} (h : p <+: l) (hn : p.length ≤ n) : p <+: l.take n := by
  obtain ⟨r, rfl⟩ := h; rw [List.take_append, List.take_of_length_le hn]; exact List.prefix_append _ _
theorem filtI_pref_take (f : Int → Int → Bool) (l : List Int) (k : Nat) : filtI f 0 (l.take k) <+: filtI f 0 l := by
  obtain ⟨r, hr⟩ := List.take_prefix k l
  conv => rhs; rw [← hr]
  rw [filtI_append]; exact List.prefix_append _ _
theorem filtI_step {f : Int → Int → Bool} {l : List Int} {k : Nat} {x : Int} (h : l[k]? = some x) (hf : f x k = true) : filtI f 0 (l.take k) ++ [x] <+: filtI f 0 l := by
  have := filtI_pref_take f l (k + 1)
  rw [filtI_succ h, if_pos hf] at this; exact this

def subsetL (l : List Int) (off n : Int) : List Int := (l.drop (if off < 0 then (off + l.length).toNat else off.toNat)).take n.toNat
theorem subsetL_len (l : List Int) (i j : Int) : (subsetL l i j).length ≤ l.length := by simp [subsetL]; omega
theorem sub_eq {l : List Int} {a b c d e : Nat} (h : a = b ∨ (l.length ≤ a ∧ l.length ≤ b)) (h2 : min d (l.length - b) = min c l.length - b) : (l.drop a).take d = (l.take c).drop b := by
  rcases h with rfl | ⟨h1, h1'⟩
  · rw [List.drop_take]
    by_cases hd : d ≤ l.length - a
    · by_cases hc : c ≤ l.length
      · congr 1; omega
      · rw [List.take_of_length_le (i := c - a) (by simp; omega)]; rw [List.take_of_length_le (by simp; omega)]
    · rw [List.take_of_length_le (i := d) (by simp; omega), List.take_of_length_le (by simp; omega)]
  · rw [List.drop_eq_nil_of_le h1, List.drop_eq_nil_of_le (by simp; omega)]; simp
def slp (p : List Int) (a b : Int) : List Int := (p.take b.toNat).drop a.toNat
theorem slp_yes {p : List Int} {a b : Int} {x : Int} (h2 : a ≤ p.length) (h3 : (p.length : Int) < b) : slp (p ++ [x]) a b = slp p a b ++ [x] := by
  unfold slp
  rw [List.take_of_length_le (by simp; omega), List.take_of_length_le (by omega), List.drop_append_of_le_length (by omega)]
theorem slp_no {p : List Int} {a b : Int} {x : Int} (h : (p.length : Int) < a) : slp (p ++ [x]) a b = slp p a b := by
  unfold slp; rw [List.drop_eq_nil_of_le (by simp; omega), List.drop_eq_nil_of_le (by simp; omega)]
theorem slp_pref {p l : List Int} {a b : Int} (h : p <+: l) : slp p a b <+: slp l a b := by
  obtain ⟨r, rfl⟩ := h
  unfold slp; rw [List.take_append]
  by_cases h : a.toNat ≤ (p.take b.toNat).length
  · rw [List.drop_append_of_le_length h]; exact List.prefix_append _ _
  · rw [List.drop_eq_nil_of_le (by omega)]; exact List.nil_prefix
theorem slp_pref1 {p l : List Int} {a b : Int} {x : Int} (h : p ++ [x] <+: l) (h2 : a ≤ p.length) (h3 : (p.length : Int) < b) : slp p a b ++ [x] <+: slp l a b := by
  rw [← slp_yes h2 h3]; exact slp_pref h
theorem slp_full {p l : List Int} {a b : Int} {x : Int} (h : p ++ [x] <+: l) (h3 : b ≤ (p.length : Int)) : slp p a b = slp l a b := by
  obtain ⟨r, rfl⟩ := h
  unfold slp; rw [List.append_assoc, List.take_append_of_le_length (by omega)]
theorem filtI_drop (c : Int) (hc : 0 ≤ c) : ∀ (l : List Int) (i : Nat), filtI (fun _ j => decide (c ≤ j)) i l = l.drop (c.toNat - i)
  | [], i => by simp [filtI]
  | x :: l, i => by
    simp only [filtI]
    rw [filtI_drop c hc l (i + 1)]
    by_cases h : c ≤ (i : Int)
    · rw [if_pos (by simpa using h), show c.toNat - i = 0 by omega, show c.toNat - (i + 1) = 0 by omega]; rfl
    · rw [if_neg (by simpa using h), show c.toNat - i = (c.toNat - (i + 1)) + 1 by omega]; rfl
theorem ringL_get {n : Nat} (hn : 0 < n) : ∀ (p : List Int) (j : Nat), j < p.length → p.length ≤ j + n → (ringL n p)[j % n]? = p[j]? := by
  suffices h : ∀ (m : Nat) (p : List Int), p.length = m → ∀ j, j < p.length → p.length ≤ j + n → (ringL n p)[j % n]? = p[j]? from fun p => h _ p rfl
  intro m
  induction m with
  | zero => intro p hp j h1; omega
  | succ m ih =>
    intro p hp j h1 h2
    obtain ⟨q, x, rfl⟩ : ∃ q x, p = q ++ [x] := by
      have hne : p ≠ [] := by intro e; subst e; simp at hp
      exact ⟨p.dropLast, p.getLast hne, (List.dropLast_concat_getLast hne).symm⟩
    simp at hp h1 h2
    rw [ringL_app, List.getElem?_set, ringL_len]
    by_cases hj : j = q.length
    · subst hj; rw [if_pos rfl, if_pos (Nat.mod_lt _ hn)]; simp
    · have hne : ¬ q.length % n = j % n := by
        intro e
        have h3 : (q.length - j) % n = 0 := by
          have := Nat.sub_mod_eq_zero_of_mod_eq e; exact this
        rw [Nat.mod_eq_of_lt (by omega)] at h3; omega
      rw [if_neg hne, ih q hp j (by omega) (by omega), List.getElem?_append_left (by omega)]
theorem ringL_old {n : Nat} {p : List Int} {y : Int} (hn : 0 < n) (h : n ≤ p.length) (hy : (ringL n p)[p.length % n]? = some y) : p[p.length - n]? = some y := by
  rw [← ringL_get hn p (p.length - n) (by omega) (by omega), ← hy]
  congr 1
  conv => rhs; rw [show p.length = (p.length - n) + n by omega]
  rw [Nat.add_mod_right]
theorem take_snoc_get {p : List Int} {n : Nat} {x y : Int} (h : n ≤ p.length) (hn : 0 < n) (hy : p[p.length - n]? = some y) : (p ++ [x]).take (p.length + 1 - n) = p.take (p.length - n) ++ [y] := by
  rw [List.take_append_of_le_length (by omega), show p.length + 1 - n = (p.length - n) + 1 by omega, List.take_add_one, hy]; rfl

theorem dl_pref {p l : List Int} {n : Nat} {x y : Int} (hp : p ++ [x] <+: l) (hn : 0 < n) (h : n ≤ p.length) (hy : p[p.length - n]? = some y) : p.take (p.length - n) ++ [y] <+: l.take (l.length - n) := by
  rw [← take_snoc_get (x := x) h hn hy]
  have h1 := hp.length_le
  simp at h1
  exact prefix_take ((List.take_prefix _ _).trans hp) (by simp; omega)

theorem sl_0 (l : List Int) {n : Int} (h : 0 ≤ n) : sliceL l 0 n = l.take n.toNat := by simp [sliceL]
theorem sl_end (l : List Int) {n : Int} (h : 0 ≤ n) : sliceL l n l.length = l.drop n.toNat := by simp [sliceL]
theorem ss_0 (l : List Int) {n : Int} (h : 0 ≤ n) : subsetL l 0 n = l.take n.toNat := by simp [subsetL]
theorem take_min (l : List Int) {n : Int} (h : 0 ≤ n) : l.take (min n (l.length : Int)).toNat = l.take n.toNat := by
  by_cases hc : n ≤ l.length
  · rw [show min n (l.length : Int) = n by omega]
  · rw [show min n (l.length : Int) = l.length by omega, List.take_of_length_le (by omega), List.take_of_length_le (by omega)]
theorem drop_min (l : List Int) {n : Int} (h : 0 ≤ n) : l.drop (min n (l.length : Int)).toNat = l.drop n.toNat := by
  by_cases hc : n ≤ l.length
  · rw [show min n (l.length : Int) = n by omega]
  · rw [show min n (l.length : Int) = l.length by omega, List.drop_eq_nil_of_le (by omega), List.drop_eq_nil_of_le (by omega)]
theorem dr_min (l : List Int) {n : Int} (h : 0 ≤ n) : l.take ((l.length : Int) - min n (l.length : Int)).toNat = l.take (l.length - n.toNat) := by
  congr 1; omega

theorem sub_eq0 {l : List Int} {a b d : Nat} (h : a = b ∨ (l.length ≤ a ∧ l.length ≤ b)) (h2 : l.length - b ≤ d) : (l.drop a).take d = l.drop b := by
  rcases h with rfl | ⟨h1, h1'⟩
  · rw [List.take_of_length_le (by simp; omega)]
  · rw [List.drop_eq_nil_of_le h1, List.drop_eq_nil_of_le h1']; simp
theorem sub_eq1 {l : List Int} {a b d c : Nat} (h : a = b ∨ (l.length ≤ a ∧ l.length ≤ b)) (h2 : min d (l.length - b) = min c (l.length - b)) : (l.drop a).take d = (l.drop b).take c := by
  rcases h with rfl | ⟨h1, h1'⟩
  · by_cases hd : d ≤ l.length - a
    · by_cases hc : c ≤ l.length - a
      · congr 1; omega
      · rw [List.take_of_length_le (i := c) (by simp; omega), List.take_of_length_le (by simp; omega)]
    · rw [List.take_of_length_le (i := d) (by simp; omega), List.take_of_length_le (by simp; omega)]
  · rw [List.drop_eq_nil_of_le h1, List.drop_eq_nil_of_le h1']; simp

theorem any_yes {l s : List Int} {k : Nat} {x : Int} (hx : l[k]? = some x) (h : x ∈ s) : s.any (fun y => decide (y ∈ l)) = true := List.any_eq_true.2 ⟨x, h, by simpa using List.mem_of_getElem? hx⟩
theorem any_yes' {l s : List Int} {k : Nat} {x : Int} (hx : s[k]? = some x) (h : x ∈ l) : s.any (fun y => decide (y ∈ l)) = true := List.any_eq_true.2 ⟨x, List.mem_of_getElem? hx, by simpa using h⟩
theorem any_no {l s : List Int} {k : Nat} (h : ∀ x ∈ l.take k, ¬ x ∈ s) (hk : l.length ≤ k) : s.any (fun y => decide (y ∈ l)) = false := by
  rw [List.take_of_length_le hk] at h
  apply List.any_eq_false.2; intro x hx; simp; exact fun e => h x e hx
theorem any_no' {l s : List Int} {k : Nat} (h : ∀ x ∈ s.take k, ¬ x ∈ l) (hk : s.length ≤ k) : s.any (fun y => decide (y ∈ l)) = false := by
  rw [List.take_of_length_le hk] at h
  apply List.any_eq_false.2; intro x hx; simp; exact h x hx
theorem all_no {l s : List Int} {k : Nat} {x : Int} (hx : s[k]? = some x) (h : ¬ x ∈ l) : s.all (fun y => decide (y ∈ l)) = false := by
  apply List.all_eq_false.2; exact ⟨x, List.mem_of_getElem? hx, by simpa using h⟩
theorem all_yes {l s : List Int} {k : Nat} (h : ∀ x ∈ s.take k, x ∈ l) (hk : s.length ≤ k) : s.all (fun y => decide (y ∈ l)) = true := by
  rw [List.take_of_length_le hk] at h
  apply List.all_eq_true.2; intro x hx; simp; exact h x hx
theorem take_all {P : Int → Prop} {l : List Int} {k : Nat} {y : Int} (h : ∀ x ∈ l.take k, P x) (hy : l[k]? = some y) (hp : P y) : ∀ x ∈ l.take (k + 1), P x := by
  intro x hx; rw [List.take_add_one, hy, List.mem_append] at hx
  rcases hx with hx | hx
  · exact h x hx
  · simp at hx; rw [hx]; exact hp
theorem left_nil {s l p : List Int} {x : Int} (h : ((keyL s).filter (fun y => !decide (y ∈ p))).filter (fun y => decide (y ≠ x)) = []) (hp : p ++ [x] <+: l) : s.all (fun y => decide (y ∈ l)) = true := by
  apply List.all_eq_true.2; intro y hy; simp
  apply hp.subset
  apply Classical.byContradiction; intro hn
  simp at hn
  have : y ∈ ((keyL s).filter (fun y => !decide (y ∈ p))).filter (fun y => decide (y ≠ x)) := by
    simp [List.mem_filter, mem_keyL, hy, hn.1, hn.2]
  rw [h] at this; cases this
theorem left_some {s l : List Int} (h : (keyL s).filter (fun y => !decide (y ∈ l)) ≠ []) : s.all (fun y => decide (y ∈ l)) = false := by
  obtain ⟨y, hy⟩ := List.exists_mem_of_ne_nil _ h
  simp [List.mem_filter, mem_keyL] at hy
  apply List.all_eq_false.2; exact ⟨y, hy.1, by simpa using hy.2⟩
theorem left_app {s p : List Int} {x : Int} : (keyL s).filter (fun y => !decide (y ∈ p ++ [x])) = ((keyL s).filter (fun y => !decide (y ∈ p))).filter (fun y => decide (y ≠ x)) := by
  rw [List.filter_filter]; congr 1; funext y; by_cases h1 : y ∈ p <;> by_cases h2 : y = x <;> simp [h1, h2]
theorem left_same {s p : List Int} {x : Int} (h : ¬ x ∈ (keyL s).filter (fun y => !decide (y ∈ p))) : (keyL s).filter (fun y => !decide (y ∈ p ++ [x])) = (keyL s).filter (fun y => !decide (y ∈ p)) := by
  rw [left_app]; apply List.filter_eq_self.2; intro y hy; simp; intro e; subst e; exact h hy
theorem left_start {s : List Int} (h : ¬ (s.length : Int) = 0) : (keyL s).filter (fun y => !decide (y ∈ ([] : List Int))) ≠ [] := by
  match s, h with
  | a :: s, _ => intro e; have : a ∈ (keyL (a :: s)).filter (fun y => !decide (y ∈ ([] : List Int))) := by simp [List.mem_filter, mem_keyL]
                 rw [e] at this; cases this

theorem any_pref {f : Int → Bool} {p l : List Int} {x : Int} (h : p ++ [x] <+: l) (hx : f x = true) : l.any f = true := List.any_eq_true.2 ⟨x, h.subset (by simp), hx⟩
theorem any_swap (l s : List Int) : l.any (fun x => decide (x ∈ keyL s)) = s.any (fun y => decide (y ∈ l)) := by
  rw [Bool.eq_iff_iff, List.any_eq_true, List.any_eq_true]
  simp only [decide_eq_true_eq, mem_keyL]
  constructor
  · rintro ⟨x, h1, h2⟩; exact ⟨x, h2, h1⟩
  · rintro ⟨x, h1, h2⟩; exact ⟨x, h2, h1⟩

theorem law_all (s : List Int) (f : Int → Bool) : (s.all f == decide (((s.countP f : Nat) : Int) = ((s.length : Nat) : Int))) = true := by
  rw [beq_iff_eq, Bool.eq_iff_iff, List.all_eq_true, decide_eq_true_eq]
  constructor
  · intro h; exact congrArg _ (List.countP_eq_length.2 h)
  · intro h; exact List.countP_eq_length.1 (by omega)
theorem law_any (s : List Int) (f : Int → Bool) : (s.any f == decide ((0 : Int) < ((s.countP f : Nat) : Int))) = true := by
  rw [beq_iff_eq, Bool.eq_iff_iff, List.any_eq_true, decide_eq_true_eq]
  constructor
  · intro h; have := List.countP_pos_iff.2 h; omega
  · intro h; exact List.countP_pos_iff.1 (by omega)
theorem law_none (s : List Int) (f : Int → Bool) : ((!(s.any f)) == decide (((s.countP f : Nat) : Int) = (0 : Int))) = true := by
  have := law_any s f
  rw [beq_iff_eq] at this ⊢
  rw [this]; by_cases h : s.countP f = 0
  · simp [h]
  · have : 0 < s.countP f := by omega
    simp [h, this]
theorem law_left (s : List Int) (f : Int → Bool) : (s.all f == decide ((((s.filter fun x => !f x).length : Nat) : Int) = (0 : Int))) = true := by
  rw [beq_iff_eq, Bool.eq_iff_iff, List.all_eq_true, decide_eq_true_eq]
  constructor
  · intro h
    have : s.filter (fun x => !f x) = [] := List.filter_eq_nil_iff.2 fun x hx => by simp [h x hx]
    rw [this]; rfl
  · intro h x hx
    have : s.filter (fun x => !f x) = [] := List.eq_nil_of_length_eq_zero (by omega)
    have := List.filter_eq_nil_iff.1 this x hx
    simpa using this

def drw (f : Int → Bool) (l : List Int) : List Int := (l.reverse.dropWhile f).reverse
def rtw (f : Int → Bool) (l : List Int) : List Int := (l.reverse.takeWhile f).reverse
theorem drw_rtw (f : Int → Bool) (l : List Int) : drw f l ++ rtw f l = l := by
  unfold drw rtw; rw [← List.reverse_append, List.takeWhile_append_dropWhile, List.reverse_reverse]
theorem drw_yes {f : Int → Bool} {l : List Int} {x : Int} (h : f x = true) : drw f (l ++ [x]) = drw f l := by unfold drw; simp [List.dropWhile_cons, h]
theorem drw_no {f : Int → Bool} {l : List Int} {x : Int} (h : f x = false) : drw f (l ++ [x]) = l ++ [x] := by unfold drw; simp [List.dropWhile_cons, h]
theorem rtw_yes {f : Int → Bool} {l : List Int} {x : Int} (h : f x = true) : rtw f (l ++ [x]) = rtw f l ++ [x] := by unfold rtw; simp [List.takeWhile_cons, h]
theorem rtw_no {f : Int → Bool} {l : List Int} {x : Int} (h : f x = false) : rtw f (l ++ [x]) = [] := by unfold rtw; simp [List.takeWhile_cons, h]
theorem drw_len (f : Int → Bool) (l : List Int) : (drw f l).length ≤ l.length := by have := congrArg List.length (drw_rtw f l); simp at this; omega
theorem drw_pref (f : Int → Bool) (p r : List Int) : drw f p <+: drw f (p ++ r) := by
  have h : ∀ (n : Nat) (r : List Int), r.length = n → ∀ p, drw f p <+: drw f (p ++ r) := by
    intro n
    induction n with
    | zero => intro r hr p; rw [List.eq_nil_of_length_eq_zero hr, List.append_nil]; exact List.prefix_refl _
    | succ n ih =>
      intro r hr p
      match r, hr with
      | x :: r, hr =>
      rw [show p ++ x :: r = (p ++ [x]) ++ r by simp]
      refine List.IsPrefix.trans ?_ (ih r (by simpa using hr) (p ++ [x]))
      cases hx : f x
      · rw [drw_no hx]
        have := drw_rtw f p
        exact ⟨rtw f p ++ [x], by rw [← List.append_assoc, this]⟩
      · rw [drw_yes hx]; exact List.prefix_refl _
  exact h _ r rfl p
theorem dw_eq {f : Int → Bool} : ∀ {l : List Int} {k : Nat}, (∀ x ∈ l.take k, f x = true) → (l.length ≤ k ∨ ∃ x, l[k]? = some x ∧ f x = false) → l.dropWhile f = l.drop k
  | [], k, _, _ => by simp
  | a :: l, 0, _, h2 => by
    rcases h2 with h2 | ⟨x, hx, hf⟩
    · simp at h2
    · simp at hx; subst hx; simp [List.dropWhile_cons, hf]
  | a :: l, k + 1, h1, h2 => by
    have ha : f a = true := h1 a (by simp)
    rw [List.dropWhile_cons, if_pos ha, List.drop_succ_cons]
    exact dw_eq (fun x hx => h1 x (by simp [hx])) (h2.imp (fun h => by simpa using h) fun ⟨x, h3, h4⟩ => ⟨x, by simpa using h3, h4⟩)
theorem drw_eq {f : Int → Bool} {l : List Int} {j : Nat} (hj : j ≤ l.length) (h1 : ∀ x ∈ l.drop (l.length - j), f x = true) (h2 : l.length ≤ j ∨ ∃ x, l[l.length - 1 - j]? = some x ∧ f x = false) : drw f l = l.take (l.length - j) := by
  unfold drw
  rw [dw_eq (k := j)]
  · rw [List.drop_reverse, List.reverse_reverse]
  · intro x hx; rw [List.take_reverse] at hx; exact h1 x (by simpa using hx)
  · rcases h2 with h2 | ⟨x, hx, hf⟩
    · left; simpa using h2
    · right
      have := (List.getElem?_eq_some_iff.1 hx).1
      by_cases hl : j < l.length
      · exact ⟨x, by rw [List.getElem?_reverse hl]; exact hx, hf⟩
      · have h0 : l.length - 1 - j = 0 := by omega
        exact absurd (h1 x (by rw [show l.length - j = 0 by omega, List.drop_zero]; exact List.mem_of_getElem? hx)) (by simp [hf])
theorem drop_all {f : Int → Bool} {l : List Int} {j : Nat} {x : Int} (h : ∀ x ∈ l.drop (l.length - j), f x = true) (hj : j < l.length) (hx : l[l.length - 1 - j]? = some x) (hf : f x = true) : ∀ x ∈ l.drop (l.length - (j + 1)), f x = true := by
  intro y hy
  rw [show l.length - (j + 1) = l.length - 1 - j by omega, List.drop_eq_getElem_cons (by omega)] at hy
  have h1 := (List.getElem?_eq_some_iff.1 hx)
  obtain ⟨h2, h3⟩ := h1
  rcases List.mem_cons.1 hy with h4 | h4
  · rw [h4, h3]; exact hf
  · exact h y (by rw [show l.length - j = l.length - 1 - j + 1 by omega]; exact h4)
theorem dropWhile_app (f : Int → Bool) (l : List Int) (x : Int) : (l ++ [x]).dropWhile f = if (l.all f && f x) = true then [] else l.dropWhile f ++ [x] := by
  induction l with
  | nil => by_cases h : f x = true <;> simp [List.dropWhile_cons, h]
  | cons a l ih =>
    by_cases h : f a = true
    · rw [List.cons_append, List.dropWhile_cons, if_pos h, List.dropWhile_cons, if_pos h, ih]; simp [h]
    · rw [List.cons_append, List.dropWhile_cons, if_neg h, List.dropWhile_cons, if_neg h]; simp [h]
theorem dropWhile_all {f : Int → Bool} {l : List Int} (h : l.all f = true) : l.dropWhile f = [] := by
  rw [List.all_eq_true] at h
  exact (dw_eq (k := l.length) (fun x hx => h x (by simpa using hx)) (.inl (Nat.le_refl _))).trans (by simp)
theorem dwa_no1 {f : Int → Bool} {p : List Int} {x : Int} (h : p.all f = false) : (p ++ [x]).dropWhile f = p.dropWhile f ++ [x] := by rw [dropWhile_app, h]; rfl
theorem dwa_no2 {f : Int → Bool} {p : List Int} {x : Int} (h : f x = false) : (p ++ [x]).dropWhile f = p.dropWhile f ++ [x] := by rw [dropWhile_app, h]; simp
theorem dwa_yes {f : Int → Bool} {p : List Int} {x : Int} (h1 : p.all f = true) (h : f x = true) : (p ++ [x]).dropWhile f = p.dropWhile f := by rw [dropWhile_app, h, h1, dropWhile_all h1]; rfl
theorem dropWhile_pref {f : Int → Bool} {p l : List Int} (h : p <+: l) : p.dropWhile f <+: l.dropWhile f := by
  obtain ⟨r, rfl⟩ := h
  suffices h : ∀ (n : Nat) (r p : List Int), r.length = n → p.dropWhile f <+: (p ++ r).dropWhile f from h _ r p rfl
  intro n
  induction n with
  | zero => intro r p hr; rw [List.eq_nil_of_length_eq_zero hr, List.append_nil]; exact List.prefix_refl _
  | succ n ih =>
    intro r p hr
    match r, hr with
    | x :: r, hr =>
    rw [show p ++ x :: r = (p ++ [x]) ++ r by simp]
    refine List.IsPrefix.trans ?_ (ih r (p ++ [x]) (by simpa using hr))
    rw [dropWhile_app]; split
    · rename_i h; simp only [Bool.and_eq_true] at h; rw [dropWhile_all h.1]; exact List.nil_prefix
    · exact List.prefix_append _ _
theorem dw_pref1 {f : Int → Bool} {p l : List Int} {x : Int} (h : p ++ [x] <+: l) (he : (p ++ [x]).dropWhile f = p.dropWhile f ++ [x]) : p.dropWhile f ++ [x] <+: l.dropWhile f := by rw [← he]; exact dropWhile_pref h
theorem dwlen (f : Int → Bool) (l : List Int) : (l.dropWhile f).length ≤ l.length := (List.dropWhile_sublist f).length_le

theorem drw_step {f : Int → Bool} {p l : List Int} {x : Int} (h : p ++ [x] <+: l) (hx : f x = false) : p ++ [x] <+: drw f l := by
  obtain ⟨r, rfl⟩ := h
  have := drw_pref f (p ++ [x]) r
  rwa [drw_no hx] at this
theorem drw_stepk {f : Int → Bool} {p l : List Int} {x y : Int} {k : Nat} (h : p ++ [x] <+: l) (hx : f x = false) (hy : (rtw f p)[k]? = some y) : drw f p ++ (rtw f p).take k ++ [y] <+: drw f l := by
  refine List.IsPrefix.trans ?_ (drw_step h hx)
  rw [List.append_assoc, pre_take hy]
  refine List.IsPrefix.trans ?_ (List.prefix_append p [x])
  conv => rhs; rw [← drw_rtw f p]
  exact (List.prefix_append_right_inj _).2 (List.take_prefix _ _)
theorem drw_stepe {f : Int → Bool} {p l : List Int} {x : Int} (h : p ++ [x] <+: l) (hx : f x = false) (h0 : (rtw f p).length = 0) : drw f p ++ [x] <+: drw f l := by
  have e := drw_rtw f p
  rw [List.eq_nil_of_length_eq_zero h0, List.append_nil] at e
  rw [e]; exact drw_step h hx

theorem tw_eq {f : Int → Bool} : ∀ {l : List Int} {k : Nat}, (∀ x ∈ l.take k, f x = true) → (l.length ≤ k ∨ ∃ x, l[k]? = some x ∧ f x = false) → l.takeWhile f = l.take k
  | [], k, _, _ => by simp
  | a :: l, 0, _, h2 => by
    rcases h2 with h2 | ⟨x, hx, hf⟩
    · simp at h2
    · simp at hx; subst hx; simp [List.takeWhile_cons, hf]
  | a :: l, k + 1, h1, h2 => by
    have ha : f a = true := h1 a (by simp)
    rw [List.takeWhile_cons, if_pos ha, List.take_succ_cons]
    congr 1
    exact tw_eq (fun x hx => h1 x (by simp [hx])) (h2.imp (fun h => by simpa using h) fun ⟨x, h3, h4⟩ => ⟨x, by simpa using h3, h4⟩)
theorem tw_stop {f : Int → Bool} {p l : List Int} {x : Int} (h : p ++ [x] <+: l) (ha : ∀ y ∈ p, f y = true) (hx : f x = false) : p = l.takeWhile f := by
  obtain ⟨r, rfl⟩ := h
  rw [tw_eq (k := p.length)]
  · simp
  · intro y hy; apply ha; simpa using hy
  · right; exact ⟨x, by simp, hx⟩
theorem tw_pref {f : Int → Bool} {p l : List Int} (h : p <+: l) (ha : ∀ y ∈ p, f y = true) : p <+: l.takeWhile f := by
  obtain ⟨r, rfl⟩ := h
  induction p with
  | nil => exact List.nil_prefix
  | cons a p ih => rw [List.cons_append, List.takeWhile_cons, if_pos (ha a (by simp))]; exact (List.cons_prefix_cons).2 ⟨rfl, ih fun y hy => ha y (by simp [hy])⟩
theorem tw_all {f : Int → Bool} {l : List Int} (ha : ∀ y ∈ l, f y = true) : l.takeWhile f = l := by
  rw [tw_eq (k := l.length) (by simpa using ha) (.inl (Nat.le_refl _)), List.take_length]
theorem twlen (f : Int → Bool) (l : List Int) : (l.takeWhile f).length ≤ l.length := (List.takeWhile_sublist f).length_le
theorem tw_drop (f : Int → Bool) (l : List Int) : l.drop (l.takeWhile f).length = l.dropWhile f := by
  conv => lhs; rw [← List.takeWhile_append_dropWhile (p := f) (l := l)]
  rw [List.drop_left' (by simp)]
theorem drw_rev (f : Int → Bool) (l : List Int) : drw f l = (l.reverse.dropWhile f).reverse := rfl

theorem trim_eq {f : Int → Bool} {l : List Int} {k j : Nat} {x : Int} (h1 : ∀ x ∈ l.take k, f x = true) (hx : l[k]? = some x) (hf : f x = false) (h2 : drw f l = l.take (l.length - j)) (hj : j ≤ l.length) : drw f (l.dropWhile f) = (l.take (l.length - j)).drop k := by
  have hk := (List.getElem?_eq_some_iff.1 hx).1
  rw [dw_eq h1 (.inr ⟨x, hx, hf⟩)]
  have e := drw_rtw f l
  have hr : ∀ y ∈ rtw f l, f y = true := fun y hy => by
    unfold rtw at hy; rw [List.mem_reverse] at hy; exact List.all_eq_true.1 (List.all_takeWhile (l := l.reverse) (p := f)) y hy
  have hkl : k < (drw f l).length := by
    apply Classical.byContradiction; intro hc
    have : x ∈ rtw f l := by
      rw [← e, List.getElem?_append_right (by omega)] at hx
      exact List.mem_of_getElem? hx
    rw [hr x this] at hf; cases hf
  have e2 : l.drop k = (drw f l).drop k ++ rtw f l := by
    conv => lhs; rw [← e]
    rw [List.drop_append_of_le_length (by omega)]
  rw [e2, ← h2]
  have hd : (drw f l).drop k ≠ [] := by intro h; have := congrArg List.length h; simp at this; omega
  unfold drw
  rw [List.reverse_append, List.dropWhile_append_of_pos (fun y hy => hr y (by simpa using hy))]
  rw [show ((l.reverse.dropWhile f).reverse.drop k).reverse.dropWhile f = ((l.reverse.dropWhile f).reverse.drop k).reverse from ?_, List.reverse_reverse]
  rw [List.reverse_drop, List.reverse_reverse]
  have hne : l.reverse.dropWhile f ≠ [] := by intro h; unfold drw at hkl; rw [h] at hkl; simp at hkl
  match hq : l.reverse.dropWhile f, hne with
  | a :: q, _ =>
    have ha : f a = false := by
      have := List.head?_dropWhile_not (p := f) (l := l.reverse)
      rw [hq] at this; simpa using this
    have hkl2 : k < (a :: q).length := by unfold drw at hkl; rw [hq] at hkl; simpa using hkl
    obtain ⟨n, hn⟩ : ∃ n, (a :: q).reverse.length - k = n + 1 := ⟨(a :: q).reverse.length - k - 1, by simp at hkl2 ⊢; omega⟩
    rw [hn]; simp [List.dropWhile_cons, ha]

theorem trim_lt {f : Int → Bool} {l : List Int} {k n : Nat} {x : Int} (hx : l[k]? = some x) (hf : f x = false) (h2 : drw f l = l.take n) : k < n := by
  apply Classical.byContradiction; intro hc
  have e := drw_rtw f l
  have hr : ∀ y ∈ rtw f l, f y = true := fun y hy => by
    unfold rtw at hy; rw [List.mem_reverse] at hy; exact List.all_eq_true.1 (List.all_takeWhile (l := l.reverse) (p := f)) y hy
  have hl : (drw f l).length ≤ n := by rw [h2]; simp; omega
  have : x ∈ rtw f l := by
    rw [← e, List.getElem?_append_right (by omega)] at hx
    exact List.mem_of_getElem? hx
  rw [hr x this] at hf; cases hf

theorem drw_fix {f : Int → Bool} {l q : List Int} (hq : q <:+ drw f l) : drw f q = q := by
  obtain ⟨p, hp⟩ := hq
  unfold drw at hp
  have h1 : q.reverse ++ p.reverse = l.reverse.dropWhile f := by rw [← List.reverse_append, hp, List.reverse_reverse]
  unfold drw
  match hr : q.reverse with
  | [] => have := congrArg List.reverse hr; simp at this; subst this; rfl
  | a :: r =>
    rw [hr] at h1
    have ha : f a = false := by
      have := List.head?_dropWhile_not (p := f) (l := l.reverse)
      rw [← h1] at this; simpa using this
    rw [List.dropWhile_cons, if_neg (by simp [ha]), ← hr, List.reverse_reverse]
theorem drw_appall {f : Int → Bool} {q r : List Int} (h : ∀ y ∈ r, f y = true) : drw f (q ++ r) = drw f q := by
  unfold drw; rw [List.reverse_append, List.dropWhile_append_of_pos (fun y hy => h y (by simpa using hy))]
theorem rtw_mem {f : Int → Bool} {l : List Int} : ∀ y ∈ rtw f l, f y = true := fun y hy => by
  unfold rtw at hy; rw [List.mem_reverse] at hy; exact List.all_eq_true.1 (List.all_takeWhile (l := l.reverse) (p := f)) y hy
theorem trim_comm (f : Int → Bool) (l : List Int) : (drw f l).dropWhile f = drw f (l.dropWhile f) := by
  have e := drw_rtw f l
  conv => rhs; rw [← e, List.dropWhile_append]
  by_cases h : ((drw f l).dropWhile f).isEmpty = true
  · rw [if_pos h]
    have h1 : (rtw f l).dropWhile f = [] := dropWhile_all (List.all_eq_true.2 rtw_mem)
    rw [h1, List.isEmpty_iff.1 h]; rfl
  · rw [if_neg h, drw_appall rtw_mem]
    exact (drw_fix (List.dropWhile_suffix f)).symm
theorem trim_mid {f : Int → Bool} {l : List Int} {k j : Nat} (h0 : ∀ x ∈ l.take k, f x = true) (h1 : l.length ≤ k ∨ ∃ x, l[k]? = some x ∧ f x = false) (hk : k ≤ l.length - j) (hj : j ≤ l.length) (h2 : ∀ x ∈ l.drop (l.length - j), f x = true)
    (h3 : l.length - j ≤ k ∨ ∃ y, l[l.length - j - 1]? = some y ∧ f y = false) : (l.take (l.length - j)).drop k = drw f (l.dropWhile f) := by
  rcases h1 with h1 | ⟨x, hx, hf⟩
  · rw [dw_eq h0 (.inl h1), List.drop_eq_nil_of_le (by simp; omega), List.drop_eq_nil_of_le h1]; rfl
  · have hkl := (List.getElem?_eq_some_iff.1 hx).1
    rcases h3 with h3 | ⟨y, hy, hfy⟩
    · exfalso
      have : x ∈ l.drop (l.length - j) := by
        apply List.mem_of_getElem? (i := k - (l.length - j)); rw [List.getElem?_drop, show l.length - j + (k - (l.length - j)) = k by omega]; exact hx
      rw [h2 x this] at hf; cases hf
    · exact (trim_eq h0 hx hf (drw_eq hj h2 (.inr ⟨y, by rw [show l.length - 1 - j = l.length - j - 1 by omega]; exact hy, hfy⟩)) hj).symm
theorem predAt2 (n : Int) (s : List Int) : (fun x => predAt 2 n s x 0) = fun x => decide (x ∈ s) := by funext x; simp [predAt]

def cutPl (l m : List Int) : List Int := if hasP l m = true then l.drop m.length else l
def cutSl (l m : List Int) : List Int := if hasS l m = true then l.take (l.length - m.length) else l
theorem cutPl_len (l m : List Int) : (cutPl l m).length ≤ l.length := by unfold cutPl; split <;> simp
theorem cutSl_len (l m : List Int) : (cutSl l m).length ≤ l.length := by unfold cutSl; split <;> simp
theorem hasP_le {l m : List Int} (h : hasP l m = true) : m.length ≤ l.length := by
  have := congrArg List.length (of_decide_eq_true h); simp at this; omega
theorem hasS_le {l m : List Int} (h : hasS l m = true) : m.length ≤ l.length := by
  have := congrArg List.length (of_decide_eq_true h); simp at this; omega
theorem stands_P {l m : List Int} (h : m.length ≤ l.length) : decide ((l.take (0 + (m.length : Int)).toNat).drop (0 : Int).toNat = m) = hasP l m := by
  unfold hasP; rw [show (0 + (m.length : Int)).toNat = m.length by omega]; rfl

def standsB (l m : List Int) (i : Int) : Bool := decide (0 ≤ i ∧ i + m.length ≤ l.length ∧ (l.take (i + m.length).toNat).drop i.toNat = m)
theorem stands_hasP (l m : List Int) : standsB l m 0 = hasP l m := by
  unfold standsB hasP
  rw [decide_eq_decide]
  simp only [Int.zero_add, Int.toNat_natCast, Int.toNat_zero, List.drop_zero, Int.le_refl, true_and]
  constructor
  · exact fun h => h.2
  · intro h; refine ⟨?_, h⟩; have := congrArg List.length h; simp at this; omega
theorem stands_hasS (l m : List Int) : standsB l m ((l.length : Int) - (m.length : Int)) = hasS l m := by
  unfold standsB hasS
  rw [decide_eq_decide]
  constructor
  · rintro ⟨h1, h2, h3⟩
    rw [show ((l.length : Int) - m.length + m.length).toNat = l.length by omega, List.take_length, show ((l.length : Int) - m.length).toNat = l.length - m.length by omega] at h3
    exact h3
  · intro h
    have := congrArg List.length h; simp at this
    refine ⟨by omega, by omega, ?_⟩
    rw [show ((l.length : Int) - m.length + m.length).toNat = l.length by omega, List.take_length, show ((l.length : Int) - m.length).toNat = l.length - m.length by omega]
    exact h

theorem pre_snoc {p m : List Int} {x y : Int} (hm : p <+: m) (hy : m[p.length]? = some y) (e : x = y) : p ++ [x] <+: m := by
  obtain ⟨r, rfl⟩ := hm
  rw [List.getElem?_append_right (Nat.le_refl _), Nat.sub_self] at hy
  match r, hy with
  | z :: r, hy => simp at hy; subst hy; subst e; exact ⟨r, by simp⟩
theorem hasP_of {p l m : List Int} (h : p <+: l) (hm : p <+: m) (hl : m.length ≤ p.length) : hasP l m = true := by
  obtain ⟨r, rfl⟩ := hm
  have : r = [] := List.eq_nil_of_length_eq_zero (by simp at hl; omega)
  subst this
  obtain ⟨q, rfl⟩ := h
  apply decide_eq_true; simp
theorem hasP_ne {p l m : List Int} {x y : Int} (h : p ++ [x] <+: l) (hy : m[p.length]? = some y) (hne : x ≠ y) : hasP l m = false := by
  obtain ⟨q, rfl⟩ := h
  exact hasP_no (k := p.length) (x := x) (by simp) hy hne
theorem hasP_end {l m : List Int} (h : l.length < m.length) : hasP l m = false := hasP_short h
theorem hasP_nil (l : List Int) : hasP l [] = true := by apply decide_eq_true; simp

theorem ring_at {n k : Nat} {l : List Int} {y : Int} (hn : 0 < n) (hN : n ≤ l.length) (hk : k < n) (hy : (ringL n l)[(l.length + k) % n]? = some y) : l[l.length - n + k]? = some y := by
  rw [← ringL_get hn l (l.length - n + k) (by omega) (by omega), ← hy]
  congr 1
  rw [← Nat.add_mod_right (l.length - n + k) n]
  congr 1; omega
theorem suf_step {l m : List Int} {k : Nat} {xa xb : Int} (h : ∀ j x y, j < k → l[l.length - m.length + j]? = some x → m[j]? = some y → x = y) (ha : m[k]? = some xa) (hb : l[l.length - m.length + k]? = some xb) (e : ¬ xa ≠ xb) : ∀ j x y, j < k + 1 → l[l.length - m.length + j]? = some x → m[j]? = some y → x = y := by
  intro j x y hj hx hy
  by_cases hjk : j = k
  · subst hjk; rw [hb] at hx; rw [ha] at hy; cases hx; cases hy; exact (Classical.not_not.1 e).symm
  · exact h j x y (by omega) hx hy

theorem beg_hasP (l m : List Int) : decide (l.take m.length = m) = hasP l m := rfl
theorem cutP_back {l m : List Int} (h : hasP l m = true) : m ++ cutPl l m = l := by
  unfold cutPl; rw [if_pos h]
  have := of_decide_eq_true h
  conv => lhs; rw [← this]
  rw [show (l.take m.length).length = m.length by rw [this], List.take_append_drop]
theorem cutS_back {l m : List Int} (h : hasS l m = true) : cutSl l m ++ m = l := by
  unfold cutSl; rw [if_pos h]
  have h1 := of_decide_eq_true h
  have : l.take (l.length - m.length) ++ l.drop (l.length - m.length) = l := List.take_append_drop _ _
  rwa [h1] at this
theorem cutP_no {l m : List Int} (h : hasP l m = false) : cutPl l m = l := by unfold cutPl; simp [h]
theorem cutS_no {l m : List Int} (h : hasS l m = false) : cutSl l m = l := by unfold cutSl; simp [h]

def fiI (f : Int → Bool) : List Int → Int
  | [] => -1
  | x :: l => if f x then 0 else (if fiI f l < 0 then -1 else fiI f l + 1)
theorem fiI_cons (f : Int → Bool) (a : Int) (l : List Int) : fiI f (a :: l) = if f a then 0 else (if fiI f l < 0 then -1 else fiI f l + 1) := rfl
theorem tup3_eq {a a' b b' : Int} {c c' : Bool} (h : b' = b ∧ a' = a ∧ c' = c) : Value.tuple #[.int .i64 a, .int .i64 b, .bool c] = Value.tuple #[.int .i64 a', .int .i64 b', .bool c'] := by obtain ⟨rfl, rfl, rfl⟩ := h; rfl
theorem tup2_eq {a a' b b' : Int} {c c' : Bool} (h : b' = b ∧ a' = a ∧ c' = c) : Value.tuple #[.int .i64 a, .bool c] = Value.tuple #[.int .i64 a', .bool c'] := by obtain ⟨rfl, rfl, rfl⟩ := h; rfl
def fiV (f : Int → Bool) (l : List Int) : Int := (l.find? f).getD 0
def laI (f : Int → Bool) (l : List Int) : Int := if fiI f l.reverse < 0 then -1 else l.length - 1 - fiI f l.reverse
def laV (f : Int → Bool) (l : List Int) : Int := fiV f l.reverse
theorem fi_all {f : Int → Bool} : ∀ {p : List Int} {r : List Int}, (∀ x ∈ p, f x = false) → fiI f (p ++ r) = (if fiI f r < 0 then -1 else fiI f r + p.length) ∧ fiV f (p ++ r) = fiV f r ∧ (p ++ r).any f = r.any f
  | [], r, _ => by
    refine ⟨?_, rfl, rfl⟩
    simp only [List.nil_append, List.length_nil]; split
    · have h : ∀ r : List Int, fiI f r < 0 → fiI f r = -1 := by
        intro r; induction r with
        | nil => intro _; rfl
        | cons a r ih => intro h; rw [fiI_cons] at h ⊢; by_cases ha : f a = true
                         · rw [if_pos ha] at h; omega
                         · rw [if_neg ha] at h ⊢; split at h <;> rename_i h1
                           · rw [if_pos h1]
                           · omega
      exact h r (by assumption)
    · simp
  | a :: p, r, h => by
    have ha : f a = false := h a (by simp)
    obtain ⟨h1, h2, h3⟩ := fi_all (p := p) (r := r) fun x hx => h x (by simp [hx])
    refine ⟨?_, ?_, ?_⟩
    · rw [List.cons_append, fiI_cons, if_neg (by simp [ha]), h1]
      by_cases hr : fiI f r < 0
      · simp [hr]
      · simp only [hr, if_false]; rw [if_neg (by omega)]; simp; omega
    · rw [List.cons_append]; unfold fiV at h2 ⊢; rw [List.find?_cons, ha]; exact h2
    · rw [List.cons_append, List.any_cons, ha, h3]; rfl
theorem fi_none {f : Int → Bool} {l : List Int} (h : ∀ x ∈ l, f x = false) : fiI f l = -1 ∧ fiV f l = 0 ∧ l.any f = false := by
  have := fi_all (r := []) h; simpa [fiI, fiV] using this
theorem fi_pre {f : Int → Bool} {p l : List Int} {x : Int} (h : p ++ [x] <+: l) (ha : ∀ y ∈ p, f y = false) (hx : f x = true) : fiI f l = p.length ∧ fiV f l = x ∧ l.any f = true := by
  obtain ⟨r, rfl⟩ := h
  rw [List.append_assoc]
  have h1 := fi_all (r := [x] ++ r) ha
  simp only [List.cons_append, List.nil_append, fiI, hx, if_true, fiV, List.find?_cons, List.any_cons] at h1
  simpa [fiV] using h1
theorem fi_yes {f : Int → Bool} {l : List Int} {k : Nat} {x : Int} (h : ∀ x ∈ l.take k, f x = false) (hx : l[k]? = some x) (hf : f x = true) : fiI f l = k ∧ fiV f l = x ∧ l.any f = true := by
  have hk := (List.getElem?_eq_some_iff.1 hx).1
  have := fi_pre (pre_take_lt hx) h hf
  rw [List.length_take, Nat.min_eq_left (by omega)] at this; exact this
theorem fi_no {f : Int → Bool} {l : List Int} {k : Nat} (h : ∀ x ∈ l.take k, f x = false) (hk : l.length ≤ k) : fiI f l = -1 ∧ fiV f l = 0 ∧ l.any f = false := by
  rw [List.take_of_length_le hk] at h; exact fi_none h
theorem la_yes {f : Int → Bool} {l : List Int} {k : Nat} {x : Int} (h : ∀ x ∈ l.drop (l.length - k), f x = false) (hx : l[l.length - 1 - k]? = some x) (hf : f x = true) (hk : k < l.length) : laI f l = (l.length : Int) - 1 - k ∧ laV f l = x ∧ l.any f = true := by
  have h1 := fi_yes (f := f) (l := l.reverse) (k := k) (x := x) (fun y hy => by rw [List.take_reverse] at hy; exact h y (by simpa using hy)) (by rw [List.getElem?_reverse hk]; exact hx) hf
  obtain ⟨e1, e2, e3⟩ := h1
  refine ⟨?_, e2, by simpa using e3⟩
  unfold laI; rw [e1, if_neg (by omega)]
theorem la_none {f : Int → Bool} {l : List Int} (h : ∀ x ∈ l, f x = false) : laI f l = -1 ∧ laV f l = 0 ∧ l.any f = false := by
  obtain ⟨e1, e2, e3⟩ := fi_none (f := f) (l := l.reverse) fun x hx => h x (by simpa using hx)
  refine ⟨by unfold laI; rw [e1]; rfl, e2, by simpa using e3⟩
theorem la_no {f : Int → Bool} {l : List Int} {k : Nat} (h : ∀ x ∈ l.drop (l.length - k), f x = false) (hk : l.length ≤ k) : laI f l = -1 ∧ laV f l = 0 ∧ l.any f = false := by
  rw [show l.length - k = 0 by omega, List.drop_zero] at h; exact la_none h
theorem laI_yes {f : Int → Bool} {p : List Int} {x : Int} (h : f x = true) : laI f (p ++ [x]) = p.length := by
  unfold laI; rw [List.reverse_append, List.reverse_singleton, List.singleton_append, fiI_cons, if_pos h]; simp
theorem laI_no {f : Int → Bool} {p : List Int} {x : Int} (h : f x = false) : laI f (p ++ [x]) = laI f p := by
  have e : fiI f (x :: p.reverse) = if fiI f p.reverse < 0 then -1 else fiI f p.reverse + 1 := by rw [fiI_cons]; simp [h]
  unfold laI; rw [List.reverse_append, List.reverse_singleton, List.singleton_append, e]
  by_cases h1 : fiI f p.reverse < 0
  · simp [h1]
  · simp only [h1, if_false]; rw [if_neg (by omega)]; simp; omega
theorem laV_yes {f : Int → Bool} {p : List Int} {x : Int} (h : f x = true) : laV f (p ++ [x]) = x := by unfold laV fiV; simp [List.find?_cons, h]
theorem laV_no {f : Int → Bool} {p : List Int} {x : Int} (h : f x = false) : laV f (p ++ [x]) = laV f p := by unfold laV fiV; simp [List.find?_cons, h]
theorem anyp_yes {f : Int → Bool} {p : List Int} {x : Int} (h : f x = true) : (p ++ [x]).any f = true := by simp [h]
theorem anyp_no {f : Int → Bool} {p : List Int} {x : Int} (h : f x = false) : (p ++ [x]).any f = p.any f := by simp [h]
theorem fiI_app {f : Int → Bool} (p : List Int) (x : Int) : fiI f (p ++ [x]) = if fiI f p < 0 then (if f x then (p.length : Int) else -1) else fiI f p := by
  induction p with
  | nil => simp [fiI]
  | cons a p ih =>
    rw [List.cons_append, fiI_cons, fiI_cons]
    by_cases ha : f a = true
    · simp [ha]
    · rw [if_neg ha, if_neg ha, ih]
      by_cases h1 : fiI f p < 0
      · simp only [h1, if_true]
        by_cases hx : f x = true
        · rw [if_pos hx, if_neg (by omega), if_pos (by omega), if_pos hx]; simp
        · rw [if_neg hx, if_pos (by omega), if_pos (by omega), if_neg hx]
      · simp only [h1, if_false]; rw [if_neg (by omega)]
theorem fi_at {f : Int → Bool} : ∀ {l : List Int}, l.any f = true → 0 ≤ fiI f l ∧ (fiI f l).toNat < l.length ∧ l[(fiI f l).toNat]? = some (fiV f l)
  | [], h => by simp at h
  | a :: l, h => by
    by_cases ha : f a = true
    · simp [fiI, ha, fiV, List.find?_cons]
    · have h2 : l.any f = true := by simpa [ha] using h
      obtain ⟨h3, h4, h5⟩ := fi_at h2
      have e : fiI f (a :: l) = fiI f l + 1 := by rw [fiI_cons, if_neg ha, if_neg (by omega)]
      rw [e]
      refine ⟨by omega, by simp; omega, ?_⟩
      rw [show (fiI f l + 1).toNat = (fiI f l).toNat + 1 by omega, List.getElem?_cons_succ, h5]
      unfold fiV; rw [List.find?_cons, show f a = false by simpa using ha]
theorem la_at {f : Int → Bool} {l : List Int} (h : l.any f = true) : 0 ≤ laI f l ∧ (laI f l).toNat < l.length ∧ l[(laI f l).toNat]? = some (laV f l) := by
  obtain ⟨h3, h4, h5⟩ := fi_at (f := f) (l := l.reverse) (by simpa using h)
  rw [List.length_reverse] at h4
  have e : laI f l = (l.length : Int) - 1 - fiI f l.reverse := by unfold laI; rw [if_neg (by omega)]
  rw [e]
  refine ⟨by omega, by omega, ?_⟩
  rw [List.getElem?_reverse h4] at h5
  rw [show ((l.length : Int) - 1 - fiI f l.reverse).toNat = l.length - 1 - (fiI f l.reverse).toNat by omega]; exact h5
theorem fi_any_neg {f : Int → Bool} {l : List Int} : l.any f = decide (0 ≤ fiI f l) := by
  cases h : l.any f
  · have := (fi_none (f := f) (l := l) fun x hx => by have := List.any_eq_false.1 h x hx; simpa using this).1
    rw [this]; rfl
  · have := (fi_at h).1; simp [this]

theorem dropn_all {f : Int → Bool} {l : List Int} {j : Nat} {x : Int} (h : ∀ x ∈ l.drop (l.length - j), f x = false) (hj : j < l.length) (hx : l[l.length - 1 - j]? = some x) (hf : f x = false) : ∀ x ∈ l.drop (l.length - (j + 1)), f x = false := by
  have := drop_all (f := fun x => !f x) (l := l) (j := j) (x := x) (fun y hy => by simp [h y hy]) hj hx (by simp [hf])
  intro y hy; simpa using this y hy

theorem all_pref {f : Int → Bool} {p l : List Int} {x : Int} (h : p ++ [x] <+: l) (hx : f x = false) : l.all f = false := List.all_eq_false.2 ⟨x, h.subset (by simp), by simp [hx]⟩
theorem ev_no {f : Int → Bool} {l : List Int} {k : Nat} {x : Int} (hx : l[k]? = some x) (h : f x = false) : l.all f = false := List.all_eq_false.2 ⟨x, List.mem_of_getElem? hx, by simp [h]⟩
theorem ev_yes {f : Int → Bool} {l : List Int} {k : Nat} (h : ∀ x ∈ l.take k, f x = true) (hk : l.length ≤ k) : l.all f = true := by rw [List.take_of_length_le hk] at h; exact List.all_eq_true.2 h

theorem fiI_take {f : Int → Bool} {l : List Int} {k : Nat} {x : Int} (hx : l[k]? = some x) : fiI f (l.take (k + 1)) = if fiI f (l.take k) < 0 then (if f x then (k : Int) else -1) else fiI f (l.take k) := by
  have hk := (List.getElem?_eq_some_iff.1 hx).1
  rw [List.take_add_one, hx]
  show fiI f (l.take k ++ [x]) = _
  rw [fiI_app, List.length_take, Nat.min_eq_left (by omega)]
theorem laI_take {f : Int → Bool} {l : List Int} {k : Nat} {x : Int} (hx : l[k]? = some x) : laI f (l.take (k + 1)) = if f x then (k : Int) else laI f (l.take k) := by
  have hk := (List.getElem?_eq_some_iff.1 hx).1
  rw [List.take_add_one, hx]
  show laI f (l.take k ++ [x]) = _
  cases h : f x
  · rw [laI_no h]; rfl
  · rw [laI_yes h, List.length_take, Nat.min_eq_left (by omega)]; rfl
theorem fiI_neg {f : Int → Bool} : ∀ {l : List Int}, fiI f l < 0 → fiI f l = -1
  | [], _ => rfl
  | a :: l, h => by
    rw [fiI_cons] at h ⊢
    by_cases ha : f a = true
    · rw [if_pos ha] at h; omega
    · rw [if_neg ha] at h ⊢; split at h <;> rename_i h1
      · rw [if_pos h1]
      · omega
theorem getE_inj {l : List Int} {i : Nat} {x y : Int} (h : l[i]? = some x) (h' : l[i]? = some y) : x = y := Option.some.inj (h.symm.trans h')

def eqx (x y : Int) : Bool := decide (y = x)
theorem eqx_yes {x y : Int} (h : y = x) : eqx x y = true := decide_eq_true h
theorem eqx_no {x y : Int} (h : ¬ y = x) : eqx x y = false := decide_eq_false h
theorem eqx_yes' {x y : Int} (h : x = y) : eqx x y = true := decide_eq_true h.symm
theorem eqx_no' {x y : Int} (h : ¬ x = y) : eqx x y = false := decide_eq_false fun e => h e.symm
theorem countP_eqx (l : List Int) (x : Int) : l.countP (eqx x) = l.count x := by
  induction l with
  | nil => rfl
  | cons a l ih =>
    rw [List.countP_cons, List.count_cons, ih]
    by_cases h : a = x <;> simp [eqx, h]
theorem any_eqx (l : List Int) (x : Int) : l.any (eqx x) = decide (x ∈ l) := by
  rw [Bool.eq_iff_iff, List.any_eq_true, decide_eq_true_eq]
  constructor
  · rintro ⟨y, h1, h2⟩; have := of_decide_eq_true h2; subst this; exact h1
  · intro h; exact ⟨x, h, eqx_yes rfl⟩
theorem eqx_fun (x : Int) : (fun y => decide (y = x)) = eqx x := rfl
theorem predx (n x : Int) : (fun y => predAt 2 n [x] y 0) = eqx x := by funext y; simp [predAt, eqx]
theorem fiV_eqx {l : List Int} {x : Int} (h : l.any (eqx x) = true) : fiV (eqx x) l = x := by
  have h1 := fi_at h
  have h2 := List.mem_of_getElem? h1.2.2
  unfold fiV at h2 ⊢
  cases hf : l.find? (eqx x) with
  | none => rw [List.find?_eq_none] at hf; obtain ⟨y, h3, h4⟩ := List.any_eq_true.1 h; exact absurd h4 (hf y h3)
  | some z => have := List.find?_some hf; exact of_decide_eq_true this
theorem laV_eqx {l : List Int} {x : Int} (h : l.any (eqx x) = true) : laV (eqx x) l = x := by
  unfold laV; exact fiV_eqx (by simpa using h)
theorem mem_cnt (l : List Int) (x : Int) : decide (x ∈ l) = decide ((0 : Int) < ((l.count x : Nat) : Int)) := by
  rw [decide_eq_decide, ← List.count_pos_iff]; omega
theorem none_cnt (l : List Int) (x : Int) : ((!(([x] : List Int).any fun y => decide (y ∈ l))) == decide (((l.count x : Nat) : Int) = (0 : Int))) = true := by
  by_cases h : x ∈ l
  · have h2 := List.count_pos_iff.2 h
    have h3 : ¬ ((l.count x : Nat) : Int) = 0 := by omega
    have h4 : ¬ l.count x = 0 := by omega
    simp [h, h4]
  · have h3 : ((l.count x : Nat) : Int) = 0 := by rw [List.count_eq_zero.2 h]; rfl
    simp [h, h3]
theorem fi_mem (l : List Int) (x : Int) : decide (0 ≤ fiI (eqx x) l) = decide (x ∈ l) := by rw [← fi_any_neg, any_eqx]

def bStep (c : Int → Int → Bool) (s : Nat × Int × Nat) (x : Int) : Nat × Int × Nat := if s.2.2 = 0 ∨ c x s.2.1 = true then (s.2.2, x, s.2.2 + 1) else (s.1, s.2.1, s.2.2 + 1)
def bSt (c : Int → Int → Bool) (l : List Int) : Nat × Int × Nat := l.foldl (bStep c) (0, 0, 0)
def bI (c : Int → Int → Bool) (l : List Int) : Nat := (bSt c l).1
def bV (c : Int → Int → Bool) (l : List Int) : Int := (bSt c l).2.1
def bJ (c : Int → Int → Bool) (l : List Int) : Int := if l.length = 0 then -1 else ((bI c l : Nat) : Int)
def ltb (x y : Int) : Bool := decide (x < y)
def gtb (x y : Int) : Bool := decide (x > y)
def kLt (k n x y : Int) : Bool := decide (keyAt k n x 0 < keyAt k n y 0)
def kGt (k n x y : Int) : Bool := decide (keyAt k n x 0 > keyAt k n y 0)
def cg (b : Bool) (x y : Int) : Bool := if b = true then decide (x > y) else decide (x < y)
theorem cg_k (k n : Int) : (fun x y => cg false (keyAt k n x 0) (keyAt k n y 0)) = kLt k n ∧ (fun x y => cg true (keyAt k n x 0) (keyAt k n y 0)) = kGt k n := ⟨rfl, rfl⟩
theorem cg_t : cg true = gtb := rfl
theorem cg_f : cg false = ltb := rfl
theorem bSt_app (c : Int → Int → Bool) (l : List Int) (x : Int) : bSt c (l ++ [x]) = bStep c (bSt c l) x := by simp [bSt]
theorem bStep_len (c : Int → Int → Bool) (s : Nat × Int × Nat) (x : Int) : (bStep c s x).2.2 = s.2.2 + 1 := by unfold bStep; split <;> rfl
theorem bSt_len (c : Int → Int → Bool) (l : List Int) : (bSt c l).2.2 = l.length := by
  have h : ∀ (l : List Int) (s : Nat × Int × Nat), (l.foldl (bStep c) s).2.2 = s.2.2 + l.length := by
    intro l; induction l with
    | nil => intro s; rfl
    | cons a l ih => intro s; rw [List.foldl_cons, ih, bStep_len, List.length_cons]; omega
  have := h l (0, 0, 0); simpa [bSt] using this
theorem bV_app (c : Int → Int → Bool) (l : List Int) (x : Int) : bV c (l ++ [x]) = if l.length = 0 ∨ c x (bV c l) = true then x else bV c l := by
  unfold bV; rw [bSt_app, ← bSt_len c l]; unfold bStep; split <;> rfl
theorem bI_app (c : Int → Int → Bool) (l : List Int) (x : Int) : bI c (l ++ [x]) = if l.length = 0 ∨ c x (bV c l) = true then l.length else bI c l := by
  unfold bI bV; rw [bSt_app, ← bSt_len c l]; unfold bStep; split <;> rfl
theorem bI_at (c : Int → Int → Bool) : ∀ (n : Nat) (l : List Int), l.length = n + 1 → l[bI c l]? = some (bV c l)
  | n, l, h => by
    obtain ⟨p, x, rfl⟩ : ∃ p x, l = p ++ [x] := ⟨l.dropLast, l.getLast (by intro e; subst e; simp at h), (List.dropLast_concat_getLast _).symm⟩
    have hp : p.length = n := by simpa using h
    rw [bI_app, bV_app]
    by_cases hc : p.length = 0 ∨ c x (bV c p) = true
    · rw [if_pos hc, if_pos hc]; simp
    · rw [if_neg hc, if_neg hc]
      match n, hp with
      | 0, hp => exact absurd (Or.inl hp) hc
      | n + 1, hp =>
        have ih := bI_at c n p hp
        rw [List.getElem?_append_left (List.getElem?_eq_some_iff.1 ih).1]; exact ih
theorem bI_ok (c : Int → Int → Bool) {l : List Int} (h : 0 < l.length) : bI c l < l.length ∧ l[bI c l]? = some (bV c l) := by
  have := bI_at c (l.length - 1) l (by omega)
  exact ⟨(List.getElem?_eq_some_iff.1 this).1, this⟩
theorem bI_le (c : Int → Int → Bool) (l : List Int) : bI c l ≤ l.length := by
  by_cases h : 0 < l.length
  · exact Nat.le_of_lt (bI_ok c h).1
  · have := List.eq_nil_of_length_eq_zero (l := l) (by omega); subst this; simp [bI, bSt]
theorem bI_lt (c : Int → Int → Bool) {l : List Int} {k : Nat} (h : k < l.length) : bI c (l.take k) < l.length ∧ bI c (l.take k) ≤ k := by
  have := bI_le c (l.take k); rw [List.length_take] at this; omega
theorem bI_ltk (c : Int → Int → Bool) {l : List Int} {k : Nat} (h : k ≤ l.length) (h0 : 0 < k) : bI c (l.take k) < k := by
  have := (bI_ok c (l := l.take k) (by rw [List.length_take]; omega)).1; rw [List.length_take] at this; omega
theorem take_s {l : List Int} {k : Nat} {x : Int} (hx : l[k]? = some x) : l.take (k + 1) = l.take k ++ [x] ∧ (l.take k).length = k := by
  have hk := (List.getElem?_eq_some_iff.1 hx).1
  rw [List.take_add_one, hx]; exact ⟨rfl, by rw [List.length_take]; omega⟩
theorem bV_take {c : Int → Int → Bool} {l : List Int} {k : Nat} {x : Int} (hx : l[k]? = some x) : bV c (l.take (k + 1)) = if k = 0 ∨ c x (bV c (l.take k)) = true then x else bV c (l.take k) := by
  rw [(take_s hx).1, bV_app, (take_s hx).2]
theorem bI_take {c : Int → Int → Bool} {l : List Int} {k : Nat} {x : Int} (hx : l[k]? = some x) : bI c (l.take (k + 1)) = if k = 0 ∨ c x (bV c (l.take k)) = true then k else bI c (l.take k) := by
  rw [(take_s hx).1, bI_app, (take_s hx).2]
theorem bV_read {c : Int → Int → Bool} {l : List Int} {k : Nat} {v : Int} (h0 : 0 < k) (hk : k ≤ l.length) (hv : l[bI c (l.take k)]? = some v) : bV c (l.take k) = v := by
  have h := (bI_ok c (l := l.take k) (by rw [List.length_take]; omega))
  have h2 := h.1; rw [List.length_take] at h2
  have h3 := h.2; rw [List.getElem?_take_of_lt (by omega), hv] at h3
  exact (Option.some.inj h3).symm
theorem bI_law {c : Int → Int → Bool} {l : List Int} {k : Nat} {x v : Int} (hx : l[k]? = some x) (hv : l[bI c (l.take k)]? = some v) : bI c (l.take (k + 1)) = if c x v = true then k else bI c (l.take k) := by
  have hk := (List.getElem?_eq_some_iff.1 hx).1
  rw [bI_take hx]
  by_cases h0 : k = 0
  · subst h0; rw [if_pos (Or.inl rfl)]; simp [bI, bSt]
  · rw [bV_read (by omega) (by omega) hv]; simp [h0]
theorem bJ_take {c : Int → Int → Bool} {l : List Int} {k : Nat} {x : Int} (hx : l[k]? = some x) : bJ c (l.take (k + 1)) = if k = 0 ∨ c x (bV c (l.take k)) = true then (k : Int) else bJ c (l.take k) := by
  have hk := (List.getElem?_eq_some_iff.1 hx).1
  unfold bJ
  rw [bI_take hx, List.length_take, List.length_take, if_neg (by omega)]
  by_cases h : k = 0 ∨ c x (bV c (l.take k)) = true
  · rw [if_pos h, if_pos h]
  · rw [if_neg h, if_neg h, if_neg (by omega)]
theorem bJ_app (c : Int → Int → Bool) (l : List Int) (x : Int) : bJ c (l ++ [x]) = if l.length = 0 ∨ c x (bV c l) = true then (l.length : Int) else bJ c l := by
  unfold bJ; rw [bI_app, List.length_append, if_neg (by simp)]
  by_cases h : l.length = 0 ∨ c x (bV c l) = true
  · rw [if_pos h, if_pos h]
  · rw [if_neg h, if_neg h, if_neg (by intro e; exact h (Or.inl e))]
theorem bJ_cases (c : Int → Int → Bool) {l : List Int} {k : Nat} (hk : k ≤ l.length) : (bJ c (l.take k) = -1 ∧ k = 0) ∨ (bJ c (l.take k) = ((bI c (l.take k) : Nat) : Int) ∧ bI c (l.take k) < k) := by
  unfold bJ; rw [List.length_take]
  by_cases h : k = 0
  · left; simp [h]
  · right; rw [if_neg (by omega)]; exact ⟨rfl, bI_ltk c hk (by omega)⟩
theorem bJ_all (c : Int → Int → Bool) (l : List Int) : (bJ c l = -1 ∧ l.length = 0) ∨ (bJ c l = ((bI c l : Nat) : Int) ∧ bI c l < l.length) := by
  have := bJ_cases c (l := l) (k := l.length) (Nat.le_refl _); rwa [List.take_length] at this
theorem bS_map (c : Int → Int → Bool) (f : Int → Int) (l : List Int) : (bI c (l.map f), (l.map f).length = 0 ∨ bV c (l.map f) = f (bV (fun x y => c (f x) (f y)) l)) = (bI (fun x y => c (f x) (f y)) l, True) := by
  have h : ∀ (n : Nat) (l : List Int), l.length = n → bI c (l.map f) = bI (fun x y => c (f x) (f y)) l ∧ ((l.map f).length = 0 ∨ bV c (l.map f) = f (bV (fun x y => c (f x) (f y)) l)) := by
    intro n; induction n with
    | zero => intro l hl; have := List.eq_nil_of_length_eq_zero hl; subst this; exact ⟨rfl, Or.inl rfl⟩
    | succ n ih =>
      intro l hl
      obtain ⟨p, x, rfl⟩ : ∃ p x, l = p ++ [x] := ⟨l.dropLast, l.getLast (by intro e; subst e; simp at hl), (List.dropLast_concat_getLast _).symm⟩
      have hp : p.length = n := by simpa using hl
      obtain ⟨h1, h2⟩ := ih p hp
      rw [List.map_append, List.map_singleton, bI_app, bV_app, bI_app, bV_app, List.length_map, h1]
      rw [List.length_map] at h2
      by_cases h0 : p.length = 0
      · simp [h0]
      · rcases h2 with h2 | h2
        · exact absurd h2 h0
        · rw [h2]
          by_cases hc : c (f x) (f (bV (fun x y => c (f x) (f y)) p)) = true
          · simp [h0, hc]
          · simp [h0, hc]
  obtain ⟨h1, h2⟩ := h l.length l rfl
  rw [h1]; simp only [Prod.mk.injEq, true_and, eq_iff_iff, iff_true]; exact h2
theorem bJ_map (c : Int → Int → Bool) (f : Int → Int) (l : List Int) : bJ c (l.map f) = bJ (fun x y => c (f x) (f y)) l := by
  have h := congrArg Prod.fst (bS_map c f l)
  unfold bJ; rw [List.length_map, show bI c (l.map f) = _ from h]
theorem map_take_s {l : List Int} {k : Nat} {x : Int} (f : Int → Int) (hx : l[k]? = some x) : (l.take (k + 1)).map f = (l.take k).map f ++ [f x] := by
  rw [(take_s hx).1]; simp
theorem isE_app {p : List Int} {x : Int} (h : ¬ p = []) : p.isEmpty = (p ++ [x]).isEmpty := by cases p; exact absurd rfl h; rfl
theorem isE_app2 {p : List Int} {x : Int} (h : p.isEmpty = false) : p.isEmpty = (p ++ [x]).isEmpty := by cases p; exact absurd h (by simp); rfl
theorem key5 (n : Int) : (fun x : Int => keyAt 5 n x 0) = fun x => x := by funext x; simp [keyAt]
theorem map_key5 (n : Int) (l : List Int) : l.map (fun x : Int => keyAt 5 n x 0) = l := by rw [key5]; simp

theorem tup_ii {a a' b b' : Int} (h : a = a') (h2 : b = b') : Value.tuple #[.int .i64 a, .int .i64 b] = Value.tuple #[.int .i64 a', .int .i64 b'] := by subst h; subst h2; rfl
theorem k5_ltb : (fun x y : Int => cg false (keyAt 5 0 x 0) (keyAt 5 0 y 0)) = ltb := rfl
theorem k5_gtb : (fun x y : Int => cg true (keyAt 5 0 x 0) (keyAt 5 0 y 0)) = gtb := rfl

theorem bV_min : ∀ (n : Nat) (l : List Int), l.length = n → ∀ x ∈ l, ¬ x < bV ltb l
  | 0, l, h, x, hx => by have := List.eq_nil_of_length_eq_zero h; subst this; cases hx
  | n + 1, l, h, x, hx => by
    obtain ⟨p, y, rfl⟩ : ∃ p x, l = p ++ [x] := ⟨l.dropLast, l.getLast (by intro e; subst e; simp at h), (List.dropLast_concat_getLast _).symm⟩
    have ih := bV_min n p (by simpa using h)
    rw [bV_app]
    rw [List.mem_append, List.mem_singleton] at hx
    by_cases hc : p.length = 0 ∨ ltb y (bV ltb p) = true
    · rw [if_pos hc]
      rcases hx with hx | rfl
      · rcases hc with hc | hc
        · have := List.eq_nil_of_length_eq_zero hc; subst this; cases hx
        · have := ih x hx; have h2 := of_decide_eq_true hc; omega
      · omega
    · rw [if_neg hc]
      rcases hx with hx | rfl
      · exact ih x hx
      · intro h2; exact hc (Or.inr (decide_eq_true h2))
theorem bV_max : ∀ (n : Nat) (l : List Int), l.length = n → ∀ x ∈ l, ¬ x > bV gtb l
  | 0, l, h, x, hx => by have := List.eq_nil_of_length_eq_zero h; subst this; cases hx
  | n + 1, l, h, x, hx => by
    obtain ⟨p, y, rfl⟩ : ∃ p x, l = p ++ [x] := ⟨l.dropLast, l.getLast (by intro e; subst e; simp at h), (List.dropLast_concat_getLast _).symm⟩
    have ih := bV_max n p (by simpa using h)
    rw [bV_app]
    rw [List.mem_append, List.mem_singleton] at hx
    by_cases hc : p.length = 0 ∨ gtb y (bV gtb p) = true
    · rw [if_pos hc]
      rcases hx with hx | rfl
      · rcases hc with hc | hc
        · have := List.eq_nil_of_length_eq_zero hc; subst this; cases hx
        · have := ih x hx; have h2 := of_decide_eq_true hc; omega
      · omega
    · rw [if_neg hc]
      rcases hx with hx | rfl
      · exact ih x hx
      · intro h2; exact hc (Or.inr (decide_eq_true h2))
theorem bFacts (c : Int → Int → Bool) {l : List Int} {k : Nat} (e : l.take k = l) (h : ¬ (l.length : Int) = 0) : bI c (l.take k) < l.length ∧ some (bV c l) = l[bI c (l.take k)]? ∧ bJ c l = ((bI c (l.take k) : Nat) : Int) := by
  rw [e]
  have := bI_ok c (l := l) (by omega)
  exact ⟨this.1, this.2.symm, by unfold bJ; rw [if_neg (by omega)]⟩

def trimPn (b : List Int) : Nat → List Int → List Int
  | 0, l => l
  | n + 1, l => if hasP l b = true then trimPn b n (l.drop b.length) else l
def trimP (b l : List Int) : List Int := if b.length = 0 then l else trimPn b l.length l
def trimSn (b : List Int) : Nat → List Int → List Int
  | 0, l => l
  | n + 1, l => if hasS l b = true then trimSn b n (l.take (l.length - b.length)) else l
def trimS (b l : List Int) : List Int := if b.length = 0 then l else trimSn b l.length l
theorem trimPn_any {b : List Int} (hb : 0 < b.length) : ∀ (n m : Nat) (l : List Int), l.length ≤ n → l.length ≤ m → trimPn b n l = trimPn b m l
  | 0, 0, l, _, _ => rfl
  | 0, m + 1, l, h, _ => by unfold trimPn; rw [if_neg]; intro h2; have := hasP_le h2; omega
  | n + 1, 0, l, _, h => by unfold trimPn; rw [if_neg]; intro h2; have := hasP_le h2; omega
  | n + 1, m + 1, l, h, h' => by
    unfold trimPn; split
    · rename_i h2; have := hasP_le h2; exact trimPn_any hb n m _ (by simp; omega) (by simp; omega)
    · rfl
theorem trimSn_any {b : List Int} (hb : 0 < b.length) : ∀ (n m : Nat) (l : List Int), l.length ≤ n → l.length ≤ m → trimSn b n l = trimSn b m l
  | 0, 0, l, _, _ => rfl
  | 0, m + 1, l, h, _ => by unfold trimSn; rw [if_neg]; intro h2; have := hasS_le h2; omega
  | n + 1, 0, l, _, h => by unfold trimSn; rw [if_neg]; intro h2; have := hasS_le h2; omega
  | n + 1, m + 1, l, h, h' => by
    unfold trimSn; split
    · rename_i h2; have := hasS_le h2; exact trimSn_any hb n m _ (by simp; omega) (by simp; omega)
    · rfl
theorem trimP_yes {b l : List Int} (hb : 0 < b.length) (h : hasP l b = true) : trimP b l = trimP b (l.drop b.length) := by
  have h2 := hasP_le h
  have e : trimPn b l.length l = trimPn b (l.length - 1) (l.drop b.length) := by
    have e1 : ∀ n, trimPn b (n + 1) l = trimPn b n (l.drop b.length) := by intro n; exact if_pos h
    rw [← e1 (l.length - 1), show l.length - 1 + 1 = l.length by omega]
  unfold trimP; rw [if_neg (by omega), if_neg (by omega), e]
  exact trimPn_any hb _ _ _ (by simp; omega) (Nat.le_refl _)
theorem trimP_no {b l : List Int} (h : hasP l b = false) : trimP b l = l := by
  unfold trimP; split
  · rfl
  · cases hl : l.length with
    | zero => rfl
    | succ n => unfold trimPn; rw [if_neg (by simp [h])]
theorem trimP_nil {b l : List Int} (h : b.length = 0) : trimP b l = l := by unfold trimP; rw [if_pos h]
theorem trimS_yes {b l : List Int} (hb : 0 < b.length) (h : hasS l b = true) : trimS b l = trimS b (l.take (l.length - b.length)) := by
  have h2 := hasS_le h
  have e : trimSn b l.length l = trimSn b (l.length - 1) (l.take (l.length - b.length)) := by
    have e1 : ∀ n, trimSn b (n + 1) l = trimSn b n (l.take (l.length - b.length)) := by intro n; exact if_pos h
    rw [← e1 (l.length - 1), show l.length - 1 + 1 = l.length by omega]
  unfold trimS; rw [if_neg (by omega), if_neg (by omega), e]
  exact trimSn_any hb _ _ _ (by simp; omega) (Nat.le_refl _)
theorem trimS_no {b l : List Int} (h : hasS l b = false) : trimS b l = l := by
  unfold trimS; split
  · rfl
  · cases hl : l.length with
    | zero => rfl
    | succ n => unfold trimSn; rw [if_neg (by simp [h])]
theorem trimS_nil {b l : List Int} (h : b.length = 0) : trimS b l = l := by unfold trimS; rw [if_pos h]
theorem hasP_app (b r : List Int) : hasP (b ++ r) b = true := by unfold hasP; apply decide_eq_true; simp
theorem hasS_app (r b : List Int) : hasS (r ++ b) b = true := by unfold hasS; apply decide_eq_true; simp
theorem trimP_app {b : List Int} (hb : 0 < b.length) (r : List Int) : trimP b (b ++ r) = trimP b r := by rw [trimP_yes hb (hasP_app b r)]; simp
theorem trimS_app {b : List Int} (hb : 0 < b.length) (r : List Int) : trimS b (r ++ b) = trimS b r := by rw [trimS_yes hb (hasS_app r b)]; simp
def repA (b l : List Int) : Nat → List Int
  | 0 => l
  | n + 1 => b ++ repA b l n
def repB (b l : List Int) : Nat → List Int
  | 0 => l
  | n + 1 => repB b l n ++ b
theorem trimP_repA {b : List Int} (hb : 0 < b.length) (l : List Int) : ∀ n, trimP b (repA b l n) = trimP b l
  | 0 => rfl
  | n + 1 => by unfold repA; rw [trimP_app hb, trimP_repA hb l n]
theorem trimS_repB {b : List Int} (hb : 0 < b.length) (l : List Int) : ∀ n, trimS b (repB b l n) = trimS b l
  | 0 => rfl
  | n + 1 => by unfold repB; rw [trimS_app hb, trimS_repB hb l n]
theorem rep_le {b l : List Int} (h : l.length ≤ 300 ∧ b.length ≤ 20 ∧ 0 < b.length) : ∀ n, (repA b l n).length ≤ 300 + 20 * n ∧ (repB b l n).length ≤ 300 + 20 * n
  | 0 => by simp [repA, repB]; omega
  | n + 1 => by have := rep_le h n; simp [repA, repB]; omega
/-! ## the beginning, of a sequence -/
def tpStep (b : List Int) (s : Int × List Int) (x : Int) : Int × List Int :=
  if 0 ≤ s.1 then (if b[s.1.toNat]? = some x then (Int.tmod (s.1 + 1) (b.length : Int), s.2) else (-1, s.2 ++ b.take s.1.toNat ++ [x])) else (s.1, s.2 ++ [x])
def tpF (b l : List Int) : Int × List Int := l.foldl (tpStep b) (0, [])
def tpR (b l : List Int) : List Int := (tpF b l).2 ++ (if 0 ≤ (tpF b l).1 then b.take (tpF b l).1.toNat else [])
theorem tpF_app (b l : List Int) (x : Int) : tpF b (l ++ [x]) = tpStep b (tpF b l) x := by simp [tpF]
theorem tpF_yes {b l : List Int} {x : Int} (h0 : 0 ≤ (tpF b l).1) (h : b[(tpF b l).1.toNat]? = some x) : tpF b (l ++ [x]) = (Int.tmod ((tpF b l).1 + 1) (b.length : Int), (tpF b l).2) := by
  rw [tpF_app]; unfold tpStep; rw [if_pos h0, if_pos h]
theorem tpF_no {b l : List Int} {x y : Int} (h0 : 0 ≤ (tpF b l).1) (h : b[(tpF b l).1.toNat]? = some y) (hne : ¬ x = y) : tpF b (l ++ [x]) = (-1, (tpF b l).2 ++ b.take (tpF b l).1.toNat ++ [x]) := by
  rw [tpF_app]; unfold tpStep; rw [if_pos h0, if_neg (by rw [h]; intro e; exact hne (Option.some.inj e).symm)]
theorem tpF_dead {b l : List Int} {x : Int} (h0 : ¬ 0 ≤ (tpF b l).1) : tpF b (l ++ [x]) = ((tpF b l).1, (tpF b l).2 ++ [x]) := by
  rw [tpF_app]; unfold tpStep; rw [if_neg h0]
theorem tpStep_lt {b : List Int} (hb : 0 < b.length) {s : Int × List Int} {x : Int} (h : -1 ≤ s.1 ∧ s.1 < b.length) : -1 ≤ (tpStep b s x).1 ∧ (tpStep b s x).1 < b.length := by
  unfold tpStep; split
  · split
    · have h1 := Int.tmod_nonneg (b := (b.length : Int)) (a := s.1 + 1) (by omega)
      have h2 := Int.tmod_lt_of_pos (b := (b.length : Int)) (s.1 + 1) (by omega)
      exact ⟨by show -1 ≤ Int.tmod _ _; omega, h2⟩
    · exact ⟨by show (-1 : Int) ≤ -1; omega, by show (-1 : Int) < _; omega⟩
  · exact h
theorem foldl_inv {σ : Type} (f : σ → Int → σ) (Q : List Int → σ → Prop) (s0 : σ) (h0 : Q [] s0) (hs : ∀ p x, Q p (p.foldl f s0) → Q (p ++ [x]) (f (p.foldl f s0) x)) : ∀ (n : Nat) (l : List Int), l.length = n → Q l (l.foldl f s0)
  | 0, l, h => by have := List.eq_nil_of_length_eq_zero h; subst this; exact h0
  | n + 1, l, h => by
    obtain ⟨p, x, rfl⟩ : ∃ p x, l = p ++ [x] := ⟨l.dropLast, l.getLast (by intro e; subst e; simp at h), (List.dropLast_concat_getLast _).symm⟩
    have ih := foldl_inv f Q s0 h0 hs n p (by simpa using h)
    have e : (p ++ [x]).foldl f s0 = f (p.foldl f s0) x := by simp
    rw [e]; exact hs p x ih
theorem tpF_lt {b : List Int} (hb : 0 < b.length) (l : List Int) : -1 ≤ (tpF b l).1 ∧ (tpF b l).1 < b.length :=
  foldl_inv (tpStep b) (fun _ s => -1 ≤ s.1 ∧ s.1 < b.length) (0, []) ⟨by show (-1 : Int) ≤ 0; omega, by show (0 : Int) < _; omega⟩ (fun p x h => tpStep_lt hb h) _ l rfl
theorem tpStep_ext (b : List Int) (s : Int × List Int) (x : Int) : s.2 <+: (tpStep b s x).2 := by
  unfold tpStep; split
  · split
    · exact List.prefix_rfl
    · rw [List.append_assoc]; exact List.prefix_append _ _
  · exact List.prefix_append _ _
theorem tpF_mono (b p : List Int) : ∀ (r : List Int), (tpF b p).2 <+: (tpF b (p ++ r)).2 := by
  intro r
  induction r generalizing p with
  | nil => simp
  | cons x r ih =>
    rw [show p ++ x :: r = (p ++ [x]) ++ r by simp]
    refine List.IsPrefix.trans ?_ (ih _)
    rw [tpF_app]; exact tpStep_ext _ _ _
theorem tpR_of {b p l : List Int} (h : p <+: l) : (tpF b p).2 <+: tpR b l := by
  obtain ⟨r, rfl⟩ := h
  exact (tpF_mono b p r).trans (List.prefix_append _ _)
theorem tp_pre1 {b p l : List Int} {x y z : Int} {k : Nat} (h : p ++ [x] <+: l) (h0 : 0 ≤ (tpF b p).1) (hy : b[(tpF b p).1.toNat]? = some y) (hne : ¬ x = y) (hk : k < (tpF b p).1.toNat) (hz : b[k]? = some z) : (tpF b p).2 ++ b.take k ++ [z] <+: tpR b l := by
  refine List.IsPrefix.trans ?_ (tpR_of h)
  rw [tpF_no h0 hy hne, List.append_assoc, pre_take hz, List.append_assoc]
  refine (List.prefix_append_right_inj _).2 (List.IsPrefix.trans ?_ (List.prefix_append _ _))
  exact List.take_prefix_take_left (by omega)
theorem tp_pre2 {b p l : List Int} {x y : Int} {k : Nat} (h : p ++ [x] <+: l) (h0 : 0 ≤ (tpF b p).1) (hy : b[(tpF b p).1.toNat]? = some y) (hne : ¬ x = y) (hk : k = (tpF b p).1.toNat) : (tpF b p).2 ++ b.take k ++ [x] <+: tpR b l := by
  refine List.IsPrefix.trans ?_ (tpR_of h)
  rw [tpF_no h0 hy hne, hk]; exact List.prefix_rfl
theorem tp_pre3 {b p l : List Int} {x : Int} (h : p ++ [x] <+: l) (h0 : ¬ 0 ≤ (tpF b p).1) : (tpF b p).2 ++ [x] <+: tpR b l := by
  refine List.IsPrefix.trans ?_ (tpR_of h)
  rw [tpF_dead h0]; exact List.prefix_rfl
theorem tp_pre4 {b l : List Int} {z : Int} {k : Nat} (hk : k < (tpF b l).1.toNat) (hz : b[k]? = some z) : (tpF b l).2 ++ b.take k ++ [z] <+: tpR b l := by
  unfold tpR; rw [if_pos (by omega), List.append_assoc, pre_take hz]
  exact (List.prefix_append_right_inj _).2 (List.take_prefix_take_left (by omega))
theorem tp_end {b l : List Int} {k : Nat} (hk : k = (tpF b l).1.toNat) : (tpF b l).2 ++ b.take k = tpR b l := by
  unfold tpR; subst hk; split
  · rfl
  · rw [show (tpF b l).1.toNat = 0 by omega]; simp

theorem take_snoc {b : List Int} {i : Nat} {x : Int} (h : b[i]? = some x) : b.take (i + 1) = b.take i ++ [x] := by rw [List.take_add_one, h]; rfl
theorem hasP_mis {b r : List Int} {i : Nat} {x : Int} (hi : i < b.length) (h : ¬ b[i]? = some x) : hasP (b.take i ++ x :: r) b = false := by
  unfold hasP; apply decide_eq_false; intro e
  apply h
  rw [← e, List.getElem?_take_of_lt hi, List.getElem?_append_right (by rw [List.length_take]; omega), List.length_take, Nat.min_eq_left (by omega), Nat.sub_self]; rfl
theorem tpR_trimP {b : List Int} (hb : 0 < b.length) (l : List Int) : tpR b l = trimP b l := by
  have h := foldl_inv (tpStep b) (fun p s => (-1 ≤ s.1 ∧ s.1 < b.length) ∧ (0 ≤ s.1 → s.2 = [] ∧ ∀ r, trimP b (p ++ r) = trimP b (b.take s.1.toNat ++ r)) ∧ (s.1 < 0 → ∀ r, trimP b (p ++ r) = s.2 ++ r)) (0, [])
    ⟨⟨by show (-1 : Int) ≤ 0; omega, by show (0 : Int) < _; omega⟩, fun _ => ⟨rfl, fun r => by simp⟩, fun h => absurd h (by show ¬ (0 : Int) < 0; omega)⟩ ?_ _ l rfl
  · obtain ⟨h0, h1, h2⟩ := h
    change (-1 ≤ (tpF b l).1 ∧ (tpF b l).1 < b.length) at h0
    change (0 ≤ (tpF b l).1 → (tpF b l).2 = [] ∧ ∀ r, trimP b (l ++ r) = trimP b (b.take (tpF b l).1.toNat ++ r)) at h1
    change ((tpF b l).1 < 0 → ∀ r, trimP b (l ++ r) = (tpF b l).2 ++ r) at h2
    unfold tpR
    by_cases hs : 0 ≤ (tpF b l).1
    · obtain ⟨h3, h4⟩ := h1 hs
      have h5 := h4 []
      rw [List.append_nil, List.append_nil] at h5
      rw [if_pos hs, h3, h5, trimP_no (hasP_short (by rw [List.length_take]; omega))]; rfl
    · have h5 := h2 (by omega) []
      rw [List.append_nil] at h5
      rw [if_neg hs, h5]
  · intro p x
    generalize p.foldl (tpStep b) (0, []) = s
    intro ⟨h0, h1, h2⟩
    refine ⟨tpStep_lt hb h0, ?_, ?_⟩
    · intro hs
      unfold tpStep at hs ⊢
      by_cases h3 : 0 ≤ s.1
      · rw [if_pos h3] at hs ⊢
        obtain ⟨h4, h5⟩ := h1 h3
        by_cases h6 : b[s.1.toNat]? = some x
        · rw [if_pos h6] at hs ⊢
          refine ⟨h4, fun r => ?_⟩
          rw [List.append_assoc, h5, List.singleton_append]
          show _ = trimP b (b.take (Int.tmod _ _).toNat ++ r)
          have e1 : b.take s.1.toNat ++ x :: r = b.take (s.1.toNat + 1) ++ r := by rw [take_snoc h6]; simp
          rw [e1]
          by_cases h7 : s.1 + 1 = b.length
          · rw [h7, Int.tmod_self, show s.1.toNat + 1 = b.length by omega, List.take_of_length_le (Nat.le_refl _), trimP_app hb]; simp
          · have h8 : Int.tmod (s.1 + 1) (b.length : Int) = s.1 + 1 := Int.tmod_eq_of_lt (by omega) (by omega)
            rw [h8, show (s.1 + 1).toNat = s.1.toNat + 1 by omega]
        · rw [if_neg h6] at hs; exact absurd hs (by show ¬ (0 : Int) ≤ -1; omega)
      · rw [if_neg h3] at hs; exact absurd hs h3
    · intro hs r
      unfold tpStep at hs ⊢
      by_cases h3 : 0 ≤ s.1
      · rw [if_pos h3] at hs ⊢
        obtain ⟨h4, h5⟩ := h1 h3
        by_cases h6 : b[s.1.toNat]? = some x
        · rw [if_pos h6] at hs
          have := Int.tmod_nonneg (b := (b.length : Int)) (a := s.1 + 1) (by omega)
          exact absurd hs (by show ¬ Int.tmod _ _ < 0; omega)
        · rw [if_neg h6, List.append_assoc, h5, List.singleton_append, trimP_no (hasP_mis (by omega) h6), h4]; simp
      · rw [if_neg h3]
        rw [List.append_assoc, h2 (by omega)]; simp
/-! ## the ending, of a sequence -/
def cyc (b : List Int) (i : Nat) : List Int := (List.range i).map fun j => b.getD (j % b.length) 0
theorem cyc_len (b : List Int) (i : Nat) : (cyc b i).length = i := by simp [cyc]
theorem cyc_succ {b : List Int} {i : Nat} {y : Int} (h : b[i % b.length]? = some y) : cyc b (i + 1) = cyc b i ++ [y] := by
  unfold cyc; rw [List.range_succ, List.map_append]; simp [List.getD, h]
theorem cyc_pre (b : List Int) {k i : Nat} (h : k ≤ i) : cyc b k <+: cyc b i := by
  obtain ⟨m, rfl⟩ : ∃ m, i = k + m := ⟨i - k, by omega⟩
  unfold cyc; rw [List.range_add, List.map_append]; exact List.prefix_append _ _
theorem cyc_round {b : List Int} (hb : 0 < b.length) (q : Nat) : cyc b ((q + 1) * b.length) = cyc b (q * b.length) ++ b := by
  unfold cyc
  rw [Nat.add_mul, Nat.one_mul, List.range_add, List.map_append, List.map_map]
  congr 1
  apply List.ext_getElem?
  intro j
  by_cases hj : j < b.length
  · rw [List.getElem?_map, List.getElem?_range hj]
    simp only [Option.map_some, Function.comp]
    rw [Nat.mul_comm, Nat.mul_add_mod, Nat.mod_eq_of_lt hj, List.getD, List.getElem?_eq_getElem hj]; rfl
  · rw [List.getElem?_eq_none (by simp; omega), List.getElem?_eq_none (by omega)]
def tsStep (b : List Int) (s : Nat × List Int) (x : Int) : Nat × List Int :=
  if b[s.1 % b.length]? = some x then (s.1 + 1, s.2) else if b[0]? = some x then (1, s.2 ++ cyc b s.1) else (0, s.2 ++ cyc b s.1 ++ [x])
def tsF (b l : List Int) : Nat × List Int := l.foldl (tsStep b) (0, [])
def tsR (b l : List Int) : List Int := if (tsF b l).1 % b.length = 0 then (tsF b l).2 else (tsF b l).2 ++ cyc b (tsF b l).1
theorem tsF_app (b l : List Int) (x : Int) : tsF b (l ++ [x]) = tsStep b (tsF b l) x := by simp [tsF]
theorem tsF_yes {b l : List Int} {x y : Int} (h : b[(tsF b l).1 % b.length]? = some y) (e : x = y) : tsF b (l ++ [x]) = ((tsF b l).1 + 1, (tsF b l).2) := by
  rw [tsF_app]; unfold tsStep; rw [if_pos (by rw [h, e])]
theorem tsF_b0 {b l : List Int} {x y z : Int} (h : b[(tsF b l).1 % b.length]? = some y) (hne : ¬ x = y) (h0 : b[0]? = some z) (e : x = z) : tsF b (l ++ [x]) = (1, (tsF b l).2 ++ cyc b (tsF b l).1) := by
  rw [tsF_app]; unfold tsStep; rw [if_neg (by rw [h]; intro e; exact hne (Option.some.inj e).symm), if_pos (by rw [h0, e])]
theorem tsF_no {b l : List Int} {x y z : Int} (h : b[(tsF b l).1 % b.length]? = some y) (hne : ¬ x = y) (h0 : b[0]? = some z) (hne0 : ¬ x = z) : tsF b (l ++ [x]) = (0, (tsF b l).2 ++ cyc b (tsF b l).1 ++ [x]) := by
  rw [tsF_app]; unfold tsStep; rw [if_neg (by rw [h]; intro e; exact hne (Option.some.inj e).symm), if_neg (by rw [h0]; intro e; exact hne0 (Option.some.inj e).symm)]
theorem tsStep_ext (b : List Int) (s : Nat × List Int) (x : Int) : s.2 <+: (tsStep b s x).2 ∧ (tsStep b s x).1 ≤ s.1 + 1 := by
  unfold tsStep; split
  · exact ⟨List.prefix_rfl, Nat.le_refl _⟩
  · split
    · exact ⟨List.prefix_append _ _, by show 1 ≤ _; omega⟩
    · exact ⟨by rw [List.append_assoc]; exact List.prefix_append _ _, by show 0 ≤ _; omega⟩
theorem tsF_le (b l : List Int) : (tsF b l).1 ≤ l.length :=
  foldl_inv (tsStep b) (fun p s => s.1 ≤ p.length) (0, []) (Nat.le_refl _) (fun p x h => by have := (tsStep_ext b (p.foldl (tsStep b) (0, [])) x).2; simp; omega) _ l rfl
theorem tsF_mono (b p : List Int) : ∀ (r : List Int), (tsF b p).2 <+: (tsF b (p ++ r)).2 := by
  intro r
  induction r generalizing p with
  | nil => simp
  | cons x r ih =>
    rw [show p ++ x :: r = (p ++ [x]) ++ r by simp]
    refine List.IsPrefix.trans ?_ (ih _)
    rw [tsF_app]; exact (tsStep_ext _ _ _).1
theorem tsR_of {b p l : List Int} (h : p <+: l) : (tsF b p).2 <+: tsR b l := by
  obtain ⟨r, rfl⟩ := h
  refine (tsF_mono b p r).trans ?_
  unfold tsR; split
  · exact List.prefix_rfl
  · exact List.prefix_append _ _
theorem ts_mis {b p : List Int} {x y : Int} (h : b[(tsF b p).1 % b.length]? = some y) (hne : ¬ x = y) : (tsF b p).2 ++ cyc b (tsF b p).1 <+: (tsF b (p ++ [x])).2 := by
  rw [tsF_app]; unfold tsStep; rw [if_neg (by rw [h]; intro e; exact hne (Option.some.inj e).symm)]
  split
  · exact List.prefix_rfl
  · exact List.prefix_append _ _
theorem ts_pre1 {b p l : List Int} {x y z : Int} {k : Nat} (h : p ++ [x] <+: l) (hy : b[(tsF b p).1 % b.length]? = some y) (hne : ¬ x = y) (hk : k < (tsF b p).1) (hz : b[k % b.length]? = some z) : (tsF b p).2 ++ cyc b k ++ [z] <+: tsR b l := by
  refine List.IsPrefix.trans ?_ ((ts_mis hy hne).trans (tsR_of h))
  rw [List.append_assoc, ← cyc_succ hz]
  exact (List.prefix_append_right_inj _).2 (cyc_pre b (by omega))
theorem ts_pre2 {b p l : List Int} {x y z : Int} {k : Nat} (h : p ++ [x] <+: l) (hy : b[(tsF b p).1 % b.length]? = some y) (hne : ¬ x = y) (h0 : b[0]? = some z) (hne0 : ¬ x = z) (hk : k = (tsF b p).1) : (tsF b p).2 ++ cyc b k ++ [x] <+: tsR b l := by
  refine List.IsPrefix.trans ?_ (tsR_of h)
  rw [tsF_no hy hne h0 hne0, hk]; exact List.prefix_rfl
theorem ts_pre4 {b l : List Int} {z : Int} {k : Nat} (h0 : ¬ (tsF b l).1 % b.length = 0) (hk : k < (tsF b l).1) (hz : b[k % b.length]? = some z) : (tsF b l).2 ++ cyc b k ++ [z] <+: tsR b l := by
  unfold tsR; rw [if_neg h0, List.append_assoc, ← cyc_succ hz]
  exact (List.prefix_append_right_inj _).2 (cyc_pre b (by omega))
theorem ts_end {b l : List Int} {k : Nat} (h0 : ¬ (tsF b l).1 % b.length = 0) (hk : k = (tsF b l).1) : (tsF b l).2 ++ cyc b k = tsR b l := by
  unfold tsR; rw [if_neg h0, hk]
theorem ts_end0 {b l : List Int} (h0 : (tsF b l).1 % b.length = 0) : (tsF b l).2 = tsR b l := by
  unfold tsR; rw [if_pos h0]
theorem hasS_iff (l b : List Int) : hasS l b = true ↔ b <:+ l := by
  unfold hasS; rw [decide_eq_true_eq]
  constructor
  · intro h; rw [← h]; exact List.drop_suffix _ _
  · rintro ⟨t, rfl⟩; simp
theorem suf_snoc {b p : List Int} {x : Int} {r : Nat} (hr : r < b.length) (h : b.take (r + 1) <:+ p ++ [x]) : b[r]? = some x ∧ b.take r <:+ p := by
  obtain ⟨t, h⟩ := h
  have hy := List.getElem?_eq_getElem hr
  rw [take_snoc hy, ← List.append_assoc] at h
  have := List.append_inj' h rfl
  have h2 : b[r] = x := by simpa using this.2
  exact ⟨by rw [hy, h2], t, this.1⟩
theorem tsR_trimS {b : List Int} (hb : 0 < b.length) (hbl : ∀ j x, 0 < j → b[0]? = some x → ¬ b[j]? = some x) (l : List Int) : tsR b l = trimS b l := by
  have h := foldl_inv (tsStep b) (fun p s => p = s.2 ++ cyc b s.1 ∧ (∀ r, 1 ≤ r → r ≤ b.length → b.take r <:+ p → 0 < s.1 ∧ s.1 % b.length = r % b.length) ∧ hasS s.2 b = false) (0, [])
    ⟨by simp [cyc], fun r h1 h2 h3 => by have := h3.length_le; simp only [List.length_take, List.length_nil] at this; omega, hasS_short (by simpa using hb)⟩ ?_ _ l rfl
  · obtain ⟨hA, hB, hC⟩ := h
    change l = (tsF b l).2 ++ cyc b (tsF b l).1 at hA
    change ∀ r, 1 ≤ r → r ≤ b.length → b.take r <:+ l → 0 < (tsF b l).1 ∧ (tsF b l).1 % b.length = r % b.length at hB
    change hasS (tsF b l).2 b = false at hC
    unfold tsR
    split
    · rename_i h0
      have e : ∀ q, trimS b ((tsF b l).2 ++ cyc b (q * b.length)) = trimS b (tsF b l).2 := by
        intro q; induction q with
        | zero => simp [cyc]
        | succ q ih => rw [cyc_round hb, ← List.append_assoc, trimS_app hb, ih]
      have e2 : (tsF b l).1 = (tsF b l).1 / b.length * b.length := by have := Nat.div_add_mod (tsF b l).1 b.length; rw [h0, Nat.mul_comm] at this; omega
      conv => rhs; rw [hA, e2]
      rw [e, trimS_no hC]
    · rename_i h0
      rw [← hA]
      refine (trimS_no ?_).symm
      cases hs : hasS l b with
      | false => rfl
      | true => exact absurd ((hB b.length hb (Nat.le_refl _) (by rw [List.take_of_length_le (Nat.le_refl _)]; exact (hasS_iff l b).1 hs)).2.trans (Nat.mod_self _)) h0
  · intro p x
    generalize p.foldl (tsStep b) (0, []) = s
    intro ⟨hA, hB, hC⟩
    have hlt : ∀ i : Nat, i % b.length < b.length := fun i => Nat.mod_lt _ hb
    -- what ends in x
    have key : ∀ r, 1 ≤ r → r ≤ b.length → b.take r <:+ p ++ [x] → (r = 1 ∧ b[0]? = some x) ∨ (b[s.1 % b.length]? = some x ∧ (s.1 + 1) % b.length = r % b.length) := by
      intro r h1 h2 h3
      obtain ⟨r, rfl⟩ : ∃ q, r = q + 1 := ⟨r - 1, by omega⟩
      obtain ⟨h4, h5⟩ := suf_snoc (by omega) h3
      by_cases hr : r = 0
      · left; subst hr; exact ⟨rfl, h4⟩
      · right
        have hr1 : r < b.length := h2
        obtain ⟨h6, h7⟩ := hB r (by omega) (by omega) h5
        have h8 : r % b.length = r := Nat.mod_eq_of_lt hr1
        refine ⟨by rw [h7, h8]; exact h4, ?_⟩
        rw [Nat.add_mod, h7, ← Nat.add_mod]
    unfold tsStep
    by_cases hm : b[s.1 % b.length]? = some x
    · rw [if_pos hm]
      refine ⟨by show p ++ [x] = _ ++ cyc b (_ + 1); rw [cyc_succ hm, ← List.append_assoc, ← hA], ?_, hC⟩
      intro r h1 h2 h3
      refine ⟨Nat.succ_pos _, ?_⟩
      rcases key r h1 h2 h3 with ⟨rfl, h4⟩ | ⟨_, h4⟩
      · show (s.1 + 1) % b.length = 1 % b.length
        have h5 : s.1 % b.length = 0 := by
          cases hq : s.1 % b.length with
          | zero => rfl
          | succ q => rw [hq] at hm; exact absurd hm (hbl _ _ (by omega) h4)
        rw [Nat.add_mod, h5, Nat.zero_add, Nat.mod_mod]
      · exact h4
    · rw [if_neg hm]
      have nop : hasS p b = true → b[0]? = some x → False := by
        intro hs h0
        have := hB b.length hb (Nat.le_refl _) (by rw [List.take_of_length_le (Nat.le_refl _)]; exact (hasS_iff p b).1 hs)
        rw [Nat.mod_self] at this
        rw [this.2] at hm; exact hm h0
      by_cases h0 : b[0]? = some x
      · rw [if_pos h0]
        refine ⟨?_, ?_, ?_⟩
        · show p ++ [x] = (_ ++ cyc b _) ++ cyc b (0 + 1)
          rw [cyc_succ (i := 0) (by rw [Nat.zero_mod]; exact h0), ← hA]; simp [cyc]
        · intro r h1 h2 h3
          refine ⟨by show 0 < 1; omega, ?_⟩
          rcases key r h1 h2 h3 with ⟨rfl, h4⟩ | ⟨h4, _⟩
          · rfl
          · exact absurd h4 hm
        · show hasS (_ ++ cyc b _) b = false
          rw [← hA]
          cases hs : hasS p b with
          | false => rfl
          | true => exact (nop hs h0).elim
      · rw [if_neg h0]
        have none_ : ∀ r, 1 ≤ r → r ≤ b.length → ¬ b.take r <:+ p ++ [x] := by
          intro r h1 h2 h3
          rcases key r h1 h2 h3 with ⟨rfl, h4⟩ | ⟨h4, _⟩
          · exact h0 h4
          · exact hm h4
        refine ⟨?_, fun r h1 h2 h3 => absurd h3 (none_ r h1 h2), ?_⟩
        · show p ++ [x] = (_ ++ cyc b _ ++ [x]) ++ cyc b 0
          rw [← hA]; simp [cyc]
        · show hasS (_ ++ cyc b _ ++ [x]) b = false
          rw [← hA]
          cases hs : hasS (p ++ [x]) b with
          | false => rfl
          | true => exact absurd ((hasS_iff _ _).1 hs) (by have := none_ b.length hb (Nat.le_refl _); rwa [List.take_of_length_le (Nat.le_refl _)] at this)

theorem trimPn_le (b : List Int) : ∀ (n : Nat) (l : List Int), (trimPn b n l).length ≤ l.length
  | 0, l => Nat.le_refl _
  | n + 1, l => by
    unfold trimPn; split
    · have := trimPn_le b n (l.drop b.length); simp at this; omega
    · exact Nat.le_refl _
theorem trimP_le (b l : List Int) : (trimP b l).length ≤ l.length := by
  unfold trimP; split
  · exact Nat.le_refl _
  · exact trimPn_le b _ l
theorem trimSn_le (b : List Int) : ∀ (n : Nat) (l : List Int), (trimSn b n l).length ≤ l.length
  | 0, l => Nat.le_refl _
  | n + 1, l => by
    unfold trimSn; split
    · have := trimSn_le b n (l.take (l.length - b.length)); simp at this; omega
    · exact Nat.le_refl _
theorem trimS_le (b l : List Int) : (trimS b l).length ≤ l.length := by
  unfold trimS; split
  · exact Nat.le_refl _
  · exact trimSn_le b _ l

theorem u8_in {x : Int} (h : 0 ≤ x ∧ x ≤ 255) : IntKind.u8.wrap x = x := by unfold IntKind.wrap; simp [IntKind.signed, IntKind.bits]; omega

/-! ## a list sorted by insertions -/
def insI (x : Int) (l : List Int) : List Int := l.takeWhile (fun y => decide (y ≤ x)) ++ x :: l.dropWhile (fun y => decide (y ≤ x))
def sortI (l : List Int) : List Int := l.foldl (fun s x => insI x s) []
theorem insI_len (x : Int) (l : List Int) : (insI x l).length = l.length + 1 := by
  have := congrArg List.length (List.takeWhile_append_dropWhile (p := fun y => decide (y ≤ x)) (l := l))
  rw [List.length_append] at this
  unfold insI; simp only [List.length_append, List.length_cons]; omega
theorem insI_perm (x : Int) (l : List Int) : (insI x l).Perm (x :: l) := by
  unfold insI
  refine List.perm_middle.trans ?_
  rw [List.takeWhile_append_dropWhile]
theorem sortI_app (l : List Int) (x : Int) : sortI (l ++ [x]) = insI x (sortI l) := by simp [sortI]
theorem sortI_len (l : List Int) : (sortI l).length = l.length :=
  foldl_inv (fun s x => insI x s) (fun p s => s.length = p.length) [] rfl (fun p x h => by rw [insI_len, h]; simp) _ l rfl
theorem sortI_perm (l : List Int) : (sortI l).Perm l :=
  foldl_inv (fun s x => insI x s) (fun p s => s.Perm p) [] (List.Perm.refl _) (fun p x h => (insI_perm x _).trans ((h.cons x).trans (List.perm_append_singleton x p).symm)) _ l rfl
theorem ins_at {s : List Int} {x : Int} {j : Nat} (hj : j ≤ s.length) (h : ∀ y ∈ s.take j, y ≤ x) (h2 : s.length ≤ j ∨ ∃ v, s[j]? = some v ∧ ¬ v ≤ x) : s.take j ++ [x] ++ s.drop j = insI x s := by
  have e1 : s.takeWhile (fun y => decide (y ≤ x)) = s.take j ∧ s.dropWhile (fun y => decide (y ≤ x)) = s.drop j := by
    clear hj
    induction s generalizing j with
    | nil => simp
    | cons a s ih =>
      cases j with
      | zero =>
        rcases h2 with h2 | ⟨v, hv, hn⟩
        · simp at h2
        · have : a = v := by simpa using hv
          subst this
          simp [List.takeWhile_cons, List.dropWhile_cons, hn]
      | succ j =>
        have ha : a ≤ x := h a (by simp)
        have := ih (j := j) (fun y hy => h y (by simp [hy])) (by
          rcases h2 with h2 | ⟨v, hv, hn⟩
          · left; simp at h2; omega
          · right; exact ⟨v, by simpa using hv, hn⟩)
        simp [List.takeWhile_cons, List.dropWhile_cons, ha, this.1, this.2]
  unfold insI; rw [e1.1, e1.2]; simp
def SortedI (l : List Int) : Prop := l.Pairwise (· ≤ ·)
theorem insI_sorted {x : Int} {l : List Int} (h : SortedI l) : SortedI (insI x l) := by
  unfold SortedI at h ⊢
  induction l with
  | nil => simp [insI]
  | cons a l ih =>
    rw [List.pairwise_cons] at h
    by_cases ha : a ≤ x
    · have e : insI x (a :: l) = a :: insI x l := by unfold insI; simp [List.takeWhile_cons, List.dropWhile_cons, ha]
      rw [e, List.pairwise_cons]
      refine ⟨fun y hy => ?_, ih h.2⟩
      rcases List.mem_cons.1 ((insI_perm x l).subset hy) with rfl | hy
      · exact ha
      · exact h.1 y hy
    · have e : insI x (a :: l) = x :: a :: l := by unfold insI; simp [List.takeWhile_cons, List.dropWhile_cons, ha]
      rw [e, List.pairwise_cons, List.pairwise_cons]
      refine ⟨fun y hy => ?_, h⟩
      rcases List.mem_cons.1 hy with rfl | hy
      · omega
      · have := h.1 y hy; omega
theorem sortI_sorted (l : List Int) : SortedI (sortI l) :=
  foldl_inv (fun s x => insI x s) (fun _ s => SortedI s) [] List.Pairwise.nil (fun p x h => insI_sorted h) _ l rfl
theorem sorted_eq : ∀ {a b : List Int}, SortedI a → SortedI b → a.Perm b → a = b
  | [], b, _, _, h => (List.nil_perm.1 h).symm ▸ rfl
  | x :: a, [], _, _, h => by simp at h
  | x :: a, y :: b, ha, hb, h => by
    unfold SortedI at ha hb
    rw [List.pairwise_cons] at ha hb
    have h1 : x ≤ y := by
      rcases List.mem_cons.1 (h.symm.subset (List.mem_cons_self ..)) with e | e
      · omega
      · exact ha.1 y e
    have h2 : y ≤ x := by
      rcases List.mem_cons.1 (h.subset (List.mem_cons_self ..)) with e | e
      · omega
      · exact hb.1 x e
    have e : x = y := by omega
    subst e
    rw [sorted_eq ha.2 hb.2 ((List.perm_cons x).1 h)]
theorem sortI_eq (a b : List Int) : decide (sortI a = sortI b) = a.isPerm b := by
  rw [Bool.eq_iff_iff, decide_eq_true_eq, List.isPerm_iff]
  constructor
  · intro h; exact (sortI_perm a).symm.trans (h ▸ sortI_perm b)
  · intro h; exact sorted_eq (sortI_sorted a) (sortI_sorted b) ((sortI_perm a).trans (h.trans (sortI_perm b).symm))
theorem sortI_take {l : List Int} {k : Nat} {x : Int} (h : l[k]? = some x) : sortI (l.take (k + 1)) = insI x (sortI (l.take k)) := by rw [(take_s h).1, sortI_app]

/-! ## how often keys stand -/
theorem getK_putK {β : Type} (z : β) (l : List (Int × β)) (k : Int) (v : β) (k' : Int) : getK z (putK l k v) k' = if k' = k then v else getK z l k' := by
  induction l with
  | nil => by_cases h : k' = k
           · simp [putK, getK, h]
           · simp [putK, getK, h, Ne.symm h]
  | cons p l ih =>
    unfold putK
    by_cases hp : p.1 = k
    · rw [if_pos hp]; unfold getK
      by_cases h : k' = k
      · simp [h]
      · rw [if_neg (Ne.symm h), if_neg h]; unfold getK
        rw [if_neg (by rw [hp]; exact Ne.symm h)]
    · rw [if_neg hp]; unfold getK
      by_cases h2 : p.1 = k'
      · rw [if_pos h2, if_pos h2, if_neg (by rw [← h2]; exact hp)]
      · rw [if_neg h2, if_neg h2, ih]
def upM (K : Int → Int) (m : List (Int × Int)) (l : List Int) : List (Int × Int) := l.foldl (fun m x => putK m (K x) (getK (0 : Int) m (K x) + 1)) m
def dnM (K : Int → Int) (m : List (Int × Int)) (l : List Int) : List (Int × Int) := l.foldl (fun m x => putK m (K x) (getK (0 : Int) m (K x) - 1)) m
theorem upM_app (K : Int → Int) (m : List (Int × Int)) (l : List Int) (x : Int) : upM K m (l ++ [x]) = putK (upM K m l) (K x) (getK (0 : Int) (upM K m l) (K x) + 1) := by simp [upM]
theorem dnM_app (K : Int → Int) (m : List (Int × Int)) (l : List Int) (x : Int) : dnM K m (l ++ [x]) = putK (dnM K m l) (K x) (getK (0 : Int) (dnM K m l) (K x) - 1) := by simp [dnM]
theorem upM_take {K : Int → Int} {m : List (Int × Int)} {l : List Int} {k : Nat} {x : Int} (h : l[k]? = some x) : upM K m (l.take (k + 1)) = putK (upM K m (l.take k)) (K x) (getK (0 : Int) (upM K m (l.take k)) (K x) + 1) := by rw [(take_s h).1, upM_app]
theorem dnM_take {K : Int → Int} {m : List (Int × Int)} {l : List Int} {k : Nat} {x : Int} (h : l[k]? = some x) : dnM K m (l.take (k + 1)) = putK (dnM K m (l.take k)) (K x) (getK (0 : Int) (dnM K m (l.take k)) (K x) - 1) := by rw [(take_s h).1, dnM_app]
theorem upM_spec (K : Int → Int) (m : List (Int × Int)) (hm : (m.map Prod.fst).Nodup) (l : List Int) : ((upM K m l).map Prod.fst).Nodup ∧ ∀ z, getK (0 : Int) (upM K m l) z = getK (0 : Int) m z + ((l.map K).count z : Nat) :=
  foldl_inv (fun m x => putK m (K x) (getK (0 : Int) m (K x) + 1)) (fun p s => (s.map Prod.fst).Nodup ∧ ∀ z, getK (0 : Int) s z = getK (0 : Int) m z + ((p.map K).count z : Nat)) m ⟨hm, fun z => by simp⟩ (fun p x h => ⟨putK_nodup h.1 _ _, fun z => by
    rw [getK_putK, List.map_append, List.count_append]
    by_cases hz : z = K x
    · subst hz; rw [if_pos rfl, h.2]; simp; omega
    · rw [if_neg hz, h.2]; simp [List.count_cons, Ne.symm hz]⟩) _ l rfl
theorem dnM_spec (K : Int → Int) (m : List (Int × Int)) (hm : (m.map Prod.fst).Nodup) (l : List Int) : ((dnM K m l).map Prod.fst).Nodup ∧ ∀ z, getK (0 : Int) (dnM K m l) z = getK (0 : Int) m z - ((l.map K).count z : Nat) :=
  foldl_inv (fun m x => putK m (K x) (getK (0 : Int) m (K x) - 1)) (fun p s => (s.map Prod.fst).Nodup ∧ ∀ z, getK (0 : Int) s z = getK (0 : Int) m z - ((p.map K).count z : Nat)) m ⟨hm, fun z => by simp⟩ (fun p x h => ⟨putK_nodup h.1 _ _, fun z => by
    rw [getK_putK, List.map_append, List.count_append]
    by_cases hz : z = K x
    · subst hz; rw [if_pos rfl, h.2]; simp; omega
    · rw [if_neg hz, h.2]; simp [List.count_cons, Ne.symm hz]⟩) _ l rfl
theorem upM_bnd (K : Int → Int) {l : List Int} (h : l.length ≤ 17592186044416) (z : Int) : -17592186044416 ≤ getK (0 : Int) (upM K [] l) z ∧ getK (0 : Int) (upM K [] l) z ≤ 17592186044416 := by
  rw [(upM_spec K [] List.nodup_nil l).2]
  have := List.count_le_length (a := z) (l := l.map K)
  rw [List.length_map] at this
  simp only [getK]; omega
theorem dnM_bnd (K : Int → Int) {l l' : List Int} (h : l.length ≤ 17592186044416) (h' : l'.length ≤ 17592186044416) (z : Int) : -17592186044416 ≤ getK (0 : Int) (dnM K (upM K [] l) l') z ∧ getK (0 : Int) (dnM K (upM K [] l) l') z ≤ 17592186044416 := by
  rw [(dnM_spec K _ (upM_spec K [] List.nodup_nil l).1 l').2, (upM_spec K [] List.nodup_nil l).2]
  have := List.count_le_length (a := z) (l := l.map K)
  have h2 := List.count_le_length (a := z) (l := l'.map K)
  rw [List.length_map] at this h2
  simp only [getK]; omega
theorem add1_in {g : Int} (h : -17592186044416 ≤ g ∧ g ≤ 17592186044416) : -9223372036854775808 ≤ g + 1 ∧ g + 1 ≤ 9223372036854775807 := by omega
theorem sub1_in {g : Int} (h : -17592186044416 ≤ g ∧ g ≤ 17592186044416) : -9223372036854775808 ≤ g - 1 ∧ g - 1 ≤ 9223372036854775807 := by omega
theorem getK_mem {β : Type} {z : β} {k : Int} {v : β} : ∀ {l : List (Int × β)}, (l.map Prod.fst).Nodup → (k, v) ∈ l → getK z l k = v
  | p :: l, hn, h => by
    rw [List.map_cons, List.nodup_cons] at hn
    unfold getK
    rcases List.mem_cons.1 h with e | e
    · subst e; simp
    · rw [if_neg, getK_mem hn.2 e]
      intro e2; exact hn.1 (by rw [e2]; exact List.mem_map_of_mem (f := Prod.fst) e)
theorem getK_zero {l : List (Int × Int)} (h : ∀ p ∈ l, p.2 = 0) (k : Int) : getK (0 : Int) l k = 0 := by
  induction l with
  | nil => rfl
  | cons p l ih =>
    unfold getK; split
    · exact h p (by simp)
    · exact ih fun q hq => h q (by simp [hq])
theorem em_no {K : Int → Int} {l l' : List Int} {k u : Int} (h : (k, u) ∈ dnM K (upM K [] l) l') (hu : ¬ u = 0) : (l.map K).isPerm (l'.map K) = false := by
  cases hp : (l.map K).isPerm (l'.map K) with
  | false => rfl
  | true =>
    exfalso
    have h2 := (List.perm_iff_count.1 (List.isPerm_iff.1 hp)) k
    have hs := dnM_spec K _ (upM_spec K [] List.nodup_nil l).1 l'
    have h3 := hs.2 k
    rw [getK_mem hs.1 h, (upM_spec K [] List.nodup_nil l).2] at h3
    simp only [getK] at h3
    omega
theorem em_yes {K : Int → Int} {l l' : List Int} {p : List (Int × Int)} (hp : p.Perm (dnM K (upM K [] l) l')) (h0 : ∀ z ∈ p, z.2 = 0) : (l.map K).isPerm (l'.map K) = true := by
  rw [List.isPerm_iff, List.perm_iff_count]
  intro a
  have hs := dnM_spec K _ (upM_spec K [] List.nodup_nil l).1 l'
  have h3 := hs.2 a
  rw [getK_zero (fun z hz => h0 z (hp.symm.subset hz)), (upM_spec K [] List.nodup_nil l).2] at h3
  simp only [getK] at h3
  omega
theorem em_len {K : Int → Int} {l l' : List Int} (h : ¬ l.length = l'.length) : (l.map K).isPerm (l'.map K) = false := by
  cases hp : (l.map K).isPerm (l'.map K) with
  | false => rfl
  | true => exact absurd (by have := (List.isPerm_iff.1 hp).length_eq; simpa using this) h
theorem em_nil {K : Int → Int} {l l' : List Int} (h : l.length = 0) (h' : l'.length = 0) : (l.map K).isPerm (l'.map K) = true := by
  have := List.eq_nil_of_length_eq_zero h; subst this; have := List.eq_nil_of_length_eq_zero h'; subst this; rfl
theorem snoc_nodup {p : List (Int × Int)} {k u : Int} (h : (p.map Prod.fst).Nodup) (hk : k ∉ p.map Prod.fst) : ((p ++ [(k, u)]).map Prod.fst).Nodup := by
  rw [List.map_append]
  exact List.nodup_append.2 ⟨h, by simp, fun a ha b hb => by simp at hb; subst hb; intro e; subst e; exact hk ha⟩
theorem snoc_sub {p m : List (Int × Int)} {k u : Int} (h : ∀ z ∈ p, z ∈ m) (hk : (k, u) ∈ m) : ∀ z ∈ p ++ [(k, u)], z ∈ m := by
  intro z hz; rcases List.mem_append.1 hz with e | e
  · exact h z e
  · simp at e; rw [e]; exact hk
theorem snoc_zero {p : List (Int × Int)} {k u : Int} (h : ∀ z ∈ p, z.2 = 0) (hk : u = 0) : ∀ z ∈ p ++ [(k, u)], z.2 = 0 := by
  intro z hz; rcases List.mem_append.1 hz with e | e
  · exact h z e
  · simp at e; rw [e]; exact hk

theorem same_perm : ∀ {a b : List Int}, a.length = b.length → (∀ x ∈ a, a.count x = b.count x) → a.Perm b
  | [], b, h, _ => by have := List.eq_nil_of_length_eq_zero (l := b) (by simpa using h.symm); subst this; exact List.Perm.nil
  | x :: a, b, h, hc => by
    have hx : x ∈ b := by
      have := hc x (by simp)
      rw [List.count_cons_self] at this
      exact List.count_pos_iff.1 (by omega)
    have hp := List.perm_cons_erase hx
    refine List.Perm.trans ?_ hp.symm
    refine (same_perm ?_ fun y hy => ?_).cons x
    · have := hp.length_eq; simp at this h; omega
    · have h1 := hc y (by simp [hy])
      have h2 := hp.count_eq y
      rw [List.count_cons] at h1 h2
      omega
theorem same_isPerm (a b : List Int) : decide (a.length = b.length ∧ ∀ x ∈ a, a.count x = b.count x) = a.isPerm b := by
  rw [Bool.eq_iff_iff, decide_eq_true_eq, List.isPerm_iff]
  exact ⟨fun h => same_perm h.1 h.2, fun h => ⟨h.length_eq, fun x _ => h.count_eq x⟩⟩
theorem count_setI (l : List Int) (i : Nat) (a b u : Int) (h : l[i]? = some u) : ((l.set i a).count b : Int) = l.count b - (if u = b then 1 else 0) + (if a = b then 1 else 0) := by
  obtain ⟨hi, hu⟩ := List.getElem?_eq_some_iff.1 h
  rw [List.count_set hi, hu]
  have h3 : ¬ u = b ∨ 1 ≤ l.count b := by
    by_cases e : u = b
    · right; exact List.count_pos_iff.2 (by rw [← e]; exact List.mem_of_getElem? h)
    · left; exact e
  by_cases h1 : u = b
  · by_cases h2 : a = b
    · simp [h1, h2]; omega
    · simp [h1, h2]; omega
  · by_cases h2 : a = b
    · simp [h1, h2]
    · simp [h1, h2]
theorem tmod_u8 {x : Int} {n : Nat} (h : 0 ≤ x) : Int.tmod x (n : Int) = ((x.toNat % n : Nat) : Int) := by
  obtain ⟨m, rfl⟩ : ∃ m : Nat, x = m := ⟨x.toNat, by omega⟩
  rw [Int.toNat_natCast]; rfl
theorem key0_map {l : List Int} (h : ∀ x ∈ l, -9223372036854775808 ≤ x ∧ x ≤ 9223372036854775807) : l.map (fun x => keyAt 0 0 x 0) = l := by
  have : ∀ x ∈ l, (fun x => keyAt 0 0 x 0) x = id x := fun x hx => by simp only [keyAt, if_true, Int.add_zero]; exact w64_in (h x hx)
  rw [List.map_congr_left this]; simp
theorem swap_perm {p l : List Int} {i j : Nat} {u v : Int} (h : p.Perm l) (hi : p[i]? = some u) (hj : p[j]? = some v) : ((p.set i v).set j u).Perm l := by
  refine List.Perm.trans (List.perm_iff_count.2 fun b => ?_) h
  have h2 : (p.set i v)[j]? = some v := by
    rw [List.getElem?_set]; split
    · rw [if_pos (by rename_i e; have := (List.getElem?_eq_some_iff.1 hj).1; omega)]
    · exact hj
  have e1 := count_setI (p.set i v) j u b v h2
  have e2 := count_setI p i v b u hi
  omega

def meanI (l : List Int) : Int := if l.length = 0 then 0 else IntKind.i64.wrap (Int.tdiv (w64 l.sum) (l.length : Int))
/-! ## what stands most often -/
abbrev upI (l : List Int) : List (Int × Int) := upM (fun x => x) [] l
def moN (p : List Int) (x : Int) : Int := getK (0 : Int) (putK (upI p) x (getK (0 : Int) (upI p) x + 1)) x
theorem upI_get (p : List Int) (z : Int) : getK (0 : Int) (upI p) z = (p.count z : Nat) := by
  rw [(upM_spec (fun x => x) [] List.nodup_nil p).2]; simp [getK]
theorem moN_eq (p : List Int) (x : Int) : moN p x = (p.count x : Nat) + 1 := by unfold moN; rw [getK_putK, if_pos rfl, upI_get]
theorem upI_app (p : List Int) (x : Int) : upI (p ++ [x]) = putK (upI p) x (getK (0 : Int) (upI p) x + 1) := upM_app _ _ _ _
def moS (s : List Int × Int × List Int) (x : Int) : List Int × Int × List Int :=
  (s.1 ++ [x], if s.2.1 < moN s.1 x then (moN s.1 x, [x]) else if moN s.1 x = s.2.1 then (s.2.1, s.2.2 ++ [x]) else s.2)
def mo (l : List Int) : Int × List Int := (l.foldl moS ([], 0, [])).2
theorem mo_fst (l : List Int) : (l.foldl moS ([], 0, [])).1 = l :=
  foldl_inv moS (fun p s => s.1 = p) ([], 0, []) rfl (fun p x h => by show _ ++ [x] = _; rw [h]) _ l rfl
theorem mo_app (p : List Int) (x : Int) : mo (p ++ [x]) = if (mo p).1 < moN p x then (moN p x, [x]) else if moN p x = (mo p).1 then ((mo p).1, (mo p).2 ++ [x]) else mo p := by
  have e : (p ++ [x]).foldl moS ([], 0, []) = moS (p.foldl moS ([], 0, [])) x := by simp
  have h := mo_fst p
  unfold mo; rw [e]
  clear e
  generalize p.foldl moS ([], 0, []) = s at h ⊢
  subst h; rfl
theorem mo_yes {p : List Int} {x : Int} (h : (mo p).1 < moN p x) : mo (p ++ [x]) = (moN p x, [x]) := by rw [mo_app, if_pos h]
theorem mo_eq {p : List Int} {x : Int} (h : moN p x = (mo p).1) : mo (p ++ [x]) = ((mo p).1, (mo p).2 ++ [x]) := by rw [mo_app, if_neg (by omega), if_pos h]
theorem mo_no {p : List Int} {x : Int} (h : ¬ (mo p).1 < moN p x) (h2 : ¬ moN p x = (mo p).1) : mo (p ++ [x]) = mo p := by rw [mo_app, if_neg h, if_neg h2]
theorem mo_takes {l : List Int} {k : Nat} {x : Int} (h : l[k]? = some x) : mo (l.take (k + 1)) = mo (l.take k ++ [x]) := by rw [(take_s h).1]
theorem upI_takes {l : List Int} {k : Nat} {x : Int} (h : l[k]? = some x) : upI (l.take (k + 1)) = putK (upI (l.take k)) x (getK (0 : Int) (upI (l.take k)) x + 1) := by rw [(take_s h).1, upI_app]
theorem count_snoc (p : List Int) (x z : Int) : (p ++ [x]).count z = p.count z + if x = z then 1 else 0 := by
  rw [List.count_append]; by_cases h : x = z <;> simp [List.count_cons, h]
theorem mo_spec (l : List Int) : (∀ x, (l.count x : Int) ≤ (mo l).1) ∧ (∀ x, x ∈ (mo l).2 ↔ ((l.count x : Int) = (mo l).1 ∧ 0 < l.count x)) ∧ (mo l).2.Nodup := by
  have h := foldl_inv moS (fun p s => s.2 = mo p ∧ (∀ x, (p.count x : Int) ≤ (mo p).1) ∧ (∀ x, x ∈ (mo p).2 ↔ ((p.count x : Int) = (mo p).1 ∧ 0 < p.count x)) ∧ (mo p).2.Nodup) ([], 0, [])
    ⟨rfl, fun x => by simp [mo], fun x => by simp [mo], by simp [mo]⟩ (fun p x ⟨_, h1, h2, h3⟩ => by
      refine ⟨?_, ?_, ?_, ?_⟩
      · have e : (p ++ [x]).foldl moS ([], 0, []) = moS (p.foldl moS ([], 0, [])) x := by simp
        unfold mo; rw [e]
      all_goals
        rw [mo_app]
        have hn := moN_eq p x
        have hx := h1 x
        by_cases c1 : (mo p).1 < moN p x
        · rw [if_pos c1]
          first
          | (intro z; rw [count_snoc]; have hz := h1 z; show _ ≤ moN p x; by_cases e : x = z
             · subst e; rw [if_pos rfl]; omega
             · rw [if_neg e]; omega)
          | (intro z; rw [count_snoc]; have hz := h1 z; show z ∈ [x] ↔ _ = moN p x ∧ _; rw [List.mem_singleton]; by_cases e : x = z
             · subst e; rw [if_pos rfl]; constructor
               · intro _; omega
               · intro _; rfl
             · rw [if_neg e]; constructor
               · intro e2; exact absurd e2.symm e
               · intro ⟨h4, _⟩; omega)
          | (show ([x] : List Int).Nodup; simp)
        · rw [if_neg c1]
          by_cases c2 : moN p x = (mo p).1
          · rw [if_pos c2]
            first
            | (intro z; rw [count_snoc]; have hz := h1 z; show _ ≤ (mo p).1; by_cases e : x = z
               · subst e; rw [if_pos rfl]; omega
               · rw [if_neg e]; omega)
            | (intro z; rw [count_snoc]; have hz := h1 z; show z ∈ (mo p).2 ++ [x] ↔ _ = (mo p).1 ∧ _; rw [List.mem_append, List.mem_singleton, h2 z]; by_cases e : x = z
               · subst e; rw [if_pos rfl]; constructor
                 · intro _; omega
                 · intro _; right; rfl
               · rw [if_neg e]; constructor
                 · rintro (h4 | h4)
                   · exact ⟨by omega, by omega⟩
                   · exact absurd h4.symm e
                 · intro h4; left; exact ⟨by omega, by omega⟩)
            | (show ((mo p).2 ++ [x]).Nodup
               rw [List.nodup_append]
               refine ⟨h3, by simp, fun a ha b hb => ?_⟩
               simp at hb; subst hb
               intro e; subst e
               have := (h2 a).1 ha
               omega)
          · rw [if_neg c2]
            first
            | (intro z; rw [count_snoc]; have hz := h1 z; by_cases e : x = z
               · subst e; rw [if_pos rfl]; omega
               · rw [if_neg e]; omega)
            | (intro z; rw [count_snoc, h2 z]; by_cases e : x = z
               · subst e; rw [if_pos rfl]; constructor
                 · intro ⟨h4, _⟩; omega
                 · intro ⟨h4, _⟩; omega
               · rw [if_neg e]; simp)
            | exact h3) _ l rfl
  exact ⟨h.2.1, h.2.2.1, h.2.2.2⟩
theorem mo_len (l : List Int) : (mo l).2.length ≤ l.length := by
  have h := foldl_inv moS (fun p s => s.2 = mo p ∧ (mo p).2.length ≤ p.length) ([], 0, []) ⟨rfl, Nat.le_refl _⟩ (fun p x ⟨_, h1⟩ => by
    refine ⟨?_, ?_⟩
    · have e : (p ++ [x]).foldl moS ([], 0, []) = moS (p.foldl moS ([], 0, [])) x := by simp
      unfold mo; rw [e]
    · rw [mo_app]; split
      · simp
      · split <;> simp <;> omega) _ l rfl
  exact h.2

/-! ## a set, as a rising list -/
def insU (x : Int) (l : List Int) : List Int := l.takeWhile (fun y => decide (y < x)) ++ (if x ∈ l then [] else [x]) ++ l.dropWhile (fun y => decide (y < x))
def setI (l : List Int) : List Int := l.foldl (fun s x => insU x s) []
def SortedU (l : List Int) : Prop := l.Pairwise (· < ·)
theorem setI_app (l : List Int) (x : Int) : setI (l ++ [x]) = insU x (setI l) := by simp [setI]
theorem setI_take {l : List Int} {k : Nat} {x : Int} (h : l[k]? = some x) : setI (l.take (k + 1)) = insU x (setI (l.take k)) := by rw [(take_s h).1, setI_app]
theorem insU_same {x : Int} {l : List Int} (h : x ∈ l) : insU x l = l := by
  unfold insU; rw [if_pos h, List.append_nil, List.takeWhile_append_dropWhile]
theorem insU_at {x v : Int} {l : List Int} {j : Nat} (h : l[j]? = some v) (hne : ¬ v ≠ x) : insU x l = l := by
  have e : v = x := Decidable.not_not.1 hne
  subst e
  exact insU_same (List.mem_of_getElem? h)
theorem insU_mem {x z : Int} {l : List Int} : z ∈ insU x l ↔ z = x ∨ z ∈ l := by
  by_cases h : x ∈ l
  · rw [insU_same h]; constructor
    · exact .inr
    · rintro (rfl | h2); exact h; exact h2
  · unfold insU; rw [if_neg h]
    have e : l = l.takeWhile (fun y => decide (y < x)) ++ l.dropWhile (fun y => decide (y < x)) := (List.takeWhile_append_dropWhile).symm
    conv => rhs; rw [e]
    simp only [List.mem_append, List.mem_singleton]
    constructor
    · rintro ((h1 | h1) | h1); exact .inr (.inl h1); exact .inl h1; exact .inr (.inr h1)
    · rintro (h1 | h1 | h1); exact .inl (.inr h1); exact .inl (.inl h1); exact .inr h1
theorem insU_len (x : Int) (l : List Int) : (insU x l).length ≤ l.length + 1 := by
  have := congrArg List.length (List.takeWhile_append_dropWhile (p := fun y => decide (y < x)) (l := l))
  rw [List.length_append] at this
  unfold insU; simp only [List.length_append]; split <;> simp <;> omega
theorem insU_sorted {x : Int} {l : List Int} (h : SortedU l) : SortedU (insU x l) := by
  by_cases hx : x ∈ l
  · rw [insU_same hx]; exact h
  · unfold insU; rw [if_neg hx]
    unfold SortedU at h ⊢
    induction l with
    | nil => simp
    | cons a l ih =>
      have hx2 : x ∉ l := fun e => hx (by simp [e])
      rw [List.pairwise_cons] at h
      by_cases ha : a < x
      · simp only [List.takeWhile_cons, List.dropWhile_cons, ha, decide_true, if_true, List.cons_append, List.pairwise_cons]
        refine ⟨fun y hy => ?_, ih h.2 hx2⟩
        have e : l.takeWhile (fun y => decide (y < x)) ++ l.dropWhile (fun y => decide (y < x)) = l := List.takeWhile_append_dropWhile
        simp only [List.mem_append, List.mem_singleton] at hy
        rcases hy with (hy | hy) | hy
        · exact h.1 y (by rw [← e]; exact List.mem_append_left _ hy)
        · omega
        · exact h.1 y (by rw [← e]; exact List.mem_append_right _ hy)
      · have hne : x ≠ a := fun e => hx (by simp [e])
        simp only [List.takeWhile_cons, List.dropWhile_cons, ha, decide_false, Bool.false_eq_true, if_false, List.nil_append, List.singleton_append, List.pairwise_cons]
        refine ⟨fun y hy => ?_, h.1, h.2⟩
        rcases List.mem_cons.1 hy with rfl | hy
        · omega
        · have := h.1 y hy; omega
theorem setI_spec (l : List Int) : SortedU (setI l) ∧ (∀ z, z ∈ setI l ↔ z ∈ l) ∧ (setI l).length ≤ l.length :=
  foldl_inv (fun s x => insU x s) (fun p s => SortedU s ∧ (∀ z, z ∈ s ↔ z ∈ p) ∧ s.length ≤ p.length) [] ⟨List.Pairwise.nil, fun z => Iff.rfl, Nat.le_refl _⟩ (fun p x h => ⟨insU_sorted h.1, fun z => by rw [insU_mem, h.2.1, List.mem_append, List.mem_singleton]; exact Or.comm, by have := insU_len x (p.foldl (fun s x => insU x s) []); simp; omega⟩) _ l rfl
theorem SortedU.nodup {l : List Int} (h : SortedU l) : l.Nodup := List.Pairwise.imp (fun h => by omega) h
theorem SortedU.le {l : List Int} (h : SortedU l) : SortedI l := List.Pairwise.imp (fun h => by omega) h
theorem setI_eq {a b : List Int} (h : ∀ z, z ∈ a ↔ z ∈ b) : setI a = setI b := by
  have ha := setI_spec a
  have hb := setI_spec b
  refine sorted_eq ha.1.le hb.1.le ((List.perm_ext_iff_of_nodup ha.1.nodup hb.1.nodup).2 fun z => ?_)
  rw [ha.2.1, hb.2.1, h]
theorem split_at {p : Int → Bool} {s : List Int} {j : Nat} (h : ∀ y ∈ s.take j, p y = true) (h2 : s.length ≤ j ∨ ∃ v, s[j]? = some v ∧ p v = false) : s.takeWhile p = s.take j ∧ s.dropWhile p = s.drop j := by
  induction s generalizing j with
  | nil => simp
  | cons a s ih =>
    cases j with
    | zero =>
      rcases h2 with h2 | ⟨v, hv, hn⟩
      · simp at h2
      · have : a = v := by simpa using hv
        subst this
        simp [List.takeWhile_cons, List.dropWhile_cons, hn]
    | succ j =>
      have ha : p a = true := h a (by simp)
      have := ih (j := j) (fun y hy => h y (by simp [hy])) (by
        rcases h2 with h2 | ⟨v, hv, hn⟩
        · left; simp at h2; omega
        · right; exact ⟨v, by simpa using hv, hn⟩)
      simp [List.takeWhile_cons, List.dropWhile_cons, ha, this.1, this.2]
theorem set_at {s : List Int} {x : Int} {j : Nat} (hs : SortedU s) (h : ∀ y ∈ s.take j, y < x) (h2 : s.length ≤ j ∨ ∃ v, s[j]? = some v ∧ ¬ v < x ∧ ¬ v = x) : s.take j ++ [x] ++ s.drop j = insU x s := by
  obtain ⟨e1, e2⟩ := split_at (p := fun y => decide (y < x)) (fun y hy => decide_eq_true (h y hy)) (by
    rcases h2 with h2 | ⟨v, hv, hn, _⟩
    · exact .inl h2
    · exact .inr ⟨v, hv, decide_eq_false hn⟩)
  have hx : x ∉ s := by
    intro hx
    rw [← List.take_append_drop j s, List.mem_append] at hx
    rcases hx with hx | hx
    · have := h x hx; omega
    · rcases h2 with h2 | ⟨v, hv, hn, hn2⟩
      · rw [List.drop_of_length_le h2] at hx; cases hx
      · have hj := (List.getElem?_eq_some_iff.1 hv).1
        have hd : s.drop j = v :: s.drop (j + 1) := by rw [List.drop_eq_getElem_cons hj, (List.getElem?_eq_some_iff.1 hv).2]
        rw [hd] at hx
        rcases List.mem_cons.1 hx with e | hx
        · exact hn2 e.symm
        · have hp : (s.drop j).Pairwise (· < ·) := List.Pairwise.sublist (List.drop_sublist _ _) hs
          rw [hd, List.pairwise_cons] at hp
          have := hp.1 x hx; omega
  unfold insU; rw [if_neg hx, e1, e2]
theorem set_bubble {s : List Int} {x : Int} {i : Nat} (hs : SortedU s) (hx : x ∉ s) (h : ∀ y ∈ s.drop i, x < y) (hi : i ≤ s.length) (h2 : i = 0 ∨ ∃ v, s[i - 1]? = some v ∧ ¬ x < v) : s.take i ++ [x] ++ s.drop i = insU x s := by
  refine set_at hs (fun y hy => ?_) ?_
  · rcases h2 with h2 | ⟨v, hv, hn⟩
    · subst h2; simp at hy
    · obtain ⟨m, hm⟩ := List.mem_iff_getElem?.1 hy
      have hm1 := (List.getElem?_eq_some_iff.1 hm).1
      rw [List.length_take] at hm1
      rw [List.getElem?_take_of_lt (by omega)] at hm
      have hy2 := (List.getElem?_eq_some_iff.1 hm).2
      have hv2 := (List.getElem?_eq_some_iff.1 hv).2
      have hyv : y ≤ v := by
        by_cases e : m = i - 1
        · subst e; rw [hy2] at hv2; omega
        · have := List.pairwise_iff_getElem.1 hs m (i - 1) (by omega) (by omega) (by omega)
          rw [hy2, hv2] at this; omega
      have : y ≠ x := fun e => hx (by rw [← e]; exact List.mem_of_getElem? hm)
      omega
  · by_cases hl : s.length ≤ i
    · exact .inl hl
    · right
      refine ⟨s[i], List.getElem?_eq_getElem (by omega), ?_⟩
      have := h s[i] (by rw [List.drop_eq_getElem_cons (by omega)]; exact List.mem_cons_self ..)
      exact ⟨by omega, by omega⟩
def mxc (l p : List Int) : Nat := p.foldl (fun m x => max m (l.count x)) 0
theorem mxc_take {l p : List Int} {k : Nat} {x : Int} (h : p[k]? = some x) : mxc l (p.take (k + 1)) = max (mxc l (p.take k)) (l.count x) := by rw [(take_s h).1]; simp [mxc]
theorem mxc_spec (l p : List Int) : (∀ x ∈ p, l.count x ≤ mxc l p) ∧ (mxc l p = 0 ∨ ∃ x ∈ p, mxc l p = l.count x) :=
  foldl_inv (fun m x => max m (l.count x)) (fun p m => (∀ x ∈ p, l.count x ≤ m) ∧ (m = 0 ∨ ∃ x ∈ p, m = l.count x)) 0 ⟨fun x hx => (by cases hx), .inl rfl⟩ (fun p x h => by
    refine ⟨fun y hy => ?_, ?_⟩
    · rcases List.mem_append.1 hy with hy | hy
      · have := h.1 y hy; omega
      · simp at hy; subst hy; omega
    · by_cases hc : p.foldl (fun m x => max m (l.count x)) 0 ≤ l.count x
      · right; exact ⟨x, by simp, by omega⟩
      · rcases h.2 with h2 | ⟨y, hy, h2⟩
        · omega
        · right; exact ⟨y, by simp [hy], by omega⟩) _ p rfl
def modeS (l : List Int) : List Int := (setI l).filter fun x => decide (l.count x = mxc l l)
theorem mo_att (l : List Int) : l = [] ∨ ∃ x, x ∈ l ∧ (l.count x : Int) = (mo l).1 := by
  have h := foldl_inv moS (fun p s => s.2 = mo p ∧ (p = [] ∨ ∃ x, x ∈ p ∧ (p.count x : Int) = (mo p).1)) ([], 0, []) ⟨rfl, .inl rfl⟩ (fun p x ⟨_, h⟩ => by
    refine ⟨?_, ?_⟩
    · have e : (p ++ [x]).foldl moS ([], 0, []) = moS (p.foldl moS ([], 0, [])) x := by simp
      unfold mo; rw [e]
    · right
      rw [mo_app]
      have hn := moN_eq p x
      by_cases c1 : (mo p).1 < moN p x
      · rw [if_pos c1]; exact ⟨x, by simp, by rw [count_snoc, if_pos rfl]; show _ = moN p x; omega⟩
      · rw [if_neg c1]
        by_cases c2 : moN p x = (mo p).1
        · rw [if_pos c2]; exact ⟨x, by simp, by rw [count_snoc, if_pos rfl]; show _ = (mo p).1; omega⟩
        · rw [if_neg c2]
          rcases h with h | ⟨y, hy, h⟩
          · subst h; exact absurd c1 (by simp [mo] at *; omega)
          · have hyx : ¬ x = y := by intro e; subst e; omega
            exact ⟨y, by simp [hy], by rw [count_snoc, if_neg hyx]; exact h⟩) _ l rfl
  exact h.2
theorem mo_mem (l : List Int) (z : Int) : z ∈ (mo l).2 ↔ z ∈ modeS l := by
  unfold modeS
  rw [List.mem_filter, (setI_spec l).2.1, (mo_spec l).2.1 z, decide_eq_true_eq]
  have h1 := (mo_spec l).1
  have h2 := mxc_spec l l
  rw [List.count_pos_iff]
  constructor
  · intro ⟨h3, h4⟩
    refine ⟨h4, ?_⟩
    have h5 := h2.1 z h4
    rcases h2.2 with h6 | ⟨y, hy, h6⟩
    · omega
    · have := h1 y; omega
  · intro ⟨h3, h4⟩
    refine ⟨?_, h3⟩
    rcases mo_att l with h5 | ⟨y, hy, h5⟩
    · subst h5; cases h3
    · have := h2.1 y hy
      have := h1 z
      omega
theorem mo_modeS (l : List Int) : setI (mo l).2 = setI (modeS l) ∧ (mo l).2.length = (modeS l).length := by
  refine ⟨setI_eq (mo_mem l), ?_⟩
  exact ((List.perm_ext_iff_of_nodup (mo_spec l).2.2 (List.Pairwise.sublist List.filter_sublist (setI_spec l).1.nodup)).2 (mo_mem l)).length_eq
theorem mode_le {l : List Int} {k : Nat} {x y : Int} (hx : (mo l).2[k]? = some x) : ¬ ((l.count x : Nat) : Int) < ((l.count y : Nat) : Int) := by
  have h1 := ((mo_spec l).2.1 x).1 (List.mem_of_getElem? hx)
  have h2 := (mo_spec l).1 y
  omega
theorem filt_take {p : Int → Bool} {l : List Int} {k : Nat} {x : Int} (h : l[k]? = some x) : (l.take (k + 1)).filter p = (l.take k).filter p ++ (if p x then [x] else []) := by
  rw [(take_s h).1, List.filter_append]; cases hp : p x <;> simp [hp]
theorem bubble_step {s : List Int} {x v : Int} {i : Nat} (h0 : 0 < i) (hi : i ≤ s.length) (hv : s[i - 1]? = some v) : s.take (i - 1) ++ [x] ++ s.drop (i - 1) = ((s.take i ++ [x] ++ s.drop i).set i v).set (i - 1) x := by
  obtain ⟨m, rfl⟩ : ∃ m, i = m + 1 := ⟨i - 1, by omega⟩
  simp only [Nat.add_sub_cancel] at hv ⊢
  have hm := (List.getElem?_eq_some_iff.1 hv).1
  have e1 : s.take (m + 1) = s.take m ++ [v] := take_snoc hv
  have e2 : s.drop m = v :: s.drop (m + 1) := by rw [List.drop_eq_getElem_cons hm, (List.getElem?_eq_some_iff.1 hv).2]
  rw [e1, e2]
  have hl : (s.take m).length = m := by rw [List.length_take]; omega
  simp [List.set_append, hl]

theorem setI_take' {l : List Int} {k : Nat} {x : Int} (h : l[k]? = some x) : setI (l.take (k + 1)) = insU (l[k]?.getD 0) (setI (l.take k)) := by rw [setI_take h, h]; rfl
theorem bub_at {s : List Int} {x v : Int} {i : Nat} (hi : i ≤ s.length) (h : (s.take i ++ [x] ++ s.drop i)[i]? = some v) : v = x := by
  rw [List.append_assoc, List.getElem?_append_right (by rw [List.length_take]; omega), List.length_take, Nat.min_eq_left hi, Nat.sub_self] at h
  simpa using h.symm
theorem bub_left {s : List Int} {x v : Int} {i : Nat} (h0 : 0 < i) (hi : i ≤ s.length) (h : (s.take i ++ [x] ++ s.drop i)[i - 1]? = some v) : s[i - 1]? = some v := by
  rw [List.append_assoc, List.getElem?_append_left (by rw [List.length_take]; omega), List.getElem?_take_of_lt (by omega)] at h
  exact h
theorem drop_bub {s : List Int} {x v : Int} {i : Nat} (h : ∀ y ∈ s.drop i, x < y) (h0 : 0 < i) (hi : i ≤ s.length) (hv : s[i - 1]? = some v) (hlt : x < v) : ∀ y ∈ s.drop (i - 1), x < y := by
  obtain ⟨m, rfl⟩ : ∃ m, i = m + 1 := ⟨i - 1, by omega⟩
  simp only [Nat.add_sub_cancel] at hv ⊢
  have hm := (List.getElem?_eq_some_iff.1 hv).1
  rw [List.drop_eq_getElem_cons hm, (List.getElem?_eq_some_iff.1 hv).2]
  intro y hy
  rcases List.mem_cons.1 hy with rfl | hy
  · exact hlt
  · exact h y hy

instance (l : List Int) : Decidable (SortedI l) := inferInstanceAs (Decidable (l.Pairwise (· ≤ ·)))
theorem asc_step {l : List Int} {k : Nat} {a b : Int} (h : SortedI (l.take (k + 1))) (ha : l[k]? = some a) (hb : l[k + 1]? = some b) (hab : a ≤ b) : SortedI (l.take (k + 1 + 1)) := by
  have e1 : l.take (k + 1) = l.take k ++ [a] := take_snoc ha
  have e2 : l.take (k + 1 + 1) = l.take (k + 1) ++ [b] := take_snoc hb
  unfold SortedI at h ⊢
  rw [e2, List.pairwise_append]
  refine ⟨h, by simp, fun y hy z hz => ?_⟩
  simp at hz; subst hz
  rw [e1] at h hy
  rw [List.pairwise_append] at h
  rcases List.mem_append.1 hy with hy | hy
  · have := h.2.2 y hy a (by simp); omega
  · simp at hy; omega
theorem asc_no {l : List Int} {k : Nat} {a b : Int} (ha : l[k]? = some a) (hb : l[k + 1]? = some b) (hab : ¬ a ≤ b) : ¬ SortedI l := by
  intro h
  obtain ⟨h1, e1⟩ := List.getElem?_eq_some_iff.1 ha
  obtain ⟨h2, e2⟩ := List.getElem?_eq_some_iff.1 hb
  have := List.pairwise_iff_getElem.1 h k (k + 1) h1 h2 (by omega)
  rw [e1, e2] at this; exact hab this
theorem asc_one {l : List Int} {k : Nat} (h : k ≤ 1) : SortedI (l.take k) := by
  match k, h with
  | 0, _ => simp [SortedI]
  | 1, _ => cases l <;> simp [SortedI]
theorem asc_all {l : List Int} {k : Nat} (h : SortedI (l.take k)) (hk : l.length ≤ k) : SortedI l := by rwa [List.take_of_length_le hk] at h
theorem asc_snoc {p : List Int} {x : Int} (h : SortedI p) (hx : p = [] ∨ p.getLastD 0 ≤ x) : SortedI (p ++ [x]) := by
  unfold SortedI at h ⊢
  rw [List.pairwise_append]
  refine ⟨h, by simp, fun y hy z hz => ?_⟩
  simp at hz; subst hz
  rcases hx with hx | hx
  · subst hx; cases hy
  · obtain ⟨q, a, rfl⟩ : ∃ q a, p = q ++ [a] := ⟨p.dropLast, p.getLast (by intro e; subst e; cases hy), (List.dropLast_concat_getLast _).symm⟩
    rw [getLastD_append1] at hx
    rw [List.pairwise_append] at h
    rcases List.mem_append.1 hy with hy | hy
    · have := h.2.2 y hy a (by simp); omega
    · simp at hy; omega
theorem asc_bad {p l : List Int} {x : Int} (h : p ++ [x] <+: l) (hne : ¬ p = []) (hx : ¬ p.getLastD 0 ≤ x) : ¬ SortedI l := by
  obtain ⟨r, rfl⟩ := h
  obtain ⟨q, a, rfl⟩ : ∃ q a, p = q ++ [a] := ⟨p.dropLast, p.getLast hne, (List.dropLast_concat_getLast _).symm⟩
  rw [getLastD_append1] at hx
  intro h2
  unfold SortedI at h2
  rw [List.pairwise_append, List.pairwise_append] at h2
  exact hx (h2.1.2.2 a (by simp) x (by simp))
-- S{
theorem srtM_sorted (l : List Int) : SortedI (srtM l) := by
  have := List.pairwise_mergeSort (le := fun x y : Int => decide (x ≤ y)) (fun a b c h1 h2 => by simp at *; omega) (fun a b => by simp; omega) l
  exact List.Pairwise.imp (fun h => by simpa using h) this
theorem srtM_perm (l : List Int) : (srtM l).Perm l := List.mergeSort_perm ..
theorem srtM_perm_eq {a b : List Int} (h : a.Perm b) : srtM a = srtM b := sorted_eq (srtM_sorted a) (srtM_sorted b) ((srtM_perm a).trans (h.trans (srtM_perm b).symm))
-- }S
theorem sortI_asc (l : List Int) : decide (l = sortI l) = decide (SortedI l) := by
  rw [decide_eq_decide]
  constructor
  · intro h; rw [h]; exact sortI_sorted l
  · intro h; exact sorted_eq h (sortI_sorted l) (sortI_perm l).symm

theorem map_at {f : Int → Int} {l : List Int} {k : Nat} {x : Int} (h : l[k]? = some x) : (l.map f)[k]? = some (f x) := by rw [List.getElem?_map, h]; rfl
theorem map_pre {f : Int → Int} {p l : List Int} {x : Int} (h : p ++ [x] <+: l) : p.map f ++ [f x] <+: l.map f := by have := h.map f; simpa using this

theorem keyL_le' (l : List Int) : (keyL l).length ≤ l.length :=
  foldl_inv addS (fun p s => s.length ≤ p.length) [] (Nat.le_refl _) (fun p x h => by
    generalize p.foldl addS [] = s at h ⊢
    unfold addS; split
    · simp; omega
    · simp; omega) _ l rfl
theorem asc_iff {l : List Int} {k : Nat} {a b : Int} (h : SortedI (l.take (k + 1))) (ha : l[k]? = some a) (hb : l[k + 1]? = some b) : decide (a ≤ b) = decide (SortedI (l.take (k + 1 + 1))) := by
  rw [decide_eq_decide]
  have e2 : l.take (k + 1 + 1) = l.take (k + 1) ++ [b] := take_snoc hb
  constructor
  · exact asc_step h ha hb
  · intro h2
    by_cases c : a ≤ b
    · exact c
    · have hl := (List.getElem?_eq_some_iff.1 hb).1
      exact absurd h2 (asc_no (k := k) (a := a) (b := b) (by rw [List.getElem?_take_of_lt (by omega)]; exact ha) (by rw [List.getElem?_take_of_lt (by omega)]; exact hb) c)
theorem asc_stay {l : List Int} {k : Nat} {b : Int} (h : ¬ SortedI (l.take (k + 1))) (hk : k + 1 < l.length) : false = decide (SortedI (l.take (k + 1 + 1))) := by
  refine (decide_eq_false fun h2 => h ?_).symm
  have e2 : l.take (k + 1 + 1) = l.take (k + 1) ++ [l[k + 1]] := take_snoc (List.getElem?_eq_getElem hk)
  unfold SortedI at h2 ⊢
  rw [e2, List.pairwise_append] at h2
  exact h2.1

theorem snocN {p : List Int} {k : Int} (h : p.Nodup) (hk : k ∉ p) : (p ++ [k]).Nodup :=
  List.nodup_append.2 ⟨h, by simp, fun a ha b hb => by simp at hb; subst hb; intro e; subst e; exact hk ha⟩
theorem snocS {p m : List Int} {k : Int} (h : ∀ z ∈ p, z ∈ m) (hk : k ∈ m) : ∀ z ∈ p ++ [k], z ∈ m := by
  intro z hz; rcases List.mem_append.1 hz with e | e
  · exact h z e
  · simp at e; rw [e]; exact hk

theorem keyL_in {l : List Int} {k : Nat} {x : Int} (h : l[k]? = some x) (hx : x ∈ keyL (l.take k)) : keyL (l.take (k + 1)) = keyL (l.take k) := by rw [keyL_succ h]; unfold addS; rw [if_pos hx]
theorem keyL_out {l : List Int} {k : Nat} {x : Int} (h : l[k]? = some x) (hx : ¬ x ∈ keyL (l.take k)) : keyL (l.take (k + 1)) = keyL (l.take k) ++ [x] := by rw [keyL_succ h]; unfold addS; rw [if_neg hx]

theorem keyL_snoc_in {l : List Int} {y : Int} (h : y ∈ keyL l) : keyL (l ++ [y]) = keyL l := by
  unfold keyL at *; rw [List.foldl_append]; show addS _ y = _
  generalize l.foldl addS [] = s at h ⊢
  unfold addS; rw [if_pos h]
theorem keyL_snoc_out {l : List Int} {y : Int} (h : ¬ y ∈ keyL l) : keyL (l ++ [y]) = keyL l ++ [y] := by
  unfold keyL at *; rw [List.foldl_append]; show addS _ y = _
  generalize l.foldl addS [] = s at h ⊢
  unfold addS; rw [if_neg h]
theorem keyL_snoc (l : List Int) (y : Int) : keyL (l ++ [y]) = addS (keyL l) y := by unfold keyL; rw [List.foldl_append]; rfl
theorem row_snoc {ll : List (List Int)} {k j : Nat} {x : List Int} {y : Int} (h : ll[k]? = some x) (hj : x[j]? = some y) : (ll.take k).flatten ++ (ll[k]?.getD []).take (j + 1) = ((ll.take k).flatten ++ (ll[k]?.getD []).take j) ++ [y] := by
  rw [h, List.append_assoc]; simp only [Option.getD_some]; rw [take_snoc hj]
theorem row_end {ll : List (List Int)} {k j : Nat} {x : List Int} (h : ll[k]? = some x) (hj : x.length ≤ j) : (ll.take (k + 1)).flatten = (ll.take k).flatten ++ (ll[k]?.getD []).take j := by
  rw [flatten_succ h, h]; simp only [Option.getD_some]; rw [List.take_of_length_le hj]
theorem keyU_le (ll : List (List Int)) (k j : Nat) : (keyL ((ll.take k).flatten ++ (ll[k]?.getD []).take j)).length ≤ total ll := by
  refine Nat.le_trans (keyL_le' _) ?_
  have h2 := total_take_le ll (k + 1)
  rw [List.length_append, flatten_len]
  cases h : ll[k]? with
  | none => have := total_take_le ll k; simp only [Option.getD_none, List.take_nil, List.length_nil]; omega
  | some x => rw [total_succ h] at h2; simp only [Option.getD_some, List.length_take]; omega
theorem keyF_le (ll : List (List Int)) (k : Nat) : (keyL (ll.take k).flatten).length ≤ total ll := by
  refine Nat.le_trans (keyL_le' _) ?_
  rw [flatten_len]; exact total_take_le ll k
/-! ## what lists have in common -/
theorem putK_has {β : Type} {k : Int} {v : β} : ∀ {L : List (Int × β)}, (L.map Prod.fst).Nodup → k ∈ L.map Prod.fst → putK L k v = L.map (fun p => if p.1 = k then (k, v) else p)
  | [], _, h => by cases h
  | p :: L, hn, h => by
    rw [List.map_cons, List.nodup_cons] at hn
    unfold putK
    by_cases hp : p.1 = k
    · have : ∀ q ∈ L, (fun q : Int × β => if q.1 = k then (k, v) else q) q = id q := fun q hq => by
        show (if q.1 = k then (k, v) else q) = q
        rw [if_neg]; intro e; exact hn.1 (by rw [hp, ← e]; exact List.mem_map_of_mem (f := Prod.fst) hq)
      rw [if_pos hp, List.map_cons, if_pos hp, List.map_congr_left this, List.map_id]
    · rw [if_neg hp, List.map_cons, if_neg hp, putK_has hn.2]
      rw [List.map_cons] at h
      rcases List.mem_cons.1 h with e | e
      · exact absurd e.symm hp
      · exact e
def bmap (S : List Int) (f : Int → Bool) : List (Int × Bool) := S.map fun y => (y, f y)
theorem bm_keys (S : List Int) (f : Int → Bool) : (bmap S f).map Prod.fst = S := by unfold bmap; rw [List.map_map]; simp [Function.comp_def]
theorem bm_len (S : List Int) (f : Int → Bool) : (bmap S f).length = S.length := List.length_map _
theorem bm_has (S : List Int) (f : Int → Bool) (x : Int) : hasK (bmap S f) x = decide (x ∈ S) := by unfold hasK; rw [bm_keys]
theorem bm_congr {S : List Int} {f g : Int → Bool} (h : ∀ y ∈ S, f y = g y) : bmap S f = bmap S g := List.map_congr_left fun y hy => by rw [h y hy]
theorem bm_put {S : List Int} {f : Int → Bool} {x : Int} {b : Bool} (hn : S.Nodup) (hx : x ∈ S) : putK (bmap S f) x b = bmap S (fun y => if y = x then b else f y) := by
  rw [putK_has (by rw [bm_keys]; exact hn) (by rw [bm_keys]; exact hx)]
  unfold bmap; rw [List.map_map]
  refine List.map_congr_left fun y hy => ?_
  show (if y = x then (x, b) else (y, f y)) = _
  by_cases e : y = x
  · subst e; simp
  · simp [e]
theorem bm_del (S : List Int) (f : Int → Bool) (x : Int) : delK (bmap S f) x = bmap (S.filter (fun y => decide (y ≠ x))) f := by
  unfold delK bmap; rw [List.filter_map]; rfl
theorem bm_add (l : List Int) (x : Int) : putK (bmap (keyL l) (fun _ => false)) x false = bmap (keyL (l ++ [x])) (fun _ => false) := by
  rw [keyL_snoc]; unfold addS
  by_cases h : x ∈ keyL l
  · rw [if_pos h, bm_put (keyL_nodup l) h]; exact bm_congr fun y _ => by simp
  · rw [if_neg h, putK_no (by rw [bm_keys]; exact h)]; unfold bmap; simp
def mkd (m : List Int) (y : Int) : Bool := decide (y ∈ m)
theorem mk_yes {S m : List Int} {x : Int} (hn : S.Nodup) (h : hasK (bmap S (mkd m)) x = true) : putK (bmap S (mkd m)) x true = bmap S (mkd (m ++ [x])) := by
  rw [bm_has, decide_eq_true_eq] at h
  rw [bm_put hn h]
  refine bm_congr fun y _ => ?_
  unfold mkd
  by_cases e : y = x <;> simp [e]
theorem mk_no {S m : List Int} {x : Int} (h : ¬ hasK (bmap S (mkd m)) x = true) : bmap S (mkd m) = bmap S (mkd (m ++ [x])) := by
  rw [bm_has, decide_eq_true_eq] at h
  refine bm_congr fun y hy => ?_
  have e : y ≠ x := fun e => h (by rw [← e]; exact hy)
  unfold mkd; simp [e]
theorem mk_start (S : List Int) : bmap S (mkd []) = bmap S (fun _ => false) := bm_congr fun y _ => by simp [mkd]
theorem fmap_congr {α β : Type} {f g : α → Option β} : ∀ {l : List α}, (∀ x ∈ l, f x = g x) → l.filterMap f = l.filterMap g
  | [], _ => rfl
  | x :: l, h => by rw [List.filterMap_cons, List.filterMap_cons, h x (List.mem_cons_self ..), fmap_congr fun y hy => h y (List.mem_cons_of_mem _ hy)]
def stepD (S : List Int) (f : Int → Bool) (D : List Int) : List (Int × Bool) := S.filterMap fun y => if y ∈ D then (if f y then some (y, false) else none) else some (y, f y)
theorem sd_start (S : List Int) (f : Int → Bool) : stepD S f [] = bmap S f := by unfold stepD bmap; simp
theorem sd_keys (S : List Int) (f : Int → Bool) (D : List Int) : (stepD S f D).map Prod.fst = S.filter (fun y => !decide (y ∈ D) || f y) := by
  unfold stepD
  induction S with
  | nil => rfl
  | cons y S ih =>
    rw [List.filterMap_cons, List.filter_cons]
    by_cases h : y ∈ D
    · by_cases h2 : f y = true
      · simp [h, h2, ih]
      · simp [h, h2, ih]
    · simp [h, ih]
theorem sd_nodup {S : List Int} (hn : S.Nodup) (f : Int → Bool) (D : List Int) : ((stepD S f D).map Prod.fst).Nodup := by rw [sd_keys]; exact hn.filter _
theorem sd_mem {S D : List Int} {f : Int → Bool} {k : Int} {u : Bool} (h : (k, u) ∈ stepD S f D) (hk : k ∉ D) : k ∈ S ∧ f k = u := by
  unfold stepD at h
  obtain ⟨y, hy, e⟩ := List.mem_filterMap.1 h
  by_cases hd : y ∈ D
  · rw [if_pos hd] at e
    split at e
    · cases e; exact absurd hd hk
    · cases e
  · rw [if_neg hd] at e; cases e; exact ⟨hy, rfl⟩
theorem sd_yes {S D : List Int} {f : Int → Bool} {k : Int} {u : Bool} (hn : S.Nodup) (h : (k, u) ∈ stepD S f D) (hk : k ∉ D) (hu : u = true) : putK (stepD S f D) k false = stepD S f (D ++ [k]) := by
  have hm := sd_mem h hk
  rw [putK_has (sd_nodup hn f D) (List.mem_map_of_mem (f := Prod.fst) h)]
  unfold stepD
  rw [List.map_filterMap]
  refine fmap_congr fun y hy => ?_
  by_cases hd : y ∈ D
  · have : y ≠ k := fun e => hk (by rw [← e]; exact hd)
    cases hf : f y <;> simp [hd, hf, this]
  · by_cases e : y = k
    · subst e; simp [hd, hm.2, hu]
    · simp [hd, e]
theorem sd_no {S D : List Int} {f : Int → Bool} {k : Int} {u : Bool} (h : (k, u) ∈ stepD S f D) (hk : k ∉ D) (hu : ¬ u = true) : delK (stepD S f D) k = stepD S f (D ++ [k]) := by
  have hm := sd_mem h hk
  have hf : f k = false := by rw [hm.2]; simpa using hu
  unfold stepD delK
  rw [List.filter_filterMap]
  refine fmap_congr fun y hy => ?_
  by_cases hd : y ∈ D
  · have : y ≠ k := fun e => hk (by rw [← e]; exact hd)
    cases hf : f y <;> simp [hd, hf, this]
  · by_cases e : y = k
    · subst e; simp [hd, hf]
    · simp [hd, e]
theorem sd_end {S D : List Int} {f : Int → Bool} (h : ∀ z ∈ stepD S f D, z.1 ∈ D) : stepD S f D = bmap (S.filter f) (fun _ => false) := by
  have h2 : ∀ y ∈ S, y ∈ D := fun y hy => by
    by_cases hd : y ∈ D
    · exact hd
    · exact h (y, f y) (List.mem_filterMap.2 ⟨y, hy, by rw [if_neg hd]⟩)
  unfold stepD bmap
  rw [← List.filterMap_eq_map, ← List.filterMap_eq_filter, List.filterMap_filterMap]
  refine fmap_congr fun y hy => ?_
  rw [if_pos (h2 y hy)]
  cases hf : f y <;> simp [Option.guard, hf]
def remI (f : Int → Int) (S p : List Int) : List Int := S.filter (fun y => !decide (y ∈ p.map f))
def iscI (f : Int → Int) : List Int → List Int → List Int
  | _, [] => []
  | S, x :: l => if f x ∈ S then x :: iscI f (S.filter (fun y => decide (y ≠ f x))) l else iscI f S l
theorem rem_cons (f : Int → Int) (S : List Int) (a : Int) (p : List Int) : remI f (S.filter (fun y => decide (y ≠ f a))) p = remI f S (a :: p) := by
  unfold remI; rw [List.filter_filter]
  refine List.filter_congr fun y _ => ?_
  by_cases e : y = f a <;> simp [e]
theorem rem_out {f : Int → Int} {S : List Int} {a : Int} (p : List Int) (h : ¬ f a ∈ S) : remI f S p = remI f S (a :: p) := by
  unfold remI
  refine List.filter_congr fun y hy => ?_
  have e : y ≠ f a := fun e => h (by rw [← e]; exact hy)
  simp [e]
theorem rem_snoc (f : Int → Int) (S p : List Int) (x : Int) : (remI f S p).filter (fun y => decide (y ≠ f x)) = remI f S (p ++ [x]) := by
  unfold remI; rw [List.filter_filter]
  refine List.filter_congr fun y _ => ?_
  by_cases e : y = f x <;> simp [e]
theorem rem_same {f : Int → Int} {S p : List Int} {x : Int} (h : ¬ f x ∈ remI f S p) : remI f S p = remI f S (p ++ [x]) := by
  rw [← rem_snoc, List.filter_eq_self.2]
  intro y hy
  have e : y ≠ f x := fun e => h (by rw [← e]; exact hy)
  simpa using e
theorem isc_snoc (f : Int → Int) (x : Int) : ∀ (p S : List Int), iscI f S (p ++ [x]) = iscI f S p ++ (if f x ∈ remI f S p then [x] else [])
  | [], S => by
    have : remI f S [] = S := by unfold remI; simp
    simp only [List.nil_append, iscI, this]
  | a :: p, S => by
    simp only [List.cons_append, iscI]
    by_cases h : f a ∈ S
    · rw [if_pos h, if_pos h, isc_snoc f x p, rem_cons, List.cons_append]
    · rw [if_neg h, if_neg h, isc_snoc f x p, rem_out p h]
theorem isc_yes {f : Int → Int} {x : Int} {p S : List Int} (h : hasK (bmap (remI f S p) (fun _ => false)) (f x) = true) : iscI f S p ++ [x] = iscI f S (p ++ [x]) := by
  rw [bm_has, decide_eq_true_eq] at h; rw [isc_snoc, if_pos h]
theorem isc_no {f : Int → Int} {x : Int} {p S : List Int} (h : ¬ hasK (bmap (remI f S p) (fun _ => false)) (f x) = true) : iscI f S p = iscI f S (p ++ [x]) := by
  rw [bm_has, decide_eq_true_eq] at h; rw [isc_snoc, if_neg h, List.append_nil]
theorem rs_yes (f : Int → Int) (S p : List Int) (x : Int) : delK (bmap (remI f S p) (fun _ => false)) (f x) = bmap (remI f S (p ++ [x])) (fun _ => false) := by rw [bm_del, rem_snoc]
theorem rs_no {f : Int → Int} {x : Int} {p S : List Int} (h : ¬ hasK (bmap (remI f S p) (fun _ => false)) (f x) = true) : bmap (remI f S p) (fun _ => false) = bmap (remI f S (p ++ [x])) (fun _ => false) := by
  rw [bm_has, decide_eq_true_eq] at h; rw [← rem_same h]
theorem rs_start (f : Int → Int) (S : List Int) : bmap S (fun _ => false) = bmap (remI f S []) (fun _ => false) := by unfold remI; rw [List.filter_eq_self.2 (by simp)]
theorem isc_pre (f : Int → Int) : ∀ (a b S : List Int), iscI f S a <+: iscI f S (a ++ b)
  | [], b, S => List.nil_prefix
  | x :: a, b, S => by
    simp only [List.cons_append, iscI]
    split
    · exact (List.prefix_cons_inj _).2 (isc_pre f a b _)
    · exact isc_pre f a b _
theorem isc_prefix {f : Int → Int} {p l S : List Int} (h : p <+: l) : iscI f S p <+: iscI f S l := by obtain ⟨t, rfl⟩ := h; exact isc_pre f _ _ _
theorem isc_len (f : Int → Int) : ∀ (l S : List Int), (iscI f S l).length ≤ l.length
  | [], S => Nat.le_refl _
  | x :: l, S => by
    simp only [iscI]; split
    · have := isc_len f l (S.filter (fun y => decide (y ≠ f x))); simp only [List.length_cons]; omega
    · have := isc_len f l S; simp only [List.length_cons]; omega
theorem isc_nil (f : Int → Int) : ∀ (l : List Int), iscI f [] l = []
  | [] => rfl
  | x :: l => by simp only [iscI]; rw [if_neg (by simp), isc_nil f l]
/-- the keys that the last list and the j ones ahead of it have in common -/
def sjI (f : Int → Int) (ll : List (List Int)) : Nat → List Int
  | 0 => keyL ((ll.getD (ll.length - 1) []).map f)
  | j + 1 => (sjI f ll j).filter (mkd ((ll.getD (ll.length - 2 - j) []).map f))
theorem sj_nodup (f : Int → Int) (ll : List (List Int)) : ∀ j, (sjI f ll j).Nodup
  | 0 => keyL_nodup _
  | j + 1 => (sj_nodup f ll j).filter _
theorem sj_empty {f : Int → Int} {ll : List (List Int)} {j : Nat} (h : sjI f ll j = []) : ∀ i, sjI f ll (j + i) = []
  | 0 => h
  | i + 1 => by show (sjI f ll (j + i)).filter _ = []; rw [sj_empty h i]; rfl
theorem sj_len (f : Int → Int) (ll : List (List Int)) : ∀ j, (sjI f ll j).length ≤ (ll.getD (ll.length - 1) []).length
  | 0 => by
    show (keyL _).length ≤ _
    have h : ∀ (l : List Int) (s : List Int), (l.foldl addS s).length ≤ s.length + l.length := by
      intro l
      induction l with
      | nil => intro s; simp
      | cons a l ih => intro s; rw [List.foldl_cons]; have := ih (addS s a); have h3 : (addS s a).length ≤ s.length + 1 := (by unfold addS; split <;> simp); simp only [List.length_cons]; omega
    have := h ((ll.getD (ll.length - 1) []).map f) []
    rw [List.length_map] at this
    unfold keyL; simpa using this
  | j + 1 => Nat.le_trans (List.length_filter_le _ _) (sj_len f ll j)
def meetF (f : Int → Int) (ll : List (List Int)) : List Int := iscI f (sjI f ll (ll.length - 2)) (ll.getD 0 [])
theorem meet_end {f : Int → Int} {ll : List (List Int)} {k : Nat} (h : k ≤ ll.length - 2) (h2 : k = ll.length - 2 ∨ sjI f ll k = []) (l : List Int) : iscI f (sjI f ll k) l = iscI f (sjI f ll (ll.length - 2)) l := by
  rcases h2 with h2 | h2
  · rw [h2]
  · have := sj_empty h2 (ll.length - 2 - k)
    rw [show k + (ll.length - 2 - k) = ll.length - 2 by omega] at this
    rw [h2, this]
theorem mem_sj {f : Int → Int} {ll : List (List Int)} {y : Int} : ∀ {j : Nat}, j + 2 ≤ ll.length ∨ j = 0 → (y ∈ sjI f ll j ↔ y ∈ (ll.getD (ll.length - 1) []).map f ∧ ∀ i, i < j → y ∈ (ll.getD (ll.length - 2 - i) []).map f)
  | 0, _ => by
    show y ∈ keyL _ ↔ _
    rw [mem_keyL]; exact ⟨fun h => ⟨h, fun i hi => by omega⟩, fun h => h.1⟩
  | j + 1, h => by
    show y ∈ (sjI f ll j).filter _ ↔ _
    rw [List.mem_filter, mem_sj (j := j) (by omega)]
    unfold mkd; rw [decide_eq_true_eq]
    constructor
    · rintro ⟨⟨h1, h2⟩, h3⟩
      refine ⟨h1, fun i hi => ?_⟩
      by_cases e : i = j
      · subst e; exact h3
      · exact h2 i (by omega)
    · rintro ⟨h1, h2⟩
      exact ⟨⟨h1, fun i hi => h2 i (by omega)⟩, h2 j (by omega)⟩
theorem mem_sjE {f : Int → Int} {ll : List (List Int)} {y : Int} (hl : 2 ≤ ll.length) : y ∈ sjI f ll (ll.length - 2) ↔ ∀ i, 1 ≤ i → i < ll.length → y ∈ (ll.getD i []).map f := by
  rw [mem_sj (by omega)]
  constructor
  · rintro ⟨h1, h2⟩ i h3 h4
    by_cases e : i = ll.length - 1
    · subst e; exact h1
    · have := h2 (ll.length - 2 - i) (by omega)
      rw [show ll.length - 2 - (ll.length - 2 - i) = i by omega] at this; exact this
  · intro h
    exact ⟨h _ (by omega) (by omega), fun i hi => h _ (by omega) (by omega)⟩
theorem isc_mem {f : Int → Int} : ∀ {l S : List Int}, (∀ x ∈ iscI f S l, x ∈ l ∧ f x ∈ S) ∧ ((iscI f S l).map f).Nodup ∧ (∀ x ∈ l, f x ∈ S → f x ∈ (iscI f S l).map f)
  | [], S => by simp [iscI]
  | a :: l, S => by
    simp only [iscI]
    by_cases h : f a ∈ S
    · rw [if_pos h]
      obtain ⟨h1, h2, h3⟩ := isc_mem (f := f) (l := l) (S := S.filter (fun y => decide (y ≠ f a)))
      refine ⟨fun x hx => ?_, ?_, fun x hx hs => ?_⟩
      · rcases List.mem_cons.1 hx with rfl | hx
        · exact ⟨List.mem_cons_self .., h⟩
        · exact ⟨List.mem_cons_of_mem _ (h1 x hx).1, (List.mem_filter.1 (h1 x hx).2).1⟩
      · rw [List.map_cons, List.nodup_cons]
        refine ⟨fun hm => ?_, h2⟩
        obtain ⟨x, hx, e⟩ := List.mem_map.1 hm
        have := (List.mem_filter.1 (h1 x hx).2).2
        rw [e] at this; simp at this
      · rw [List.map_cons]
        by_cases e : f x = f a
        · rw [e]; exact List.mem_cons_self ..
        · rcases List.mem_cons.1 hx with rfl | hx
          · exact absurd rfl e
          · exact List.mem_cons_of_mem _ (h3 x hx (List.mem_filter.2 ⟨hs, by simpa using e⟩))
    · rw [if_neg h]
      obtain ⟨h1, h2, h3⟩ := isc_mem (f := f) (l := l) (S := S)
      refine ⟨fun x hx => ⟨List.mem_cons_of_mem _ (h1 x hx).1, (h1 x hx).2⟩, h2, fun x hx hs => ?_⟩
      rcases List.mem_cons.1 hx with rfl | hx
      · exact absurd hs h
      · exact h3 x hx hs
theorem mem_meet {ll : List (List Int)} {x : Int} (h0 : 0 < ll.length) : x ∈ meetF (fun x => x) ll ↔ ∀ m ∈ ll, x ∈ m := by
  unfold meetF
  obtain ⟨h1, h2, h3⟩ := isc_mem (f := fun x => x) (l := ll.getD 0 []) (S := sjI (fun x => x) ll (ll.length - 2))
  have hd : ∀ i, i < ll.length → ll[i]? = some (ll.getD i []) := fun i hi => by rw [List.getD_eq_getElem?_getD, List.getElem?_eq_getElem hi]; rfl
  have hx : x ∈ iscI (fun x => x) (sjI (fun x => x) ll (ll.length - 2)) (ll.getD 0 []) ↔ x ∈ ll.getD 0 [] ∧ x ∈ sjI (fun x => x) ll (ll.length - 2) :=
    ⟨fun h => h1 x h, fun h => by have := h3 x h.1 h.2; simpa using this⟩
  rw [hx]
  by_cases hl : 2 ≤ ll.length
  · rw [mem_sjE hl]
    constructor
    · rintro ⟨ha, hb⟩ m hm
      obtain ⟨i, hi⟩ := List.getElem?_of_mem hm
      have hi2 := (List.getElem?_eq_some_iff.1 hi).1
      have e : m = ll.getD i [] := by have := hd i hi2; rw [hi] at this; exact Option.some.inj this
      by_cases hz : i = 0
      · subst hz; rw [e]; exact ha
      · have := hb i (by omega) hi2; rw [e]; simpa using this
    · intro h
      exact ⟨h _ (List.mem_of_getElem? (hd 0 h0)), fun i h5 h6 => by have := h _ (List.mem_of_getElem? (hd i h6)); simpa using this⟩
  · have e1 : ll.length = 1 := by omega
    obtain ⟨m0, rfl⟩ : ∃ m, ll = [m] := List.length_eq_one_iff.1 e1
    simp [sjI, mem_keyL]
theorem meet_nodup (ll : List (List Int)) : (meetF (fun x => x) ll).Nodup := by
  have := (isc_mem (f := fun x => x) (l := ll.getD 0 []) (S := sjI (fun x => x) ll (ll.length - 2))).2.1
  unfold meetF; simpa using this
theorem meet_same {ll : List (List Int)} : (meetF (fun x => x) ll).Perm ((keyL ll.flatten).filter (fun x => ll.all (fun m => decide (x ∈ m)))) := by
  by_cases h0 : 0 < ll.length
  · refine (List.perm_ext_iff_of_nodup (meet_nodup ll) ((keyL_nodup _).filter _)).2 fun x => ?_
    rw [mem_meet h0, List.mem_filter, mem_keyL, List.all_eq_true]
    constructor
    · intro h
      obtain ⟨m, hm⟩ : ∃ m, m ∈ ll := ⟨ll[0], List.getElem_mem h0⟩
      exact ⟨List.mem_flatten.2 ⟨m, hm, h m hm⟩, fun m hm => decide_eq_true (h m hm)⟩
    · rintro ⟨_, h⟩ m hm; simpa using h m hm
  · have e : ll = [] := List.eq_nil_of_length_eq_zero (by omega)
    subst e; exact List.Perm.refl _
theorem nodup_len : ∀ {D S : List Int}, D.Nodup → (∀ z ∈ D, z ∈ S) → D.length ≤ S.length
  | [], S, _, _ => Nat.zero_le _
  | x :: D, S, hn, h => by
    rw [List.nodup_cons] at hn
    have hx := List.perm_cons_erase (h x (List.mem_cons_self ..))
    have := nodup_len (S := S.erase x) hn.2 fun z hz => (List.mem_erase_of_ne (fun e => hn.1 (by rw [← e]; exact hz))).2 (h z (List.mem_cons_of_mem _ hz))
    have h2 := hx.length_eq
    simp only [List.length_cons] at h2 ⊢; omega
theorem told_lt {D S : List Int} {f : Int → Bool} {k : Int} {u : Bool} (hn : D.Nodup) (h : ∀ z ∈ D, z ∈ S) (hm : (k, u) ∈ stepD S f D) (hk : k ∉ D) : D.length < S.length := by
  have := nodup_len (D := D ++ [k]) (S := S) (List.nodup_append.2 ⟨hn, by simp, fun a ha b hb => by simp at hb; subst hb; intro e; subst e; exact hk ha⟩) fun z hz => by
    rcases List.mem_append.1 hz with e | e
    · exact h z e
    · simp at e; rw [e]; exact (sd_mem hm hk).1
  simp at this; omega
theorem told_sub {D S : List Int} {f : Int → Bool} {k : Int} {u : Bool} (h : ∀ z ∈ D, z ∈ S) (hm : (k, u) ∈ stepD S f D) (hk : k ∉ D) : ∀ z ∈ D ++ [k], z ∈ S := fun z hz => by
  rcases List.mem_append.1 hz with e | e
  · exact h z e
  · simp at e; rw [e]; exact (sd_mem hm hk).1
theorem told_nodup {D : List Int} {k : Int} (hn : D.Nodup) (hk : k ∉ D) : (D ++ [k]).Nodup :=
  List.nodup_append.2 ⟨hn, by simp, fun a ha b hb => by simp at hb; subst hb; intro e; subst e; exact hk ha⟩
theorem at_get {ll : List (List Int)} {i : Nat} {n : Nat} {x : List Int} (h : ll[i]? = some x) (e : i = n) : ll.getD n [] = x := by
  subst e; rw [List.getD_eq_getElem?_getD, h]; rfl
theorem getD_total (ll : List (List Int)) (i : Nat) (T : Nat) (h : ∀ x ∈ ll, x.length ≤ T) : (ll.getD i []).length ≤ T := by
  rw [List.getD_eq_getElem?_getD]
  cases e : ll[i]? with
  | none => simp
  | some x => exact h x (List.mem_of_getElem? e)
theorem meet_take {f : Int → Int} {ll : List (List Int)} {k : Nat} {X p : List Int} {x : Int} (h : k ≤ ll.length - 2) (h2 : k = ll.length - 2 ∨ sjI f ll k = []) (h0 : ll[0]? = some X) (hp : p ++ [x] <+: X)
    (hk : hasK (bmap (remI f (sjI f ll k) p) (fun _ => false)) (f x) = true) : iscI f (sjI f ll k) p ++ [x] <+: meetF f ll := by
  rw [isc_yes hk]
  have e : ll.getD 0 [] = X := at_get h0 rfl
  unfold meetF
  rw [e, ← meet_end h h2]
  exact isc_prefix hp
theorem meet_done {f : Int → Int} {ll : List (List Int)} {k : Nat} {X : List Int} (h : k ≤ ll.length - 2) (h2 : k = ll.length - 2 ∨ sjI f ll k = []) (h0 : ll[0]? = some X) : iscI f (sjI f ll k) X = meetF f ll := by
  have e : ll.getD 0 [] = X := at_get h0 rfl
  unfold meetF
  rw [e, ← meet_end h h2]
theorem bm_nil {S : List Int} {f : Int → Bool} (h : (bmap S f).length = 0) : S = [] := by rw [bm_len] at h; exact List.eq_nil_of_length_eq_zero h
theorem keyU_yes {a : List Int} {x : Int} (h : ¬ x ∈ keyL a) : keyL a ++ [x] = keyL (a ++ [x]) := by rw [keyL_snoc]; unfold addS; rw [if_neg h]
theorem keyU_no {a : List Int} {x : Int} (h : x ∈ keyL a) : keyL a = keyL (a ++ [x]) := by rw [keyL_snoc]; unfold addS; rw [if_pos h]
theorem addS_pre : ∀ (l s : List Int), s <+: l.foldl addS s
  | [], s => List.prefix_refl _
  | a :: l, s => by
    rw [List.foldl_cons]
    refine List.IsPrefix.trans ?_ (addS_pre l (addS s a))
    unfold addS; split
    · exact List.prefix_refl _
    · exact List.prefix_append _ _
theorem keyL_pre {a l : List Int} (h : a <+: l) : keyL a <+: keyL l := by
  obtain ⟨t, rfl⟩ := h
  unfold keyL; rw [List.foldl_append]; exact addS_pre _ _
theorem at_yes {S X : List Int} {ll : List (List Int)} {n m : Nat} {x : Int} (F : Int → Int) (hn : S.Nodup) (h : X[m]? = some x) (e : ll.getD n [] = X) (hk : hasK (bmap S (mkd (((ll.getD n []).take m).map F))) (F x) = true) :
    putK (bmap S (mkd (((ll.getD n []).take m).map F))) (F x) true = bmap S (mkd (((ll.getD n []).take (m + 1)).map F)) := by
  rw [e] at hk ⊢; rw [take_snoc h, List.map_append]; exact mk_yes hn hk
theorem at_no {S X : List Int} {ll : List (List Int)} {n m : Nat} {x : Int} (F : Int → Int) (h : X[m]? = some x) (e : ll.getD n [] = X) (hk : hasK (bmap S (mkd (((ll.getD n []).take m).map F))) (F x) = false) :
    bmap S (mkd (((ll.getD n []).take m).map F)) = bmap S (mkd (((ll.getD n []).take (m + 1)).map F)) := by
  rw [e] at hk ⊢; rw [take_snoc h, List.map_append]; exact mk_no (by rw [hk]; simp)
theorem sq_yes {S p : List Int} {x : Int} (F : Int → Int) (hn : S.Nodup) (hk : hasK (bmap S (mkd (p.map F))) (F x) = true) : putK (bmap S (mkd (p.map F))) (F x) true = bmap S (mkd ((p ++ [x]).map F)) := by
  rw [List.map_append]; exact mk_yes hn hk
theorem sq_no {S p : List Int} {x : Int} (F : Int → Int) (hk : hasK (bmap S (mkd (p.map F))) (F x) = false) : bmap S (mkd (p.map F)) = bmap S (mkd ((p ++ [x]).map F)) := by
  rw [List.map_append]; exact mk_no (by rw [hk]; simp)
theorem ad_new {X : List Int} {ll : List (List Int)} {n m : Nat} {x : Int} (F : Int → Int) (h : X[m]? = some x) (e : ll.getD n [] = X) :
    putK (bmap (keyL (((ll.getD n []).take m).map F)) (fun _ => false)) (F x) false = bmap (keyL (((ll.getD n []).take (m + 1)).map F)) (fun _ => false) := by
  rw [e, take_snoc h, List.map_append]; exact bm_add _ _
theorem ad_seq {p : List Int} {x : Int} (F : Int → Int) : putK (bmap (keyL (p.map F)) (fun _ => false)) (F x) false = bmap (keyL ((p ++ [x]).map F)) (fun _ => false) := by
  rw [List.map_append]; exact bm_add _ _
theorem rm_yes {S X : List Int} {ll : List (List Int)} {n m : Nat} {x : Int} (F : Int → Int) (h : X[m]? = some x) (e : ll.getD n [] = X) :
    delK (bmap (remI F S ((ll.getD n []).take m)) (fun _ => false)) (F x) = bmap (remI F S ((ll.getD n []).take (m + 1))) (fun _ => false) := by
  rw [e, take_snoc h]; exact rs_yes _ _ _ _
theorem rm_no {S X : List Int} {ll : List (List Int)} {n m : Nat} {x : Int} (F : Int → Int) (h : X[m]? = some x) (e : ll.getD n [] = X) (hk : hasK (bmap (remI F S ((ll.getD n []).take m)) (fun _ => false)) (F x) = false) :
    bmap (remI F S ((ll.getD n []).take m)) (fun _ => false) = bmap (remI F S ((ll.getD n []).take (m + 1))) (fun _ => false) := by
  rw [e] at hk ⊢; rw [take_snoc h]; exact rs_no (by rw [hk]; simp)
theorem is_yes {S X : List Int} {ll : List (List Int)} {n m : Nat} {x : Int} (F : Int → Int) (h : X[m]? = some x) (e : ll.getD n [] = X) (hk : hasK (bmap (remI F S ((ll.getD n []).take m)) (fun _ => false)) (F x) = true) :
    iscI F S ((ll.getD n []).take m) ++ [x] = iscI F S ((ll.getD n []).take (m + 1)) := by
  rw [e] at hk ⊢; rw [take_snoc h]; exact isc_yes hk
theorem is_no {S X : List Int} {ll : List (List Int)} {n m : Nat} {x : Int} (F : Int → Int) (h : X[m]? = some x) (e : ll.getD n [] = X) (hk : hasK (bmap (remI F S ((ll.getD n []).take m)) (fun _ => false)) (F x) = false) :
    iscI F S ((ll.getD n []).take m) = iscI F S ((ll.getD n []).take (m + 1)) := by
  rw [e] at hk ⊢; rw [take_snoc h]; exact isc_no (by rw [hk]; simp)
theorem rq_no {S p : List Int} {x : Int} (F : Int → Int) (hk : hasK (bmap (remI F S p) (fun _ => false)) (F x) = false) : bmap (remI F S p) (fun _ => false) = bmap (remI F S (p ++ [x])) (fun _ => false) := rs_no (by rw [hk]; simp)
theorem iq_no {S p : List Int} {x : Int} (F : Int → Int) (hk : hasK (bmap (remI F S p) (fun _ => false)) (F x) = false) : iscI F S p = iscI F S (p ++ [x]) := isc_no (by rw [hk]; simp)
theorem sd_nof {S D : List Int} {f : Int → Bool} {k : Int} {u : Bool} (h : (k, u) ∈ stepD S f D) (hk : k ∉ D) (hu : u = false) : delK (stepD S f D) k = stepD S f (D ++ [k]) := sd_no h hk (by rw [hu]; simp)
theorem keyU_yesB {a : List Int} {x : Int} (h : (!decide (x ∈ keyL a)) = true) : keyL a ++ [x] = keyL (a ++ [x]) := keyU_yes (by simpa using h)
theorem keyU_noB {a : List Int} {x : Int} (h : (!decide (x ∈ keyL a)) = false) : keyL a = keyL (a ++ [x]) := keyU_no (by simpa using h)
theorem meet_len (F : Int → Int) {ll : List (List Int)} {T : Nat} (h : ∀ x ∈ ll, x.length ≤ T) : (meetF F ll).length ≤ T := by
  unfold meetF; exact Nat.le_trans (isc_len _ _ _) (getD_total ll 0 T h)
theorem cnt_yes {ll : List (List Int)} {L : List Int} {k j : Nat} {x : Int} {m : List Int} (h5 : L[k]? = some x) (h : ll[j]? = some m) (hx : x ∈ m) :
    (ll.take j).countP (fun m => decide (L[k]?.getD 0 ∈ m)) + 1 = (ll.take (j + 1)).countP (fun m => decide (L[k]?.getD 0 ∈ m)) := by
  rw [h5, List.take_add_one, h, List.countP_append]; simp [hx]
theorem cnt_no {ll : List (List Int)} {L : List Int} {k j : Nat} {x : Int} {m : List Int} (h5 : L[k]? = some x) (h : ll[j]? = some m) (hx : ¬ x ∈ m) :
    (ll.take j).countP (fun m => decide (L[k]?.getD 0 ∈ m)) = (ll.take (j + 1)).countP (fun m => decide (L[k]?.getD 0 ∈ m)) := by
  rw [h5, List.take_add_one, h, List.countP_append]; simp [hx]
theorem cnt_le (ll : List (List Int)) (j : Nat) (p : List Int → Bool) : (ll.take j).countP p ≤ ll.length := by
  refine Nat.le_trans List.countP_le_length ?_
  rw [List.length_take]; omega
theorem alw_yes {ll : List (List Int)} {L : List Int} {k j : Nat} {x : Int} (h : L[k]? = some x) (hj : ll.length ≤ j) (hc : (ll.take j).countP (fun m => decide (L[k]?.getD 0 ∈ m)) = ll.length) :
    (L.take k).filter (fun x => ll.all (fun m => decide (x ∈ m))) ++ [x] = (L.take (k + 1)).filter (fun x => ll.all (fun m => decide (x ∈ m))) := by
  rw [List.take_of_length_le hj, h, List.countP_eq_length] at hc
  have : ll.all (fun m => decide (x ∈ m)) = true := List.all_eq_true.2 hc
  rw [take_snoc h, List.filter_append]; simp [this]
theorem alw_no {ll : List (List Int)} {L : List Int} {k j : Nat} {x : Int} (h : L[k]? = some x) (hj : ll.length ≤ j) (hc : ¬ (ll.take j).countP (fun m => decide (L[k]?.getD 0 ∈ m)) = ll.length) :
    (L.take k).filter (fun x => ll.all (fun m => decide (x ∈ m))) = (L.take (k + 1)).filter (fun x => ll.all (fun m => decide (x ∈ m))) := by
  rw [List.take_of_length_le hj, h, List.countP_eq_length] at hc
  have : ¬ ll.all (fun m => decide (x ∈ m)) = true := fun e => hc (List.all_eq_true.1 e)
  rw [take_snoc h, List.filter_append, List.filter_cons_of_neg (by simpa using this)]; simp
theorem meet_perm (ll : List (List Int)) : (meetF (fun x => x) ll).isPerm ((keyL ll.flatten).filter (fun x => ll.all (fun m => decide (x ∈ m)))) = true := List.isPerm_iff.2 meet_same
/-! ## items that meet by keys -/
theorem pair_get {α : Type} {A x : α} {i : Nat} (h : [A, A][i]? = some x) : x = A := by
  match i, h with
  | 0, h => exact (Option.some.inj h).symm
  | 1, h => exact (Option.some.inj h).symm
  | i + 2, h => simp at h
theorem ib_spec (K : Int → Int) (a b : List Int) : (∀ x ∈ meetF K [a, b], x ∈ a) ∧ ((meetF K [a, b]).map K).Nodup ∧ (∀ z, z ∈ (meetF K [a, b]).map K ↔ z ∈ a.map K ∧ z ∈ b.map K) := by
  have e : meetF K [a, b] = iscI K (keyL (b.map K)) a := rfl
  rw [e]
  obtain ⟨h1, h2, h3⟩ := isc_mem (f := K) (l := a) (S := keyL (b.map K))
  refine ⟨fun x hx => (h1 x hx).1, h2, fun z => ⟨fun hz => ?_, fun hz => ?_⟩⟩
  · obtain ⟨x, hx, rfl⟩ := List.mem_map.1 hz
    exact ⟨List.mem_map_of_mem (h1 x hx).1, (mem_keyL.1 (h1 x hx).2)⟩
  · obtain ⟨x, hx, rfl⟩ := List.mem_map.1 hz.1
    exact h3 x hx (mem_keyL.2 hz.2)
theorem ib_set {K : Int → Int} {a b x : List Int} {i k : Nat} (h : [meetF K [a, b], meetF K [a, b]][i]? = some x) (hk : (setI (a.map K)).length ≤ k) : setI (x.map K) = ((setI (a.map K)).take k).filter (fun z => decide (z ∈ b.map K)) := by
  rw [pair_get h, List.take_of_length_le hk]
  have hs := setI_spec ((meetF K [a, b]).map K)
  have ha := setI_spec (a.map K)
  have hf : SortedU ((setI (a.map K)).filter (fun z => decide (z ∈ b.map K))) := List.Pairwise.sublist List.filter_sublist ha.1
  refine sorted_eq hs.1.le hf.le ((List.perm_ext_iff_of_nodup hs.1.nodup hf.nodup).2 fun z => ?_)
  rw [hs.2.1, (ib_spec K a b).2.2, List.mem_filter, ha.2.1, decide_eq_true_eq]
theorem ib_len {K : Int → Int} {a b x : List Int} {i k : Nat} (h : [meetF K [a, b], meetF K [a, b]][i]? = some x) (hk : (setI (a.map K)).length ≤ k) : x.length = (((setI (a.map K)).take k).filter (fun z => decide (z ∈ b.map K))).length := by
  rw [pair_get h, List.take_of_length_le hk]
  have ha := setI_spec (a.map K)
  have hf : SortedU ((setI (a.map K)).filter (fun z => decide (z ∈ b.map K))) := List.Pairwise.sublist List.filter_sublist ha.1
  have := ((List.perm_ext_iff_of_nodup (ib_spec K a b).2.1 hf.nodup).2 fun z => by rw [(ib_spec K a b).2.2, List.mem_filter, ha.2.1, decide_eq_true_eq]).length_eq
  rw [← this, List.length_map]
theorem ib_sub {K : Int → Int} {a b x : List Int} {i j : Nat} {y : Int} (h : [meetF K [a, b], meetF K [a, b]][i]? = some x) (hy : x[j]? = some y) : y ∈ a := by
  rw [pair_get h] at hy
  exact (ib_spec K a b).1 y (List.mem_of_getElem? hy)
theorem filt_snoc {f : Int → Bool} {l : List Int} {k : Nat} {x : Int} (h : l[k]? = some x) : (l.take (k + 1)).filter f = (l.take k).filter f ++ (if f x = true then [x] else []) := by
  rw [take_snoc h, List.filter_append]; by_cases hx : f x = true <;> simp [hx]
theorem flt_yes {f : Int → Bool} {l : List Int} {k : Nat} {x : Int} (h : l[k]? = some x) (hx : f x = true) : (l.take k).filter f ++ [x] = (l.take (k + 1)).filter f := by rw [filt_snoc h, if_pos hx]
theorem flt_no {f : Int → Bool} {l : List Int} {k : Nat} {x : Int} (h : l[k]? = some x) (hx : f x = false) : (l.take k).filter f = (l.take (k + 1)).filter f := by rw [filt_snoc h, if_neg (by simp [hx]), List.append_nil]
theorem pair_le {A x : List Int} {i n : Nat} (h : [A, A][i]? = some x) (ha : A.length ≤ n) : x.length ≤ n := by rw [pair_get h]; exact ha
/-! ## mapping with a state -/
def mapS (f g : Int → Int → Int) : Int → List Int → List Int
  | _, [] => []
  | s, x :: l => f s x :: mapS f g (g s x) l
def endS (g : Int → Int → Int) (s : Int) (l : List Int) : Int := l.foldl g s
theorem endS_snoc (g : Int → Int → Int) (s : Int) (l : List Int) (x : Int) : endS g s (l ++ [x]) = g (endS g s l) x := by simp [endS]
theorem mapS_app (f g : Int → Int → Int) : ∀ (a b : List Int) (s : Int), mapS f g s (a ++ b) = mapS f g s a ++ mapS f g (endS g s a) b
  | [], b, s => rfl
  | x :: a, b, s => by simp only [List.cons_append, mapS, mapS_app f g a b (g s x)]; rfl
theorem mapS_snoc (f g : Int → Int → Int) (s : Int) (l : List Int) (x : Int) : mapS f g s (l ++ [x]) = mapS f g s l ++ [f (endS g s l) x] := mapS_app ..
theorem mapS_len (f g : Int → Int → Int) : ∀ (l : List Int) (s : Int), (mapS f g s l).length = l.length
  | [], s => rfl
  | x :: l, s => by simp [mapS, mapS_len f g l]
theorem mapS_pre {f g : Int → Int → Int} {s : Int} {p l : List Int} (h : p <+: l) : mapS f g s p <+: mapS f g s l := by
  obtain ⟨t, rfl⟩ := h; rw [mapS_app]; exact List.prefix_append _ _
theorem mapS_pre1 {f g : Int → Int → Int} {s : Int} {p l : List Int} {x : Int} (h : p ++ [x] <+: l) : mapS f g s p ++ [f (endS g s p) x] <+: mapS f g s l := by rw [← mapS_snoc]; exact mapS_pre h
/-! ## replacing -/
def repF (a b s x : Int) : Int := if s ≠ 0 ∧ x = a then b else x
def repG (a s x : Int) : Int := if s ≠ 0 ∧ x = a then w64 (s - 1) else s
theorem repG_no {a s x : Int} (hn : ¬ x = a ∨ s = 0) : repG a s x = s := by
  unfold repG; rw [if_neg]; rintro ⟨h2, h3⟩; rcases hn with h4 | h4 <;> contradiction
theorem repF_no {a b s x : Int} (hn : ¬ x = a ∨ s = 0) : repF a b s x = x := by
  unfold repF; rw [if_neg]; rintro ⟨h2, h3⟩; rcases hn with h4 | h4 <;> contradiction
theorem rp_get {f g : Int → Int → Int} {s : Int} {l : List Int} {k : Nat} {x : Int} (hk : k < l.length) (h : (mapS f g s (l.take k) ++ l.drop k)[k]? = some x) : l[k]? = some x := by
  have e : (mapS f g s (l.take k)).length = k := by rw [mapS_len, List.length_take]; omega
  rw [List.getElem?_append_right (by omega), e, Nat.sub_self, List.getElem?_drop] at h; simpa using h
theorem rp_set {f g : Int → Int → Int} {s : Int} {l : List Int} {k : Nat} {x : Int} (h : l[k]? = some x) : (mapS f g s (l.take k) ++ l.drop k).set k (f (endS g s (l.take k)) x) = mapS f g s (l.take (k + 1)) ++ l.drop (k + 1) := by
  have hk := (List.getElem?_eq_some_iff.1 h).1
  have e : (mapS f g s (l.take k)).length = k := by rw [mapS_len, List.length_take]; omega
  rw [take_snoc h, mapS_snoc, List.set_append_right _ _ (by omega), e, Nat.sub_self, List.append_assoc]
  congr 1
  rw [List.drop_eq_getElem_cons hk]; rfl
theorem rp_yes {a b s : Int} {l : List Int} {k : Nat} {x : Int} (hk : k < l.length) (h : (mapS (repF a b) (repG a) s (l.take k) ++ l.drop k)[k]? = some x) (hx : x = a) (hs : ¬ endS (repG a) s (l.take k) = 0) : (mapS (repF a b) (repG a) s (l.take k) ++ l.drop k).set k b = mapS (repF a b) (repG a) s (l.take (k + 1)) ++ l.drop (k + 1) := by
  rw [← rp_set (rp_get hk h)]; unfold repF; rw [if_pos ⟨hs, hx⟩]
theorem rp_no {a b s : Int} {l : List Int} {k : Nat} {x : Int} (hk : k < l.length) (h : (mapS (repF a b) (repG a) s (l.take k) ++ l.drop k)[k]? = some x) (hn : ¬ x = a ∨ endS (repG a) s (l.take k) = 0) : mapS (repF a b) (repG a) s (l.take k) ++ l.drop k = mapS (repF a b) (repG a) s (l.take (k + 1)) ++ l.drop (k + 1) := by
  have h1 := rp_get hk h
  rw [take_snoc h1, mapS_snoc, List.append_assoc]
  congr 1
  rw [List.drop_eq_getElem_cons hk]
  have : l[k] = x := by rw [List.getElem?_eq_getElem hk] at h1; exact Option.some.inj h1
  rw [this]; unfold repF; rw [if_neg]; rfl
  rintro ⟨h2, h3⟩; rcases hn with h4 | h4 <;> contradiction
theorem rg_yes {a s : Int} {l : List Int} {k : Nat} {x : Int} (h : l[k]? = some x) (hx : x = a) (hs : ¬ endS (repG a) s (l.take k) = 0) : IntKind.i64.wrap (endS (repG a) s (l.take k) - 1) = endS (repG a) s (l.take (k + 1)) := by
  rw [take_snoc h, endS_snoc]; unfold repG; rw [if_pos ⟨hs, hx⟩]; rfl
theorem rg_no {a s : Int} {l : List Int} {k : Nat} {x : Int} (h : l[k]? = some x) (hn : ¬ x = a ∨ endS (repG a) s (l.take k) = 0) : endS (repG a) s (l.take k) = endS (repG a) s (l.take (k + 1)) := by
  rw [take_snoc h, endS_snoc, repG_no hn]
theorem rf_yes {a b s : Int} {l : List Int} {k : Nat} {x : Int} (h : l[k]? = some x) (hx : x = a) (hs : ¬ endS (repG a) s (l.take k) = 0) : mapS (repF a b) (repG a) s (l.take k) ++ [b] = mapS (repF a b) (repG a) s (l.take (k + 1)) := by
  rw [take_snoc h, mapS_snoc]; unfold repF; rw [if_pos ⟨hs, hx⟩]
theorem rf_no {a b s : Int} {l : List Int} {k : Nat} {x : Int} (h : l[k]? = some x) (hn : ¬ x = a ∨ endS (repG a) s (l.take k) = 0) : mapS (repF a b) (repG a) s (l.take k) ++ [x] = mapS (repF a b) (repG a) s (l.take (k + 1)) := by
  rw [take_snoc h, mapS_snoc, repF_no hn]
def repOne (a b x : Int) : Int := if x = a then b else x
theorem ra_yes {a b : Int} {l : List Int} {k : Nat} {x : Int} (h : l[k]? = some x) (hx : x = a) : (l.take k).map (repOne a b) ++ [b] = (l.take (k + 1)).map (repOne a b) := by
  rw [take_snoc h, List.map_append]; simp [repOne, hx]
theorem ra_no {a b : Int} {l : List Int} {k : Nat} {x : Int} (h : l[k]? = some x) (hx : ¬ x = a) : (l.take k).map (repOne a b) ++ [x] = (l.take (k + 1)).map (repOne a b) := by
  rw [take_snoc h, List.map_append]; simp [repOne, hx]
theorem rep_neg (a b : Int) : ∀ (l : List Int) (s : Int), s < 0 → -9223372036854775808 ≤ s - l.length → mapS (repF a b) (repG a) s l = l.map (repOne a b)
  | [], s, _, _ => rfl
  | x :: l, s, h, h2 => by
    simp only [List.length_cons] at h2
    have e : repF a b s x = repOne a b x := by unfold repF repOne; by_cases hx : x = a <;> simp [hx]; omega
    have e2 : repG a s x < 0 ∧ -9223372036854775808 ≤ repG a s x - l.length := by
      unfold repG; split
      · rw [w64_in (by omega)]; omega
      · omega
    simp only [mapS, List.map_cons, e, rep_neg a b l _ e2.1 e2.2]
theorem rep_cnt (a b : Int) : ∀ (l : List Int), l.length ≤ 1000000 → mapS (repF a b) (repG a) ((l.count a : Nat) : Int) l = l.map (repOne a b)
  | [], _ => rfl
  | x :: l, h => by
    simp only [List.length_cons] at h
    have hc := List.count_le_length (a := a) (l := l)
    by_cases hx : x = a
    · subst hx
      have e : repF x b (((x :: l).count x : Nat) : Int) x = repOne x b x := by unfold repF repOne; simp; omega
      have e2 : repG x (((x :: l).count x : Nat) : Int) x = ((l.count x : Nat) : Int) := by
        unfold repG; rw [if_pos ⟨by simp; omega, rfl⟩, w64_in (by simp; omega)]; simp
      simp only [mapS, List.map_cons, e, e2, rep_cnt x b l (by omega)]
    · have e0 : (x :: l).count a = l.count a := List.count_cons_of_ne hx
      have e : ∀ s, repF a b s x = repOne a b x := fun s => by unfold repF repOne; simp [hx]
      have e2 : ∀ s, repG a s x = s := fun s => by unfold repG; simp [hx]
      simp only [mapS, List.map_cons, e, e2, e0, rep_cnt a b l (by omega)]
/-! ## crossing -/
theorem tk_snoc {α : Type} {l : List α} {k : Nat} {x : α} (h : l[k]? = some x) : l.take (k + 1) = l.take k ++ [x] := by rw [List.take_add_one, h]; rfl
def crossF {α β γ : Type} (f : α → β → γ) (a : List α) (b : List β) : List γ := a.flatMap fun x => b.map (f x)
def crossG {γ : Type} (f : Int → Int → Int → γ) (a b c : List Int) : List γ := a.flatMap fun x => crossF (f x) b c
theorem cr_len {α β γ : Type} (f : α → β → γ) (b : List β) : ∀ a : List α, (crossF f a b).length = a.length * b.length
  | [] => by simp [crossF]
  | x :: a => by
    have := cr_len f b a
    unfold crossF at this ⊢
    rw [List.flatMap_cons, List.length_append, this, List.length_map, List.length_cons, Nat.succ_mul, Nat.add_comm]
theorem cg_len {γ : Type} (f : Int → Int → Int → γ) (b c : List Int) : ∀ a : List Int, (crossG f a b c).length = a.length * (b.length * c.length)
  | [] => by simp [crossG]
  | x :: a => by
    have := cg_len f b c a
    unfold crossG at this ⊢
    rw [List.flatMap_cons, List.length_append, this, cr_len, List.length_cons, Nat.succ_mul, Nat.add_comm]
theorem cr_take {α β γ : Type} (f : α → β → γ) {a : List α} {b : List β} {k : Nat} {x : α} (h : a[k]? = some x) : crossF f (a.take (k + 1)) b = crossF f (a.take k) b ++ b.map (f x) := by
  rw [tk_snoc h]; simp [crossF]
theorem cg_take {γ : Type} (f : Int → Int → Int → γ) {a b c : List Int} {k : Nat} {x : Int} (h : a[k]? = some x) : crossG f (a.take (k + 1)) b c = crossG f (a.take k) b c ++ crossF (f x) b c := by
  rw [tk_snoc h]; simp [crossG]
theorem cr_start {γ : Type} (f : Int → Int → γ) (a b : List Int) (k : Nat) (x : Int) : crossF f (a.take k) b = crossF f (a.take k) b ++ (b.take 0).map (f x) := by simp
theorem cr_step {γ : Type} {f : Int → Int → γ} {a b : List Int} {k j : Nat} {x y : Int} (h : a[k]? = some x) (hy : b[j]? = some y) : (crossF f (a.take k) b ++ (b.take j).map (f (a[k]?.getD 0))) ++ [f x y] = crossF f (a.take k) b ++ (b.take (j + 1)).map (f (a[k]?.getD 0)) := by
  rw [tk_snoc hy, h]; simp
theorem cr_end {γ : Type} {f : Int → Int → γ} {a b : List Int} {k j : Nat} {x : Int} (h : a[k]? = some x) (hj : b.length ≤ j) : crossF f (a.take k) b ++ (b.take j).map (f (a[k]?.getD 0)) = crossF f (a.take (k + 1)) b := by
  rw [cr_take f h, h, List.take_of_length_le hj]; rfl
theorem cr_bnd {γ : Type} (f : Int → Int → γ) (a b : List Int) (k j : Nat) : (crossF f (a.take k) b ++ (b.take j).map (f (a[k]?.getD 0))).length ≤ a.length * b.length + b.length := by
  rw [List.length_append, cr_len, List.length_map, List.length_take, List.length_take]
  exact Nat.add_le_add (Nat.mul_le_mul_right _ (Nat.min_le_right _ _)) (Nat.min_le_right _ _)
theorem cr_bnd0 {γ : Type} (f : Int → Int → γ) (a b : List Int) (k : Nat) : (crossF f (a.take k) b).length ≤ a.length * b.length := by
  rw [cr_len, List.length_take]; exact Nat.mul_le_mul_right _ (Nat.min_le_right _ _)
theorem cr_zero {γ : Type} {f : Int → Int → γ} {a b : List Int} (h : ((a.length * b.length : Nat) : Int) = 0) : crossF f a b = [] := by
  apply List.eq_nil_of_length_eq_zero; rw [cr_len]; omega
theorem cg_zero {γ : Type} {f : Int → Int → Int → γ} {a b c : List Int} (h : ((a.length * b.length * c.length : Nat) : Int) = 0) : crossG f a b c = [] := by
  apply List.eq_nil_of_length_eq_zero; rw [cg_len, ← Nat.mul_assoc]; omega
theorem cg_start1 {γ : Type} (f : Int → Int → Int → γ) (a b c : List Int) (k : Nat) (x : Int) : crossG f (a.take k) b c = crossG f (a.take k) b c ++ crossF (f x) (b.take 0) c := by simp [crossF]
theorem cg_start2 {γ : Type} (f : Int → Int → Int → γ) (a b c : List Int) (k j : Nat) (x y : Int) : crossG f (a.take k) b c ++ crossF (f x) (b.take j) c = crossG f (a.take k) b c ++ crossF (f x) (b.take j) c ++ (c.take 0).map (f x y) := by simp
theorem cg_step {γ : Type} {f : Int → Int → Int → γ} {a b c : List Int} {k j m : Nat} {x y z : Int} (h : a[k]? = some x) (hy : b[j]? = some y) (hz : c[m]? = some z) :
    (crossG f (a.take k) b c ++ crossF (f (a[k]?.getD 0)) (b.take j) c ++ (c.take m).map (f (a[k]?.getD 0) (b[j]?.getD 0))) ++ [f x y z] = crossG f (a.take k) b c ++ crossF (f (a[k]?.getD 0)) (b.take j) c ++ (c.take (m + 1)).map (f (a[k]?.getD 0) (b[j]?.getD 0)) := by
  rw [tk_snoc hz, h, hy]; simp
theorem cg_end2 {γ : Type} {f : Int → Int → Int → γ} {a b c : List Int} {k j m : Nat} {y : Int} (hy : b[j]? = some y) (hm : c.length ≤ m) :
    crossG f (a.take k) b c ++ crossF (f (a[k]?.getD 0)) (b.take j) c ++ (c.take m).map (f (a[k]?.getD 0) (b[j]?.getD 0)) = crossG f (a.take k) b c ++ crossF (f (a[k]?.getD 0)) (b.take (j + 1)) c := by
  rw [cr_take _ hy, hy, List.take_of_length_le hm, List.append_assoc]; rfl
theorem cg_end1 {γ : Type} {f : Int → Int → Int → γ} {a b c : List Int} {k j : Nat} {x : Int} (h : a[k]? = some x) (hj : b.length ≤ j) : crossG f (a.take k) b c ++ crossF (f (a[k]?.getD 0)) (b.take j) c = crossG f (a.take (k + 1)) b c := by
  rw [cg_take f h, h, List.take_of_length_le hj]; rfl
theorem cg_bnd2 {γ : Type} (f : Int → Int → Int → γ) (a b c : List Int) (k j m : Nat) (x y : Int) : (crossG f (a.take k) b c ++ crossF (f x) (b.take j) c ++ (c.take m).map (f x y)).length ≤ a.length * (b.length * c.length) + b.length * c.length + c.length := by
  rw [List.length_append, List.length_append, cg_len, cr_len, List.length_map, List.length_take, List.length_take, List.length_take]
  exact Nat.add_le_add (Nat.add_le_add (Nat.mul_le_mul_right _ (Nat.min_le_right _ _)) (Nat.mul_le_mul_right _ (Nat.min_le_right _ _))) (Nat.min_le_right _ _)
theorem fm_get {α β γ : Type} {f : α → β → γ} : ∀ {a : List α} {b : List β} {k : Nat} {v : γ} {x : α} {y : β}, (crossF f a b)[k]? = some v → a[k / b.length]? = some x → b[k % b.length]? = some y → v = f x y
  | [], b, k, v, x, y, h, _, _ => by simp [crossF] at h
  | x0 :: a, b, k, v, x, y, h, hx, hy => by
    have e : crossF f (x0 :: a) b = b.map (f x0) ++ crossF f a b := by simp [crossF]
    rw [e] at h
    by_cases hk : k < b.length
    · rw [List.getElem?_append_left (by simpa using hk)] at h
      rw [Nat.div_eq_of_lt hk] at hx; rw [Nat.mod_eq_of_lt hk] at hy
      simp at hx; subst hx
      rw [List.getElem?_map, hy] at h; simpa using h.symm
    · have hb : 0 < b.length := by
        rcases Nat.eq_zero_or_pos b.length with h0 | h0
        · have : b = [] := List.eq_nil_of_length_eq_zero h0
          subst this; simp at hy
        · exact h0
      rw [List.getElem?_append_right (by simpa using Nat.le_of_not_lt hk), List.length_map] at h
      refine fm_get (a := a) (k := k - b.length) h ?_ ?_
      · rw [Nat.div_eq_sub_div hb (Nat.le_of_not_lt hk), List.getElem?_cons_succ] at hx; exact hx
      · rw [Nat.mod_eq_sub_mod (Nat.le_of_not_lt hk)] at hy; exact hy
theorem fm_idx {α β γ : Type} {f : α → β → γ} {a : List α} {b : List β} {k : Nat} (h : k < (crossF f a b).length) : 0 < b.length ∧ k / b.length < a.length ∧ k % b.length < b.length := by
  rw [cr_len] at h
  have hb : 0 < b.length := by
    rcases Nat.eq_zero_or_pos b.length with h0 | h0
    · rw [h0] at h; simp at h
    · exact h0
  exact ⟨hb, (Nat.div_lt_iff_lt_mul hb).2 h, Nat.mod_lt _ hb⟩
def pr2 (x y : Int) : Int × Int := (x, y)
def pr3 (x y z : Int) : Int × Int × Int := (x, y, z)
def pz (p : Int × Int) (z : Int) : Int × Int × Int := (p.1, p.2, z)
theorem cg_pairs (a b c : List Int) : crossG (fun x y z => (x, y, z)) a b c = crossF pz (crossF (fun x y => (x, y)) a b) c := by
  unfold crossG crossF pz
  rw [List.flatMap_assoc]
  congr 1; funext x
  rw [List.flatMap_map]
theorem cg_one (a b : List Int) : (crossG (fun x y z => (x, y, z)) a b [0]).map (fun p => (p.1, p.2.1)) = crossF (fun x y => (x, y)) a b := by
  unfold crossG crossF
  rw [List.map_flatMap]
  congr 1; funext x
  rw [List.map_flatMap]
  induction b with
  | nil => rfl
  | cons y b ih => rw [List.flatMap_cons, ih]; rfl
theorem eqp_step {α : Type} {l m : List α} {k : Nat} {x y : α} (h : l.take k = m.take k) (hx : l[k]? = some x) (hy : m[k]? = some y) (e : x = y) : l.take (k + 1) = m.take (k + 1) := by rw [tk_snoc hx, tk_snoc hy, h, e]
theorem eqp_no {α : Type} {l m : List α} {k : Nat} {x y : α} (hx : l[k]? = some x) (hy : m[k]? = some y) (e : ¬ x = y) : ¬ l = m := fun h => by subst h; rw [hx] at hy; exact e (Option.some.inj hy)
theorem p2_eq {x y : Int × Int} (h : x.1 = y.1 ∧ x.2 = y.2 ∧ True) : x = y := Prod.ext h.1 h.2.1
theorem p2_ne {x y : Int × Int} (h : ¬ (x.1 = y.1 ∧ x.2 = y.2 ∧ True)) : ¬ x = y := fun e => h (by subst e; exact ⟨rfl, rfl, trivial⟩)
theorem crs_snoc {α β γ : Type} (f : α → β → γ) (p : List α) (b : List β) (x : α) : crossF f (p ++ [x]) b = crossF f p b ++ b.map (f x) := by simp [crossF]
theorem crs_pre0 {α β γ : Type} {f : α → β → γ} {p a : List α} (b : List β) (h : p <+: a) : crossF f p b <+: crossF f a b := by
  obtain ⟨t, rfl⟩ := h; unfold crossF; rw [List.flatMap_append]; exact List.prefix_append _ _
theorem crs_pre {α β γ : Type} {f : α → β → γ} {p a : List α} {q b : List β} {x : α} {y : β} (h : p ++ [x] <+: a) (hq : q ++ [y] <+: b) : crossF f p b ++ q.map (f x) ++ [f x y] <+: crossF f a b := by
  refine List.IsPrefix.trans ?_ (crs_pre0 b h)
  rw [crs_snoc, List.append_assoc]
  refine (List.prefix_append_right_inj _).2 ?_
  have : q.map (f x) ++ [f x y] = (q ++ [y]).map (f x) := by simp
  rw [this]; exact hq.map _
end Go.Proofs.Ytjadmhlojchapaa.wFnGroups
