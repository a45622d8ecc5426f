/- Walks through the functions that laws.FnFlatten reaches: what each computes; no conditions beyond what each theorem states. -/
import Derived.Test.YtnoekjegpolfoaaProg
import Derived.Test.YtnoekjegpolfoaaSlM
set_option linter.unusedVariables false
set_option linter.unusedSimpArgs false
namespace Go.Proofs.Ytnoekjegpolfoaa.wFnFlatten
open Go Go.Sl
theorem Try.mixed : Try.prog.follows .mixedOrders = true := by kernel_rfl
theorem T22 : SlT Try.prog 22 3 1 8 (.int .i64 0) := ⟨Try.underlying22, ⟨Try.t3, by kernel_rfl, rfl, rfl, rfl⟩, rfl, by decide⟩
theorem T31 : SlT Try.prog 31 22 1 24 (.slice none 0 0) := ⟨Try.underlying31, ⟨Try.t22, by kernel_rfl, rfl, rfl, rfl⟩, rfl, by decide⟩
theorem T61 : SlT Try.prog 61 59 1 8 (.nilFunc) := ⟨Try.underlying61, ⟨Try.t59, by kernel_rfl, rfl, rfl, rfl⟩, rfl, by decide⟩

def spliceL (l : List Int) (i : Int) (m : List Int) : List Int :=
  let j := min (if i < 0 then (i + l.length).toNat else i.toNat) l.length
  l.take j ++ m ++ l.drop j

theorem splice_same (l m : List Int) (i : Int) : (spliceL l i m).length = (l ++ m).length ∧ ∀ x ∈ spliceL l i m, (spliceL l i m).count x = (l ++ m).count x := by
  have h : (spliceL l i m).Perm (l ++ m) := by
    unfold spliceL
    generalize min (if i < 0 then (i + l.length).toNat else i.toNat) l.length = j
    have e : l ++ m = l.take j ++ l.drop j ++ m := by rw [List.take_append_drop]
    rw [e, List.append_assoc, List.append_assoc]
    exact List.Perm.append_left _ List.perm_append_comm
  exact ⟨h.length_eq, fun x _ => h.count_eq x⟩

def cutAt (l b : List Int) : Option Nat := (List.range (l.length + 1)).find? (fun i => decide ((l.drop i).take b.length = b))
def cutL (l b : List Int) : List Int × List Int × Bool :=
  match cutAt l b with
  | some k => (l.take k, l.drop (k + b.length), true)
  | none => (l, [], false)
theorem cutAt_some {l b : List Int} {k : Nat} (hk : k ≤ l.length) (h : (l.drop k).take b.length = b) (hn : ∀ j, j < k → ¬ (l.drop j).take b.length = b) : cutAt l b = some k := by
  unfold cutAt
  rw [List.find?_range_eq_some]
  exact ⟨by simpa using h, by simp; omega, fun j hj => by simpa using hn j hj⟩
theorem cutAt_none {l b : List Int} (hn : ∀ j, j ≤ l.length → ¬ (l.drop j).take b.length = b) : cutAt l b = none := by
  unfold cutAt
  rw [List.find?_range_eq_none]
  intro j hj
  simpa using hn j (by omega)
theorem cutL_some {l b : List Int} {k : Nat} (hk : k ≤ l.length) (h : (l.drop k).take b.length = b) (hn : ∀ j, j < k → ¬ (l.drop j).take b.length = b) : cutL l b = (l.take k, l.drop (k + b.length), true) := by
  unfold cutL; rw [cutAt_some hk h hn]
theorem cutL_none {l b : List Int} {k : Nat} (hk : l.length < k + b.length) (hn : ∀ j, j < k → ¬ (l.drop j).take b.length = b) : cutL l b = (l, [], false) := by
  unfold cutL; rw [cutAt_none]
  intro j hj e
  by_cases h : j < k
  · exact hn j h e
  · have := congrArg List.length e
    simp at this; omega
theorem cut_len {l b : List Int} : (cutL l b).1.length ≤ l.length ∧ (cutL l b).2.1.length ≤ l.length := by
  unfold cutL; split <;> simp <;> omega
theorem take_ne {l b : List Int} {k j : Nat} {x y : Int} (hx : l[k + j]? = some x) (hy : b[j]? = some y) (h : x ≠ y) : ¬ (l.drop k).take b.length = b := by
  intro e
  have hj := (List.getElem?_eq_some_iff.1 hy).1
  have : ((l.drop k).take b.length)[j]? = some x := by rw [List.getElem?_take, if_pos hj, List.getElem?_drop]; exact hx
  rw [e, hy] at this; exact h (Option.some.inj this).symm

def AtL (l b : List Int) (i xa : Int) : Prop :=
  (xa = -1 ∧ ∀ j : Nat, i < j → ¬ (l.drop j).take b.length = b) ∨ (∃ p : Nat, xa = p ∧ i < p ∧ p ≤ l.length ∧ (l.drop p).take b.length = b ∧ ∀ j : Nat, i < j → j < p → ¬ (l.drop j).take b.length = b)
theorem AtL_start {l b : List Int} {i : Int} (hb : ¬ (b.length : Int) = 0) (hi : i = (l.length : Int) - b.length) : AtL l b i (-1) := by
  refine .inl ⟨rfl, fun j hj e => ?_⟩
  have := congrArg List.length e
  simp at this; omega
theorem AtL_yes {l b : List Int} {i j xa : Int} (h : AtL l b i xa) (h0 : 0 ≤ i) (h1 : i ≤ l.length) (hj : j = i - 1) (hp : (l.drop i.toNat).take b.length = b) : AtL l b j i := by
  refine .inr ⟨i.toNat, by omega, by omega, by omega, hp, fun k h1 h2 => by omega⟩
theorem AtL_no {l b : List Int} {i j xa : Int} (h : AtL l b i xa) (h0 : 0 ≤ i) (hj : j = i - 1) (hp : ¬ (l.drop i.toNat).take b.length = b) : AtL l b j xa := by
  rcases h with ⟨rfl, h⟩ | ⟨p, rfl, h1, h2, h3, h4⟩
  · refine .inl ⟨rfl, fun k hk => ?_⟩
    by_cases e : (k : Int) = i
    · rw [show k = i.toNat by omega]; exact hp
    · exact h k (by omega)
  · refine .inr ⟨p, rfl, by omega, h2, h3, fun k hk hkp => ?_⟩
    by_cases e : (k : Int) = i
    · rw [show k = i.toNat by omega]; exact hp
    · exact h4 k (by omega) hkp
theorem AtL_end {l b : List Int} {i xa : Int} (h : AtL l b i xa) (h0 : i < 0) :
    (xa = -1 ∧ cutL l b = (l, [], false)) ∨ (∃ p : Nat, xa = p ∧ p ≤ l.length ∧ p + b.length ≤ l.length ∧ cutL l b = (l.take p, l.drop (p + b.length), true) ∧ l.take p ++ b ++ l.drop (p + b.length) = l) := by
  rcases h with ⟨rfl, h⟩ | ⟨p, rfl, h1, h2, h3, h4⟩
  · exact .inl ⟨rfl, cutL_none (k := l.length + 1) (by omega) fun j _ => h j (by omega)⟩
  · refine .inr ⟨p, rfl, h2, ?_, cutL_some h2 h3 fun j hj => h4 j (by omega) hj, ?_⟩
    · have := congrArg List.length h3
      simp at this; omega
    · have e : l.drop p = b ++ l.drop (p + b.length) := by
        conv => lhs; rw [← List.take_append_drop b.length (l.drop p), h3, List.drop_drop]
      rw [List.append_assoc, ← e, List.take_append_drop]

def maxLen (ll : List (List Int)) : Nat := ll.foldl (fun a x => max a x.length) 0
def rowI (i : Nat) (ll : List (List Int)) : List Int := ll.filterMap (fun l => l[i]?)
def interP (k : Nat) (ll : List (List Int)) : List Int := (List.range k).flatMap (fun i => rowI i ll)
def total (ll : List (List Int)) : Nat := (ll.map List.length).sum
theorem maxLen_succ {ll : List (List Int)} {k : Nat} {x : List Int} (h : ll[k]? = some x) : maxLen (ll.take (k + 1)) = max (maxLen (ll.take k)) x.length := by
  simp [maxLen, List.take_add_one, h]
theorem foldl_max_le (ll : List (List Int)) : ∀ a, a ≤ ll.foldl (fun a x => max a x.length) a ∧ ∀ x ∈ ll, x.length ≤ ll.foldl (fun a x => max a x.length) a := by
  induction ll with
  | nil => intro a; simp
  | cons y ll ih =>
    intro a
    obtain ⟨h1, h2⟩ := ih (max a y.length)
    simp only [List.foldl_cons, List.mem_cons]
    refine ⟨by omega, fun x hx => ?_⟩
    rcases hx with rfl | hx
    · omega
    · exact h2 x hx
theorem le_maxLen {ll : List (List Int)} {x : List Int} (h : x ∈ ll) : x.length ≤ maxLen ll := (foldl_max_le ll 0).2 x h
theorem maxLen_le {ll : List (List Int)} {b : Nat} (h : ∀ x ∈ ll, x.length ≤ b) : maxLen ll ≤ b := by
  unfold maxLen
  suffices ∀ a, a ≤ b → ll.foldl (fun a x => max a x.length) a ≤ b from this 0 (by omega)
  induction ll with
  | nil => intro a ha; exact ha
  | cons y ll ih => intro a ha; exact ih (fun x hx => h x (by simp [hx])) _ (by have := h y (by simp); show max a y.length ≤ b; omega)
theorem total_succ {ll : List (List Int)} {k : Nat} {x : List Int} (h : ll[k]? = some x) : total (ll.take (k + 1)) = total (ll.take k) + x.length := by
  simp [total, List.take_add_one, h]
theorem total_take_le (ll : List (List Int)) (k : Nat) : total (ll.take k) ≤ total ll := by
  unfold total
  conv => rhs; rw [← List.take_append_drop k ll]
  rw [List.map_append, List.sum_append]; omega
theorem total_le {ll : List (List Int)} {b : Nat} (h : ∀ x ∈ ll, x.length ≤ b) : total ll ≤ ll.length * b := by
  induction ll with
  | nil => simp [total]
  | cons y ll ih =>
    have h1 := h y (by simp)
    have h2 := ih (fun x hx => h x (by simp [hx]))
    simp only [total, List.map_cons, List.sum_cons, List.length_cons, Nat.succ_mul] at *; omega
theorem interP_succ (k : Nat) (ll : List (List Int)) : interP (k + 1) ll = interP k ll ++ rowI k ll := by
  simp [interP, List.range_succ, List.flatMap_append]
theorem rowI_cons (k : Nat) (x : List Int) (ll : List (List Int)) : (rowI k (x :: ll)).length = (if k < x.length then 1 else 0) + (rowI k ll).length := by
  unfold rowI
  by_cases h : k < x.length
  · rw [List.filterMap_cons, List.getElem?_eq_getElem h]; simp [h]; omega
  · rw [List.filterMap_cons, List.getElem?_eq_none (by omega)]; simp [h]
theorem interP_nil (k : Nat) : interP k [] = [] := by simp [interP, rowI, List.flatMap_eq_nil_iff]
theorem interP_cons (k : Nat) (x : List Int) (ll : List (List Int)) : (interP k (x :: ll)).length = min k x.length + (interP k ll).length := by
  induction k with
  | zero => simp [interP]
  | succ k ih => rw [interP_succ, interP_succ, List.length_append, List.length_append, ih, rowI_cons]; split <;> omega
theorem interP_le (k : Nat) (ll : List (List Int)) : (interP k ll).length ≤ total ll := by
  induction ll with
  | nil => simp [interP_nil, total]
  | cons x ll ih => rw [interP_cons]; simp only [total, List.map_cons, List.sum_cons] at *; omega
theorem interP_full {k : Nat} {ll : List (List Int)} (h : ∀ x ∈ ll, x.length ≤ k) : (interP k ll).length = total ll := by
  induction ll with
  | nil => simp [interP_nil, total]
  | cons x ll ih =>
    have h1 := h x (by simp)
    have h2 := ih fun y hy => h y (by simp [hy])
    rw [interP_cons]; simp only [total, List.map_cons, List.sum_cons] at *; omega
theorem rowI_succ {ll : List (List Int)} {j i : Nat} {x : List Int} (h : ll[j]? = some x) : rowI i (ll.take (j + 1)) = rowI i (ll.take j) ++ x[i]?.toList := by
  unfold rowI
  rw [List.take_add_one, h, List.filterMap_append]
  cases e : x[i]? <;> simp [e]
theorem rowI_take_le (i j : Nat) (ll : List (List Int)) : (rowI i (ll.take j)).length ≤ (rowI i ll).length := by
  unfold rowI
  conv => rhs; rw [← List.take_append_drop j ll, List.filterMap_append, List.length_append]
  omega
theorem inter_row_le (i j : Nat) (ll : List (List Int)) : (interP i ll).length + (rowI i (ll.take j)).length ≤ total ll := by
  have h := interP_le (i + 1) ll
  rw [interP_succ, List.length_append] at h
  have := rowI_take_le i j ll; omega
theorem inter_row_lt {i j : Nat} {ll : List (List Int)} {x : List Int} (h : ll[j]? = some x) (hi : i < x.length) : (interP i ll).length + (rowI i (ll.take j)).length < total ll := by
  have h1 := inter_row_le i (j + 1) ll
  rw [rowI_succ h, List.getElem?_eq_getElem hi] at h1
  simp at h1; omega
theorem rowI_out {i : Nat} {ll : List (List Int)} (h : ∀ x ∈ ll, x.length ≤ i) : rowI i ll = [] := by
  unfold rowI
  rw [List.filterMap_eq_nil_iff]
  intro x hx
  exact List.getElem?_eq_none (h x hx)
theorem interP_stable {ll : List (List Int)} {m : Nat} (h : ∀ x ∈ ll, x.length ≤ m) : ∀ k, m ≤ k → interP k ll = interP m ll := by
  intro k hk
  induction k with
  | zero => rw [show m = 0 by omega]
  | succ k ih =>
    by_cases e : m = k + 1
    · rw [e]
    · rw [interP_succ, ih (by omega), rowI_out fun x hx => by have := h x hx; omega, List.append_nil]
def interL (ll : List (List Int)) : List Int := interP (maxLen ll) ll
theorem interL_eq {ll : List (List Int)} {k : Nat} (h : maxLen ll ≤ k) : interP k ll = interL ll :=
  interP_stable (fun x hx => le_maxLen hx) k h
theorem maxLen_total (ll : List (List Int)) : maxLen ll ≤ total ll := by
  refine maxLen_le fun x hx => ?_
  obtain ⟨k, hk⟩ := List.getElem?_of_mem hx
  have := total_take_le ll (k + 1)
  rw [total_succ hk] at this; omega
theorem interL_length (ll : List (List Int)) : (interL ll).length = total ll := interP_full fun x hx => le_maxLen hx
theorem rowI_perm (ll : List (List Int)) (k : Nat) : (rowI k ll ++ (ll.map (List.drop (k + 1))).flatten).Perm (ll.map (List.drop k)).flatten := by
  induction ll with
  | nil => simp [rowI]
  | cons x ll ih =>
    unfold rowI at *
    rw [List.filterMap_cons]
    simp only [List.map_cons, List.flatten_cons]
    cases e : x[k]? with
    | none =>
      have hk : x.length ≤ k := by simpa using e
      simp only [List.drop_eq_nil_of_le hk, List.drop_eq_nil_of_le (Nat.le_succ_of_le hk), List.nil_append]
      exact ih
    | some y =>
      have hk := (List.getElem?_eq_some_iff.1 e)
      obtain ⟨h1, h2⟩ := hk
      rw [List.drop_eq_getElem_cons h1, h2]
      simp only [List.cons_append]
      refine List.Perm.cons y ?_
      rw [← List.append_assoc]
      refine (List.Perm.append_right _ List.perm_append_comm).trans ?_
      rw [List.append_assoc]
      exact List.Perm.append_left _ ih
theorem interP_perm (ll : List (List Int)) : ∀ k, (interP k ll ++ (ll.map (List.drop k)).flatten).Perm ll.flatten := by
  intro k
  induction k with
  | zero => simp [interP, show (List.drop 0 : List Int → List Int) = id from funext fun _ => rfl]
  | succ k ih =>
    rw [interP_succ, List.append_assoc]
    exact (List.Perm.append_left _ (rowI_perm ll k)).trans ih
theorem interL_perm (ll : List (List Int)) : (interL ll).Perm ll.flatten := by
  have h := interP_perm ll (maxLen ll)
  have e : (ll.map (List.drop (maxLen ll))).flatten = [] := by
    rw [List.flatten_eq_nil_iff]
    intro l hl
    obtain ⟨x, hx, rfl⟩ := List.mem_map.1 hl
    exact List.drop_eq_nil_of_le (le_maxLen hx)
  rw [e, List.append_nil] at h; exact h
theorem inter_same (ll : List (List Int)) : (interL ll).length = ll.flatten.length ∧ ∀ x ∈ interL ll, (interL ll).count x = ll.flatten.count x :=
  ⟨(interL_perm ll).length_eq, fun x _ => (interL_perm ll).count_eq x⟩
theorem flatten_len (ll : List (List Int)) : ll.flatten.length = total ll := by simp [total, List.length_flatten]
theorem flatten_succ {ll : List (List Int)} {k : Nat} {x : List Int} (h : ll[k]? = some x) : (ll.take (k + 1)).flatten = (ll.take k).flatten ++ x := by
  simp [List.take_add_one, h]
theorem set_fill {p q : List Int} {n : Nat} {y : Int} (h : p.length < n) (hq : q = p ++ [y]) : (p ++ List.replicate (n - p.length) (0 : Int)).set p.length y = q ++ List.replicate (n - q.length) (0 : Int) := by
  subst hq
  rw [List.set_append_right _ _ (Nat.le_refl _), Nat.sub_self]
  obtain ⟨m, hm⟩ : ∃ m, n - p.length = m + 1 := ⟨n - p.length - 1, by omega⟩
  rw [hm, List.replicate_succ, List.set_cons_zero]
  simp; omega

theorem List.mem_take_succ_of {α : Type} {l : List α} {k : Nat} {x : α} (h : l[k]? = some x) : x ∈ l.take (k + 1) := by
  rw [List.take_add_one, h]; simp
theorem take_mem_exists {α : Type} {l : List α} {k : Nat} {x : α} {p : α → Prop} (h : l[k]? = some x) : (∃ y ∈ l.take (k + 1), p y) ↔ (∃ y ∈ l.take k, p y) ∨ p x := by
  rw [List.take_add_one, h]
  simp only [Option.toList_some, List.mem_append, List.mem_singleton]
  constructor
  · rintro ⟨y, hy | rfl, hp⟩
    · exact .inl ⟨y, hy, hp⟩
    · exact .inr hp
  · rintro (⟨y, hy, hp⟩ | hp)
    · exact ⟨y, .inl hy, hp⟩
    · exact ⟨x, .inr rfl, hp⟩

theorem flat_prefix {l : List (List Int)} {k : Nat} {xk p : List Int} {x : Int} (h : l[k]? = some xk) (hp : p ++ [x] <+: xk) : ((l.take k).flatten ++ p) ++ [x] <+: l.flatten := by
  have h1 : (l.take (k + 1)).flatten <+: l.flatten := by
    conv => rhs; rw [← List.take_append_drop (k + 1) l, List.flatten_append]
    exact List.prefix_append _ _
  rw [flatten_succ h] at h1
  rw [List.append_assoc]
  exact ((List.prefix_append_right_inj _).2 hp).trans h1
theorem flat_prefix0 {l : List (List Int)} {k : Nat} {xk p : List Int} (h : l[k]? = some xk) (hp : p <+: xk) : ((l.take k).flatten ++ p) <+: l.flatten := by
  have h1 : (l.take (k + 1)).flatten <+: l.flatten := by
    conv => rhs; rw [← List.take_append_drop (k + 1) l, List.flatten_append]
    exact List.prefix_append _ _
  rw [flatten_succ h] at h1
  exact ((List.prefix_append_right_inj _).2 hp).trans h1
theorem total_append (a b : List (List Int)) : total (a ++ b) = total a + total b := by simp [total]

set_option maxHeartbeats 4000000 in
theorem laws_zzFits2 {M : Hp} {v0 : Value} {l0 : List (List Int)} (h0 : RdII M v0 l0) :
    Pu Try.prog (.func (.func 21) #[] #[]) M [v0] (fun r M' => r = .bool (decide (l0.length ≤ 2147483647 ∧ ∀ x ∈ l0, x.length ≤ 2147483647))) := by
  refine Pu_enter Try.func21 rfl Try.ntmps21 rfl Try.call21 ?_
  intro a w M1 H hM1 S E
  replace h0 := h0.le hM1
  have b0 := h0.bound
  refine WP_seq ?_
  refine WP_region ?_
  refine S_v E rfl (R_assign E rfl) rfl ?_
  clear E a; intro a E
  refine WL_nil ?_
  refine T_n ?_
  refine WP_seq ?_
  refine WP_seq ?_
  refine WP_region ?_
  refine S_v E rfl (R_move E rfl) rfl ?_
  clear E a; intro a E
  refine S_v E rfl (R_lenV E rfl T31 h0.len) rfl ?_
  clear E a; intro a E
  refine S_v E rfl (R_gtr E rfl rfl) rfl ?_
  clear E a; intro a E
  refine WL_nil ?_
  refine T_n ?_
  refine WP_cond E rfl (fun hc1 => ?_) (fun hc1 => ?_)
  · replace hc1 := of_decide_eq_true hc1
    refine WP_seq ?_
    refine WP_region ?_
    refine S_v E rfl (R_assign E rfl) rfl ?_
    clear E a; intro a E
    refine WL_nil ?_
    refine T_n ?_
    refine WP_ret ?_
    refine T_r ?_
    exact F_ret1 E Try.results21 rfl ⟨_, rfl, M1, (Hp.le.refl _), (bF (by ((try clear S); (try clear E); first | assumption | omega | rfl | (simp; done) | (simp_all; done) | (simp [List.take_add_one, *]; done) | grind [List.take_add_one]))), S⟩
  · replace hc1 := of_decide_eq_false hc1
    refine WP_skip ?_
    refine T_n ?_
    refine WP_seq ?_
    refine WP_seq ?_
    refine WP_region ?_
    refine S_v E rfl (R_move E rfl) rfl ?_
    clear E a; intro a E
    refine S_v E rfl (R_lenV E rfl T31 h0.len) rfl ?_
    clear E a; intro a E
    refine S_v E rfl (R_move E rfl) rfl ?_
    clear E a; intro a E
    refine WL_nil ?_
    refine T_n ?_
    refine WP_block ?_
    refine WP_loop (γ := Nat) (fun (k : Nat) a w => ∃ (M_2 : Hp), Hp.le M1 M_2 ∧ St w M_2 (H) ∧ Env a 18 [] [(8, v0), (9, .int .i64 (((l0).length : Nat) : Int)), (10, .int .i64 ((k : Nat) : Int))] ∧ (k ≤ (l0).length) ∧ (l0.length ≤ 2147483647) ∧ (∀ x ∈ l0.take k, x.length ≤ 2147483647)) (fun k => ((l0).length) - k) 0 ⟨M1, Hp.le.refl _, S, E.keep ⟨rfl, rfl, rfl, trivial⟩, by ((try clear S); (try clear E); first | assumption | omega | rfl | (simp; done) | (simp_all; done) | (simp [List.take_add_one, *]; done) | grind [List.take_add_one]), by ((try clear S); (try clear E); first | assumption | omega | rfl | (simp; done) | (simp_all; done) | (simp [List.take_add_one, *]; done) | grind [List.take_add_one]), by ((try clear S); (try clear E); first | assumption | omega | rfl | (simp; done) | (simp_all; done) | (simp [List.take_add_one, *]; done) | grind [List.take_add_one])⟩ ?_
    try clear E
    try clear S
    try clear a
    try clear w
    rintro k a w ⟨M_2, hM_2, S, E, hL0_0, hL0_1, hL0_2⟩
    replace h0 := h0.le hM_2
    refine WP_seq ?_
    refine WP_region ?_
    refine S_v E rfl (R_lss E rfl rfl) rfl ?_
    clear E a; intro a E
    refine WL_nil ?_
    refine T_n ?_
    refine WP_seq ?_
    refine WP_cond E rfl (fun hc3 => ?_) (fun hc3 => ?_)
    · replace hc3 := of_decide_eq_true hc3
      refine WP_skip ?_
      refine T_n ?_
      refine WP_seq ?_
      refine WP_block ?_
      refine WP_seq ?_
      refine WP_region ?_
      obtain ⟨x4, hx4⟩ : ∃ x, (l0)[k]? = some x := ⟨_, List.getElem?_eq_getElem (by first | omega | (simp; omega) | (simp_all; omega))⟩
      obtain ⟨p5, u6, hp5, qp5, hu6⟩ := h0.at hx4
      have bu6 := hu6.bound
      refine S_v E rfl (R_idx E rfl rfl T31 hp5 rfl) rfl ?_
      clear E a; intro a E
      refine S_v E rfl (R_loadM E rfl Try.isAgg22 S.imm qp5) rfl ?_
      clear E a; intro a E
      refine S_v E rfl (R_assign E rfl) rfl ?_
      clear E a; intro a E
      refine WL_nil ?_
      refine T_n ?_
      refine WP_seq ?_
      refine WP_region ?_
      refine S_v E rfl (R_move E rfl) rfl ?_
      clear E a; intro a E
      refine S_v E rfl (R_lenV E rfl T22 hu6.len) rfl ?_
      clear E a; intro a E
      refine S_v E rfl (R_gtr E rfl rfl) rfl ?_
      clear E a; intro a E
      refine WL_nil ?_
      refine T_n ?_
      refine WP_cond E rfl (fun hc7 => ?_) (fun hc7 => ?_)
      · replace hc7 := of_decide_eq_true hc7
        refine WP_seq ?_
        refine WP_region ?_
        refine S_v E rfl (R_assign E rfl) rfl ?_
        clear E a; intro a E
        refine WL_nil ?_
        refine T_n ?_
        refine WP_ret ?_
        refine B_r ?_
        refine T_r ?_
        refine T_r ?_
        refine B_r ?_
        refine T_r ?_
        exact F_ret1 E Try.results21 rfl ⟨_, rfl, M_2, hM_2, (bF (by ((try clear S); (try clear E); first | assumption | omega | rfl | (simp; done) | (simp_all; done) | (simp [List.take_add_one, *]; done) | grind [List.take_add_one]))), S⟩
      · replace hc7 := of_decide_eq_false hc7
        refine WP_skip ?_
        refine B_n ?_
        refine T_n ?_
        refine WP_region ?_
        refine S_v E rfl (R_addx (m := ((k + 1 : Nat) : Int)) E rfl rfl (by omega) (by omega)) rfl ?_
        clear E a; intro a E
        refine S_v E rfl (R_move E rfl) rfl ?_
        clear E a; intro a E
        refine WL_nil ?_
        refine T_n ?_
        exact ⟨k + 1, ⟨M_2, hM_2, S, E.keep ⟨rfl, rfl, rfl, trivial⟩, by ((try clear S); (try clear E); first | assumption | omega | rfl | (simp; done) | (simp_all; done) | (simp [List.take_add_one, *]; done) | grind [List.take_add_one]), by ((try clear S); (try clear E); first | assumption | omega | rfl | (simp; done) | (simp_all; done) | (simp [List.take_add_one, *]; done) | grind [List.take_add_one]), by ((try clear S); (try clear E); first | assumption | omega | rfl | (simp; done) | (simp_all; done) | (simp [List.take_add_one, *]; done) | grind [List.take_add_one])⟩, by omega⟩
    · replace hc3 := of_decide_eq_false hc3
      refine WP_exit ?_
      refine T_x ?_
      refine T_x ?_
      refine B_x ?_
      refine T_n ?_
      refine WP_seq ?_
      refine WP_region ?_
      refine S_v E rfl (R_assign E rfl) rfl ?_
      clear E a; intro a E
      refine WL_nil ?_
      refine T_n ?_
      refine WP_ret ?_
      exact F_ret1 E Try.results21 rfl ⟨_, rfl, M_2, hM_2, (bT (by ((try clear S); (try clear E); first | assumption | omega | rfl | (simp; done) | (simp_all; done) | (simp [List.take_add_one, *]; done) | grind [List.take_add_one]))), S⟩

set_option maxHeartbeats 4000000 in
theorem lo_Flatten {M : Hp} {v0 : Value} {l0 : List (List Int)} (h0 : RdII M v0 l0) (hb : total l0 ≤ 1000000000) :
    Pu Try.prog (.func (.func 63) #[] #[]) M [v0] (fun r M' => RdI M' r ((l0).flatten)) := by
  refine Pu_enter Try.func63 rfl Try.ntmps63 rfl Try.call63 ?_
  intro a w M1 H hM1 S E
  replace h0 := h0.le hM1
  have b0 := h0.bound
  refine WP_seq ?_
  refine WP_region ?_
  refine S_v E rfl (R_assign E rfl) rfl ?_
  clear E a; intro a E
  refine WL_nil ?_
  refine T_n ?_
  refine WP_seq ?_
  refine WP_region ?_
  refine S_v E rfl (R_assign E rfl) rfl ?_
  clear E a; intro a E
  refine WL_nil ?_
  refine T_n ?_
  refine WP_seq ?_
  refine WP_seq ?_
  refine WP_region ?_
  refine S_v E rfl (R_move E rfl) rfl ?_
  clear E a; intro a E
  refine S_v E rfl (R_lenV E rfl T31 h0.len) rfl ?_
  clear E a; intro a E
  refine S_v E rfl (R_move E rfl) rfl ?_
  clear E a; intro a E
  refine WL_nil ?_
  refine T_n ?_
  refine WP_block ?_
  refine WP_loop (γ := Nat) (fun (k : Nat) a w => ∃ (M_1 : Hp), Hp.le M1 M_1 ∧ St w M_1 (H) ∧ Env a 35 [] [(0, v0), (3, .int .i64 ((total (l0.take k) : Nat) : Int)), (8, .int .i64 (((l0).length : Nat) : Int)), (9, .int .i64 ((k : Nat) : Int))] ∧ (k ≤ (l0).length)) (fun k => ((l0).length) - k) 0 ⟨M1, Hp.le.refl _, S, E.keep ⟨rfl, look_nat (i := 0) rfl (by ((try clear S); (try clear E); first | assumption | omega | rfl | (simp; done) | (simp_all; done) | (simp [List.take_add_one, *]; done) | grind [List.take_add_one])), rfl, rfl, trivial⟩, by ((try clear S); (try clear E); first | assumption | omega | rfl | (simp; done) | (simp_all; done) | (simp [List.take_add_one, *]; done) | grind [List.take_add_one])⟩ ?_
  try clear E
  try clear S
  try clear a
  try clear w
  rintro k a w ⟨M_1, hM_1, S, E, hL0_0⟩
  replace h0 := h0.le hM_1
  have ht := total_take_le l0 k
  refine WP_seq ?_
  refine WP_region ?_
  refine S_v E rfl (R_lss E rfl rfl) rfl ?_
  clear E a; intro a E
  refine WL_nil ?_
  refine T_n ?_
  refine WP_seq ?_
  refine WP_cond E rfl (fun hc2 => ?_) (fun hc2 => ?_)
  · replace hc2 := of_decide_eq_true hc2
    refine WP_skip ?_
    refine T_n ?_
    refine WP_seq ?_
    refine WP_block ?_
    refine WP_seq ?_
    refine WP_region ?_
    refine S_v E rfl (R_move E rfl) rfl ?_
    clear E a; intro a E
    refine S_v E rfl (R_assign E rfl) rfl ?_
    clear E a; intro a E
    refine WL_nil ?_
    refine T_n ?_
    refine WP_region ?_
    refine S_v E rfl (R_move E rfl) rfl ?_
    clear E a; intro a E
    refine S_v E rfl (R_move E rfl) rfl ?_
    clear E a; intro a E
    refine S_v E rfl (R_move E rfl) rfl ?_
    clear E a; intro a E
    obtain ⟨x3, hx3⟩ : ∃ x, (l0)[k]? = some x := ⟨_, List.getElem?_eq_getElem (by first | omega | (simp; omega) | (simp_all; omega))⟩
    obtain ⟨p4, u5, hp4, qp4, hu5⟩ := h0.at hx3
    have bu5 := hu5.bound
    refine S_v E rfl (R_idx E rfl rfl T31 hp4 rfl) rfl ?_
    clear E a; intro a E
    refine S_v E rfl (R_loadM E rfl Try.isAgg22 S.imm qp4) rfl ?_
    clear E a; intro a E
    refine S_v E rfl (R_lenV E rfl T22 hu5.len) rfl ?_
    clear E a; intro a E
    refine S_v E rfl (R_addx (m := ((total (l0.take k) + (x3).length : Nat) : Int)) E rfl rfl (by first | omega | (have ht2 := total_take_le l0 (k+1); rw [total_succ (by assumption)] at ht2; omega)) (by first | omega | (have ht2 := total_take_le l0 (k+1); rw [total_succ (by assumption)] at ht2; omega))) rfl ?_
    clear E a; intro a E
    refine S_v E rfl (R_assign E rfl) rfl ?_
    clear E a; intro a E
    refine WL_nil ?_
    refine B_n ?_
    refine T_n ?_
    refine WP_region ?_
    refine S_v E rfl (R_addx (m := ((k + 1 : Nat) : Int)) E rfl rfl (by omega) (by omega)) rfl ?_
    clear E a; intro a E
    refine S_v E rfl (R_move E rfl) rfl ?_
    clear E a; intro a E
    refine WL_nil ?_
    refine T_n ?_
    exact ⟨k + 1, ⟨M_1, hM_1, S, E.keep ⟨rfl, look_nat (i := total (l0.take k) + (x3).length) rfl (by (rw [total_succ (by assumption)])), rfl, rfl, trivial⟩, by ((try clear S); (try clear E); first | assumption | omega | rfl | (simp; done) | (simp_all; done) | (simp [List.take_add_one, *]; done) | grind [List.take_add_one])⟩, by omega⟩
  · replace hc2 := of_decide_eq_false hc2
    refine WP_exit ?_
    refine T_x ?_
    refine T_x ?_
    refine B_x ?_
    refine T_n ?_
    refine WP_seq ?_
    refine WP_region ?_
    refine S_v E rfl (R_move E rfl) rfl ?_
    clear E a; intro a E
    refine S_x (X_make0 (k := total (l0.take k)) E S rfl rfl rfl T22 rfl (by omega) (by (have ht := total_take_le l0 k; omega)) (by (have ht := total_take_le l0 k; omega)) ?_)
    clear E a S; rintro a w v6 E S
    replace S := S.made0
    refine S_v E rfl (R_assign E rfl) rfl ?_
    clear E a; intro a E
    refine WL_nil ?_
    refine T_n ?_
    refine WP_seq ?_
    refine WP_seq ?_
    refine WP_region ?_
    refine S_v E rfl (R_move E rfl) rfl ?_
    clear E a; intro a E
    refine S_v E rfl (R_lenV E rfl T31 h0.len) rfl ?_
    clear E a; intro a E
    refine S_v E rfl (R_move E rfl) rfl ?_
    clear E a; intro a E
    refine WL_nil ?_
    refine T_n ?_
    refine WP_block ?_
    replace S := S.re1 (l' := (l0.take 0).flatten) (by first | rfl | (rw [flatten_succ (by assumption)]; done))
    refine WP_loop (γ := Nat) (fun (k : Nat) a w => ∃ (M_7 : Hp) (u5 : Value), Hp.le M_1 M_7 ∧ St w M_7 (OwnI 3 u5 ((l0.take k).flatten) :: H) ∧ Env a 35 [] [(0, v0), (5, u5), (23, .int .i64 (((l0).length : Nat) : Int)), (24, .int .i64 ((k : Nat) : Int))] ∧ (k ≤ (l0).length)) (fun k => ((l0).length) - k) 0 ⟨M_1, _, Hp.le.refl _, S, E.keep ⟨rfl, rfl, rfl, rfl, trivial⟩, by ((try clear S); (try clear E); first | assumption | omega | rfl | (simp; done) | (simp_all; done) | (simp [List.take_add_one, *]; done) | grind [List.take_add_one])⟩ ?_
    try clear E
    try clear S
    try clear a
    try clear w
    rintro k a w ⟨M_7, u5, hM_7, S, E, hL1_0⟩
    replace h0 := h0.le hM_7
    have ht := total_take_le l0 k; have hf := flatten_len (l0.take k)
    refine WP_seq ?_
    refine WP_region ?_
    refine S_v E rfl (R_lss E rfl rfl) rfl ?_
    clear E a; intro a E
    refine WL_nil ?_
    refine T_n ?_
    refine WP_seq ?_
    refine WP_cond E rfl (fun hc8 => ?_) (fun hc8 => ?_)
    · replace hc8 := of_decide_eq_true hc8
      refine WP_skip ?_
      refine T_n ?_
      refine WP_seq ?_
      refine WP_block ?_
      refine WP_seq ?_
      refine WP_region ?_
      refine S_v E rfl (R_move E rfl) rfl ?_
      clear E a; intro a E
      refine S_v E rfl (R_assign E rfl) rfl ?_
      clear E a; intro a E
      refine WL_nil ?_
      refine T_n ?_
      refine WP_region ?_
      refine S_v E rfl (R_move E rfl) rfl ?_
      clear E a; intro a E
      refine S_v E rfl (R_move E rfl) rfl ?_
      clear E a; intro a E
      refine S_v E rfl (R_move E rfl) rfl ?_
      clear E a; intro a E
      obtain ⟨x9, hx9⟩ : ∃ x, (l0)[k]? = some x := ⟨_, List.getElem?_eq_getElem (by first | omega | (simp; omega) | (simp_all; omega))⟩
      obtain ⟨p10, u11, hp10, qp10, hu11⟩ := h0.at hx9
      have bu11 := hu11.bound
      refine S_v E rfl (R_idx E rfl rfl T31 hp10 rfl) rfl ?_
      clear E a; intro a E
      refine S_v E rfl (R_loadM E rfl Try.isAgg22 S.imm qp10) rfl ?_
      clear E a; intro a E
      refine S_x (X_appendI (xs := (l0.take k).flatten) E S rfl rfl rfl T22 hu11 (by (have ht2 := total_take_le l0 (k+1); rw [total_succ (by assumption)] at ht2; omega)) ?_)
      clear E a S; rintro a w v12 E S
      refine S_v E rfl (R_assign E rfl) rfl ?_
      clear E a; intro a E
      refine WL_nil ?_
      refine B_n ?_
      refine T_n ?_
      refine WP_region ?_
      refine S_v E rfl (R_addx (m := ((k + 1 : Nat) : Int)) E rfl rfl (by omega) (by omega)) rfl ?_
      clear E a; intro a E
      refine S_v E rfl (R_move E rfl) rfl ?_
      clear E a; intro a E
      refine WL_nil ?_
      refine T_n ?_
      replace S := S.re1 (l' := (l0.take (k + 1)).flatten) (by first | rfl | (rw [flatten_succ (by assumption)]; done))
      exact ⟨k + 1, ⟨M_7, _, hM_7, S, E.keep ⟨rfl, rfl, rfl, rfl, trivial⟩, by ((try clear S); (try clear E); first | assumption | omega | rfl | (simp; done) | (simp_all; done) | (simp [List.take_add_one, *]; done) | grind [List.take_add_one])⟩, by omega⟩
    · replace hc8 := of_decide_eq_false hc8
      refine WP_exit ?_
      refine T_x ?_
      refine T_x ?_
      refine B_x ?_
      refine T_n ?_
      refine WP_seq ?_
      refine WP_region ?_
      refine S_v E rfl (R_move E rfl) rfl ?_
      clear E a; intro a E
      refine S_v E rfl (R_assign E rfl) rfl ?_
      clear E a; intro a E
      refine WL_nil ?_
      refine T_n ?_
      refine WP_ret ?_
      have S0 := S; clear S
      obtain ⟨M_13, hM_13, hz14, S⟩ := S0.freezeI (by (have ht := total_take_le l0 k; rw [flatten_len]; omega))
      clear S0
      replace h0 := h0.le hM_13
      exact F_ret1 E Try.results63 rfl ⟨_, rfl, M_13, (hM_1.trans (hM_7.trans hM_13)), (by rw [show ((l0).flatten) = ((l0.take k).flatten) from by (rw [List.take_of_length_le (by omega)])]; exact hz14), S⟩

set_option maxHeartbeats 4000000 in
theorem impl_Flatten {M : Hp} {v0 : Value} {l0 : List (List Int)} (h0 : RdII M v0 l0) (hb : total l0 ≤ 1000000000) :
    Pu Try.prog (.func (.func 24) #[] #[]) M [v0] (fun r M' => RdI M' r ((l0).flatten)) := by
  refine Pu_enter Try.func24 rfl Try.ntmps24 rfl Try.call24 ?_
  intro a w M1 H hM1 S E
  replace h0 := h0.le hM1
  have b0 := h0.bound
  refine WP_seq ?_
  refine WP_region ?_
  refine S_v E rfl (R_assign E rfl) rfl ?_
  clear E a; intro a E
  refine WL_nil ?_
  refine T_n ?_
  refine WP_seq ?_
  refine WP_region ?_
  refine S_v E rfl (R_move E rfl) rfl ?_
  clear E a; intro a E
  refine S_x (X_pu E S rfl rfl rfl (lo_Flatten h0 (by first | omega | decide | (simp only [List.nil_append]; omega) | (simp; omega))) (Hp.le.refl _) ?_)
  clear E a S; rintro a v2 w M_1 hM_1 hv2 S E
  replace h0 := h0.le hM_1
  refine S_v E rfl (R_assign E rfl) rfl ?_
  clear E a; intro a E
  refine WL_nil ?_
  refine T_n ?_
  refine WP_ret ?_
  exact F_ret1 E Try.results24 rfl ⟨_, rfl, M_1, hM_1, hv2, S⟩

set_option maxHeartbeats 4000000 in
theorem laws_few {M : Hp} {v0 : Value} {l0 : List (List Int)} (h0 : RdII M v0 l0) :
    Pu Try.prog (.func (.func 13) #[] #[]) M [v0] (fun r M' => r = .bool (decide (∀ x ∈ l0, x.length ≤ 300))) := by
  refine Pu_enter Try.func13 rfl Try.ntmps13 rfl Try.call13 ?_
  intro a w M1 H hM1 S E
  replace h0 := h0.le hM1
  have b0 := h0.bound
  refine WP_seq ?_
  refine WP_region ?_
  refine S_v E rfl (R_assign E rfl) rfl ?_
  clear E a; intro a E
  refine WL_nil ?_
  refine T_n ?_
  refine WP_seq ?_
  refine WP_seq ?_
  refine WP_region ?_
  refine S_v E rfl (R_move E rfl) rfl ?_
  clear E a; intro a E
  refine S_v E rfl (R_lenV E rfl T31 h0.len) rfl ?_
  clear E a; intro a E
  refine S_v E rfl (R_move E rfl) rfl ?_
  clear E a; intro a E
  refine WL_nil ?_
  refine T_n ?_
  refine WP_block ?_
  refine WP_loop (γ := Nat) (fun (k : Nat) a w => ∃ (M_1 : Hp), Hp.le M1 M_1 ∧ St w M_1 (H) ∧ Env a 15 [] [(5, v0), (6, .int .i64 (((l0).length : Nat) : Int)), (7, .int .i64 ((k : Nat) : Int))] ∧ (k ≤ (l0).length) ∧ (∀ x ∈ l0.take k, x.length ≤ 300)) (fun k => ((l0).length) - k) 0 ⟨M1, Hp.le.refl _, S, E.keep ⟨rfl, rfl, rfl, trivial⟩, by ((try clear S); (try clear E); first | assumption | omega | rfl | (simp; done) | (simp_all; done) | (simp [List.take_add_one, *]; done) | grind [List.take_add_one]), by ((try clear S); (try clear E); first | assumption | omega | rfl | (simp; done) | (simp_all; done) | (simp [List.take_add_one, *]; done) | grind [List.take_add_one])⟩ ?_
  try clear E
  try clear S
  try clear a
  try clear w
  rintro k a w ⟨M_1, hM_1, S, E, hL0_0, hL0_1⟩
  replace h0 := h0.le hM_1
  refine WP_seq ?_
  refine WP_region ?_
  refine S_v E rfl (R_lss E rfl rfl) rfl ?_
  clear E a; intro a E
  refine WL_nil ?_
  refine T_n ?_
  refine WP_seq ?_
  refine WP_cond E rfl (fun hc2 => ?_) (fun hc2 => ?_)
  · replace hc2 := of_decide_eq_true hc2
    refine WP_skip ?_
    refine T_n ?_
    refine WP_seq ?_
    refine WP_block ?_
    refine WP_seq ?_
    refine WP_region ?_
    obtain ⟨x3, hx3⟩ : ∃ x, (l0)[k]? = some x := ⟨_, List.getElem?_eq_getElem (by first | omega | (simp; omega) | (simp_all; omega))⟩
    obtain ⟨p4, u5, hp4, qp4, hu5⟩ := h0.at hx3
    have bu5 := hu5.bound
    refine S_v E rfl (R_idx E rfl rfl T31 hp4 rfl) rfl ?_
    clear E a; intro a E
    refine S_v E rfl (R_loadM E rfl Try.isAgg22 S.imm qp4) rfl ?_
    clear E a; intro a E
    refine S_v E rfl (R_assign E rfl) rfl ?_
    clear E a; intro a E
    refine WL_nil ?_
    refine T_n ?_
    refine WP_seq ?_
    refine WP_region ?_
    refine S_v E rfl (R_move E rfl) rfl ?_
    clear E a; intro a E
    refine S_v E rfl (R_lenV E rfl T22 hu5.len) rfl ?_
    clear E a; intro a E
    refine S_v E rfl (R_gtr E rfl rfl) rfl ?_
    clear E a; intro a E
    refine WL_nil ?_
    refine T_n ?_
    refine WP_cond E rfl (fun hc6 => ?_) (fun hc6 => ?_)
    · replace hc6 := of_decide_eq_true hc6
      refine WP_seq ?_
      refine WP_region ?_
      refine S_v E rfl (R_assign E rfl) rfl ?_
      clear E a; intro a E
      refine WL_nil ?_
      refine T_n ?_
      refine WP_ret ?_
      refine B_r ?_
      refine T_r ?_
      refine T_r ?_
      refine B_r ?_
      refine T_r ?_
      exact F_ret1 E Try.results13 rfl ⟨_, rfl, M_1, hM_1, (bF (by ((try clear S); (try clear E); first | assumption | omega | rfl | (simp; done) | (simp_all; done) | (simp [List.take_add_one, *]; done) | grind [List.take_add_one]))), S⟩
    · replace hc6 := of_decide_eq_false hc6
      refine WP_skip ?_
      refine B_n ?_
      refine T_n ?_
      refine WP_region ?_
      refine S_v E rfl (R_addx (m := ((k + 1 : Nat) : Int)) E rfl rfl (by omega) (by omega)) rfl ?_
      clear E a; intro a E
      refine S_v E rfl (R_move E rfl) rfl ?_
      clear E a; intro a E
      refine WL_nil ?_
      refine T_n ?_
      exact ⟨k + 1, ⟨M_1, hM_1, S, E.keep ⟨rfl, rfl, rfl, trivial⟩, by ((try clear S); (try clear E); first | assumption | omega | rfl | (simp; done) | (simp_all; done) | (simp [List.take_add_one, *]; done) | grind [List.take_add_one]), by ((try clear S); (try clear E); first | assumption | omega | rfl | (simp; done) | (simp_all; done) | (simp [List.take_add_one, *]; done) | grind [List.take_add_one])⟩, by omega⟩
  · replace hc2 := of_decide_eq_false hc2
    refine WP_exit ?_
    refine T_x ?_
    refine T_x ?_
    refine B_x ?_
    refine T_n ?_
    refine WP_seq ?_
    refine WP_region ?_
    refine S_v E rfl (R_assign E rfl) rfl ?_
    clear E a; intro a E
    refine WL_nil ?_
    refine T_n ?_
    refine WP_ret ?_
    exact F_ret1 E Try.results13 rfl ⟨_, rfl, M_1, hM_1, (bT (by ((try clear S); (try clear E); first | assumption | omega | rfl | (simp; done) | (simp_all; done) | (simp [List.take_add_one, *]; done) | grind [List.take_add_one]))), S⟩

set_option maxHeartbeats 4000000 in
theorem spec_Flatten {M : Hp} {v0 : Value} {l0 : List (List Int)} (h0 : RdII M v0 l0) (hb : total l0 ≤ 1000000000) :
    Pu Try.prog (.func (.func 25) #[] #[]) M [v0] (fun r M' => RdI M' r ((l0).flatten)) := by
  refine Pu_enter Try.func25 rfl Try.ntmps25 rfl Try.call25 ?_
  intro a w M1 H hM1 S E
  replace h0 := h0.le hM1
  have b0 := h0.bound
  refine WP_seq ?_
  refine WP_region ?_
  refine S_v E rfl (R_assign E rfl) rfl ?_
  clear E a; intro a E
  refine WL_nil ?_
  refine T_n ?_
  refine WP_seq ?_
  refine WP_region ?_
  refine S_v E rfl (R_assign E rfl) rfl ?_
  clear E a; intro a E
  refine WL_nil ?_
  refine T_n ?_
  refine WP_seq ?_
  refine WP_seq ?_
  refine WP_region ?_
  refine S_v E rfl (R_move E rfl) rfl ?_
  clear E a; intro a E
  refine S_v E rfl (R_lenV E rfl T31 h0.len) rfl ?_
  clear E a; intro a E
  refine S_v E rfl (R_move E rfl) rfl ?_
  clear E a; intro a E
  refine WL_nil ?_
  refine T_n ?_
  refine WP_block ?_
  replace S := (S.ownNil (e := 3) (sz := 1)).made0
  replace S := S.re1 (l' := (l0.take 0).flatten) (by first | (rw [flatten_succ (by assumption)]; done) | (rw [List.take_of_length_le (by omega)]; done) | (simp; done))
  refine WP_loop (γ := Nat) (fun (k : Nat) a w => ∃ (M_2 : Hp) (u3 : Value), Hp.le M1 M_2 ∧ St w M_2 (OwnI 3 u3 ((l0.take k).flatten) :: H) ∧ Env a 17 [] [(3, u3), (6, v0), (7, .int .i64 (((l0).length : Nat) : Int)), (8, .int .i64 ((k : Nat) : Int))] ∧ (k ≤ (l0).length)) (fun k => ((l0).length) - k) 0 ⟨M1, _, Hp.le.refl _, S, E.keep ⟨rfl, rfl, rfl, rfl, trivial⟩, by ((try clear S); (try clear E); first | assumption | omega | rfl | (simp; done) | (simp_all; done) | (simp [List.take_add_one, *]; done) | grind [List.take_add_one])⟩ ?_
  try clear E
  try clear S
  try clear a
  try clear w
  rintro k a w ⟨M_2, u3, hM_2, S, E, hL0_0⟩
  replace h0 := h0.le hM_2
  have ht := total_take_le l0 k; have hf := flatten_len (l0.take k)
  refine WP_seq ?_
  refine WP_region ?_
  refine S_v E rfl (R_lss E rfl rfl) rfl ?_
  clear E a; intro a E
  refine WL_nil ?_
  refine T_n ?_
  refine WP_seq ?_
  refine WP_cond E rfl (fun hc3 => ?_) (fun hc3 => ?_)
  · replace hc3 := of_decide_eq_true hc3
    refine WP_skip ?_
    refine T_n ?_
    refine WP_seq ?_
    refine WP_block ?_
    refine WP_seq ?_
    refine WP_region ?_
    obtain ⟨x4, hx4⟩ : ∃ x, (l0)[k]? = some x := ⟨_, List.getElem?_eq_getElem (by first | omega | (simp; omega) | (simp_all; omega))⟩
    obtain ⟨p5, u6, hp5, qp5, hu6⟩ := h0.at hx4
    have bu6 := hu6.bound
    refine S_v E rfl (R_idx E rfl rfl T31 hp5 rfl) rfl ?_
    clear E a; intro a E
    refine S_v E rfl (R_loadM E rfl Try.isAgg22 S.imm qp5) rfl ?_
    clear E a; intro a E
    refine S_v E rfl (R_assign E rfl) rfl ?_
    clear E a; intro a E
    refine WL_nil ?_
    refine T_n ?_
    refine WP_region ?_
    refine S_v E rfl (R_move E rfl) rfl ?_
    clear E a; intro a E
    refine S_v E rfl (R_move E rfl) rfl ?_
    clear E a; intro a E
    refine S_x (X_appendI (xs := (l0.take k).flatten) E S rfl rfl rfl T22 hu6 (by (have ht2 := total_take_le l0 (k+1); rw [total_succ (by assumption)] at ht2; omega)) ?_)
    clear E a S; rintro a w v7 E S
    refine S_v E rfl (R_assign E rfl) rfl ?_
    clear E a; intro a E
    refine WL_nil ?_
    refine B_n ?_
    refine T_n ?_
    refine WP_region ?_
    refine S_v E rfl (R_addx (m := ((k + 1 : Nat) : Int)) E rfl rfl (by omega) (by omega)) rfl ?_
    clear E a; intro a E
    refine S_v E rfl (R_move E rfl) rfl ?_
    clear E a; intro a E
    refine WL_nil ?_
    refine T_n ?_
    replace S := S.re1 (l' := (l0.take (k + 1)).flatten) (by first | (rw [flatten_succ (by assumption)]; done) | (rw [List.take_of_length_le (by omega)]; done) | (simp; done))
    exact ⟨k + 1, ⟨M_2, _, hM_2, S, E.keep ⟨rfl, rfl, rfl, rfl, trivial⟩, by ((try clear S); (try clear E); first | assumption | omega | rfl | (simp; done) | (simp_all; done) | (simp [List.take_add_one, *]; done) | grind [List.take_add_one])⟩, by omega⟩
  · replace hc3 := of_decide_eq_false hc3
    refine WP_exit ?_
    refine T_x ?_
    refine T_x ?_
    refine B_x ?_
    refine T_n ?_
    refine WP_seq ?_
    refine WP_region ?_
    refine S_v E rfl (R_move E rfl) rfl ?_
    clear E a; intro a E
    refine S_v E rfl (R_assign E rfl) rfl ?_
    clear E a; intro a E
    refine WL_nil ?_
    refine T_n ?_
    refine WP_ret ?_
    have S0 := S; clear S
    obtain ⟨M_8, hM_8, hz9, S⟩ := S0.freezeI (by (have ht := total_take_le l0 k; rw [flatten_len]; omega))
    clear S0
    replace h0 := h0.le hM_8
    exact F_ret1 E Try.results25 rfl ⟨_, rfl, M_8, (hM_2.trans hM_8), (by rw [show ((l0).flatten) = ((l0.take k).flatten) from by first | (rw [flatten_succ (by assumption)]; done) | (rw [List.take_of_length_le (by omega)]; done) | (simp; done)]; exact hz9), S⟩

set_option maxHeartbeats 4000000 in
theorem laws_joined {M : Hp} {v0 : Value} {l0 : List (List Int)} (h0 : RdII M v0 l0) (hb : total l0 ≤ 1000000000) :
    Pu Try.prog (.func (.func 26) #[] #[]) M [v0] (fun r M' => RdI M' r ((l0).flatten)) := by
  refine Pu_enter Try.func26 rfl Try.ntmps26 rfl Try.call26 ?_
  intro a w M1 H hM1 S E
  replace h0 := h0.le hM1
  have b0 := h0.bound
  refine WP_seq ?_
  refine WP_region ?_
  refine S_v E rfl (R_assign E rfl) rfl ?_
  clear E a; intro a E
  refine WL_nil ?_
  refine T_n ?_
  refine WP_seq ?_
  refine WP_region ?_
  refine S_v E rfl (R_assign E rfl) rfl ?_
  clear E a; intro a E
  refine WL_nil ?_
  refine T_n ?_
  refine WP_seq ?_
  refine WP_seq ?_
  refine WP_region ?_
  refine S_v E rfl (R_move E rfl) rfl ?_
  clear E a; intro a E
  refine S_v E rfl (R_lenV E rfl T31 h0.len) rfl ?_
  clear E a; intro a E
  refine S_v E rfl (R_move E rfl) rfl ?_
  clear E a; intro a E
  refine WL_nil ?_
  refine T_n ?_
  refine WP_block ?_
  replace S := (S.ownNil (e := 3) (sz := 1)).made0
  replace S := S.re1 (l' := (l0.take 0).flatten) (by first | (rw [flatten_succ (by assumption)]; done) | (rw [List.take_of_length_le (by omega)]; done) | (simp; done))
  refine WP_loop (γ := Nat) (fun (k : Nat) a w => ∃ (M_2 : Hp) (u3 : Value), Hp.le M1 M_2 ∧ St w M_2 (OwnI 3 u3 ((l0.take k).flatten) :: H) ∧ Env a 17 [] [(3, u3), (6, v0), (7, .int .i64 (((l0).length : Nat) : Int)), (8, .int .i64 ((k : Nat) : Int))] ∧ (k ≤ (l0).length)) (fun k => ((l0).length) - k) 0 ⟨M1, _, Hp.le.refl _, S, E.keep ⟨rfl, rfl, rfl, rfl, trivial⟩, by ((try clear S); (try clear E); first | assumption | omega | rfl | (simp; done) | (simp_all; done) | (simp [List.take_add_one, *]; done) | grind [List.take_add_one])⟩ ?_
  try clear E
  try clear S
  try clear a
  try clear w
  rintro k a w ⟨M_2, u3, hM_2, S, E, hL0_0⟩
  replace h0 := h0.le hM_2
  have ht := total_take_le l0 k; have hf := flatten_len (l0.take k)
  refine WP_seq ?_
  refine WP_region ?_
  refine S_v E rfl (R_lss E rfl rfl) rfl ?_
  clear E a; intro a E
  refine WL_nil ?_
  refine T_n ?_
  refine WP_seq ?_
  refine WP_cond E rfl (fun hc3 => ?_) (fun hc3 => ?_)
  · replace hc3 := of_decide_eq_true hc3
    refine WP_skip ?_
    refine T_n ?_
    refine WP_seq ?_
    refine WP_block ?_
    refine WP_seq ?_
    refine WP_region ?_
    obtain ⟨x4, hx4⟩ : ∃ x, (l0)[k]? = some x := ⟨_, List.getElem?_eq_getElem (by first | omega | (simp; omega) | (simp_all; omega))⟩
    obtain ⟨p5, u6, hp5, qp5, hu6⟩ := h0.at hx4
    have bu6 := hu6.bound
    refine S_v E rfl (R_idx E rfl rfl T31 hp5 rfl) rfl ?_
    clear E a; intro a E
    refine S_v E rfl (R_loadM E rfl Try.isAgg22 S.imm qp5) rfl ?_
    clear E a; intro a E
    refine S_v E rfl (R_assign E rfl) rfl ?_
    clear E a; intro a E
    refine WL_nil ?_
    refine T_n ?_
    refine WP_region ?_
    refine S_v E rfl (R_move E rfl) rfl ?_
    clear E a; intro a E
    refine S_v E rfl (R_move E rfl) rfl ?_
    clear E a; intro a E
    refine S_x (X_appendI (xs := (l0.take k).flatten) E S rfl rfl rfl T22 hu6 (by (have ht2 := total_take_le l0 (k+1); rw [total_succ (by assumption)] at ht2; omega)) ?_)
    clear E a S; rintro a w v7 E S
    refine S_v E rfl (R_assign E rfl) rfl ?_
    clear E a; intro a E
    refine WL_nil ?_
    refine B_n ?_
    refine T_n ?_
    refine WP_region ?_
    refine S_v E rfl (R_addx (m := ((k + 1 : Nat) : Int)) E rfl rfl (by omega) (by omega)) rfl ?_
    clear E a; intro a E
    refine S_v E rfl (R_move E rfl) rfl ?_
    clear E a; intro a E
    refine WL_nil ?_
    refine T_n ?_
    replace S := S.re1 (l' := (l0.take (k + 1)).flatten) (by first | (rw [flatten_succ (by assumption)]; done) | (rw [List.take_of_length_le (by omega)]; done) | (simp; done))
    exact ⟨k + 1, ⟨M_2, _, hM_2, S, E.keep ⟨rfl, rfl, rfl, rfl, trivial⟩, by ((try clear S); (try clear E); first | assumption | omega | rfl | (simp; done) | (simp_all; done) | (simp [List.take_add_one, *]; done) | grind [List.take_add_one])⟩, by omega⟩
  · replace hc3 := of_decide_eq_false hc3
    refine WP_exit ?_
    refine T_x ?_
    refine T_x ?_
    refine B_x ?_
    refine T_n ?_
    refine WP_seq ?_
    refine WP_region ?_
    refine S_v E rfl (R_move E rfl) rfl ?_
    clear E a; intro a E
    refine S_v E rfl (R_assign E rfl) rfl ?_
    clear E a; intro a E
    refine WL_nil ?_
    refine T_n ?_
    refine WP_ret ?_
    have S0 := S; clear S
    obtain ⟨M_8, hM_8, hz9, S⟩ := S0.freezeI (by (have ht := total_take_le l0 k; rw [flatten_len]; omega))
    clear S0
    replace h0 := h0.le hM_8
    exact F_ret1 E Try.results26 rfl ⟨_, rfl, M_8, (hM_2.trans hM_8), (by rw [show ((l0).flatten) = ((l0.take k).flatten) from by first | (rw [flatten_succ (by assumption)]; done) | (rw [List.take_of_length_le (by omega)]; done) | (simp; done)]; exact hz9), S⟩

set_option maxHeartbeats 4000000 in
theorem laws_eq {M : Hp} {v0 v1 : Value} {l0 l1 : List Int} (h0 : RdI M v0 l0) (h1 : RdI M v1 l1) :
    Pu Try.prog (.func (.func 14) #[] #[]) M [v0, v1] (fun r M' => r = .bool (decide (l0 = l1))) := by
  refine Pu_enter Try.func14 rfl Try.ntmps14 rfl Try.call14 ?_
  intro a w M1 H hM1 S E
  replace h0 := h0.le hM1
  replace h1 := h1.le hM1
  have b0 := h0.bound
  have b1 := h1.bound
  refine WP_seq ?_
  refine WP_region ?_
  refine S_v E rfl (R_assign E rfl) rfl ?_
  clear E a; intro a E
  refine WL_nil ?_
  refine T_n ?_
  refine WP_seq ?_
  refine WP_seq ?_
  refine WP_region ?_
  refine S_v E rfl (R_move E rfl) rfl ?_
  clear E a; intro a E
  refine S_v E rfl (R_lenV E rfl T22 h0.len) rfl ?_
  clear E a; intro a E
  refine S_v E rfl (R_move E rfl) rfl ?_
  clear E a; intro a E
  refine S_v E rfl (R_lenV E rfl T22 h1.len) rfl ?_
  clear E a; intro a E
  refine S_v E rfl (R_neq E rfl rfl) rfl ?_
  clear E a; intro a E
  refine WL_nil ?_
  refine T_n ?_
  refine WP_cond E rfl (fun hc1 => ?_) (fun hc1 => ?_)
  · replace hc1 := of_decide_eq_true hc1
    refine WP_seq ?_
    refine WP_region ?_
    refine S_v E rfl (R_assign E rfl) rfl ?_
    clear E a; intro a E
    refine WL_nil ?_
    refine T_n ?_
    refine WP_ret ?_
    refine T_r ?_
    exact F_ret1 E Try.results14 rfl ⟨_, rfl, M1, (Hp.le.refl _), (bF (by ((try clear S); (try clear E); first | assumption | omega | rfl | (simp; done) | (simp_all; done) | (simp [List.take_add_one, *]; done) | grind [List.take_add_one]))), S⟩
  · replace hc1 := of_decide_eq_false hc1
    refine WP_skip ?_
    refine T_n ?_
    refine WP_seq ?_
    refine WP_seq ?_
    refine WP_region ?_
    refine S_v E rfl (R_move E rfl) rfl ?_
    clear E a; intro a E
    refine S_v E rfl (R_lenV E rfl T22 h0.len) rfl ?_
    clear E a; intro a E
    refine S_v E rfl (R_move E rfl) rfl ?_
    clear E a; intro a E
    refine WL_nil ?_
    refine T_n ?_
    refine WP_block ?_
    refine WP_loop (γ := Nat) (fun (k : Nat) a w => ∃ (M_2 : Hp), Hp.le M1 M_2 ∧ St w M_2 (H) ∧ Env a 26 [] [(0, v0), (1, v1), (12, .int .i64 (((l0).length : Nat) : Int)), (13, .int .i64 ((k : Nat) : Int))] ∧ (k ≤ (l0).length) ∧ (l0.length = l1.length) ∧ (l0.take k = l1.take k)) (fun k => ((l0).length) - k) 0 ⟨M1, Hp.le.refl _, S, E.keep ⟨rfl, rfl, rfl, rfl, trivial⟩, by ((try clear S); (try clear E); first | assumption | omega | rfl | (simp; done) | (simp_all; done) | (simp [List.take_add_one, *]; done) | grind [List.take_add_one]), by ((try clear S); (try clear E); first | assumption | omega | rfl | (simp; done) | (simp_all; done) | (simp [List.take_add_one, *]; done) | grind [List.take_add_one]), by ((try clear S); (try clear E); first | assumption | omega | rfl | (simp; done) | (simp_all; done) | (simp [List.take_add_one, *]; done) | grind [List.take_add_one])⟩ ?_
    try clear E
    try clear S
    try clear a
    try clear w
    rintro k a w ⟨M_2, hM_2, S, E, hL0_0, hL0_1, hL0_2⟩
    replace h0 := h0.le hM_2
    replace h1 := h1.le hM_2
    refine WP_seq ?_
    refine WP_region ?_
    refine S_v E rfl (R_lss E rfl rfl) rfl ?_
    clear E a; intro a E
    refine WL_nil ?_
    refine T_n ?_
    refine WP_seq ?_
    refine WP_cond E rfl (fun hc3 => ?_) (fun hc3 => ?_)
    · replace hc3 := of_decide_eq_true hc3
      refine WP_skip ?_
      refine T_n ?_
      refine WP_seq ?_
      refine WP_block ?_
      refine WP_seq ?_
      refine WP_region ?_
      refine S_v E rfl (R_move E rfl) rfl ?_
      clear E a; intro a E
      refine S_v E rfl (R_assign E rfl) rfl ?_
      clear E a; intro a E
      refine WL_nil ?_
      refine T_n ?_
      refine WP_seq ?_
      replace S := S.mono_heap (w' := World.drew _) rfl
      refine WP_drawn (C := fun w => agree M_2 w) [0, 1, 2, 3, 4, 5, 6, 7, 8] [0, 1, 2, 3, 4, 5, 6, 7, 8] Try.mixed (by kernel_rfl) S.imm ?_
      refine D_v E rfl rfl rfl (fun w hC => (R_move E rfl)) ?_
      clear E a; intro a E
      refine D_v E rfl rfl rfl (fun w hC => (R_move E rfl)) ?_
      clear E a; intro a E
      obtain ⟨x4, hx4⟩ : ∃ x, (l0)[k]? = some x := ⟨_, List.getElem?_eq_getElem (by first | omega | (simp; omega) | (simp_all; omega))⟩
      obtain ⟨p5, hp5, qp5⟩ := h0.at hx4
      refine D_v E rfl rfl rfl (fun w hC => (R_idx E rfl rfl T22 hp5 rfl)) ?_
      clear E a; intro a E
      refine D_v E rfl rfl rfl (fun w hC => (R_loadM E rfl Try.isAgg3 hC qp5)) ?_
      clear E a; intro a E
      refine D_v E rfl rfl rfl (fun w hC => (R_move E rfl)) ?_
      clear E a; intro a E
      refine D_v E rfl rfl rfl (fun w hC => (R_move E rfl)) ?_
      clear E a; intro a E
      obtain ⟨x6, hx6⟩ : ∃ x, (l1)[k]? = some x := ⟨_, List.getElem?_eq_getElem (by first | omega | (simp; omega) | (simp_all; omega))⟩
      obtain ⟨p7, hp7, qp7⟩ := h1.at hx6
      refine D_v E rfl rfl rfl (fun w hC => (R_idx E rfl rfl T22 hp7 rfl)) ?_
      clear E a; intro a E
      refine D_v E rfl rfl rfl (fun w hC => (R_loadM E rfl Try.isAgg3 hC qp7)) ?_
      clear E a; intro a E
      refine D_v E rfl rfl rfl (fun w hC => (R_neq E rfl rfl)) ?_
      clear E a; intro a E
      refine D_end (NoP_n ?_)
      refine T_n ?_
      refine WP_cond E rfl (fun hc8 => ?_) (fun hc8 => ?_)
      · replace hc8 := of_decide_eq_true hc8
        refine WP_seq ?_
        refine WP_region ?_
        refine S_v E rfl (R_assign E rfl) rfl ?_
        clear E a; intro a E
        refine WL_nil ?_
        refine T_n ?_
        refine WP_ret ?_
        refine B_r ?_
        refine T_r ?_
        refine T_r ?_
        refine B_r ?_
        refine T_r ?_
        exact F_ret1 E Try.results14 rfl ⟨_, rfl, M_2, hM_2, (bF (by ((try clear S); (try clear E); first | assumption | omega | rfl | (simp; done) | (simp_all; done) | (simp [List.take_add_one, *]; done) | grind [List.take_add_one]))), S⟩
      · replace hc8 := of_decide_eq_false hc8
        refine WP_skip ?_
        refine B_n ?_
        refine T_n ?_
        refine WP_region ?_
        refine S_v E rfl (R_addx (m := ((k + 1 : Nat) : Int)) E rfl rfl (by omega) (by omega)) rfl ?_
        clear E a; intro a E
        refine S_v E rfl (R_move E rfl) rfl ?_
        clear E a; intro a E
        refine WL_nil ?_
        refine T_n ?_
        exact ⟨k + 1, ⟨M_2, hM_2, S, E.keep ⟨rfl, rfl, rfl, rfl, trivial⟩, by ((try clear S); (try clear E); first | assumption | omega | rfl | (simp; done) | (simp_all; done) | (simp [List.take_add_one, *]; done) | grind [List.take_add_one]), by ((try clear S); (try clear E); first | assumption | omega | rfl | (simp; done) | (simp_all; done) | (simp [List.take_add_one, *]; done) | grind [List.take_add_one]), by ((try clear S); (try clear E); first | assumption | omega | rfl | (simp; done) | (simp_all; done) | (simp [List.take_add_one, *]; done) | grind [List.take_add_one])⟩, by omega⟩
    · replace hc3 := of_decide_eq_false hc3
      refine WP_exit ?_
      refine T_x ?_
      refine T_x ?_
      refine B_x ?_
      refine T_n ?_
      refine WP_seq ?_
      refine WP_region ?_
      refine S_v E rfl (R_assign E rfl) rfl ?_
      clear E a; intro a E
      refine WL_nil ?_
      refine T_n ?_
      refine WP_ret ?_
      exact F_ret1 E Try.results14 rfl ⟨_, rfl, M_2, hM_2, (bT (by ((try clear S); (try clear E); first | assumption | omega | rfl | (simp; done) | (simp_all; done) | (simp [List.take_add_one, *]; done) | grind [List.take_add_one]))), S⟩

set_option maxHeartbeats 4000000 in
theorem slices_Values1 {M : Hp} {v0 : Value} {l0 : List Int} (h0 : RdI M v0 l0){bx1 : Nat} (hbx1 : M bx1 = some (.cells #[v0] 22)) :
    SeqV Try.prog (.func (.func 102) #[] #[.pointer (some ⟨bx1, 0, none⟩)]) M (RInt) l0 := by
  refine SeqV_enter Try.func102 rfl Try.ntmps102 rfl Try.call102 ?_
  intro y J X a w M1 c H hJM hM1 hY hJ S E
  replace hbx1 := hM1.2 _ _ hbx1
  replace h0 := h0.le hM1
  have b0 := h0.bound
  refine WP_seq ?_
  refine WP_region ?_
  refine S_v E rfl (R_loadM E rfl Try.isAgg22 S.imm (cellM_box hbx1)) rfl ?_
  clear E a; intro a E
  refine S_v E rfl (R_lenV E rfl T22 h0.len) rfl ?_
  clear E a; intro a E
  refine S_v E rfl (R_move E rfl) rfl ?_
  clear E a; intro a E
  refine WL_nil ?_
  refine T_n ?_
  refine WP_block ?_
  refine WP_loop (γ := Nat) (fun (k : Nat) a w => ∃ (M_1 : Hp) (cL0 : HProp), Hp.le M1 M_1 ∧ St w M_1 (mks [] :: cL0 :: H) ∧ Env a 16 (([] : List Nat).map mk) [(0, y), (5, v0), (6, .int .i64 (((l0).length : Nat) : Int)), (7, .int .i64 ((k : Nat) : Int))] ∧ (k ≤ (l0).length) ∧ J (l0.take k) M_1 cL0) (fun k => ((l0).length) - k) 0 ⟨M1, _, Hp.le.refl _, S, E.keep ⟨rfl, rfl, rfl, rfl, trivial⟩, by ((try clear S); (try clear E); first | assumption | omega | rfl | (simp; done) | (simp_all; done) | (simp [List.take_add_one, *]; done) | grind [List.take_add_one]), J_eq hJ (by ((try clear S); (try clear E); first | assumption | omega | rfl | (simp; done) | (simp_all; done) | (simp [List.take_add_one, *]; done) | grind [List.take_add_one]))⟩ ?_
  try clear E
  try clear S
  try clear a
  try clear w
  rintro k a w ⟨M_1, cL0, hM_1, S, E, hL0_0, hJ⟩
  replace hbx1 := hM_1.2 _ _ hbx1
  replace h0 := h0.le hM_1
  refine WP_seq ?_
  refine WP_region ?_
  refine S_v E rfl (R_lss E rfl rfl) rfl ?_
  clear E a; intro a E
  refine WL_nil ?_
  refine T_n ?_
  refine WP_seq ?_
  refine WP_cond E rfl (fun hc2 => ?_) (fun hc2 => ?_)
  · replace hc2 := of_decide_eq_true hc2
    refine WP_skip ?_
    refine T_n ?_
    refine WP_seq ?_
    refine WP_block ?_
    refine WP_seq ?_
    refine WP_region ?_
    obtain ⟨x3, hx3⟩ : ∃ x, (l0)[k]? = some x := ⟨_, List.getElem?_eq_getElem (by first | omega | (simp; omega) | (simp_all; omega))⟩
    obtain ⟨p4, hp4, qp4⟩ := h0.at hx3
    refine S_v E rfl (R_idx E rfl rfl T22 hp4 rfl) rfl ?_
    clear E a; intro a E
    refine S_v E rfl (R_loadM E rfl Try.isAgg3 S.imm qp4) rfl ?_
    clear E a; intro a E
    refine S_v E rfl (R_assign E rfl) rfl ?_
    clear E a; intro a E
    refine WL_nil ?_
    refine T_n ?_
    refine WP_seq ?_
    refine WP_region ?_
    refine S_v E rfl (R_move E rfl) rfl ?_
    clear E a; intro a E
    refine S_v E rfl (R_move E rfl) rfl ?_
    clear E a; intro a E
    replace S := S.front1
    refine S_x (X_yield (x := x3) E S rfl rfl rfl hY hM_1 (by (first | (simp; done) | exact List.prefix_refl _ | (rw [pre_take (by assumption)]; exact List.take_prefix _ _) | exact pre_take_lt (by assumption))) rfl hJ ?_)
    clear E a S; rintro a w M_5 c6 go7 hM_5 hJ S E
    replace hbx1 := hM_5.2 _ _ hbx1
    replace h0 := h0.le hM_5
    cases go7
    · replace hJ : X (l0.take k ++ [x3]) M_5 c6 := hJ
      refine S_v E rfl (R_not E rfl) rfl ?_
      clear E a; intro a E
      refine WL_nil ?_
      refine T_n ?_
      refine WP_condT E rfl rfl ?_
      refine WP_ret ?_
      refine B_r ?_
      refine T_r ?_
      refine T_r ?_
      refine B_r ?_
      replace S := S.front1
      exact F_retM0 E S Try.results102 (fun w S => ⟨_, rfl, M_5, _, (hM_1.trans hM_5), .inr ⟨(l0.take k ++ [x3]), (by (first | (simp; done) | exact List.prefix_refl _ | (rw [pre_take (by assumption)]; exact List.take_prefix _ _) | exact pre_take_lt (by assumption))), hJ⟩, S⟩)
    · replace hJ : J (l0.take k ++ [x3]) M_5 c6 := hJ
      refine S_v E rfl (R_not E rfl) rfl ?_
      clear E a; intro a E
      refine WL_nil ?_
      refine T_n ?_
      refine WP_condF E rfl rfl ?_
      refine WP_skip ?_
      refine B_n ?_
      refine T_n ?_
      refine WP_region ?_
      refine S_v E rfl (R_addx (m := ((k + 1 : Nat) : Int)) E rfl rfl (by omega) (by omega)) rfl ?_
      clear E a; intro a E
      refine S_v E rfl (R_move E rfl) rfl ?_
      clear E a; intro a E
      refine WL_nil ?_
      refine T_n ?_
      replace S := S.front1
      exact ⟨k + 1, ⟨M_5, _, (hM_1.trans hM_5), S, E.keep ⟨rfl, rfl, rfl, rfl, trivial⟩, by ((try clear S); (try clear E); first | assumption | omega | rfl | (simp; done) | (simp_all; done) | (simp [List.take_add_one, *]; done) | grind [List.take_add_one]), J_eq hJ (by ((try clear S); (try clear E); first | assumption | omega | rfl | (simp; done) | (simp_all; done) | (simp [List.take_add_one, *]; done) | grind [List.take_add_one]))⟩, by omega⟩
  · replace hc2 := of_decide_eq_false hc2
    refine WP_exit ?_
    refine T_x ?_
    refine T_x ?_
    refine B_x ?_
    refine F_nrm ?_
    replace S := S.front1
    replace S := S.front1
    have hpre : l0.take k = l0 := by ((try clear S); (try clear E); first | rfl | (simp; done) | (simp_all; done) | grind [List.take_add_one])
    rw [hpre] at hJ
    exact F_retM0 E S Try.results102 (fun w S => ⟨_, rfl, M_1, _, hM_1, .inl hJ, S⟩)

set_option maxHeartbeats 4000000 in
theorem slices_Values {M : Hp} {v0 : Value} {l0 : List Int} (h0 : RdI M v0 l0) :
    Pu Try.prog (.func (.func 71) #[] #[]) M [v0] (fun r M' => SeqV Try.prog r M' RInt l0) := by
  refine Pu_enter Try.func71 rfl Try.ntmps71 rfl Try.call71 ?_
  intro a w M1 H hM1 S E
  replace h0 := h0.le hM1
  have b0 := h0.bound
  refine WP_seq ?_
  refine WP_region ?_
  refine S_x (X_box (cs := #[v0]) E S rfl rfl (cells_one (RdS.one' h0)) ?_)
  clear E a S; rintro a w b1 E S
  obtain ⟨M_2, hM_2, hb1, S⟩ := S.freezeB
  replace h0 := h0.le hM_2
  refine S_v E rfl (R_assign E rfl) rfl ?_
  clear E a; intro a E
  refine WL_nil ?_
  refine T_n ?_
  refine WP_seq ?_
  refine WP_region ?_
  refine S_v E rfl (R_makeFunc E rfl rfl) rfl ?_
  clear E a; intro a E
  refine S_v E rfl (R_assign E rfl) rfl ?_
  clear E a; intro a E
  refine WL_nil ?_
  refine T_n ?_
  refine WP_ret ?_
  exact F_ret1 E Try.results71 rfl ⟨_, rfl, M_2, hM_2, (SeqV_eq (slices_Values1 h0 hb1) (by ((try clear S); (try clear E); first | rfl | (simp; done) | (simp_all; done) | grind [List.take_add_one]))), S⟩

set_option maxHeartbeats 4000000 in
theorem impl_seqs {M : Hp} {v0 : Value} {l0 : List (List Int)} (h0 : RdII M v0 l0) (hb : l0.length ≤ 1000000000) :
    Pu Try.prog (.func (.func 66) #[] #[]) M [v0] (fun r M' => RdS 1 (RSq Try.prog RInt) M' r l0) := by
  refine Pu_enter Try.func66 rfl Try.ntmps66 rfl Try.call66 ?_
  intro a w M1 H hM1 S E
  replace h0 := h0.le hM1
  have b0 := h0.bound
  refine WP_seq ?_
  refine WP_region ?_
  refine S_v E rfl (R_assign E rfl) rfl ?_
  clear E a; intro a E
  refine WL_nil ?_
  refine T_n ?_
  refine WP_seq ?_
  refine WP_region ?_
  refine S_v E rfl (R_assign E rfl) rfl ?_
  clear E a; intro a E
  refine WL_nil ?_
  refine T_n ?_
  refine WP_seq ?_
  refine WP_seq ?_
  refine WP_region ?_
  refine S_v E rfl (R_move E rfl) rfl ?_
  clear E a; intro a E
  refine S_v E rfl (R_lenV E rfl T31 h0.len) rfl ?_
  clear E a; intro a E
  refine S_v E rfl (R_move E rfl) rfl ?_
  clear E a; intro a E
  refine WL_nil ?_
  refine T_n ?_
  refine WP_block ?_
  replace S : St w M1 (OwnC 59 1 (.slice none 0 0) ([] : List (List Int)).length [] :: _) := S.ownNil
  have hr2 : RowsR (RSq Try.prog RInt) 1 M1 ([] : List (List Int)) [] := RowsR.nil
  have hre : ([] : List (List Int)) = l0.take 0 := by ((try clear S); (try clear E); first | assumption | omega | rfl | (simp; done) | (simp_all; done) | (simp [List.take_add_one, *]; done) | grind [List.take_add_one])
  replace S := S.reR hre
  replace hr2 := hr2.eq hre
  clear hre
  refine WP_loop (γ := Nat) (fun (k : Nat) a w => ∃ (M_3 : Hp) (u3 : Value) (xs3 : List Value), Hp.le M1 M_3 ∧ St w M_3 (OwnC 59 1 u3 (l0.take k).length xs3 :: H) ∧ Env a 19 [] [(3, u3), (6, v0), (7, .int .i64 (((l0).length : Nat) : Int)), (8, .int .i64 ((k : Nat) : Int))] ∧ (k ≤ (l0).length) ∧ RowsR (RSq Try.prog RInt) 1 M_3 (l0.take k) xs3) (fun k => ((l0).length) - k) 0 ⟨M1, _, _, Hp.le.refl _, S, E.keep ⟨rfl, rfl, rfl, rfl, trivial⟩, by ((try clear S); (try clear E); first | assumption | omega | rfl | (simp; done) | (simp_all; done) | (simp [List.take_add_one, *]; done) | grind [List.take_add_one]), hr2⟩ ?_
  try clear E
  try clear S
  try clear a
  try clear w
  rintro k a w ⟨M_3, u3, xs3, hM_3, S, E, hL0_0, hr3⟩
  replace h0 := h0.le hM_3
  refine WP_seq ?_
  refine WP_region ?_
  refine S_v E rfl (R_lss E rfl rfl) rfl ?_
  clear E a; intro a E
  refine WL_nil ?_
  refine T_n ?_
  refine WP_seq ?_
  refine WP_cond E rfl (fun hc4 => ?_) (fun hc4 => ?_)
  · replace hc4 := of_decide_eq_true hc4
    refine WP_skip ?_
    refine T_n ?_
    refine WP_seq ?_
    refine WP_block ?_
    refine WP_seq ?_
    refine WP_region ?_
    obtain ⟨x5, hx5⟩ : ∃ x, (l0)[k]? = some x := ⟨_, List.getElem?_eq_getElem (by first | omega | (simp; omega) | (simp_all; omega))⟩
    obtain ⟨p6, u7, hp6, qp6, hu7⟩ := h0.at hx5
    have bu7 := hu7.bound
    refine S_v E rfl (R_idx E rfl rfl T31 hp6 rfl) rfl ?_
    clear E a; intro a E
    refine S_v E rfl (R_loadM E rfl Try.isAgg22 S.imm qp6) rfl ?_
    clear E a; intro a E
    refine S_v E rfl (R_assign E rfl) rfl ?_
    clear E a; intro a E
    refine WL_nil ?_
    refine T_n ?_
    refine WP_region ?_
    refine S_v E rfl (R_move E rfl) rfl ?_
    clear E a; intro a E
    refine S_v E rfl (R_move E rfl) rfl ?_
    clear E a; intro a E
    refine S_x (X_pu E S rfl rfl rfl (slices_Values hu7) (Hp.le.refl _) ?_)
    clear E a S; rintro a v9 w M_8 hM_8 hv9 S E
    replace h0 := h0.le hM_8
    replace hr3 := hr3.le RSq_mono hM_8
    replace hu7 := hu7.le hM_8
    refine S_x (X_buildM (R := (RSq Try.prog RInt)) (vs := [v9]) (xs := [x5]) RSq_mono E S rfl T61 rfl rfl rfl (by intro u hu; simp only [List.mem_cons, List.not_mem_nil, or_false] at hu; rcases hu with rfl <;> first | exact hv9.1) rfl (rowsC (R := (RSq Try.prog RInt)) ⟨_, rfl, hv9⟩ rowsN) ?_)
    clear E a S; rintro a v10 w M_11 hM_11 hv10 S E
    replace h0 := h0.le hM_11
    replace hr3 := hr3.le RSq_mono hM_11
    replace hu7 := hu7.le hM_11
    replace hv9 := hv9.le hM_11
    refine S_x (X_appendR (R := (RSq Try.prog RInt)) (zs := l0.take k) (ys := [x5]) E S hr3 rfl rfl rfl T61 hv10 one_RSq (by first | omega | (simp; omega) | (simp_all; omega)) (by first | omega | (simp; omega) | (simp_all; omega)) ?_)
    clear E a S; rintro a w v12 xs13 E hr14 S
    refine S_v E rfl (R_assign E rfl) rfl ?_
    clear E a; intro a E
    refine WL_nil ?_
    refine B_n ?_
    refine T_n ?_
    refine WP_region ?_
    refine S_v E rfl (R_addx (m := ((k + 1 : Nat) : Int)) E rfl rfl (by omega) (by omega)) rfl ?_
    clear E a; intro a E
    refine S_v E rfl (R_move E rfl) rfl ?_
    clear E a; intro a E
    refine WL_nil ?_
    refine T_n ?_
    have hre : (l0.take k) ++ [x5] = l0.take (k + 1) := by ((try clear S); (try clear E); first | assumption | omega | rfl | (simp; done) | (simp_all; done) | (simp [List.take_add_one, *]; done) | grind [List.take_add_one])
    replace S := S.reR hre
    replace hr14 := hr14.eq hre
    clear hre
    exact ⟨k + 1, ⟨M_11, _, _, (hM_3.trans (hM_8.trans hM_11)), S, E.keep ⟨rfl, rfl, rfl, rfl, trivial⟩, by ((try clear S); (try clear E); first | assumption | omega | rfl | (simp; done) | (simp_all; done) | (simp [List.take_add_one, *]; done) | grind [List.take_add_one]), hr14⟩, by omega⟩
  · replace hc4 := of_decide_eq_false hc4
    refine WP_exit ?_
    refine T_x ?_
    refine T_x ?_
    refine B_x ?_
    refine T_n ?_
    refine WP_seq ?_
    refine WP_region ?_
    refine S_v E rfl (R_move E rfl) rfl ?_
    clear E a; intro a E
    refine S_v E rfl (R_assign E rfl) rfl ?_
    clear E a; intro a E
    refine WL_nil ?_
    refine T_n ?_
    refine WP_ret ?_
    have S0 := S; clear S
    obtain ⟨M_15, hM_15, hz16, S⟩ := S0.freezeR hr3 RSq_mono (by (first | omega | (simp; omega) | (simp; done) | (simp_all; omega) | grind))
    clear S0
    replace h0 := h0.le hM_15
    exact F_ret1 E Try.results66 rfl ⟨_, rfl, M_15, (hM_3.trans hM_15), (by rw [show l0 = (l0.take k) from by (rw [List.take_of_length_le (by omega)])]; exact hz16), S⟩

set_option maxHeartbeats 4000000 in
theorem it_Flatten1 {M : Hp} {v0 : Value} {l0 : List (List Int)} (h0 : RdS 1 (RSq Try.prog RInt) M v0 l0){bx1 : Nat} (hbx1 : M bx1 = some (.cells #[v0] 61)) :
    SeqV Try.prog (.func (.func 99) #[] #[.pointer (some ⟨bx1, 0, none⟩)]) M (RInt) ((l0).flatten) := by
  refine SeqV_enter Try.func99 rfl Try.ntmps99 rfl Try.call99 ?_
  intro y J X a w M1 c H hJM hM1 hY hJ S E
  replace hbx1 := hM1.2 _ _ hbx1
  replace h0 := h0.le RSq_mono hM1
  have b0 := h0.bound
  refine WP_seq ?_
  refine WP_region ?_
  refine S_x (X_box (cs := #[y]) E S rfl rfl (cells_one hY.1) ?_)
  clear E a S; rintro a w b1 E S
  obtain ⟨M_2, hM_2, hb1, S⟩ := S.freezeB
  replace hbx1 := hM_2.2 _ _ hbx1
  replace h0 := h0.le RSq_mono hM_2
  replace hJ := hJM _ _ _ _ hM_2 hJ
  refine WL_nil ?_
  refine T_n ?_
  refine WP_seq ?_
  refine WP_region ?_
  refine S_v E rfl (R_loadM E rfl Try.isAgg61 S.imm (cellM_box hbx1)) rfl ?_
  clear E a; intro a E
  refine S_v E rfl (R_lenV E rfl T61 h0.len) rfl ?_
  clear E a; intro a E
  refine S_v E rfl (R_move E rfl) rfl ?_
  clear E a; intro a E
  refine WL_nil ?_
  refine T_n ?_
  refine WP_block ?_
  refine WP_loop (γ := Nat) (fun (k : Nat) a w => ∃ (M_3 : Hp) (cL0 : HProp) (Ds0 : List Nat), Hp.le M_2 M_3 ∧ St w M_3 (mks Ds0 :: cL0 :: H) ∧ Env a 19 (Ds0.map mk) [(2, .pointer (some ⟨b1, 0, none⟩)), (6, v0), (7, .int .i64 (((l0).length : Nat) : Int)), (8, .int .i64 ((k : Nat) : Int))] ∧ (k ≤ (l0).length) ∧ J ((l0.take k).flatten) M_3 cL0) (fun k => ((l0).length) - k) 0 ⟨M_2, _, _, Hp.le.refl _, S, E.keep ⟨rfl, rfl, rfl, rfl, trivial⟩, by ((try clear S); (try clear E); first | assumption | omega | rfl | (simp; done) | (simp_all; done) | (simp [List.take_add_one, *]; done) | grind [List.take_add_one]), J_eq hJ (by ((try clear S); (try clear E); first | assumption | omega | rfl | (simp; done) | (simp_all; done) | (simp [List.take_add_one, *]; done) | grind [List.take_add_one]))⟩ ?_
  try clear E
  try clear S
  try clear a
  try clear w
  rintro k a w ⟨M_3, cL0, Ds0, hM_3, S, E, hL0_0, hJ⟩
  replace hbx1 := hM_3.2 _ _ hbx1
  replace h0 := h0.le RSq_mono hM_3
  replace hb1 := hM_3.2 _ _ hb1
  refine WP_seq ?_
  refine WP_region ?_
  refine S_v E rfl (R_lss E rfl rfl) rfl ?_
  clear E a; intro a E
  refine WL_nil ?_
  refine T_n ?_
  refine WP_seq ?_
  refine WP_cond E rfl (fun hc4 => ?_) (fun hc4 => ?_)
  · replace hc4 := of_decide_eq_true hc4
    refine WP_skip ?_
    refine T_n ?_
    refine WP_seq ?_
    refine WP_block ?_
    refine WP_seq ?_
    refine WP_region ?_
    obtain ⟨x5, hx5⟩ : ∃ x, (l0)[k]? = some x := ⟨_, List.getElem?_eq_getElem (by first | omega | (simp; omega) | (simp_all; omega))⟩
    obtain ⟨p6, u7, hp6, qp6, hu7⟩ := RdQ.at h0 hx5
    refine S_v E rfl (R_idx E rfl rfl T61 hp6 rfl) rfl ?_
    clear E a; intro a E
    refine S_v E rfl (R_loadM E rfl Try.isAgg59 S.imm qp6) rfl ?_
    clear E a; intro a E
    refine S_v E rfl (R_assign E rfl) rfl ?_
    clear E a; intro a E
    refine WL_nil ?_
    refine T_n ?_
    refine WP_seq ?_
    refine WP_region ?_
    refine S_v E rfl (R_move E rfl) rfl ?_
    clear E a; intro a E
    refine WL_nil ?_
    refine T_n ?_
    refine WP_block ?_
    replace S := S.front1
    replace E := E.keep (l' := [(2, .pointer (some ⟨b1, 0, none⟩)), (6, v0), (7, .int .i64 (((l0).length : Nat) : Int)), (8, .int .i64 ((k : Nat) : Int)), (12, u7)]) ⟨rfl, rfl, rfl, rfl, rfl, trivial⟩
    have S0 := S; clear S; have S := St.pack [cL0] S0; clear S0
    refine WP_range (RV := RInt) (l := x5) (fun pre M c => ∃ (c1 : HProp), c = bigs [c1] ∧ (J ((l0.take k).flatten ++ pre) M c1)) (fun cd pre M c => cd = .ret ∧ X ((l0.take k).flatten ++ pre) M c) E S rfl hu7 (Hp.le.refl _) (fun _ _ _ h => by rw [h]; rfl) (by decide) (by rintro _ M M' c hM ⟨c1, rfl, f0⟩; exact ⟨_, rfl, hJM _ _ _ _ hM f0⟩) ⟨_, rfl, J_eq hJ (by ((try clear S); (try clear E); first | assumption | omega | rfl | (simp; done) | (simp_all; done) | (simp [List.take_add_one, *]; done) | grind [List.take_add_one]))⟩ ?_ ?_ ?_
    clear E S
    · rintro lb9 rec10 pre x _ a w M_8 _ G hM_8 hp11 rfl ⟨c1, rfl, f0⟩ E S
      replace E : Env a 19 [] [(13, .int .i64 x), (2, .pointer (some ⟨b1, 0, none⟩)), (6, v0), (7, .int .i64 (((l0).length : Nat) : Int)), (8, .int .i64 ((k : Nat) : Int)), (12, u7)] := E
      replace S := S.swap.unpack1
      have hq1 := prefix_lt hp11
      replace hbx1 := hM_8.2 _ _ hbx1
      replace h0 := h0.le RSq_mono hM_8
      replace hb1 := hM_8.2 _ _ hb1
      replace hu7 := hu7.le hM_8
      refine WP_region ?_
      refine S_v E rfl (R_assign E rfl) rfl ?_
      clear E a; intro a E
      refine WL_nil ?_
      refine T_n ?_
      replace S := S.front1
      refine rb S ?_
      clear S; intro w S
      refine WP_block ?_
      refine WP_seq ?_
      refine WP_region ?_
      refine S_v E rfl (R_loadM E rfl Try.isAgg68 S.imm (cellM_box hb1)) rfl ?_
      clear E a; intro a E
      refine S_v E rfl (R_move E rfl) rfl ?_
      clear E a; intro a E
      replace S := S.front1
      refine S_x (X_yield (x := x) E S rfl rfl rfl hY (hM_2.trans (hM_3.trans hM_8)) (by exact flat_prefix (by assumption) (by assumption)) rfl f0 ?_)
      clear E a S; rintro a w M_13 c14 go15 hM_13 f0 S E
      replace hbx1 := hM_13.2 _ _ hbx1
      replace h0 := h0.le RSq_mono hM_13
      replace hb1 := hM_13.2 _ _ hb1
      replace hu7 := hu7.le hM_13
      cases go15
      · replace f0 : X ((l0.take k).flatten ++ pre ++ [x]) M_13 c14 := f0
        refine S_v E rfl (R_not E rfl) rfl ?_
        clear E a; intro a E
        refine WL_nil ?_
        refine T_n ?_
        refine WP_condT E rfl rfl ?_
        refine WP_ret ?_
        refine B_r ?_
        replace S := S.front1
        exact ⟨M_13, _, hM_13, ⟨rfl, J_eq f0 (by (rw [List.append_assoc]))⟩, S⟩
      · replace f0 : J ((l0.take k).flatten ++ pre ++ [x]) M_13 c14 := f0
        refine S_v E rfl (R_not E rfl) rfl ?_
        clear E a; intro a E
        refine WL_nil ?_
        refine T_n ?_
        refine WP_condF E rfl rfl ?_
        refine WP_skip ?_
        refine B_n ?_
        have S0 := S; clear S; have S := (St.pack [c14] S0).swap; clear S0
        exact ⟨M_13, _, hM_13, ⟨_, rfl, J_eq f0 (by (rw [List.append_assoc]))⟩, S⟩
    · rintro a w M_16 _ D17 hM_16 ⟨c1, rfl, f0⟩ S E
      replace S := S.unpack1
      replace hbx1 := hM_16.2 _ _ hbx1
      replace h0 := h0.le RSq_mono hM_16
      replace hb1 := hM_16.2 _ _ hb1
      replace hu7 := hu7.le hM_16
      refine B_n ?_
      refine B_n ?_
      refine T_n ?_
      refine WP_region ?_
      refine S_v E rfl (R_addx (m := ((k + 1 : Nat) : Int)) E rfl rfl (by omega) (by omega)) rfl ?_
      clear E a; intro a E
      refine S_v E rfl (R_move E rfl) rfl ?_
      clear E a; intro a E
      refine WL_nil ?_
      refine T_n ?_
      replace S := S.front1
      exact ⟨k + 1, ⟨M_16, _, _, (hM_3.trans hM_16), S, E.keep ⟨rfl, rfl, rfl, rfl, trivial⟩, by ((try clear S); (try clear E); first | assumption | omega | rfl | (simp; done) | (simp_all; done) | (simp [List.take_add_one, *]; done) | grind [List.take_add_one]), J_eq f0 (by first | (rw [flatten_succ (by assumption)]; done) | (rw [List.take_of_length_le (by omega)]; done) | (simp; done))⟩, by omega⟩
    · rintro a w M_18 c_ D19 p20 _ hM_18 hp21 ⟨rfl, f0⟩ S E
      replace hbx1 := hM_18.2 _ _ hbx1
      replace h0 := h0.le RSq_mono hM_18
      replace hb1 := hM_18.2 _ _ hb1
      replace hu7 := hu7.le hM_18
      refine WP_ret ?_
      refine B_r ?_
      refine B_r ?_
      refine T_r ?_
      refine T_r ?_
      refine B_r ?_
      replace S := S.front1
      exact F_retM0 E S Try.results99 (fun w S => ⟨_, rfl, M_18, _, (hM_2.trans (hM_3.trans hM_18)), .inr ⟨(l0.take k).flatten ++ p20, (by exact flat_prefix0 (by assumption) (by assumption)), f0⟩, S⟩)
  · replace hc4 := of_decide_eq_false hc4
    refine WP_exit ?_
    refine T_x ?_
    refine T_x ?_
    refine B_x ?_
    refine F_nrm ?_
    replace S := S.front1
    replace S := S.front1
    have hpre : (l0.take k).flatten = (l0).flatten := by first | (rw [flatten_succ (by assumption)]; done) | (rw [List.take_of_length_le (by omega)]; done) | (simp; done)
    rw [hpre] at hJ
    exact F_retM0 E S Try.results99 (fun w S => ⟨_, rfl, M_3, _, (hM_2.trans hM_3), .inl hJ, S⟩)

set_option maxHeartbeats 4000000 in
theorem it_Flatten {M : Hp} {v0 : Value} {l0 : List (List Int)} (h0 : RdS 1 (RSq Try.prog RInt) M v0 l0) :
    Pu Try.prog (.func (.func 65) #[] #[]) M [v0] (fun r M' => SeqV Try.prog r M' RInt ((l0).flatten)) := by
  refine Pu_enter Try.func65 rfl Try.ntmps65 rfl Try.call65 ?_
  intro a w M1 H hM1 S E
  replace h0 := h0.le RSq_mono hM1
  have b0 := h0.bound
  refine WP_seq ?_
  refine WP_region ?_
  refine S_x (X_box (cs := #[v0]) E S rfl rfl (cells_one (RdS.one' h0)) ?_)
  clear E a S; rintro a w b1 E S
  obtain ⟨M_2, hM_2, hb1, S⟩ := S.freezeB
  replace h0 := h0.le RSq_mono hM_2
  refine S_v E rfl (R_assign E rfl) rfl ?_
  clear E a; intro a E
  refine WL_nil ?_
  refine T_n ?_
  refine WP_seq ?_
  refine WP_region ?_
  refine S_v E rfl (R_makeFunc E rfl rfl) rfl ?_
  clear E a; intro a E
  refine S_v E rfl (R_assign E rfl) rfl ?_
  clear E a; intro a E
  refine WL_nil ?_
  refine T_n ?_
  refine WP_ret ?_
  exact F_ret1 E Try.results65 rfl ⟨_, rfl, M_2, hM_2, (SeqV_eq (it_Flatten1 h0 hb1) (by ((try clear S); (try clear E); first | rfl | (simp; done) | (simp_all; done) | grind [List.take_add_one]))), S⟩

set_option maxHeartbeats 4000000 in
theorem slices_AppendSeq {M : Hp} {v1 : Value} {l1 : List Int} (h1 : SeqV Try.prog v1 M (RInt) l1)(hb : l1.length ≤ 1000000000000) :
    Pu Try.prog (.func (.func 98) #[] #[]) M [.slice none 0 0, v1] (fun r M' => RdI M' r l1) := by
  refine Pu_enter Try.func98 rfl Try.ntmps98 rfl Try.call98 ?_
  intro a w M1 H hM1 S E
  replace h1 := h1.le hM1
  replace S : St w M1 (mks [] :: _) := S.empty
  replace E : Env a 13 (([] : List Nat).map mk) _ := E
  refine WP_seq ?_
  refine WP_region ?_
  refine S_x (X_box (cs := #[.slice none 0 0]) E S rfl rfl rfl ?_)
  clear E a S; rintro a w b1 E S
  refine S_v E rfl (R_assign E rfl) rfl ?_
  clear E a; intro a E
  refine WL_nil ?_
  refine T_n ?_
  refine WP_seq ?_
  refine WP_seq ?_
  refine WP_region ?_
  refine S_v E rfl (R_move E rfl) rfl ?_
  clear E a; intro a E
  refine WL_nil ?_
  refine T_n ?_
  refine WP_block ?_
  replace S := (S.ownNil (e := 3) (sz := 1)).made0
  replace S := S.front1
  replace E := E.keep (l' := [(2, .pointer (some ⟨b1, 0, none⟩)), (6, v1)]) ⟨rfl, rfl, trivial⟩
  replace S := S.front1
  replace S := S.front1
  have S0 := S; clear S; have S := St.pack [blk b1 (.cells #[(.slice none 0 0)] 22), OwnI 3 (.slice none 0 0) []] S0; clear S0
  refine WP_range (RV := RInt) (l := l1) (fun pre M c => ∃ (u2 : Value), c = bigs [blk b1 (.cells #[u2] 22), OwnI 3 u2 pre]) (fun _ _ _ _ => False) E S rfl h1 (Hp.le.refl _) (fun _ _ _ h => by rw [h]; rfl) (by decide) (by rintro _ M M' c hM ⟨u2, rfl⟩; exact ⟨_, rfl⟩) ⟨_, rfl⟩ ?_ ?_ ?_
  clear E S
  · rintro lb4 rec5 pre x _ a w M_3 _ G hM_3 hp6 rfl ⟨u2, rfl⟩ E S
    replace E : Env a 13 [] [(7, .int .i64 x), (2, .pointer (some ⟨b1, 0, none⟩)), (6, v1)] := E
    replace S := S.swap.unpack2
    have hq0 := prefix_lt hp6
    replace h1 := h1.le hM_3
    refine WP_region ?_
    refine S_v E rfl (R_assign E rfl) rfl ?_
    clear E a; intro a E
    refine WL_nil ?_
    refine T_n ?_
    replace S := S.front2
    refine rb S ?_
    clear S; intro w S
    refine WP_block ?_
    refine WP_region ?_
    refine S_v E rfl (R_load E rfl (Try.isAgg22 _) (cell_blk (S.mem (.tail _ (.head _))))) rfl ?_
    clear E a; intro a E
    refine S_v E rfl (R_move E rfl) rfl ?_
    clear E a; intro a E
    refine S_x (X_buildI (ys := [x]) E S rfl T22 rfl rfl rfl ?_)
    clear E a S; rintro a w v8 E S
    replace S := S.front3
    replace S := S.front1
    refine S_x (X_appendB (xs := pre) (ys := [x]) E S rfl rfl rfl T22 (by first | omega | (simp; omega) | (simp_all; omega)) ?_)
    clear E a S; rintro a w v9 E S
    have ho10 := S.oneI
    replace S := S.front2
    refine S_x0 (X_store E S rfl rfl (Try.sizeOf22 _) ho10 ?_)
    clear E a S; rintro a w E S
    refine WL_nil ?_
    refine B_n ?_
    replace S := S.front1
    replace S := S.front1
    replace S := S.front1
    replace S := S.front1
    have S0 := S; clear S; have S := (St.pack [blk b1 (.cells #[v9] 22), OwnI 3 v9 (pre ++ [x])] S0).swap; clear S0
    exact ⟨M_3, _, (Hp.le.refl _), ⟨_, rfl⟩, S⟩
  · rintro a w M_11 _ D12 hM_11 ⟨u2, rfl⟩ S E
    replace S := S.unpack2
    replace h1 := h1.le hM_11
    refine B_n ?_
    refine T_n ?_
    refine WP_seq ?_
    refine WP_region ?_
    refine S_v E rfl (R_load E rfl (Try.isAgg22 _) (cell_blk (S.mem (.head _)))) rfl ?_
    clear E a; intro a E
    refine S_v E rfl (R_assign E rfl) rfl ?_
    clear E a; intro a E
    refine WL_nil ?_
    refine T_n ?_
    refine WP_ret ?_
    replace S := S.front1
    have S0 := S; clear S
    obtain ⟨M_13, hM_13, hz14, S⟩ := S0.freezeI (by (first | omega | (simp; omega) | (simp; done) | (simp_all; omega) | grind))
    clear S0
    replace h1 := h1.le hM_13
    replace S := S.drop
    exact F_retM1 E S Try.results98 rfl (fun w S => ⟨_, rfl, M_13, (hM_11.trans hM_13), hz14, S⟩)
  · rintro _ _ _ _ _ _ _ _ _ hX; exact hX.elim

set_option maxHeartbeats 4000000 in
theorem slices_Collect {M : Hp} {v0 : Value} {l0 : List Int} (h0 : SeqV Try.prog v0 M (RInt) l0)(hb : l0.length ≤ 1000000000000) :
    Pu Try.prog (.func (.func 64) #[] #[]) M [v0] (fun r M' => RdI M' r l0) := by
  refine Pu_enter Try.func64 rfl Try.ntmps64 rfl Try.call64 ?_
  intro a w M1 H hM1 S E
  replace h0 := h0.le hM1
  refine WP_seq ?_
  refine WP_region ?_
  refine S_v E rfl (R_assign E rfl) rfl ?_
  clear E a; intro a E
  refine WL_nil ?_
  refine T_n ?_
  refine WP_seq ?_
  refine WP_region ?_
  refine S_v E rfl (R_move E rfl) rfl ?_
  clear E a; intro a E
  refine S_x (X_pu E S rfl rfl rfl (slices_AppendSeq h0 (by omega)) (Hp.le.refl _) ?_)
  clear E a S; rintro a v2 w M_1 hM_1 hv2 S E
  replace h0 := h0.le hM_1
  refine S_v E rfl (R_assign E rfl) rfl ?_
  clear E a; intro a E
  refine WL_nil ?_
  refine T_n ?_
  refine WP_ret ?_
  exact F_ret1 E Try.results64 rfl ⟨_, rfl, M_1, hM_1, hv2, S⟩

set_option maxHeartbeats 4000000 in
theorem impl_FlattenSeq {M : Hp} {v0 : Value} {l0 : List (List Int)} (h0 : RdII M v0 l0) (hb : total l0 ≤ 1000000000) (hb2 : l0.length ≤ 1000000000) :
    Pu Try.prog (.func (.func 27) #[] #[]) M [v0] (fun r M' => RdI M' r ((l0).flatten)) := by
  refine Pu_enter Try.func27 rfl Try.ntmps27 rfl Try.call27 ?_
  intro a w M1 H hM1 S E
  replace h0 := h0.le hM1
  have b0 := h0.bound
  have hfl := flatten_len l0
  refine WP_seq ?_
  refine WP_region ?_
  refine S_v E rfl (R_assign E rfl) rfl ?_
  clear E a; intro a E
  refine WL_nil ?_
  refine T_n ?_
  refine WP_seq ?_
  refine WP_region ?_
  refine S_v E rfl (R_move E rfl) rfl ?_
  clear E a; intro a E
  refine S_x (X_pu E S rfl rfl rfl (impl_seqs h0 (by first | omega | (simp; omega))) (Hp.le.refl _) ?_)
  clear E a S; rintro a v2 w M_1 hM_1 hv2 S E
  replace h0 := h0.le hM_1
  refine S_x (X_pu E S rfl rfl rfl (it_Flatten hv2) (Hp.le.refl _) ?_)
  clear E a S; rintro a v4 w M_3 hM_3 hv4 S E
  replace h0 := h0.le hM_3
  replace hv2 := hv2.le RSq_mono hM_3
  refine S_x (X_pu E S rfl rfl rfl (slices_Collect hv4 (by omega)) (Hp.le.refl _) ?_)
  clear E a S; rintro a v6 w M_5 hM_5 hv6 S E
  replace h0 := h0.le hM_5
  replace hv2 := hv2.le RSq_mono hM_5
  replace hv4 := hv4.le hM_5
  refine S_v E rfl (R_assign E rfl) rfl ?_
  clear E a; intro a E
  refine WL_nil ?_
  refine T_n ?_
  refine WP_ret ?_
  exact F_ret1 E Try.results27 rfl ⟨_, rfl, M_5, (hM_1.trans (hM_3.trans hM_5)), hv6, S⟩

set_option maxHeartbeats 4000000 in
theorem laws_both {M : Hp} {v0 v1 : Value} {l0 l1 : List Int} (h0 : RdI M v0 l0) (h1 : RdI M v1 l1)(hb : l0.length + l1.length ≤ 1000000000000) :
    Pu Try.prog (.func (.func 17) #[] #[]) M [v0, v1] (fun r M' => RdI M' r (l0 ++ l1)) := by
  refine Pu_enter Try.func17 rfl Try.ntmps17 rfl Try.call17 ?_
  intro a w M1 H hM1 S E
  replace h0 := h0.le hM1
  replace h1 := h1.le hM1
  have b0 := h0.bound
  have b1 := h1.bound
  refine WP_seq ?_
  refine WP_region ?_
  refine S_v E rfl (R_assign E rfl) rfl ?_
  clear E a; intro a E
  refine WL_nil ?_
  refine T_n ?_
  refine WP_seq ?_
  refine WP_region ?_
  refine S_x (X_buildI (ys := []) E S rfl T22 rfl rfl rfl ?_)
  clear E a S; rintro a w v1 E S
  refine S_v E rfl (R_move E rfl) rfl ?_
  clear E a; intro a E
  refine S_x (X_appendI (xs := ([] : List Int)) E S rfl rfl rfl T22 h0 (by first | omega | (simp; omega) | (simp_all; omega)) ?_)
  clear E a S; rintro a w v2 E S
  refine S_v E rfl (R_move E rfl) rfl ?_
  clear E a; intro a E
  refine S_x (X_appendI (xs := [] ++ l0) E S rfl rfl rfl T22 h1 (by first | omega | (simp; omega) | (simp_all; omega)) ?_)
  clear E a S; rintro a w v3 E S
  refine S_v E rfl (R_assign E rfl) rfl ?_
  clear E a; intro a E
  refine WL_nil ?_
  refine T_n ?_
  refine WP_ret ?_
  have S0 := S; clear S
  obtain ⟨M_4, hM_4, hz5, S⟩ := S0.freezeI (by (first | omega | (simp; omega) | (simp; done) | (simp_all; omega) | grind))
  clear S0
  replace h0 := h0.le hM_4
  replace h1 := h1.le hM_4
  exact F_ret1 E Try.results17 rfl ⟨_, rfl, M_4, hM_4, (by rw [show (l0 ++ l1) = (([] ++ l0) ++ l1) from by ((try clear S); (try clear E); first | rfl | (simp; done) | (simp_all; done) | grind [List.take_add_one])]; exact hz5), S⟩

set_option maxHeartbeats 4000000 in
theorem laws_FnFlatten {M : Hp} {v0 v1 : Value} {l0 l1 : List (List Int)} (h0 : RdII M v0 l0) (h1 : RdII M v1 l1) :
    PuC Try.prog 6 M [v0, v1] (fun r M' => r = .bool true) := by
  refine PuC_enter Try.func6 rfl Try.ntmps6 rfl ?_
  intro a w M1 H hM1 S E
  replace h0 := h0.le hM1
  replace h1 := h1.le hM1
  have b0 := h0.bound
  have b1 := h1.bound
  refine WP_seq ?_
  refine WP_region ?_
  refine S_v E rfl (R_assign E rfl) rfl ?_
  clear E a; intro a E
  refine WL_nil ?_
  refine T_n ?_
  refine WP_seq ?_
  refine WP_seq ?_
  refine WP_region ?_
  refine S_v E rfl (R_move E rfl) rfl ?_
  clear E a; intro a E
  refine S_x (X_pu E S rfl rfl rfl (laws_zzFits2 h0) (Hp.le.refl _) ?_)
  clear E a S; rintro a _ w M_1 hM_1 rfl S E
  replace h0 := h0.le hM_1
  replace h1 := h1.le hM_1
  refine S_v E rfl (R_not E rfl) rfl ?_
  clear E a; intro a E
  refine S_v E rfl (R_move E rfl) rfl ?_
  clear E a; intro a E
  refine split_bool (!(decide (l0.length ≤ 2147483647 ∧ ∀ x ∈ l0, x.length ≤ 2147483647))) (fun hc2 => ?_) (fun hc2 => ?_)
  · rw [hc2] at E
    refine WL_guard_no E rfl rfl rfl rfl fun a E => ?_
    refine WL_guard_no E rfl rfl rfl rfl fun a E => ?_
    refine WL_guard_no E rfl rfl rfl rfl fun a E => ?_
    refine S_v E rfl (R_pickT E rfl rfl) rfl ?_
    clear E a; intro a E
    refine WL_nil ?_
    refine T_n ?_
    refine WP_condT E rfl rfl ?_
    refine WP_seq ?_
    refine WP_region ?_
    refine S_v E rfl (R_assign E rfl) rfl ?_
    clear E a; intro a E
    refine WL_nil ?_
    refine T_n ?_
    refine WP_ret ?_
    refine T_r ?_
    exact F_ret1 E Try.results6 rfl ⟨_, rfl, M_1, hM_1, rfl, S⟩
  · rw [hc2] at E
    refine WL_guard_yes E rfl rfl ?_
    refine S_v E rfl (R_move E rfl) rfl ?_
    clear E a; intro a E
    refine WL_guard_yes E rfl rfl ?_
    refine S_x (X_pu E S rfl rfl rfl (laws_zzFits2 h1) (Hp.le.refl _) ?_)
    clear E a S; rintro a _ w M_3 hM_3 rfl S E
    replace h0 := h0.le hM_3
    replace h1 := h1.le hM_3
    refine WL_guard_yes E rfl rfl ?_
    refine S_v E rfl (R_not E rfl) rfl ?_
    clear E a; intro a E
    refine S_v E rfl (R_pickF E rfl rfl) rfl ?_
    clear E a; intro a E
    refine WL_nil ?_
    refine T_n ?_
    refine WP_cond E rfl (fun hc4 => ?_) (fun hc4 => ?_)
    · refine WP_seq ?_
      refine WP_region ?_
      refine S_v E rfl (R_assign E rfl) rfl ?_
      clear E a; intro a E
      refine WL_nil ?_
      refine T_n ?_
      refine WP_ret ?_
      refine T_r ?_
      exact F_ret1 E Try.results6 rfl ⟨_, rfl, M_3, (hM_1.trans hM_3), rfl, S⟩
    · refine WP_skip ?_
      refine T_n ?_
      refine WP_seq ?_
      refine WP_seq ?_
      refine WP_region ?_
      refine S_x (X_buildI (ys := [1]) E S rfl T22 rfl rfl rfl ?_)
      clear E a S; rintro a w v5 E S
      refine S_x (X_buildI (ys := [2]) E S rfl T22 rfl rfl rfl ?_)
      clear E a S; rintro a w v6 E S
      replace S := S.front1
      have S0 := S; clear S
      obtain ⟨M_8, hM_8, hz9, S⟩ := S0.freezeI (by (first | omega | (simp; omega) | (simp; done) | (simp_all; omega) | grind))
      clear S0
      replace h0 := h0.le hM_8
      replace h1 := h1.le hM_8
      have S0 := S; clear S
      obtain ⟨M_10, hM_10, hz11, S⟩ := S0.freezeI (by (first | omega | (simp; omega) | (simp; done) | (simp_all; omega) | grind))
      clear S0
      replace h0 := h0.le hM_10
      replace h1 := h1.le hM_10
      replace hz9 := hz9.le hM_10
      refine S_x (X_buildM (R := RSl 1 RInt) (vs := [v5, v6]) (xs := [[1], [2]]) (RSl_mono RInt_mono) E S rfl T31 rfl rfl rfl (by intro u hu; simp only [List.mem_cons, List.not_mem_nil, or_false] at hu; rcases hu with rfl | rfl <;> first | exact RdI.one hz9 | exact RdI.one hz11 | rfl) rfl (rowsC (R := RSl 1 RInt) (RdI.row hz9) (rowsC (R := RSl 1 RInt) (RdI.row hz11) rowsN)) ?_)
      clear E a S; rintro a v7 w M_12 hM_12 hv7 S E
      replace hv7 : RdII M_12 v7 [[1], [2]] := hv7
      replace h0 := h0.le hM_12
      replace h1 := h1.le hM_12
      replace hz9 := hz9.le hM_12
      replace hz11 := hz11.le hM_12
      refine S_x (X_pu E S rfl rfl rfl (impl_Flatten hv7 (by first | omega | decide | (simp only [List.nil_append]; omega) | (simp; omega))) (Hp.le.refl _) ?_)
      clear E a S; rintro a v14 w M_13 hM_13 hv14 S E
      replace h0 := h0.le hM_13
      replace h1 := h1.le hM_13
      replace hz9 := hz9.le hM_13
      replace hz11 := hz11.le hM_13
      replace hv7 := hv7.le hM_13
      refine S_v E rfl (R_lenV E rfl T22 hv14.len) rfl ?_
      clear E a; intro a E
      refine S_v E rfl (R_neq E rfl rfl) rfl ?_
      clear E a; intro a E
      refine WL_nil ?_
      refine T_n ?_
      have hc15 : (decide ((((([[1], [2]]).flatten).length : Nat) : Int) ≠ 2)) = false := by first | (simp; done) | decide
      refine WP_condF E rfl hc15 ?_
      refine WP_skip ?_
      refine T_n ?_
      refine WP_seq ?_
      refine WP_seq ?_
      refine WP_region ?_
      refine S_v E rfl (R_move E rfl) rfl ?_
      clear E a; intro a E
      refine S_v E rfl (R_lenV E rfl T31 h0.len) rfl ?_
      clear E a; intro a E
      refine S_v E rfl (R_gtr E rfl rfl) rfl ?_
      clear E a; intro a E
      refine S_v E rfl (R_move E rfl) rfl ?_
      clear E a; intro a E
      refine split_bool (decide (50 < (((l0).length : Nat) : Int))) (fun hc16 => ?_) (fun hc16 => ?_)
      · rw [hc16] at E
        replace hc16 := of_decide_eq_true hc16
        refine WL_guard_no E rfl rfl rfl rfl fun a E => ?_
        refine WL_guard_no E rfl rfl rfl rfl fun a E => ?_
        refine WL_guard_no E rfl rfl rfl rfl fun a E => ?_
        refine S_v E rfl (R_pickT E rfl rfl) rfl ?_
        clear E a; intro a E
        refine S_v E rfl (R_move E rfl) rfl ?_
        clear E a; intro a E
        refine WL_guard_no E rfl rfl rfl rfl fun a E => ?_
        refine WL_guard_no E rfl rfl rfl rfl fun a E => ?_
        refine WL_guard_no E rfl rfl rfl rfl fun a E => ?_
        refine S_v E rfl (R_pickT E rfl rfl) rfl ?_
        clear E a; intro a E
        refine S_v E rfl (R_move E rfl) rfl ?_
        clear E a; intro a E
        refine WL_guard_no E rfl rfl rfl rfl fun a E => ?_
        refine WL_guard_no E rfl rfl rfl rfl fun a E => ?_
        refine WL_guard_no E rfl rfl rfl rfl fun a E => ?_
        refine S_v E rfl (R_pickT E rfl rfl) rfl ?_
        clear E a; intro a E
        refine WL_nil ?_
        refine T_n ?_
        refine WP_condT E rfl rfl ?_
        refine WP_seq ?_
        refine WP_region ?_
        refine S_v E rfl (R_assign E rfl) rfl ?_
        clear E a; intro a E
        refine WL_nil ?_
        refine T_n ?_
        refine WP_ret ?_
        refine T_r ?_
        exact F_ret1 E Try.results6 rfl ⟨_, rfl, M_13, (hM_1.trans (hM_3.trans (hM_8.trans (hM_10.trans (hM_12.trans hM_13))))), rfl, S⟩
      · rw [hc16] at E
        replace hc16 := of_decide_eq_false hc16
        refine WL_guard_yes E rfl rfl ?_
        refine S_v E rfl (R_move E rfl) rfl ?_
        clear E a; intro a E
        refine WL_guard_yes E rfl rfl ?_
        refine S_v E rfl (R_lenV E rfl T31 h1.len) rfl ?_
        clear E a; intro a E
        refine WL_guard_yes E rfl rfl ?_
        refine S_v E rfl (R_gtr E rfl rfl) rfl ?_
        clear E a; intro a E
        refine S_v E rfl (R_pickF E rfl rfl) rfl ?_
        clear E a; intro a E
        refine S_v E rfl (R_move E rfl) rfl ?_
        clear E a; intro a E
        refine split_bool (decide (50 < (((l1).length : Nat) : Int))) (fun hc17 => ?_) (fun hc17 => ?_)
        · rw [hc17] at E
          replace hc17 := of_decide_eq_true hc17
          refine WL_guard_no E rfl rfl rfl rfl fun a E => ?_
          refine WL_guard_no E rfl rfl rfl rfl fun a E => ?_
          refine WL_guard_no E rfl rfl rfl rfl fun a E => ?_
          refine S_v E rfl (R_pickT E rfl rfl) rfl ?_
          clear E a; intro a E
          refine S_v E rfl (R_move E rfl) rfl ?_
          clear E a; intro a E
          refine WL_guard_no E rfl rfl rfl rfl fun a E => ?_
          refine WL_guard_no E rfl rfl rfl rfl fun a E => ?_
          refine WL_guard_no E rfl rfl rfl rfl fun a E => ?_
          refine S_v E rfl (R_pickT E rfl rfl) rfl ?_
          clear E a; intro a E
          refine WL_nil ?_
          refine T_n ?_
          refine WP_condT E rfl rfl ?_
          refine WP_seq ?_
          refine WP_region ?_
          refine S_v E rfl (R_assign E rfl) rfl ?_
          clear E a; intro a E
          refine WL_nil ?_
          refine T_n ?_
          refine WP_ret ?_
          refine T_r ?_
          exact F_ret1 E Try.results6 rfl ⟨_, rfl, M_13, (hM_1.trans (hM_3.trans (hM_8.trans (hM_10.trans (hM_12.trans hM_13))))), rfl, S⟩
        · rw [hc17] at E
          replace hc17 := of_decide_eq_false hc17
          refine WL_guard_yes E rfl rfl ?_
          refine S_v E rfl (R_move E rfl) rfl ?_
          clear E a; intro a E
          refine WL_guard_yes E rfl rfl ?_
          refine S_x (X_pu E S rfl rfl rfl (laws_few h0) (Hp.le.refl _) ?_)
          clear E a S; rintro a _ w M_18 hM_18 rfl S E
          replace h0 := h0.le hM_18
          replace h1 := h1.le hM_18
          replace hz9 := hz9.le hM_18
          replace hz11 := hz11.le hM_18
          replace hv7 := hv7.le hM_18
          replace hv14 := hv14.le hM_18
          refine WL_guard_yes E rfl rfl ?_
          refine S_v E rfl (R_not E rfl) rfl ?_
          clear E a; intro a E
          refine S_v E rfl (R_pickF E rfl rfl) rfl ?_
          clear E a; intro a E
          refine S_v E rfl (R_move E rfl) rfl ?_
          clear E a; intro a E
          refine split_bool (!(decide (∀ x ∈ l0, x.length ≤ 300))) (fun hc19 => ?_) (fun hc19 => ?_)
          · rw [hc19] at E
            refine WL_guard_no E rfl rfl rfl rfl fun a E => ?_
            refine WL_guard_no E rfl rfl rfl rfl fun a E => ?_
            refine WL_guard_no E rfl rfl rfl rfl fun a E => ?_
            refine S_v E rfl (R_pickT E rfl rfl) rfl ?_
            clear E a; intro a E
            refine WL_nil ?_
            refine T_n ?_
            refine WP_condT E rfl rfl ?_
            refine WP_seq ?_
            refine WP_region ?_
            refine S_v E rfl (R_assign E rfl) rfl ?_
            clear E a; intro a E
            refine WL_nil ?_
            refine T_n ?_
            refine WP_ret ?_
            refine T_r ?_
            exact F_ret1 E Try.results6 rfl ⟨_, rfl, M_18, (hM_1.trans (hM_3.trans (hM_8.trans (hM_10.trans (hM_12.trans (hM_13.trans hM_18)))))), rfl, S⟩
          · rw [hc19] at E
            refine WL_guard_yes E rfl rfl ?_
            refine S_v E rfl (R_move E rfl) rfl ?_
            clear E a; intro a E
            refine WL_guard_yes E rfl rfl ?_
            refine S_x (X_pu E S rfl rfl rfl (laws_few h1) (Hp.le.refl _) ?_)
            clear E a S; rintro a _ w M_20 hM_20 rfl S E
            replace h0 := h0.le hM_20
            replace h1 := h1.le hM_20
            replace hz9 := hz9.le hM_20
            replace hz11 := hz11.le hM_20
            replace hv7 := hv7.le hM_20
            replace hv14 := hv14.le hM_20
            refine WL_guard_yes E rfl rfl ?_
            refine S_v E rfl (R_not E rfl) rfl ?_
            clear E a; intro a E
            refine S_v E rfl (R_pickF E rfl rfl) rfl ?_
            clear E a; intro a E
            refine WL_nil ?_
            refine T_n ?_
            refine WP_cond E rfl (fun hc21 => ?_) (fun hc21 => ?_)
            · refine WP_seq ?_
              refine WP_region ?_
              refine S_v E rfl (R_assign E rfl) rfl ?_
              clear E a; intro a E
              refine WL_nil ?_
              refine T_n ?_
              refine WP_ret ?_
              refine T_r ?_
              exact F_ret1 E Try.results6 rfl ⟨_, rfl, M_20, (hM_1.trans (hM_3.trans (hM_8.trans (hM_10.trans (hM_12.trans (hM_13.trans (hM_18.trans hM_20))))))), rfl, S⟩
            · have hk : (l0.length ≤ 50 ∧ l1.length ≤ 50) ∧ (∀ x ∈ l0, x.length ≤ 300) ∧ (∀ x ∈ l1, x.length ≤ 300) := ⟨⟨by omega, by omega⟩, by simp_all, by simp_all⟩
              have hta : total l0 ≤ 15000 := (by have h2 := total_le hk.2.1; have h3 : l0.length * 300 ≤ 50 * 300 := Nat.mul_le_mul_right _ hk.1.1; omega)
              have htb : total l1 ≤ 15000 := (by have h2 := total_le hk.2.2; have h3 : l1.length * 300 ≤ 50 * 300 := Nat.mul_le_mul_right _ hk.1.2; omega)
              have htab := total_append l0 l1; have hf0 := flatten_len l0; have hf1 := flatten_len l1
              refine WP_skip ?_
              refine T_n ?_
              refine WP_seq ?_
              refine WP_region ?_
              refine S_x (X_build1 (vs := []) E S rfl T31 rfl rfl rfl (fun u hu => by simp at hu) ?_)
              clear E a S; rintro a w v22 E S
              have hr23 : RowsR (RSl 1 RInt) 1 M_20 ([] : List (List Int)) [] := RowsR.nil
              replace S : St w M_20 (OwnC 22 1 v22 ([] : List (List Int)).length [] :: _) := S
              refine S_v E rfl (R_move E rfl) rfl ?_
              clear E a; intro a E
              refine S_x (X_appendR (R := (RSl 1 RInt)) (zs := ([] : List (List Int))) (ys := l0) E S hr23 rfl rfl rfl T31 h0 one_RSl (by first | omega | (simp; omega) | (simp_all; omega)) (by first | omega | (simp; omega) | (simp_all; omega)) ?_)
              clear E a S; rintro a w v24 xs25 E hr26 S
              refine S_v E rfl (R_move E rfl) rfl ?_
              clear E a; intro a E
              refine S_x (X_appendR (R := (RSl 1 RInt)) (zs := ([] : List (List Int)) ++ l0) (ys := l1) E S hr26 rfl rfl rfl T31 h1 one_RSl (by first | omega | (simp; omega) | (simp_all; omega)) (by first | omega | (simp; omega) | (simp_all; omega)) ?_)
              clear E a S; rintro a w v27 xs28 E hr29 S
              refine S_v E rfl (R_assign E rfl) rfl ?_
              clear E a; intro a E
              refine WL_nil ?_
              refine T_n ?_
              refine WP_seq ?_
              refine WP_region ?_
              refine S_v E rfl (R_move E rfl) rfl ?_
              clear E a; intro a E
              have S0 := S; clear S
              obtain ⟨M_30, hM_30, hz31, S⟩ := S0.freezeR hr29 (RSl_mono RInt_mono) (by (first | omega | (simp; omega) | (simp; done) | (simp_all; omega) | grind))
              clear S0
              replace hz31 : RdII M_30 v27 ((([] : List (List Int)) ++ l0) ++ l1) := hz31
              replace h0 := h0.le hM_30
              replace h1 := h1.le hM_30
              replace hz9 := hz9.le hM_30
              replace hz11 := hz11.le hM_30
              replace hv7 := hv7.le hM_30
              replace hv14 := hv14.le hM_30
              refine S_x (X_pu E S rfl rfl rfl (spec_Flatten hz31 (by first | omega | decide | (simp only [List.nil_append]; omega) | (simp; omega))) (Hp.le.refl _) ?_)
              clear E a S; rintro a v33 w M_32 hM_32 hv33 S E
              replace h0 := h0.le hM_32
              replace h1 := h1.le hM_32
              replace hz9 := hz9.le hM_32
              replace hz11 := hz11.le hM_32
              replace hv7 := hv7.le hM_32
              replace hv14 := hv14.le hM_32
              replace hz31 := hz31.le hM_32
              refine S_v E rfl (R_move E rfl) rfl ?_
              clear E a; intro a E
              refine S_x (X_pu E S rfl rfl rfl (laws_joined hz31 (by first | omega | decide | (simp only [List.nil_append]; omega) | (simp; omega))) (Hp.le.refl _) ?_)
              clear E a S; rintro a v35 w M_34 hM_34 hv35 S E
              replace h0 := h0.le hM_34
              replace h1 := h1.le hM_34
              replace hz9 := hz9.le hM_34
              replace hz11 := hz11.le hM_34
              replace hv7 := hv7.le hM_34
              replace hv14 := hv14.le hM_34
              replace hz31 := hz31.le hM_34
              replace hv33 := hv33.le hM_34
              refine S_x (X_pu E S rfl rfl rfl (laws_eq hv33 hv35) (Hp.le.refl _) ?_)
              clear E a S; rintro a _ w M_36 hM_36 rfl S E
              replace h0 := h0.le hM_36
              replace h1 := h1.le hM_36
              replace hz9 := hz9.le hM_36
              replace hz11 := hz11.le hM_36
              replace hv7 := hv7.le hM_36
              replace hv14 := hv14.le hM_36
              replace hz31 := hz31.le hM_36
              replace hv33 := hv33.le hM_36
              replace hv35 := hv35.le hM_36
              refine S_v E rfl (R_move E rfl) rfl ?_
              clear E a; intro a E
              have hc37 : (decide (((([] : List (List Int)) ++ l0) ++ l1).flatten = ((([] : List (List Int)) ++ l0) ++ l1).flatten)) = true := by first | (simp; done) | decide
              rw [hc37] at E
              refine WL_guard_yes E rfl rfl ?_
              refine S_v E rfl (R_move E rfl) rfl ?_
              clear E a; intro a E
              refine WL_guard_yes E rfl rfl ?_
              refine S_x (X_pu E S rfl rfl rfl (impl_Flatten hz31 (by first | omega | decide | (simp only [List.nil_append]; omega) | (simp; omega))) (Hp.le.refl _) ?_)
              clear E a S; rintro a v39 w M_38 hM_38 hv39 S E
              replace h0 := h0.le hM_38
              replace h1 := h1.le hM_38
              replace hz9 := hz9.le hM_38
              replace hz11 := hz11.le hM_38
              replace hv7 := hv7.le hM_38
              replace hv14 := hv14.le hM_38
              replace hz31 := hz31.le hM_38
              replace hv33 := hv33.le hM_38
              replace hv35 := hv35.le hM_38
              refine WL_guard_yes E rfl rfl ?_
              refine S_v E rfl (R_move E rfl) rfl ?_
              clear E a; intro a E
              refine WL_guard_yes E rfl rfl ?_
              refine S_x (X_pu E S rfl rfl rfl (laws_joined hz31 (by first | omega | decide | (simp only [List.nil_append]; omega) | (simp; omega))) (Hp.le.refl _) ?_)
              clear E a S; rintro a v41 w M_40 hM_40 hv41 S E
              replace h0 := h0.le hM_40
              replace h1 := h1.le hM_40
              replace hz9 := hz9.le hM_40
              replace hz11 := hz11.le hM_40
              replace hv7 := hv7.le hM_40
              replace hv14 := hv14.le hM_40
              replace hz31 := hz31.le hM_40
              replace hv33 := hv33.le hM_40
              replace hv35 := hv35.le hM_40
              replace hv39 := hv39.le hM_40
              refine WL_guard_yes E rfl rfl ?_
              refine S_x (X_pu E S rfl rfl rfl (laws_eq hv39 hv41) (Hp.le.refl _) ?_)
              clear E a S; rintro a _ w M_42 hM_42 rfl S E
              replace h0 := h0.le hM_42
              replace h1 := h1.le hM_42
              replace hz9 := hz9.le hM_42
              replace hz11 := hz11.le hM_42
              replace hv7 := hv7.le hM_42
              replace hv14 := hv14.le hM_42
              replace hz31 := hz31.le hM_42
              replace hv33 := hv33.le hM_42
              replace hv35 := hv35.le hM_42
              replace hv39 := hv39.le hM_42
              replace hv41 := hv41.le hM_42
              refine S_v E rfl (R_pickT E rfl rfl) rfl ?_
              clear E a; intro a E
              refine S_v E rfl (R_move E rfl) rfl ?_
              clear E a; intro a E
              have hc43 : (decide (((([] : List (List Int)) ++ l0) ++ l1).flatten = ((([] : List (List Int)) ++ l0) ++ l1).flatten)) = true := by first | (simp; done) | decide
              rw [hc43] at E
              refine WL_guard_yes E rfl rfl ?_
              refine S_v E rfl (R_move E rfl) rfl ?_
              clear E a; intro a E
              refine WL_guard_yes E rfl rfl ?_
              refine S_x (X_pu E S rfl rfl rfl (impl_FlattenSeq hz31 (by first | omega | decide | (simp only [List.nil_append]; omega) | (simp; omega)) (by first | omega | decide | (simp only [List.nil_append]; omega) | (simp; omega))) (Hp.le.refl _) ?_)
              clear E a S; rintro a v45 w M_44 hM_44 hv45 S E
              replace h0 := h0.le hM_44
              replace h1 := h1.le hM_44
              replace hz9 := hz9.le hM_44
              replace hz11 := hz11.le hM_44
              replace hv7 := hv7.le hM_44
              replace hv14 := hv14.le hM_44
              replace hz31 := hz31.le hM_44
              replace hv33 := hv33.le hM_44
              replace hv35 := hv35.le hM_44
              replace hv39 := hv39.le hM_44
              replace hv41 := hv41.le hM_44
              refine WL_guard_yes E rfl rfl ?_
              refine S_v E rfl (R_move E rfl) rfl ?_
              clear E a; intro a E
              refine WL_guard_yes E rfl rfl ?_
              refine S_x (X_pu E S rfl rfl rfl (laws_joined hz31 (by first | omega | decide | (simp only [List.nil_append]; omega) | (simp; omega))) (Hp.le.refl _) ?_)
              clear E a S; rintro a v47 w M_46 hM_46 hv47 S E
              replace h0 := h0.le hM_46
              replace h1 := h1.le hM_46
              replace hz9 := hz9.le hM_46
              replace hz11 := hz11.le hM_46
              replace hv7 := hv7.le hM_46
              replace hv14 := hv14.le hM_46
              replace hz31 := hz31.le hM_46
              replace hv33 := hv33.le hM_46
              replace hv35 := hv35.le hM_46
              replace hv39 := hv39.le hM_46
              replace hv41 := hv41.le hM_46
              replace hv45 := hv45.le hM_46
              refine WL_guard_yes E rfl rfl ?_
              refine S_x (X_pu E S rfl rfl rfl (laws_eq hv45 hv47) (Hp.le.refl _) ?_)
              clear E a S; rintro a _ w M_48 hM_48 rfl S E
              replace h0 := h0.le hM_48
              replace h1 := h1.le hM_48
              replace hz9 := hz9.le hM_48
              replace hz11 := hz11.le hM_48
              replace hv7 := hv7.le hM_48
              replace hv14 := hv14.le hM_48
              replace hz31 := hz31.le hM_48
              replace hv33 := hv33.le hM_48
              replace hv35 := hv35.le hM_48
              replace hv39 := hv39.le hM_48
              replace hv41 := hv41.le hM_48
              replace hv45 := hv45.le hM_48
              replace hv47 := hv47.le hM_48
              refine S_v E rfl (R_pickT E rfl rfl) rfl ?_
              clear E a; intro a E
              refine S_v E rfl (R_move E rfl) rfl ?_
              clear E a; intro a E
              have hc49 : (decide (((([] : List (List Int)) ++ l0) ++ l1).flatten = ((([] : List (List Int)) ++ l0) ++ l1).flatten)) = true := by first | (simp; done) | decide
              rw [hc49] at E
              refine WL_guard_yes E rfl rfl ?_
              refine S_v E rfl (R_move E rfl) rfl ?_
              clear E a; intro a E
              refine WL_guard_yes E rfl rfl ?_
              refine S_x (X_pu E S rfl rfl rfl (impl_Flatten hz31 (by first | omega | decide | (simp only [List.nil_append]; omega) | (simp; omega))) (Hp.le.refl _) ?_)
              clear E a S; rintro a v51 w M_50 hM_50 hv51 S E
              replace h0 := h0.le hM_50
              replace h1 := h1.le hM_50
              replace hz9 := hz9.le hM_50
              replace hz11 := hz11.le hM_50
              replace hv7 := hv7.le hM_50
              replace hv14 := hv14.le hM_50
              replace hz31 := hz31.le hM_50
              replace hv33 := hv33.le hM_50
              replace hv35 := hv35.le hM_50
              replace hv39 := hv39.le hM_50
              replace hv41 := hv41.le hM_50
              replace hv45 := hv45.le hM_50
              replace hv47 := hv47.le hM_50
              refine WL_guard_yes E rfl rfl ?_
              refine S_v E rfl (R_move E rfl) rfl ?_
              clear E a; intro a E
              refine WL_guard_yes E rfl rfl ?_
              refine S_x (X_pu E S rfl rfl rfl (impl_Flatten h0 (by first | omega | decide | (simp only [List.nil_append]; omega) | (simp; omega))) (Hp.le.refl _) ?_)
              clear E a S; rintro a v53 w M_52 hM_52 hv53 S E
              replace h0 := h0.le hM_52
              replace h1 := h1.le hM_52
              replace hz9 := hz9.le hM_52
              replace hz11 := hz11.le hM_52
              replace hv7 := hv7.le hM_52
              replace hv14 := hv14.le hM_52
              replace hz31 := hz31.le hM_52
              replace hv33 := hv33.le hM_52
              replace hv35 := hv35.le hM_52
              replace hv39 := hv39.le hM_52
              replace hv41 := hv41.le hM_52
              replace hv45 := hv45.le hM_52
              replace hv47 := hv47.le hM_52
              replace hv51 := hv51.le hM_52
              refine WL_guard_yes E rfl rfl ?_
              refine S_v E rfl (R_move E rfl) rfl ?_
              clear E a; intro a E
              refine WL_guard_yes E rfl rfl ?_
              refine S_x (X_pu E S rfl rfl rfl (impl_Flatten h1 (by first | omega | decide | (simp only [List.nil_append]; omega) | (simp; omega))) (Hp.le.refl _) ?_)
              clear E a S; rintro a v55 w M_54 hM_54 hv55 S E
              replace h0 := h0.le hM_54
              replace h1 := h1.le hM_54
              replace hz9 := hz9.le hM_54
              replace hz11 := hz11.le hM_54
              replace hv7 := hv7.le hM_54
              replace hv14 := hv14.le hM_54
              replace hz31 := hz31.le hM_54
              replace hv33 := hv33.le hM_54
              replace hv35 := hv35.le hM_54
              replace hv39 := hv39.le hM_54
              replace hv41 := hv41.le hM_54
              replace hv45 := hv45.le hM_54
              replace hv47 := hv47.le hM_54
              replace hv51 := hv51.le hM_54
              replace hv53 := hv53.le hM_54
              refine WL_guard_yes E rfl rfl ?_
              refine S_x (X_pu E S rfl rfl rfl (laws_both hv53 hv55 (by first | omega | (simp; omega) | (simp_all; omega))) (Hp.le.refl _) ?_)
              clear E a S; rintro a v57 w M_56 hM_56 hv57 S E
              replace h0 := h0.le hM_56
              replace h1 := h1.le hM_56
              replace hz9 := hz9.le hM_56
              replace hz11 := hz11.le hM_56
              replace hv7 := hv7.le hM_56
              replace hv14 := hv14.le hM_56
              replace hz31 := hz31.le hM_56
              replace hv33 := hv33.le hM_56
              replace hv35 := hv35.le hM_56
              replace hv39 := hv39.le hM_56
              replace hv41 := hv41.le hM_56
              replace hv45 := hv45.le hM_56
              replace hv47 := hv47.le hM_56
              replace hv51 := hv51.le hM_56
              replace hv53 := hv53.le hM_56
              replace hv55 := hv55.le hM_56
              refine WL_guard_yes E rfl rfl ?_
              refine S_x (X_pu E S rfl rfl rfl (laws_eq hv51 hv57) (Hp.le.refl _) ?_)
              clear E a S; rintro a _ w M_58 hM_58 rfl S E
              replace h0 := h0.le hM_58
              replace h1 := h1.le hM_58
              replace hz9 := hz9.le hM_58
              replace hz11 := hz11.le hM_58
              replace hv7 := hv7.le hM_58
              replace hv14 := hv14.le hM_58
              replace hz31 := hz31.le hM_58
              replace hv33 := hv33.le hM_58
              replace hv35 := hv35.le hM_58
              replace hv39 := hv39.le hM_58
              replace hv41 := hv41.le hM_58
              replace hv45 := hv45.le hM_58
              replace hv47 := hv47.le hM_58
              replace hv51 := hv51.le hM_58
              replace hv53 := hv53.le hM_58
              replace hv55 := hv55.le hM_58
              replace hv57 := hv57.le hM_58
              refine S_v E rfl (R_pickT E rfl rfl) rfl ?_
              clear E a; intro a E
              refine S_v E rfl (R_assign E rfl) rfl ?_
              clear E a; intro a E
              refine WL_nil ?_
              refine T_n ?_
              refine WP_ret ?_
              exact F_ret1 E Try.results6 rfl ⟨_, rfl, M_58, (hM_1.trans (hM_3.trans (hM_8.trans (hM_10.trans (hM_12.trans (hM_13.trans (hM_18.trans (hM_20.trans (hM_30.trans (hM_32.trans (hM_34.trans (hM_36.trans (hM_38.trans (hM_40.trans (hM_42.trans (hM_44.trans (hM_46.trans (hM_48.trans (hM_50.trans (hM_52.trans (hM_54.trans (hM_56.trans hM_58)))))))))))))))))))))), (congrArg Value.bool (by first | (simp; done) | decide)), S⟩

end Go.Proofs.Ytnoekjegpolfoaa.wFnFlatten
