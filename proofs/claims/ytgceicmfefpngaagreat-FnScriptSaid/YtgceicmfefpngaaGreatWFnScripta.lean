/- Walks through the functions that laws.FnScript reaches: what each computes; no conditions beyond what each theorem states. -/
import Derived.Test.YtgceicmfefpngaaGreatProg
import Derived.Test.YtgceicmfefpngaaGreatSlS
import Derived.Ground.SlgmProg
set_option linter.unusedVariables false
set_option linter.unusedSimpArgs false
namespace Go.Proofs.YtgceicmfefpngaaGreat.wFnScript
open Go Go.Sl
set_option maxRecDepth 100000
set_option maxHeartbeats 4000000
theorem Tryz.mixed : Tryz.prog.follows .mixedOrders = true := by kernel_rfl
theorem T22 : SlT Tryz.prog 22 3 1 8 (.int .i64 0) := ⟨Tryz.underlying22, ⟨Tryz.t3, by kernel_rfl, rfl, rfl, rfl⟩, rfl, by decide⟩
theorem T23 : SlT Tryz.prog 23 32 9 104 (.agg #[(.int .i64 0), (.int .i64 0), (.int .i64 0), (.int .i64 0), (.int .i64 0), (.slice none 0 0), (.int .i64 0), (.int .i64 0), (.slice none 0 0)]) := ⟨Tryz.underlying23, ⟨Tryz.t32, by kernel_rfl, rfl, rfl, rfl⟩, rfl, by decide⟩
theorem T74 : SlT Tryz.prog 74 22 1 24 (.slice none 0 0) := ⟨Tryz.underlying74, ⟨Tryz.t22, by kernel_rfl, rfl, rfl, rfl⟩, rfl, by decide⟩
theorem Yg : Yf Tryz.prog 116 3 117 (.agg #[]) := ⟨Tryz.underlying116, Tryz.underlying3, ⟨Tryz.t117, by kernel_rfl, rfl⟩⟩
theorem JU : Yf Tryz.prog 119 3 4 (.bool false) := ⟨Tryz.underlying119, Tryz.underlying3, ⟨Tryz.t4, by kernel_rfl, rfl⟩⟩
theorem MT150 : Yf Tryz.prog 150 3 3 (.int .i64 0) := ⟨Tryz.underlying150, Tryz.underlying3, ⟨Tryz.t3, by kernel_rfl, rfl⟩⟩
theorem qQ (w : World) : (Instr.build 117 #[]).run Tryz.prog w = .ok (.agg #[]) w := run_build _ _ _ _ (by kernel_rfl)
theorem FB27_0_i (x0 : Int) (w : World) : (Instr.build 27 #[(0, (.int .i64 x0))]).run Tryz.prog w = .ok (.agg #[(.int .i64 x0), (.int .i64 0), (.slice none 0 0)]) w := run_build _ _ _ _ (by kernel_rfl)
theorem qq (x0 : Int) (x1 : Option Addr) (n1 c1 : Nat) (w : World) : (Instr.build 41 #[(0, (.int .i64 x0)), (2, (.slice x1 n1 c1))]).run Tryz.prog w = .ok (.agg #[(.int .i64 x0), (.int .i64 0), (.slice x1 n1 c1)]) w := run_build _ _ _ _ (by kernel_rfl)
theorem FB42_0_i (x0 : Int) (w : World) : (Instr.build 42 #[(0, (.int .i64 x0))]).run Tryz.prog w = .ok (.agg #[(.int .i64 x0), (.int .i64 0)]) w := run_build _ _ _ _ (by kernel_rfl)
theorem FA27_0 (p : Addr) (w : World) : (Instr.fieldAt 27 (.pointer (some p)) 0).run Tryz.prog w = .ok (.pointer (some (p.add 0))) w := by kernel_rfl
theorem WX (p : Addr) (w : World) : (Instr.fieldAt 27 (.pointer (some p)) 1).run Tryz.prog w = .ok (.pointer (some (p.add 1))) w := by kernel_rfl
theorem jj (p : Addr) (w : World) : (Instr.fieldAt 27 (.pointer (some p)) 2).run Tryz.prog w = .ok (.pointer (some (p.add 2))) w := by kernel_rfl
theorem FA30_0 (p : Addr) (w : World) : (Instr.fieldAt 30 (.pointer (some p)) 0).run Tryz.prog w = .ok (.pointer (some (p.add 0))) w := by kernel_rfl
theorem WW (p : Addr) (w : World) : (Instr.fieldAt 30 (.pointer (some p)) 1).run Tryz.prog w = .ok (.pointer (some (p.add 1))) w := by kernel_rfl
theorem VL (p : Addr) (w : World) : (Instr.fieldAt 32 (.pointer (some p)) 0).run Tryz.prog w = .ok (.pointer (some (p.add 0))) w := by kernel_rfl
theorem Wj (p : Addr) (w : World) : (Instr.fieldAt 32 (.pointer (some p)) 1).run Tryz.prog w = .ok (.pointer (some (p.add 1))) w := by kernel_rfl
theorem Wi (p : Addr) (w : World) : (Instr.fieldAt 32 (.pointer (some p)) 2).run Tryz.prog w = .ok (.pointer (some (p.add 2))) w := by kernel_rfl
theorem Vt (p : Addr) (w : World) : (Instr.fieldAt 32 (.pointer (some p)) 3).run Tryz.prog w = .ok (.pointer (some (p.add 3))) w := by kernel_rfl
theorem YZ (p : Addr) (w : World) : (Instr.fieldAt 32 (.pointer (some p)) 4).run Tryz.prog w = .ok (.pointer (some (p.add 6))) w := by kernel_rfl
theorem Jl (p : Addr) (w : World) : (Instr.fieldAt 32 (.pointer (some p)) 5).run Tryz.prog w = .ok (.pointer (some (p.add 8))) w := by kernel_rfl
theorem FA41_0 (p : Addr) (w : World) : (Instr.fieldAt 41 (.pointer (some p)) 0).run Tryz.prog w = .ok (.pointer (some (p.add 0))) w := by kernel_rfl
theorem ji (p : Addr) (w : World) : (Instr.fieldAt 41 (.pointer (some p)) 1).run Tryz.prog w = .ok (.pointer (some (p.add 1))) w := by kernel_rfl
theorem FA41_2 (p : Addr) (w : World) : (Instr.fieldAt 41 (.pointer (some p)) 2).run Tryz.prog w = .ok (.pointer (some (p.add 2))) w := by kernel_rfl
theorem FA42_0 (p : Addr) (w : World) : (Instr.fieldAt 42 (.pointer (some p)) 0).run Tryz.prog w = .ok (.pointer (some (p.add 0))) w := by kernel_rfl
theorem jh (p : Addr) (w : World) : (Instr.fieldAt 42 (.pointer (some p)) 1).run Tryz.prog w = .ok (.pointer (some (p.add 1))) w := by kernel_rfl
def Yh (l : List Int) (i : Int) (m : List Int) : List Int :=
  let j := min (if i < 0 then (i + l.length).toNat else i.toNat) l.length
  l.take j ++ m ++ l.drop j
def cutAt (l b : List Int) : Option Nat := (List.range (l.length + 1)).find? (fun i => decide ((l.drop i).take b.length = b))
def Yd (l b : List Int) : List Int × List Int × Bool :=
  match cutAt l b with
  | some k => (l.take k, l.drop (k + b.length), true)
  | none => (l, [], false)
theorem cutAt_some {l b : List Int} {k : Nat} (hk : k ≤ l.length) (h : (l.drop k).take b.length = b) (hn : ∀ j, j < k → ¬ (l.drop j).take b.length = b) : cutAt l b = some k := by
  unfold cutAt
  rw [List.find?_range_eq_some]
  exact ⟨by simpa using h, by simp; omega, fun j hj => by simpa using hn j hj⟩
theorem cutAt_none {l b : List Int} (hn : ∀ j, j ≤ l.length → ¬ (l.drop j).take b.length = b) : cutAt l b = none := by
  unfold cutAt
  rw [List.find?_range_eq_none]
  intro j hj
  simpa using hn j (by omega)
theorem ZS {l b : List Int} {k : Nat} (hk : k ≤ l.length) (h : (l.drop k).take b.length = b) (hn : ∀ j, j < k → ¬ (l.drop j).take b.length = b) : Yd l b = (l.take k, l.drop (k + b.length), true) := by
  unfold Yd; rw [cutAt_some hk h hn]
theorem Vk {l b : List Int} {k : Nat} (hk : l.length < k + b.length) (hn : ∀ j, j < k → ¬ (l.drop j).take b.length = b) : Yd l b = (l, [], false) := by
  unfold Yd; rw [cutAt_none]
  intro j hj e
  by_cases h : j < k
  · exact hn j h e
  · have := congrArg List.length e
    simp at this; omega
theorem cut_len {l b : List Int} : (Yd l b).1.length ≤ l.length ∧ (Yd l b).2.1.length ≤ l.length := by
  unfold Yd; split <;> simp <;> omega
def maxLen (ll : List (List Int)) : Nat := ll.foldl (fun a x => max a x.length) 0
def JY (i : Nat) (ll : List (List Int)) : List Int := ll.filterMap (fun l => l[i]?)
def QU (k : Nat) (ll : List (List Int)) : List Int := (List.range k).flatMap (fun i => JY i ll)
def total (ll : List (List Int)) : Nat := (ll.map List.length).sum
theorem qi {ll : List (List Int)} {k : Nat} {x : List Int} (h : ll[k]? = some x) : maxLen (ll.take (k + 1)) = max (maxLen (ll.take k)) x.length := by
  simp [maxLen, List.take_add_one, h]
theorem yZ (ll : List (List Int)) : ∀ a, a ≤ ll.foldl (fun a x => max a x.length) a ∧ ∀ x ∈ ll, x.length ≤ ll.foldl (fun a x => max a x.length) a := by
  induction ll with
  | nil => intro a; simp
  | cons y ll ih =>
    intro a
    obtain ⟨h1, h2⟩ := ih (max a y.length)
    simp only [List.foldl_cons, List.mem_cons]
    refine ⟨by omega, fun x hx => ?_⟩
    rcases hx with rfl | hx
    · omega
    · exact h2 x hx
theorem Ub {ll : List (List Int)} {x : List Int} (h : x ∈ ll) : x.length ≤ maxLen ll := (yZ ll 0).2 x h
theorem jV {ll : List (List Int)} {b : Nat} (h : ∀ x ∈ ll, x.length ≤ b) : maxLen ll ≤ b := by
  unfold maxLen
  suffices ∀ a, a ≤ b → ll.foldl (fun a x => max a x.length) a ≤ b from this 0 (by omega)
  induction ll with
  | nil => intro a ha; exact ha
  | cons y ll ih => intro a ha; exact ih (fun x hx => h x (by simp [hx])) _ (by have := h y (by simp); show max a y.length ≤ b; omega)
theorem Zi {ll : List (List Int)} {k : Nat} {x : List Int} (h : ll[k]? = some x) : total (ll.take (k + 1)) = total (ll.take k) + x.length := by
  simp [total, List.take_add_one, h]
theorem QO (ll : List (List Int)) (k : Nat) : total (ll.take k) ≤ total ll := by
  unfold total
  conv => rhs; rw [← List.take_append_drop k ll]
  rw [List.map_append, List.sum_append]; omega
theorem total_le {ll : List (List Int)} {b : Nat} (h : ∀ x ∈ ll, x.length ≤ b) : total ll ≤ ll.length * b := by
  induction ll with
  | nil => simp [total]
  | cons y ll ih =>
    have h1 := h y (by simp)
    have h2 := ih (fun x hx => h x (by simp [hx]))
    simp only [total, List.map_cons, List.sum_cons, List.length_cons, Nat.succ_mul] at *; omega
theorem Zq (k : Nat) (ll : List (List Int)) : QU (k + 1) ll = QU k ll ++ JY k ll := by
  simp [QU, List.range_succ, List.flatMap_append]
theorem rowI_cons (k : Nat) (x : List Int) (ll : List (List Int)) : (JY k (x :: ll)).length = (if k < x.length then 1 else 0) + (JY k ll).length := by
  unfold JY
  by_cases h : k < x.length
  · rw [List.filterMap_cons, List.getElem?_eq_getElem h]; simp [h]; omega
  · rw [List.filterMap_cons, List.getElem?_eq_none (by omega)]; simp [h]
theorem zE (k : Nat) : QU k [] = [] := by simp [QU, JY, List.flatMap_eq_nil_iff]
theorem qm (k : Nat) (x : List Int) (ll : List (List Int)) : (QU k (x :: ll)).length = min k x.length + (QU k ll).length := by
  induction k with
  | zero => simp [QU]
  | succ k ih => rw [Zq, Zq, List.length_append, List.length_append, ih, rowI_cons]; split <;> omega
theorem GO (k : Nat) (ll : List (List Int)) : (QU k ll).length ≤ total ll := by
  induction ll with
  | nil => simp [zE, total]
  | cons x ll ih => rw [qm]; simp only [total, List.map_cons, List.sum_cons] at *; omega
theorem vW {k : Nat} {ll : List (List Int)} (h : ∀ x ∈ ll, x.length ≤ k) : (QU k ll).length = total ll := by
  induction ll with
  | nil => simp [zE, total]
  | cons x ll ih =>
    have h1 := h x (by simp)
    have h2 := ih fun y hy => h y (by simp [hy])
    rw [qm]; simp only [total, List.map_cons, List.sum_cons] at *; omega
theorem Zv {ll : List (List Int)} {j i : Nat} {x : List Int} (h : ll[j]? = some x) : JY i (ll.take (j + 1)) = JY i (ll.take j) ++ x[i]?.toList := by
  unfold JY
  rw [List.take_add_one, h, List.filterMap_append]
  cases e : x[i]? <;> simp [e]
theorem yx (i j : Nat) (ll : List (List Int)) : (JY i (ll.take j)).length ≤ (JY i ll).length := by
  unfold JY
  conv => rhs; rw [← List.take_append_drop j ll, List.filterMap_append, List.length_append]
  omega
theorem Uq (i j : Nat) (ll : List (List Int)) : (QU i ll).length + (JY i (ll.take j)).length ≤ total ll := by
  have h := GO (i + 1) ll
  rw [Zq, List.length_append] at h
  have := yx i j ll; omega
theorem ZP {i j : Nat} {ll : List (List Int)} {x : List Int} (h : ll[j]? = some x) (hi : i < x.length) : (QU i ll).length + (JY i (ll.take j)).length < total ll := by
  have h1 := Uq i (j + 1) ll
  rw [Zv h, List.getElem?_eq_getElem hi] at h1
  simp at h1; omega
theorem rowI_out {i : Nat} {ll : List (List Int)} (h : ∀ x ∈ ll, x.length ≤ i) : JY i ll = [] := by
  unfold JY
  rw [List.filterMap_eq_nil_iff]
  intro x hx
  exact List.getElem?_eq_none (h x hx)
theorem jC {ll : List (List Int)} {m : Nat} (h : ∀ x ∈ ll, x.length ≤ m) : ∀ k, m ≤ k → QU k ll = QU m ll := by
  intro k hk
  induction k with
  | zero => rw [show m = 0 by omega]
  | succ k ih =>
    by_cases e : m = k + 1
    · rw [e]
    · rw [Zq, ih (by omega), rowI_out fun x hx => by have := h x hx; omega, List.append_nil]
def WS (ll : List (List Int)) : List Int := QU (maxLen ll) ll
theorem jY {ll : List (List Int)} {k : Nat} (h : maxLen ll ≤ k) : QU k ll = WS ll :=
  jC (fun x hx => Ub hx) k h
theorem Gk (ll : List (List Int)) : maxLen ll ≤ total ll := by
  refine jV fun x hx => ?_
  obtain ⟨k, hk⟩ := List.getElem?_of_mem hx
  have := QO ll (k + 1)
  rw [Zi hk] at this; omega
theorem WJ (ll : List (List Int)) : (WS ll).length = total ll := vW fun x hx => Ub hx
theorem rowI_perm (ll : List (List Int)) (k : Nat) : (JY k ll ++ (ll.map (List.drop (k + 1))).flatten).Perm (ll.map (List.drop k)).flatten := by
  induction ll with
  | nil => simp [JY]
  | cons x ll ih =>
    unfold JY at *
    rw [List.filterMap_cons]
    simp only [List.map_cons, List.flatten_cons]
    cases e : x[k]? with
    | none =>
      have hk : x.length ≤ k := by simpa using e
      simp only [List.drop_eq_nil_of_le hk, List.drop_eq_nil_of_le (Nat.le_succ_of_le hk), List.nil_append]
      exact ih
    | some y =>
      have hk := (List.getElem?_eq_some_iff.1 e)
      obtain ⟨h1, h2⟩ := hk
      rw [List.drop_eq_getElem_cons h1, h2]
      simp only [List.cons_append]
      refine List.Perm.cons y ?_
      rw [← List.append_assoc]
      refine (List.Perm.append_right _ List.perm_append_comm).trans ?_
      rw [List.append_assoc]
      exact List.Perm.append_left _ ih
theorem vV (ll : List (List Int)) : ∀ k, (QU k ll ++ (ll.map (List.drop k)).flatten).Perm ll.flatten := by
  intro k
  induction k with
  | zero => simp [QU, show (List.drop 0 : List Int → List Int) = id from funext fun _ => rfl]
  | succ k ih =>
    rw [Zq, List.append_assoc]
    exact (List.Perm.append_left _ (rowI_perm ll k)).trans ih
theorem vX (ll : List (List Int)) : (WS ll).Perm ll.flatten := by
  have h := vV ll (maxLen ll)
  have e : (ll.map (List.drop (maxLen ll))).flatten = [] := by
    rw [List.flatten_eq_nil_iff]
    intro l hl
    obtain ⟨x, hx, rfl⟩ := List.mem_map.1 hl
    exact List.drop_eq_nil_of_le (Ub hx)
  rw [e, List.append_nil] at h; exact h
theorem Zg (ll : List (List Int)) : ll.flatten.length = total ll := by simp [total, List.length_flatten]
theorem Vh {ll : List (List Int)} {k : Nat} {x : List Int} (h : ll[k]? = some x) : (ll.take (k + 1)).flatten = (ll.take k).flatten ++ x := by
  simp [List.take_add_one, h]
theorem Gf {p q : List Int} {n : Nat} {y : Int} (h : p.length < n) (hq : q = p ++ [y]) : (p ++ List.replicate (n - p.length) (0 : Int)).set p.length y = q ++ List.replicate (n - q.length) (0 : Int) := by
  subst hq
  rw [List.set_append_right _ _ (Nat.le_refl _), Nat.sub_self]
  obtain ⟨m, hm⟩ : ∃ m, n - p.length = m + 1 := ⟨n - p.length - 1, by omega⟩
  rw [hm, List.replicate_succ, List.set_cons_zero]
  simp; omega
theorem List.mem_take_succ_of {α : Type} {l : List α} {k : Nat} {x : α} (h : l[k]? = some x) : x ∈ l.take (k + 1) := by
  rw [List.take_add_one, h]; simp
theorem qs {α : Type} {l : List α} {k : Nat} {x : α} {p : α → Prop} (h : l[k]? = some x) : (∃ y ∈ l.take (k + 1), p y) ↔ (∃ y ∈ l.take k, p y) ∨ p x := by
  rw [List.take_add_one, h]
  simp only [Option.toList_some, List.mem_append, List.mem_singleton]
  constructor
  · rintro ⟨y, hy | rfl, hp⟩
    · exact .inl ⟨y, hy, hp⟩
    · exact .inr hp
  · rintro (⟨y, hy, hp⟩ | hp)
    · exact ⟨y, .inl hy, hp⟩
    · exact ⟨x, .inr rfl, hp⟩
def Va (l : List Int) (k : Nat) : List Int := (List.range l.length).map fun i => if i < k ∨ l.length ≤ i + k then l.getD (l.length - 1 - i) 0 else l.getD i 0
theorem swapK_zero (l : List Int) : l = Va l 0 := by
  apply List.ext_getElem?
  intro i
  unfold Va
  rw [List.getElem?_map]
  by_cases h : i < l.length
  · rw [List.getElem?_range h, Option.map_some, if_neg (by omega), List.getElem?_eq_getElem h]; simp [List.getD_eq_getElem?_getD, h]
  · rw [List.getElem?_eq_none (by omega), List.getElem?_eq_none (by simp; omega)]; rfl
theorem ZL (l : List Int) (k : Nat) : (Va l k).length = l.length := by simp [Va]
theorem Wm {l : List Int} {k i : Nat} (h : i < l.length) : (Va l k)[i]? = some (if i < k ∨ l.length ≤ i + k then l.getD (l.length - 1 - i) 0 else l.getD i 0) := by
  unfold Va; rw [List.getElem?_map, List.getElem?_range h]; rfl
theorem swapK_succ {l : List Int} {k j : Nat} {x y : Int} (hk : 2 * k + 1 < l.length) (hj : j = l.length - 1 - k) (hx : (Va l k)[j]? = some x) (hy : (Va l k)[k]? = some y) : ((Va l k).set k x).set j y = Va l (k + 1) := by
  subst hj
  rw [Wm (by omega)] at hx hy
  rw [if_neg (by omega)] at hx hy
  apply List.ext_getElem?
  intro i
  by_cases h : i < l.length
  · rw [Wm h, List.getElem?_set, List.getElem?_set, ZL, List.length_set, ZL]
    by_cases h1 : l.length - 1 - k = i
    · rw [if_pos h1, if_pos (by omega), if_pos (by omega), ← hy, ← h1]; congr 2; omega
    · rw [if_neg h1]
      by_cases h2 : k = i
      · rw [if_pos h2, if_pos (by omega), if_pos (by omega), ← hx, ← h2]
      · rw [if_neg h2, Wm h]
        by_cases h3 : i < k ∨ l.length ≤ i + k
        · rw [if_pos h3, if_pos (by omega)]
        · rw [if_neg h3, if_neg (by omega)]
  · rw [List.getElem?_eq_none (by simp [ZL]; omega), List.getElem?_eq_none (by simp [ZL]; omega)]
theorem swapK_half {l : List Int} {k : Nat} (h : l.length / 2 ≤ k) : Va l k = l.reverse := by
  apply List.ext_getElem?
  intro i
  by_cases hi : i < l.length
  · rw [Wm hi, List.getElem?_reverse hi]
    by_cases h3 : i < k ∨ l.length ≤ i + k
    · rw [if_pos h3, List.getElem?_eq_getElem (by omega)]; simp [List.getD_eq_getElem?_getD, List.getElem?_eq_getElem (show l.length - 1 - i < l.length by omega)]
    · rw [if_neg h3, List.getElem?_eq_getElem (by omega)]
      have : l.length - 1 - i = i := by omega
      simp [List.getD_eq_getElem?_getD, List.getElem?_eq_getElem hi, this]
  · rw [List.getElem?_eq_none (by simp [ZL]; omega), List.getElem?_eq_none (by simp; omega)]
theorem Zc {l : List Int} {x : Int} (h : l[0]? = some x) : l.headD 0 = x ∧ l.isEmpty = false := by
  cases l with
  | nil => cases h
  | cons y l => cases h; exact ⟨rfl, rfl⟩
theorem rev_step {l : List Int} {k j : Nat} {x : Int} (hk : k < l.length) (hj : (j : Int) = (l.length : Int) - 1 - k) (h : l[j]? = some x) : (l.drop (l.length - k)).reverse ++ [x] = (l.drop (l.length - (k + 1))).reverse := by
  have e : j = l.length - (k + 1) := by omega
  subst e
  rw [List.drop_eq_getElem_cons (show l.length - (k + 1) < l.length by omega), show l.length - (k + 1) + 1 = l.length - k by omega, List.reverse_cons]
  rw [List.getElem?_eq_getElem (by omega)] at h
  rw [Option.some.inj h]
def QF (k n : Int) (l : List Int) (x i : Int) : Bool :=
  if k = 0 then decide (x < n) else if k = 1 then (decide (n ≠ 0) && decide (x % n = l.headD 0)) else if k = 2 then decide (x ∈ l) else if k = 3 then decide (Int.tmod i 2 = 0) else decide (k = 4)
theorem VO (a b : Int) (hb : b ≠ 0) : (Int.tmod a b = a % b ∨ Int.tmod a b = a % b - b.natAbs) ∧ 0 ≤ a % b ∧ a % b < b.natAbs := by
  refine ⟨?_, Int.emod_nonneg _ hb, ?_⟩
  · rw [Int.tmod_eq_emod]; split <;> simp
  · have := Int.emod_lt a hb; omega
def QP (f : Int → Int → Bool) : Nat → List Int → List Int
  | _, [] => []
  | i, x :: l => if f x i then x :: QP f (i + 1) l else QP f (i + 1) l
theorem Uw (f : Int → Int → Bool) : ∀ (a b : List Int) (i : Nat), QP f i (a ++ b) = QP f i a ++ QP f (i + a.length) b
  | [], b, i => by simp [QP]
  | x :: a, b, i => by
    simp only [List.cons_append, QP, Uw f a b (i + 1), List.length_cons]
    rw [show i + 1 + a.length = i + (a.length + 1) by omega]
    split <;> rfl
theorem Jb {f : Int → Int → Bool} {l : List Int} {k : Nat} {x : Int} (h : l[k]? = some x) : QP f 0 (l.take (k + 1)) = QP f 0 (l.take k) ++ (if f x k then [x] else []) := by
  have hk := (List.getElem?_eq_some_iff.1 h).1
  rw [List.take_add_one, h, Uw]
  simp only [Option.toList_some, QP, List.length_take, Nat.zero_add, Nat.min_eq_left (Nat.le_of_lt hk)]
theorem Jv (f : Int → Int → Bool) : ∀ (l : List Int) (i : Nat), (QP f i l).length ≤ l.length
  | [], i => by simp [QP]
  | x :: l, i => by have := Jv f l (i + 1); unfold QP; split <;> simp <;> omega
def idxOf (l : List Int) (x : Int) : Int := match (List.range l.length).find? (fun i => decide (l[i]? = some x)) with | some i => (i : Int) | none => -1
theorem idxOf_some {l : List Int} {x : Int} {k : Nat} (h : l[k]? = some x) (hn : ∀ j, j < k → l[j]? ≠ some x) : idxOf l x = (k : Int) := by
  have hk := (List.getElem?_eq_some_iff.1 h).1
  have : (List.range l.length).find? (fun i => decide (l[i]? = some x)) = some k := by
    rw [List.find?_range_eq_some]
    exact ⟨by simpa using h, by simpa using hk, fun j hj => by simpa using hn j hj⟩
  unfold idxOf; rw [this]
theorem zQ {l : List Int} {x : Int} (hn : ∀ j : Nat, l[j]? ≠ some x) : idxOf l x = -1 := by
  have : (List.range l.length).find? (fun i => decide (l[i]? = some x)) = none := by
    rw [List.find?_range_eq_none]
    intro i hi; simpa using hn i
  unfold idxOf; rw [this]
theorem idxOf_mem (l : List Int) (x : Int) : decide (0 ≤ idxOf l x) = decide (x ∈ l) := by
  by_cases h : x ∈ l
  · rw [decide_eq_true h]
    cases e : (List.range l.length).find? (fun i => decide (l[i]? = some x)) with
    | some i => unfold idxOf; rw [e]; simp
    | none =>
      rw [List.find?_range_eq_none] at e
      obtain ⟨k, hk⟩ := List.getElem?_of_mem h
      have := e k (List.getElem?_eq_some_iff.1 hk).1
      simp [hk] at this
  · rw [decide_eq_false h, zQ (fun j e => h (List.mem_of_getElem? e))]; rfl
def w64 (x : Int) : Int := IntKind.i64.wrap x
def Qs (k n x i : Int) : Int :=
  if k = 0 then w64 (x + n) else if k = 1 then w64 (x * n) else if k = 2 then (if n = 0 then x else x % n) else if k = 3 then n else if k = 4 then i else x
theorem jI (x : Int) : -9223372036854775808 ≤ w64 x ∧ w64 x ≤ 9223372036854775807 := by
  unfold w64 IntKind.wrap; simp [IntKind.signed, IntKind.bits]; omega
def ZN (f : Int → Int → Int) : Nat → List Int → List Int
  | _, [] => []
  | i, x :: l => f x i :: ZN f (i + 1) l
theorem VZ (f : Int → Int → Int) : ∀ (l : List Int) (i : Nat), (ZN f i l).length = l.length
  | [], i => rfl
  | x :: l, i => by simp [ZN, VZ f l (i + 1)]
theorem qj (f : Int → Int → Int) : ∀ (a b : List Int) (i : Nat), ZN f i (a ++ b) = ZN f i a ++ ZN f (i + a.length) b
  | [], b, i => by simp [ZN]
  | x :: a, b, i => by
    simp only [List.cons_append, ZN, qj f a b (i + 1), List.length_cons]
    rw [show i + 1 + a.length = i + (a.length + 1) by omega]
theorem GM {f : Int → Int → Int} {l : List Int} {k : Nat} {x : Int} (h : l[k]? = some x) : ZN f 0 (l.take (k + 1)) = ZN f 0 (l.take k) ++ [f x k] := by
  have hk := (List.getElem?_eq_some_iff.1 h).1
  rw [List.take_add_one, h, qj]
  simp only [Option.toList_some, ZN, List.length_take, Nat.zero_add, Nat.min_eq_left (Nat.le_of_lt hk)]
theorem qy (x n : Int) (hn : 0 < n) : (0 ≤ x % n ∧ x % n < n) ∧ (((-x) % n = 0 ∧ x % n = 0) ∨ (0 < (-x) % n ∧ x % n = n - (-x) % n)) := by
  have h1 := Int.emod_nonneg x (show n ≠ 0 by omega)
  have h2 := Int.emod_lt_of_pos x hn
  refine ⟨⟨h1, h2⟩, ?_⟩
  have h3 := Int.emod_nonneg (-x) (show n ≠ 0 by omega)
  have h4 := Int.emod_lt_of_pos (-x) hn
  have h5 : (x % n + (-x) % n) % n = 0 := by rw [← Int.add_emod, Int.add_right_neg, Int.zero_emod]
  have h6 : n ∣ (x % n + (-x) % n) := Int.dvd_of_emod_eq_zero h5
  obtain ⟨q, hq⟩ := h6
  have h7 : q = 0 ∨ q = 1 := by
    have hq0 : 0 ≤ q := by
      refine Int.not_lt.1 fun hlt => ?_
      have : n * q < 0 := Int.mul_neg_of_pos_of_neg hn hlt
      omega
    have hq2 : q < 2 := by
      refine Int.not_le.1 fun hle => ?_
      have : n * 2 ≤ n * q := Int.mul_le_mul_of_nonneg_left hle (by omega)
      omega
    omega
  rcases h7 with rfl | rfl
  · left; omega
  · by_cases h8 : (-x) % n = 0
    · omega
    · right; omega
def PF2T (P : Program) (fv : Value) (M : Hp) (f : Int → Int → Int × Bool) : Prop := fv.oneCell' = true ∧ ∀ x i : Int, Pu P fv M [.int .i64 x, .int .i64 i] (fun r _ => r = .tuple #[.int .i64 (f x i).1, .bool (f x i).2])
theorem PF2T.le {P : Program} {fv : Value} {M M' : Hp} {f : Int → Int → Int × Bool} (h : PF2T P fv M f) (hM : Hp.le M M') : PF2T P fv M' f := ⟨h.1, fun x i => (h.2 x i).le hM⟩
def Zb (f : Int → Int → Int × Bool) : Nat → List Int → List Int
  | _, [] => []
  | i, x :: l => if (f x i).2 then (f x i).1 :: Zb f (i + 1) l else Zb f (i + 1) l
theorem Gu (f : Int → Int → Int × Bool) : ∀ (a b : List Int) (i : Nat), Zb f i (a ++ b) = Zb f i a ++ Zb f (i + a.length) b
  | [], b, i => by simp [Zb]
  | x :: a, b, i => by
    simp only [List.cons_append, Zb, Gu f a b (i + 1), List.length_cons]
    rw [show i + 1 + a.length = i + (a.length + 1) by omega]
    split <;> rfl
theorem fmapI_app1 (f : Int → Int → Int × Bool) (a : List Int) (x : Int) : Zb f 0 (a ++ [x]) = Zb f 0 a ++ (if (f x a.length).2 then [(f x a.length).1] else []) := by
  rw [Gu, Nat.zero_add]; rfl
theorem Uv {f : Int → Int → Int × Bool} {l : List Int} {k : Nat} {x : Int} (h : l[k]? = some x) : Zb f 0 (l.take (k + 1)) = Zb f 0 (l.take k) ++ (if (f x k).2 then [(f x k).1] else []) := by
  have hk := (List.getElem?_eq_some_iff.1 h).1
  rw [List.take_add_one, h]
  show Zb f 0 (l.take k ++ [x]) = _
  rw [fmapI_app1, List.length_take, Nat.min_eq_left (Nat.le_of_lt hk)]
theorem Uh (f : Int → Int → Int × Bool) : ∀ (l : List Int) (i : Nat), (Zb f i l).length ≤ l.length
  | [], i => by simp [Zb]
  | x :: l, i => by have := Uh f l (i + 1); unfold Zb; split <;> simp <;> omega
theorem map_set {f : Int → Int → Int} {l : List Int} {k : Nat} {x : Int} (hk : (ZN f 0 (l.take k)).length = k) (hx : l[k]? = some x) : (ZN f 0 (l.take k) ++ l.drop k).set k (f x k) = ZN f 0 (l.take (k + 1)) ++ l.drop (k + 1) := by
  have hlt := (List.getElem?_eq_some_iff.1 hx).1
  rw [List.set_append_right _ _ (by omega), hk, Nat.sub_self, List.drop_eq_getElem_cons hlt, List.set_cons_zero, GM hx, List.append_assoc]; rfl
def Zl (f : Int → Int → List Int) : Nat → List Int → List Int
  | _, [] => []
  | i, x :: l => f x i ++ Zl f (i + 1) l
theorem Gv (f : Int → Int → List Int) : ∀ (a b : List Int) (i : Nat), Zl f i (a ++ b) = Zl f i a ++ Zl f (i + a.length) b
  | [], b, i => by simp [Zl]
  | x :: a, b, i => by
    simp only [List.cons_append, Zl, Gv f a b (i + 1), List.length_cons, List.append_assoc]
    rw [show i + 1 + a.length = i + (a.length + 1) by omega]
theorem flatI_app1 (f : Int → Int → List Int) (a : List Int) (x : Int) : Zl f 0 (a ++ [x]) = Zl f 0 a ++ f x a.length := by
  rw [Gv, Nat.zero_add]; simp [Zl]
theorem zR {f : Int → Int → List Int} {l : List Int} {k : Nat} {x : Int} (h : l[k]? = some x) : Zl f 0 (l.take (k + 1)) = Zl f 0 (l.take k) ++ f x k := by
  have hk := (List.getElem?_eq_some_iff.1 h).1
  rw [List.take_add_one, h]
  show Zl f 0 (l.take k ++ [x]) = _
  rw [flatI_app1, List.length_take, Nat.min_eq_left (Nat.le_of_lt hk)]
theorem Ui {f : Int → Int → List Int} (hf : ∀ x i, (f x i).length = 2) : ∀ (l : List Int) (i : Nat), (Zl f i l).length = 2 * l.length
  | [], i => rfl
  | x :: l, i => by simp only [Zl, List.length_append, hf, Ui hf l (i + 1), List.length_cons]; omega
def Yz (l m : List Int) : Bool := decide (l.take m.length = m)
theorem Ww {l m : List Int} {k : Nat} {x y : Int} (hx : l[k]? = some x) (hy : m[k]? = some y) (hne : x ≠ y) : Yz l m = false := by
  apply decide_eq_false; intro e
  have hk := (List.getElem?_eq_some_iff.1 hy).1
  have h2 : (l.take m.length)[k]? = some x := by rw [List.getElem?_take, if_pos hk, hx]
  rw [e, hy] at h2; exact hne (Option.some.inj h2).symm
theorem YH {l m : List Int} (h : l.length < m.length) : Yz l m = false := by
  apply decide_eq_false; intro e
  have := congrArg List.length e; simp at this; omega
theorem Ug {l m : List Int} {k : Nat} (hk : ¬ k < m.length) (h : l.take k = m.take k) (hle : k ≤ m.length) : Yz l m = true := by
  have e : k = m.length := by omega
  subst e; apply decide_eq_true; rw [h, List.take_length]
def Yy (l m : List Int) : Bool := decide (l.drop (l.length - m.length) = m)
theorem YG {l m : List Int} (h : l.length < m.length) : Yy l m = false := by
  apply decide_eq_false; intro e
  have := congrArg List.length e; simp at this; omega
theorem Wv {l m : List Int} {k : Nat} {x y : Int} (hx : l[l.length - m.length + k]? = some x) (hy : m[k]? = some y) (hne : x ≠ y) : Yy l m = false := by
  apply decide_eq_false; intro e
  have h2 : (l.drop (l.length - m.length))[k]? = some x := by rw [List.getElem?_drop, hx]
  rw [e, hy] at h2; exact hne (Option.some.inj h2).symm
theorem Uf {l m : List Int} (hle : m.length ≤ l.length) (h : ∀ k x y, l[l.length - m.length + k]? = some x → m[k]? = some y → x = y) : Yy l m = true := by
  apply decide_eq_true
  apply List.ext_getElem?
  intro k
  rw [List.getElem?_drop]
  by_cases hk : k < m.length
  · have h1 : l.length - m.length + k < l.length := by omega
    rw [List.getElem?_eq_getElem h1, List.getElem?_eq_getElem hk]
    exact congrArg some (h k _ _ (List.getElem?_eq_getElem h1) (List.getElem?_eq_getElem hk))
  · rw [List.getElem?_eq_none (by omega), List.getElem?_eq_none (by omega)]
def QC (l : List Int) : List Int := l.foldl Ye []
theorem YF {l : List Int} {k : Nat} {x : Int} (h : l[k]? = some x) : QC (l.take (k + 1)) = Ye (QC (l.take k)) x := by rw [List.take_add_one, h]; simp [QC]
theorem zy (l : List Int) : ∀ (s : List Int) (x : Int), x ∈ l.foldl Ye s ↔ x ∈ s ∨ x ∈ l := by
  induction l with
  | nil => intro s x; simp
  | cons a l ih => intro s x; rw [List.foldl_cons, ih, mem_addS]; simp [or_assoc]
theorem JZ {l : List Int} {x : Int} : x ∈ QC l ↔ x ∈ l := by unfold QC; rw [zy]; simp
theorem Uo (l : List Int) : (QC l).Nodup := by
  unfold QC
  suffices h : ∀ (l s : List Int), s.Nodup → (l.foldl Ye s).Nodup from h l [] (by simp)
  intro l; induction l with
  | nil => intro s h; exact h
  | cons a l ih => intro s h; exact ih _ (addS_nodup h a)
def Vm (l s : List Int) : List Int := QP (fun _ i => !decide (i ∈ s)) 0 l
def QS (l : List Int) (i j : Int) : List Int := (l.take j.toNat).drop i.toNat
theorem WH {l : List Int} {a b a' b' : Nat} (h : min b l.length = min b' l.length) (h2 : a = a' ∨ (l.length ≤ a ∧ l.length ≤ a')) : (l.take b).drop a = (l.take b').drop a' := by
  have e : ∀ c : Nat, l.take c = l.take (min c l.length) := fun c => by
    by_cases hc : c ≤ l.length
    · rw [Nat.min_eq_left hc]
    · rw [Nat.min_eq_right (by omega), List.take_length, List.take_of_length_le (by omega)]
  rw [e b, h, ← e b']
  rcases h2 with rfl | ⟨h3, h4⟩
  · rfl
  · rw [List.drop_eq_nil_of_le (by simp; omega), List.drop_eq_nil_of_le (by simp; omega)]
theorem sliceL_len (l : List Int) (i j : Int) : (QS l i j).length ≤ l.length := by simp [QS]; omega
theorem Zh {p : Int → Bool} {l : List Int} {k : Nat} {x : Int} (h : l[k]? = some x) : (l.take (k + 1)).filter p = (l.take k).filter p ++ (if p x then [x] else []) := by
  rw [List.take_add_one, h, List.filter_append]; simp only [Option.toList_some, List.filter_cons, List.filter_nil]
theorem za {p l : List Int} {n : Nat} (h : p <+: l) (hn : p.length = n) : p = l.take n := by
  obtain ⟨r, rfl⟩ := h; rw [← hn, List.take_left]
theorem qI (f : Int → Int → Bool) (l : List Int) (k : Nat) : QP f 0 (l.take k) <+: QP f 0 l := by
  obtain ⟨r, hr⟩ := List.take_prefix k l
  conv => rhs; rw [← hr]
  rw [Uw]; exact List.prefix_append _ _
theorem filtI_step {f : Int → Int → Bool} {l : List Int} {k : Nat} {x : Int} (h : l[k]? = some x) (hf : f x k = true) : QP f 0 (l.take k) ++ [x] <+: QP f 0 l := by
  have := qI f l (k + 1)
  rw [Jb h, if_pos hf] at this; exact this
def JE (l : List Int) (off n : Int) : List Int := (l.drop (if off < 0 then (off + l.length).toNat else off.toNat)).take n.toNat
theorem vr (l : List Int) (i j : Int) : (JE l i j).length ≤ l.length := by simp [JE]; omega
theorem Um {l : List Int} {a b c d e : Nat} (h : a = b ∨ (l.length ≤ a ∧ l.length ≤ b)) (h2 : min d (l.length - b) = min c l.length - b) : (l.drop a).take d = (l.take c).drop b := by
  rcases h with rfl | ⟨h1, h1'⟩
  · rw [List.drop_take]
    by_cases hd : d ≤ l.length - a
    · by_cases hc : c ≤ l.length
      · congr 1; omega
      · rw [List.take_of_length_le (i := c - a) (by simp; omega)]; rw [List.take_of_length_le (by simp; omega)]
    · rw [List.take_of_length_le (i := d) (by simp; omega), List.take_of_length_le (by simp; omega)]
  · rw [List.drop_eq_nil_of_le h1, List.drop_eq_nil_of_le (by simp; omega)]; simp
theorem Wo {l : List Int} {a b d : Nat} (h : a = b ∨ (l.length ≤ a ∧ l.length ≤ b)) (h2 : l.length - b ≤ d) : (l.drop a).take d = l.drop b := by
  rcases h with rfl | ⟨h1, h1'⟩
  · rw [List.take_of_length_le (by simp; omega)]
  · rw [List.drop_eq_nil_of_le h1, List.drop_eq_nil_of_le h1']; simp
theorem Wn {l : List Int} {a b d c : Nat} (h : a = b ∨ (l.length ≤ a ∧ l.length ≤ b)) (h2 : min d (l.length - b) = min c (l.length - b)) : (l.drop a).take d = (l.drop b).take c := by
  rcases h with rfl | ⟨h1, h1'⟩
  · by_cases hd : d ≤ l.length - a
    · by_cases hc : c ≤ l.length - a
      · congr 1; omega
      · rw [List.take_of_length_le (i := c) (by simp; omega), List.take_of_length_le (by simp; omega)]
    · rw [List.take_of_length_le (i := d) (by simp; omega), List.take_of_length_le (by simp; omega)]
  · rw [List.drop_eq_nil_of_le h1, List.drop_eq_nil_of_le h1']; simp
theorem VP {P : Int → Prop} {l : List Int} {k : Nat} {y : Int} (h : ∀ x ∈ l.take k, P x) (hy : l[k]? = some y) (hp : P y) : ∀ x ∈ l.take (k + 1), P x := by
  intro x hx; rw [List.take_add_one, hy, List.mem_append] at hx
  rcases hx with hx | hx
  · exact h x hx
  · simp at hx; rw [hx]; exact hp
def drw (f : Int → Bool) (l : List Int) : List Int := (l.reverse.dropWhile f).reverse
def rtw (f : Int → Bool) (l : List Int) : List Int := (l.reverse.takeWhile f).reverse
theorem vb (f : Int → Bool) (l : List Int) : drw f l ++ rtw f l = l := by
  unfold drw rtw; rw [← List.reverse_append, List.takeWhile_append_dropWhile, List.reverse_reverse]
theorem vd (f : Int → Bool) (l : List Int) : (drw f l).length ≤ l.length := by have := congrArg List.length (vb f l); simp at this; omega
theorem qo {f : Int → Bool} : ∀ {l : List Int} {k : Nat}, (∀ x ∈ l.take k, f x = true) → (l.length ≤ k ∨ ∃ x, l[k]? = some x ∧ f x = false) → l.dropWhile f = l.drop k
  | [], k, _, _ => by simp
  | a :: l, 0, _, h2 => by
    rcases h2 with h2 | ⟨x, hx, hf⟩
    · simp at h2
    · simp at hx; subst hx; simp [List.dropWhile_cons, hf]
  | a :: l, k + 1, h1, h2 => by
    have ha : f a = true := h1 a (by simp)
    rw [List.dropWhile_cons, if_pos ha, List.drop_succ_cons]
    exact qo (fun x hx => h1 x (by simp [hx])) (h2.imp (fun h => by simpa using h) fun ⟨x, h3, h4⟩ => ⟨x, by simpa using h3, h4⟩)
theorem We {f : Int → Bool} {l : List Int} {j : Nat} (hj : j ≤ l.length) (h1 : ∀ x ∈ l.drop (l.length - j), f x = true) (h2 : l.length ≤ j ∨ ∃ x, l[l.length - 1 - j]? = some x ∧ f x = false) : drw f l = l.take (l.length - j) := by
  unfold drw
  rw [qo (k := j)]
  · rw [List.drop_reverse, List.reverse_reverse]
  · intro x hx; rw [List.take_reverse] at hx; exact h1 x (by simpa using hx)
  · rcases h2 with h2 | ⟨x, hx, hf⟩
    · left; simpa using h2
    · right
      have := (List.getElem?_eq_some_iff.1 hx).1
      by_cases hl : j < l.length
      · exact ⟨x, by rw [List.getElem?_reverse hl]; exact hx, hf⟩
      · have h0 : l.length - 1 - j = 0 := by omega
        exact absurd (h1 x (by rw [show l.length - j = 0 by omega, List.drop_zero]; exact List.mem_of_getElem? hx)) (by simp [hf])
theorem zS {f : Int → Bool} {l : List Int} {j : Nat} {x : Int} (h : ∀ x ∈ l.drop (l.length - j), f x = true) (hj : j < l.length) (hx : l[l.length - 1 - j]? = some x) (hf : f x = true) : ∀ x ∈ l.drop (l.length - (j + 1)), f x = true := by
  intro y hy
  rw [show l.length - (j + 1) = l.length - 1 - j by omega, List.drop_eq_getElem_cons (by omega)] at hy
  have h1 := (List.getElem?_eq_some_iff.1 hx)
  obtain ⟨h2, h3⟩ := h1
  rcases List.mem_cons.1 hy with h4 | h4
  · rw [h4, h3]; exact hf
  · exact h y (by rw [show l.length - j = l.length - 1 - j + 1 by omega]; exact h4)
theorem dwlen (f : Int → Bool) (l : List Int) : (l.dropWhile f).length ≤ l.length := (List.dropWhile_sublist f).length_le
theorem qU {f : Int → Bool} : ∀ {l : List Int} {k : Nat}, (∀ x ∈ l.take k, f x = true) → (l.length ≤ k ∨ ∃ x, l[k]? = some x ∧ f x = false) → l.takeWhile f = l.take k
  | [], k, _, _ => by simp
  | a :: l, 0, _, h2 => by
    rcases h2 with h2 | ⟨x, hx, hf⟩
    · simp at h2
    · simp at hx; subst hx; simp [List.takeWhile_cons, hf]
  | a :: l, k + 1, h1, h2 => by
    have ha : f a = true := h1 a (by simp)
    rw [List.takeWhile_cons, if_pos ha, List.take_succ_cons]
    congr 1
    exact qU (fun x hx => h1 x (by simp [hx])) (h2.imp (fun h => by simpa using h) fun ⟨x, h3, h4⟩ => ⟨x, by simpa using h3, h4⟩)
theorem twlen (f : Int → Bool) (l : List Int) : (l.takeWhile f).length ≤ l.length := (List.takeWhile_sublist f).length_le
theorem tw_drop (f : Int → Bool) (l : List Int) : l.drop (l.takeWhile f).length = l.dropWhile f := by
  conv => lhs; rw [← List.takeWhile_append_dropWhile (p := f) (l := l)]
  rw [List.drop_left' (by simp)]
theorem trim_eq {f : Int → Bool} {l : List Int} {k j : Nat} {x : Int} (h1 : ∀ x ∈ l.take k, f x = true) (hx : l[k]? = some x) (hf : f x = false) (h2 : drw f l = l.take (l.length - j)) (hj : j ≤ l.length) : drw f (l.dropWhile f) = (l.take (l.length - j)).drop k := by
  have hk := (List.getElem?_eq_some_iff.1 hx).1
  rw [qo h1 (.inr ⟨x, hx, hf⟩)]
  have e := vb f l
  have hr : ∀ y ∈ rtw f l, f y = true := fun y hy => by
    unfold rtw at hy; rw [List.mem_reverse] at hy; exact List.all_eq_true.1 (List.all_takeWhile (l := l.reverse) (p := f)) y hy
  have hkl : k < (drw f l).length := by
    apply Classical.byContradiction; intro hc
    have : x ∈ rtw f l := by
      rw [← e, List.getElem?_append_right (by omega)] at hx
      exact List.mem_of_getElem? hx
    rw [hr x this] at hf; cases hf
  have e2 : l.drop k = (drw f l).drop k ++ rtw f l := by
    conv => lhs; rw [← e]
    rw [List.drop_append_of_le_length (by omega)]
  rw [e2, ← h2]
  have hd : (drw f l).drop k ≠ [] := by intro h; have := congrArg List.length h; simp at this; omega
  unfold drw
  rw [List.reverse_append, List.dropWhile_append_of_pos (fun y hy => hr y (by simpa using hy))]
  rw [show ((l.reverse.dropWhile f).reverse.drop k).reverse.dropWhile f = ((l.reverse.dropWhile f).reverse.drop k).reverse from ?_, List.reverse_reverse]
  rw [List.reverse_drop, List.reverse_reverse]
  have hne : l.reverse.dropWhile f ≠ [] := by intro h; unfold drw at hkl; rw [h] at hkl; simp at hkl
  match hq : l.reverse.dropWhile f, hne with
  | a :: q, _ =>
    have ha : f a = false := by
      have := List.head?_dropWhile_not (p := f) (l := l.reverse)
      rw [hq] at this; simpa using this
    have hkl2 : k < (a :: q).length := by unfold drw at hkl; rw [hq] at hkl; simpa using hkl
    obtain ⟨n, hn⟩ : ∃ n, (a :: q).reverse.length - k = n + 1 := ⟨(a :: q).reverse.length - k - 1, by simp at hkl2 ⊢; omega⟩
    rw [hn]; simp [List.dropWhile_cons, ha]
theorem trim_lt {f : Int → Bool} {l : List Int} {k n : Nat} {x : Int} (hx : l[k]? = some x) (hf : f x = false) (h2 : drw f l = l.take n) : k < n := by
  apply Classical.byContradiction; intro hc
  have e := vb f l
  have hr : ∀ y ∈ rtw f l, f y = true := fun y hy => by
    unfold rtw at hy; rw [List.mem_reverse] at hy; exact List.all_eq_true.1 (List.all_takeWhile (l := l.reverse) (p := f)) y hy
  have hl : (drw f l).length ≤ n := by rw [h2]; simp; omega
  have : x ∈ rtw f l := by
    rw [← e, List.getElem?_append_right (by omega)] at hx
    exact List.mem_of_getElem? hx
  rw [hr x this] at hf; cases hf
def VD (l m : List Int) : List Int := if Yz l m = true then l.drop m.length else l
def VC (l m : List Int) : List Int := if Yy l m = true then l.take (l.length - m.length) else l
theorem GW (l m : List Int) : (VD l m).length ≤ l.length := by unfold VD; split <;> simp
theorem GV (l m : List Int) : (VC l m).length ≤ l.length := by unfold VC; split <;> simp
theorem YN {l m : List Int} (h : Yz l m = true) : m.length ≤ l.length := by
  have := congrArg List.length (of_decide_eq_true h); simp at this; omega
theorem Yi {l m : List Int} (h : Yy l m = true) : m.length ≤ l.length := by
  have := congrArg List.length (of_decide_eq_true h); simp at this; omega
def Vw (l m : List Int) (i : Int) : Bool := decide (0 ≤ i ∧ i + m.length ≤ l.length ∧ (l.take (i + m.length).toNat).drop i.toNat = m)
theorem vu (l m : List Int) : Vw l m 0 = Yz l m := by
  unfold Vw Yz
  rw [decide_eq_decide]
  simp only [Int.zero_add, Int.toNat_natCast, Int.toNat_zero, List.drop_zero, Int.le_refl, true_and]
  constructor
  · exact fun h => h.2
  · intro h; refine ⟨?_, h⟩; have := congrArg List.length h; simp at this; omega
theorem vt (l m : List Int) : Vw l m ((l.length : Int) - (m.length : Int)) = Yy l m := by
  unfold Vw Yy
  rw [decide_eq_decide]
  constructor
  · rintro ⟨h1, h2, h3⟩
    rw [show ((l.length : Int) - m.length + m.length).toNat = l.length by omega, List.take_length, show ((l.length : Int) - m.length).toNat = l.length - m.length by omega] at h3
    exact h3
  · intro h
    have := congrArg List.length h; simp at this
    refine ⟨by omega, by omega, ?_⟩
    rw [show ((l.length : Int) - m.length + m.length).toNat = l.length by omega, List.take_length, show ((l.length : Int) - m.length).toNat = l.length - m.length by omega]
    exact h
def fiI (f : Int → Bool) : List Int → Int
  | [] => -1
  | x :: l => if f x then 0 else (if fiI f l < 0 then -1 else fiI f l + 1)
theorem Vr (f : Int → Bool) (a : Int) (l : List Int) : fiI f (a :: l) = if f a then 0 else (if fiI f l < 0 then -1 else fiI f l + 1) := rfl
def fiV (f : Int → Bool) (l : List Int) : Int := (l.find? f).getD 0
theorem fi_all {f : Int → Bool} : ∀ {p : List Int} {r : List Int}, (∀ x ∈ p, f x = false) → fiI f (p ++ r) = (if fiI f r < 0 then -1 else fiI f r + p.length) ∧ fiV f (p ++ r) = fiV f r ∧ (p ++ r).any f = r.any f
  | [], r, _ => by
    refine ⟨?_, rfl, rfl⟩
    simp only [List.nil_append, List.length_nil]; split
    · have h : ∀ r : List Int, fiI f r < 0 → fiI f r = -1 := by
        intro r; induction r with
        | nil => intro _; rfl
        | cons a r ih => intro h; rw [Vr] at h ⊢; by_cases ha : f a = true
                         · rw [if_pos ha] at h; omega
                         · rw [if_neg ha] at h ⊢; split at h <;> rename_i h1
                           · rw [if_pos h1]
                           · omega
      exact h r (by assumption)
    · simp
  | a :: p, r, h => by
    have ha : f a = false := h a (by simp)
    obtain ⟨h1, h2, h3⟩ := fi_all (p := p) (r := r) fun x hx => h x (by simp [hx])
    refine ⟨?_, ?_, ?_⟩
    · rw [List.cons_append, Vr, if_neg (by simp [ha]), h1]
      by_cases hr : fiI f r < 0
      · simp [hr]
      · simp only [hr, if_false]; rw [if_neg (by omega)]; simp; omega
    · rw [List.cons_append]; unfold fiV at h2 ⊢; rw [List.find?_cons, ha]; exact h2
    · rw [List.cons_append, List.any_cons, ha, h3]; rfl
theorem fi_none {f : Int → Bool} {l : List Int} (h : ∀ x ∈ l, f x = false) : fiI f l = -1 ∧ fiV f l = 0 ∧ l.any f = false := by
  have := fi_all (r := []) h; simpa [fiI, fiV] using this
theorem fi_pre {f : Int → Bool} {p l : List Int} {x : Int} (h : p ++ [x] <+: l) (ha : ∀ y ∈ p, f y = false) (hx : f x = true) : fiI f l = p.length ∧ fiV f l = x ∧ l.any f = true := by
  obtain ⟨r, rfl⟩ := h
  rw [List.append_assoc]
  have h1 := fi_all (r := [x] ++ r) ha
  simp only [List.cons_append, List.nil_append, fiI, hx, if_true, fiV, List.find?_cons, List.any_cons] at h1
  simpa [fiV] using h1
theorem fi_yes {f : Int → Bool} {l : List Int} {k : Nat} {x : Int} (h : ∀ x ∈ l.take k, f x = false) (hx : l[k]? = some x) (hf : f x = true) : fiI f l = k ∧ fiV f l = x ∧ l.any f = true := by
  have hk := (List.getElem?_eq_some_iff.1 hx).1
  have := fi_pre (vM hx) h hf
  rw [List.length_take, Nat.min_eq_left (by omega)] at this; exact this
theorem fi_no {f : Int → Bool} {l : List Int} {k : Nat} (h : ∀ x ∈ l.take k, f x = false) (hk : l.length ≤ k) : fiI f l = -1 ∧ fiV f l = 0 ∧ l.any f = false := by
  rw [List.take_of_length_le hk] at h; exact fi_none h
theorem fi_at {f : Int → Bool} : ∀ {l : List Int}, l.any f = true → 0 ≤ fiI f l ∧ (fiI f l).toNat < l.length ∧ l[(fiI f l).toNat]? = some (fiV f l)
  | [], h => by simp at h
  | a :: l, h => by
    by_cases ha : f a = true
    · simp [fiI, ha, fiV, List.find?_cons]
    · have h2 : l.any f = true := by simpa [ha] using h
      obtain ⟨h3, h4, h5⟩ := fi_at h2
      have e : fiI f (a :: l) = fiI f l + 1 := by rw [Vr, if_neg ha, if_neg (by omega)]
      rw [e]
      refine ⟨by omega, by simp; omega, ?_⟩
      rw [show (fiI f l + 1).toNat = (fiI f l).toNat + 1 by omega, List.getElem?_cons_succ, h5]
      unfold fiV; rw [List.find?_cons, show f a = false by simpa using ha]
theorem fi_any_neg {f : Int → Bool} {l : List Int} : l.any f = decide (0 ≤ fiI f l) := by
  cases h : l.any f
  · have := (fi_none (f := f) (l := l) fun x hx => by have := List.any_eq_false.1 h x hx; simpa using this).1
    rw [this]; rfl
  · have := (fi_at h).1; simp [this]
def eqx (x y : Int) : Bool := decide (y = x)
theorem eqx_yes {x y : Int} (h : y = x) : eqx x y = true := decide_eq_true h
theorem eqx_no {x y : Int} (h : ¬ y = x) : eqx x y = false := decide_eq_false h
theorem eqx_yes' {x y : Int} (h : x = y) : eqx x y = true := decide_eq_true h.symm
theorem any_eqx (l : List Int) (x : Int) : l.any (eqx x) = decide (x ∈ l) := by
  rw [Bool.eq_iff_iff, List.any_eq_true, decide_eq_true_eq]
  constructor
  · rintro ⟨y, h1, h2⟩; have := of_decide_eq_true h2; subst this; exact h1
  · intro h; exact ⟨x, h, eqx_yes rfl⟩
theorem fi_mem (l : List Int) (x : Int) : decide (0 ≤ fiI (eqx x) l) = decide (x ∈ l) := by rw [← fi_any_neg, any_eqx]
theorem take_s {l : List Int} {k : Nat} {x : Int} (hx : l[k]? = some x) : l.take (k + 1) = l.take k ++ [x] ∧ (l.take k).length = k := by
  have hk := (List.getElem?_eq_some_iff.1 hx).1
  rw [List.take_add_one, hx]; exact ⟨rfl, by rw [List.length_take]; omega⟩
theorem map_take_s {l : List Int} {k : Nat} {x : Int} (f : Int → Int) (hx : l[k]? = some x) : (l.take (k + 1)).map f = (l.take k).map f ++ [f x] := by
  rw [(take_s hx).1]; simp
theorem key5 (n : Int) : (fun x : Int => Qs 5 n x 0) = fun x => x := by funext x; simp [Qs]
def ZX (b : List Int) : Nat → List Int → List Int
  | 0, l => l
  | n + 1, l => if Yz l b = true then ZX b n (l.drop b.length) else l
def ZH (b l : List Int) : List Int := if b.length = 0 then l else ZX b l.length l
def ZW (b : List Int) : Nat → List Int → List Int
  | 0, l => l
  | n + 1, l => if Yy l b = true then ZW b n (l.take (l.length - b.length)) else l
def trimS (b l : List Int) : List Int := if b.length = 0 then l else ZW b l.length l
theorem qY {b : List Int} (hb : 0 < b.length) : ∀ (n m : Nat) (l : List Int), l.length ≤ n → l.length ≤ m → ZX b n l = ZX b m l
  | 0, 0, l, _, _ => rfl
  | 0, m + 1, l, h, _ => by unfold ZX; rw [if_neg]; intro h2; have := YN h2; omega
  | n + 1, 0, l, _, h => by unfold ZX; rw [if_neg]; intro h2; have := YN h2; omega
  | n + 1, m + 1, l, h, h' => by
    unfold ZX; split
    · rename_i h2; have := YN h2; exact qY hb n m _ (by simp; omega) (by simp; omega)
    · rfl
theorem qW {b : List Int} (hb : 0 < b.length) : ∀ (n m : Nat) (l : List Int), l.length ≤ n → l.length ≤ m → ZW b n l = ZW b m l
  | 0, 0, l, _, _ => rfl
  | 0, m + 1, l, h, _ => by unfold ZW; rw [if_neg]; intro h2; have := Yi h2; omega
  | n + 1, 0, l, _, h => by unfold ZW; rw [if_neg]; intro h2; have := Yi h2; omega
  | n + 1, m + 1, l, h, h' => by
    unfold ZW; split
    · rename_i h2; have := Yi h2; exact qW hb n m _ (by simp; omega) (by simp; omega)
    · rfl
theorem jM {b l : List Int} (hb : 0 < b.length) (h : Yz l b = true) : ZH b l = ZH b (l.drop b.length) := by
  have h2 := YN h
  have e : ZX b l.length l = ZX b (l.length - 1) (l.drop b.length) := by
    have e1 : ∀ n, ZX b (n + 1) l = ZX b n (l.drop b.length) := by intro n; exact if_pos h
    rw [← e1 (l.length - 1), show l.length - 1 + 1 = l.length by omega]
  unfold ZH; rw [if_neg (by omega), if_neg (by omega), e]
  exact qY hb _ _ _ (by simp; omega) (Nat.le_refl _)
theorem VN {b l : List Int} (h : Yz l b = false) : ZH b l = l := by
  unfold ZH; split
  · rfl
  · cases hl : l.length with
    | zero => rfl
    | succ n => unfold ZX; rw [if_neg (by simp [h])]
theorem YD {b l : List Int} (h : b.length = 0) : ZH b l = l := by unfold ZH; rw [if_pos h]
theorem jK {b l : List Int} (hb : 0 < b.length) (h : Yy l b = true) : trimS b l = trimS b (l.take (l.length - b.length)) := by
  have h2 := Yi h
  have e : ZW b l.length l = ZW b (l.length - 1) (l.take (l.length - b.length)) := by
    have e1 : ∀ n, ZW b (n + 1) l = ZW b n (l.take (l.length - b.length)) := by intro n; exact if_pos h
    rw [← e1 (l.length - 1), show l.length - 1 + 1 = l.length by omega]
  unfold trimS; rw [if_neg (by omega), if_neg (by omega), e]
  exact qW hb _ _ _ (by simp; omega) (Nat.le_refl _)
theorem VM {b l : List Int} (h : Yy l b = false) : trimS b l = l := by
  unfold trimS; split
  · rfl
  · cases hl : l.length with
    | zero => rfl
    | succ n => unfold ZW; rw [if_neg (by simp [h])]
theorem YC {b l : List Int} (h : b.length = 0) : trimS b l = l := by unfold trimS; rw [if_pos h]
theorem ZQ {σ : Type} (f : σ → Int → σ) (Q : List Int → σ → Prop) (s0 : σ) (h0 : Q [] s0) (hs : ∀ p x, Q p (p.foldl f s0) → Q (p ++ [x]) (f (p.foldl f s0) x)) : ∀ (n : Nat) (l : List Int), l.length = n → Q l (l.foldl f s0)
  | 0, l, h => by have := List.eq_nil_of_length_eq_zero h; subst this; exact h0
  | n + 1, l, h => by
    obtain ⟨p, x, rfl⟩ : ∃ p x, l = p ++ [x] := ⟨l.dropLast, l.getLast (by intro e; subst e; simp at h), (List.dropLast_concat_getLast _).symm⟩
    have ih := ZQ f Q s0 h0 hs n p (by simpa using h)
    have e : (p ++ [x]).foldl f s0 = f (p.foldl f s0) x := by simp
    rw [e]; exact hs p x ih
theorem Ju {b : List Int} {i : Nat} {x : Int} (h : b[i]? = some x) : b.take (i + 1) = b.take i ++ [x] := by rw [List.take_add_one, h]; rfl
theorem jL (b : List Int) : ∀ (n : Nat) (l : List Int), (ZX b n l).length ≤ l.length
  | 0, l => Nat.le_refl _
  | n + 1, l => by
    unfold ZX; split
    · have := jL b n (l.drop b.length); simp at this; omega
    · exact Nat.le_refl _
theorem trimP_le (b l : List Int) : (ZH b l).length ≤ l.length := by
  unfold ZH; split
  · exact Nat.le_refl _
  · exact jL b _ l
theorem jJ (b : List Int) : ∀ (n : Nat) (l : List Int), (ZW b n l).length ≤ l.length
  | 0, l => Nat.le_refl _
  | n + 1, l => by
    unfold ZW; split
    · have := jJ b n (l.take (l.length - b.length)); simp at this; omega
    · exact Nat.le_refl _
theorem trimS_le (b l : List Int) : (trimS b l).length ≤ l.length := by
  unfold trimS; split
  · exact Nat.le_refl _
  · exact jJ b _ l
def Ur (x : Int) (l : List Int) : List Int := l.takeWhile (fun y => decide (y ≤ x)) ++ x :: l.dropWhile (fun y => decide (y ≤ x))
def Ji (l : List Int) : List Int := l.foldl (fun s x => Ur x s) []
theorem insI_len (x : Int) (l : List Int) : (Ur x l).length = l.length + 1 := by
  have := congrArg List.length (List.takeWhile_append_dropWhile (p := fun y => decide (y ≤ x)) (l := l))
  rw [List.length_append] at this
  unfold Ur; simp only [List.length_append, List.length_cons]; omega
theorem jZ (x : Int) (l : List Int) : (Ur x l).Perm (x :: l) := by
  unfold Ur
  refine List.perm_middle.trans ?_
  rw [List.takeWhile_append_dropWhile]
theorem sortI_app (l : List Int) (x : Int) : Ji (l ++ [x]) = Ur x (Ji l) := by simp [Ji]
theorem sortI_len (l : List Int) : (Ji l).length = l.length :=
  ZQ (fun s x => Ur x s) (fun p s => s.length = p.length) [] rfl (fun p x h => by rw [insI_len, h]; simp) _ l rfl
theorem sortI_perm (l : List Int) : (Ji l).Perm l :=
  ZQ (fun s x => Ur x s) (fun p s => s.Perm p) [] (List.Perm.refl _) (fun p x h => (jZ x _).trans ((h.cons x).trans (List.perm_append_singleton x p).symm)) _ l rfl
theorem GP {s : List Int} {x : Int} {j : Nat} (hj : j ≤ s.length) (h : ∀ y ∈ s.take j, y ≤ x) (h2 : s.length ≤ j ∨ ∃ v, s[j]? = some v ∧ ¬ v ≤ x) : s.take j ++ [x] ++ s.drop j = Ur x s := by
  have e1 : s.takeWhile (fun y => decide (y ≤ x)) = s.take j ∧ s.dropWhile (fun y => decide (y ≤ x)) = s.drop j := by
    clear hj
    induction s generalizing j with
    | nil => simp
    | cons a s ih =>
      cases j with
      | zero =>
        rcases h2 with h2 | ⟨v, hv, hn⟩
        · simp at h2
        · have : a = v := by simpa using hv
          subst this
          simp [List.takeWhile_cons, List.dropWhile_cons, hn]
      | succ j =>
        have ha : a ≤ x := h a (by simp)
        have := ih (j := j) (fun y hy => h y (by simp [hy])) (by
          rcases h2 with h2 | ⟨v, hv, hn⟩
          · left; simp at h2; omega
          · right; exact ⟨v, by simpa using hv, hn⟩)
        simp [List.takeWhile_cons, List.dropWhile_cons, ha, this.1, this.2]
  unfold Ur; rw [e1.1, e1.2]; simp
def Yu (l : List Int) : Prop := l.Pairwise (· ≤ ·)
theorem insI_sorted {x : Int} {l : List Int} (h : Yu l) : Yu (Ur x l) := by
  unfold Yu at h ⊢
  induction l with
  | nil => simp [Ur]
  | cons a l ih =>
    rw [List.pairwise_cons] at h
    by_cases ha : a ≤ x
    · have e : Ur x (a :: l) = a :: Ur x l := by unfold Ur; simp [List.takeWhile_cons, List.dropWhile_cons, ha]
      rw [e, List.pairwise_cons]
      refine ⟨fun y hy => ?_, ih h.2⟩
      rcases List.mem_cons.1 ((jZ x l).subset hy) with rfl | hy
      · exact ha
      · exact h.1 y hy
    · have e : Ur x (a :: l) = x :: a :: l := by unfold Ur; simp [List.takeWhile_cons, List.dropWhile_cons, ha]
      rw [e, List.pairwise_cons, List.pairwise_cons]
      refine ⟨fun y hy => ?_, h⟩
      rcases List.mem_cons.1 hy with rfl | hy
      · omega
      · have := h.1 y hy; omega
theorem yr (l : List Int) : Yu (Ji l) :=
  ZQ (fun s x => Ur x s) (fun _ s => Yu s) [] List.Pairwise.nil (fun p x h => insI_sorted h) _ l rfl
theorem VS : ∀ {a b : List Int}, Yu a → Yu b → a.Perm b → a = b
  | [], b, _, _, h => (List.nil_perm.1 h).symm ▸ rfl
  | x :: a, [], _, _, h => by simp at h
  | x :: a, y :: b, ha, hb, h => by
    unfold Yu at ha hb
    rw [List.pairwise_cons] at ha hb
    have h1 : x ≤ y := by
      rcases List.mem_cons.1 (h.symm.subset (List.mem_cons_self ..)) with e | e
      · omega
      · exact ha.1 y e
    have h2 : y ≤ x := by
      rcases List.mem_cons.1 (h.subset (List.mem_cons_self ..)) with e | e
      · omega
      · exact hb.1 x e
    have e : x = y := by omega
    subst e
    rw [VS ha.2 hb.2 ((List.perm_cons x).1 h)]
theorem YE {l : List Int} {k : Nat} {x : Int} (h : l[k]? = some x) : Ji (l.take (k + 1)) = Ur x (Ji (l.take k)) := by rw [(take_s h).1, sortI_app]
def UZ (x : Int) (l : List Int) : List Int := l.takeWhile (fun y => decide (y < x)) ++ (if x ∈ l then [] else [x]) ++ l.dropWhile (fun y => decide (y < x))
def QW (l : List Int) : List Int := l.foldl (fun s x => UZ x s) []
def Yt (l : List Int) : Prop := l.Pairwise (· < ·)
theorem setI_app (l : List Int) (x : Int) : QW (l ++ [x]) = UZ x (QW l) := by simp [QW]
theorem setI_take {l : List Int} {k : Nat} {x : Int} (h : l[k]? = some x) : QW (l.take (k + 1)) = UZ x (QW (l.take k)) := by rw [(take_s h).1, setI_app]
theorem GQ {x : Int} {l : List Int} (h : x ∈ l) : UZ x l = l := by
  unfold UZ; rw [if_pos h, List.append_nil, List.takeWhile_append_dropWhile]
theorem insU_mem {x z : Int} {l : List Int} : z ∈ UZ x l ↔ z = x ∨ z ∈ l := by
  by_cases h : x ∈ l
  · rw [GQ h]; constructor
    · exact .inr
    · rintro (rfl | h2); exact h; exact h2
  · unfold UZ; rw [if_neg h]
    have e : l = l.takeWhile (fun y => decide (y < x)) ++ l.dropWhile (fun y => decide (y < x)) := (List.takeWhile_append_dropWhile).symm
    conv => rhs; rw [e]
    simp only [List.mem_append, List.mem_singleton]
    constructor
    · rintro ((h1 | h1) | h1); exact .inr (.inl h1); exact .inl h1; exact .inr (.inr h1)
    · rintro (h1 | h1 | h1); exact .inl (.inr h1); exact .inl (.inl h1); exact .inr h1
theorem insU_len (x : Int) (l : List Int) : (UZ x l).length ≤ l.length + 1 := by
  have := congrArg List.length (List.takeWhile_append_dropWhile (p := fun y => decide (y < x)) (l := l))
  rw [List.length_append] at this
  unfold UZ; simp only [List.length_append]; split <;> simp <;> omega
theorem vZ {x : Int} {l : List Int} (h : Yt l) : Yt (UZ x l) := by
  by_cases hx : x ∈ l
  · rw [GQ hx]; exact h
  · unfold UZ; rw [if_neg hx]
    unfold Yt at h ⊢
    induction l with
    | nil => simp
    | cons a l ih =>
      have hx2 : x ∉ l := fun e => hx (by simp [e])
      rw [List.pairwise_cons] at h
      by_cases ha : a < x
      · simp only [List.takeWhile_cons, List.dropWhile_cons, ha, decide_true, if_true, List.cons_append, List.pairwise_cons]
        refine ⟨fun y hy => ?_, ih h.2 hx2⟩
        have e : l.takeWhile (fun y => decide (y < x)) ++ l.dropWhile (fun y => decide (y < x)) = l := List.takeWhile_append_dropWhile
        simp only [List.mem_append, List.mem_singleton] at hy
        rcases hy with (hy | hy) | hy
        · exact h.1 y (by rw [← e]; exact List.mem_append_left _ hy)
        · omega
        · exact h.1 y (by rw [← e]; exact List.mem_append_right _ hy)
      · have hne : x ≠ a := fun e => hx (by simp [e])
        simp only [List.takeWhile_cons, List.dropWhile_cons, ha, decide_false, Bool.false_eq_true, if_false, List.nil_append, List.singleton_append, List.pairwise_cons]
        refine ⟨fun y hy => ?_, h.1, h.2⟩
        rcases List.mem_cons.1 hy with rfl | hy
        · omega
        · have := h.1 y hy; omega
theorem Yn (l : List Int) : Yt (QW l) ∧ (∀ z, z ∈ QW l ↔ z ∈ l) ∧ (QW l).length ≤ l.length :=
  ZQ (fun s x => UZ x s) (fun p s => Yt s ∧ (∀ z, z ∈ s ↔ z ∈ p) ∧ s.length ≤ p.length) [] ⟨List.Pairwise.nil, fun z => Iff.rfl, Nat.le_refl _⟩ (fun p x h => ⟨vZ h.1, fun z => by rw [insU_mem, h.2.1, List.mem_append, List.mem_singleton]; exact Or.comm, by have := insU_len x (p.foldl (fun s x => UZ x s) []); simp; omega⟩) _ l rfl
theorem Yt.nodup {l : List Int} (h : Yt l) : l.Nodup := List.Pairwise.imp (fun h => by omega) h
theorem Yt.le {l : List Int} (h : Yt l) : Yu l := List.Pairwise.imp (fun h => by omega) h
theorem setI_eq {a b : List Int} (h : ∀ z, z ∈ a ↔ z ∈ b) : QW a = QW b := by
  have ha := Yn a
  have hb := Yn b
  refine VS ha.1.le hb.1.le ((List.perm_ext_iff_of_nodup ha.1.nodup hb.1.nodup).2 fun z => ?_)
  rw [ha.2.1, hb.2.1, h]
theorem split_at {p : Int → Bool} {s : List Int} {j : Nat} (h : ∀ y ∈ s.take j, p y = true) (h2 : s.length ≤ j ∨ ∃ v, s[j]? = some v ∧ p v = false) : s.takeWhile p = s.take j ∧ s.dropWhile p = s.drop j := by
  induction s generalizing j with
  | nil => simp
  | cons a s ih =>
    cases j with
    | zero =>
      rcases h2 with h2 | ⟨v, hv, hn⟩
      · simp at h2
      · have : a = v := by simpa using hv
        subst this
        simp [List.takeWhile_cons, List.dropWhile_cons, hn]
    | succ j =>
      have ha : p a = true := h a (by simp)
      have := ih (j := j) (fun y hy => h y (by simp [hy])) (by
        rcases h2 with h2 | ⟨v, hv, hn⟩
        · left; simp at h2; omega
        · right; exact ⟨v, by simpa using hv, hn⟩)
      simp [List.takeWhile_cons, List.dropWhile_cons, ha, this.1, this.2]
theorem set_at {s : List Int} {x : Int} {j : Nat} (hs : Yt s) (h : ∀ y ∈ s.take j, y < x) (h2 : s.length ≤ j ∨ ∃ v, s[j]? = some v ∧ ¬ v < x ∧ ¬ v = x) : s.take j ++ [x] ++ s.drop j = UZ x s := by
  obtain ⟨e1, e2⟩ := split_at (p := fun y => decide (y < x)) (fun y hy => decide_eq_true (h y hy)) (by
    rcases h2 with h2 | ⟨v, hv, hn, _⟩
    · exact .inl h2
    · exact .inr ⟨v, hv, decide_eq_false hn⟩)
  have hx : x ∉ s := by
    intro hx
    rw [← List.take_append_drop j s, List.mem_append] at hx
    rcases hx with hx | hx
    · have := h x hx; omega
    · rcases h2 with h2 | ⟨v, hv, hn, hn2⟩
      · rw [List.drop_of_length_le h2] at hx; cases hx
      · have hj := (List.getElem?_eq_some_iff.1 hv).1
        have hd : s.drop j = v :: s.drop (j + 1) := by rw [List.drop_eq_getElem_cons hj, (List.getElem?_eq_some_iff.1 hv).2]
        rw [hd] at hx
        rcases List.mem_cons.1 hx with e | hx
        · exact hn2 e.symm
        · have hp : (s.drop j).Pairwise (· < ·) := List.Pairwise.sublist (List.drop_sublist _ _) hs
          rw [hd, List.pairwise_cons] at hp
          have := hp.1 x hx; omega
  unfold UZ; rw [if_neg hx, e1, e2]
theorem zk {s : List Int} {x : Int} {i : Nat} (hs : Yt s) (hx : x ∉ s) (h : ∀ y ∈ s.drop i, x < y) (hi : i ≤ s.length) (h2 : i = 0 ∨ ∃ v, s[i - 1]? = some v ∧ ¬ x < v) : s.take i ++ [x] ++ s.drop i = UZ x s := by
  refine set_at hs (fun y hy => ?_) ?_
  · rcases h2 with h2 | ⟨v, hv, hn⟩
    · subst h2; simp at hy
    · obtain ⟨m, hm⟩ := List.mem_iff_getElem?.1 hy
      have hm1 := (List.getElem?_eq_some_iff.1 hm).1
      rw [List.length_take] at hm1
      rw [List.getElem?_take_of_lt (by omega)] at hm
      have hy2 := (List.getElem?_eq_some_iff.1 hm).2
      have hv2 := (List.getElem?_eq_some_iff.1 hv).2
      have hyv : y ≤ v := by
        by_cases e : m = i - 1
        · subst e; rw [hy2] at hv2; omega
        · have := List.pairwise_iff_getElem.1 hs m (i - 1) (by omega) (by omega) (by omega)
          rw [hy2, hv2] at this; omega
      have : y ≠ x := fun e => hx (by rw [← e]; exact List.mem_of_getElem? hm)
      omega
  · by_cases hl : s.length ≤ i
    · exact .inl hl
    · right
      refine ⟨s[i], List.getElem?_eq_getElem (by omega), ?_⟩
      have := h s[i] (by rw [List.drop_eq_getElem_cons (by omega)]; exact List.mem_cons_self ..)
      exact ⟨by omega, by omega⟩
theorem bubble_step {s : List Int} {x v : Int} {i : Nat} (h0 : 0 < i) (hi : i ≤ s.length) (hv : s[i - 1]? = some v) : s.take (i - 1) ++ [x] ++ s.drop (i - 1) = ((s.take i ++ [x] ++ s.drop i).set i v).set (i - 1) x := by
  obtain ⟨m, rfl⟩ : ∃ m, i = m + 1 := ⟨i - 1, by omega⟩
  simp only [Nat.add_sub_cancel] at hv ⊢
  have hm := (List.getElem?_eq_some_iff.1 hv).1
  have e1 : s.take (m + 1) = s.take m ++ [v] := Ju hv
  have e2 : s.drop m = v :: s.drop (m + 1) := by rw [List.drop_eq_getElem_cons hm, (List.getElem?_eq_some_iff.1 hv).2]
  rw [e1, e2]
  have hl : (s.take m).length = m := by rw [List.length_take]; omega
  simp [List.set_append, hl]
theorem WN {l : List Int} {k : Nat} {x : Int} (h : l[k]? = some x) : QW (l.take (k + 1)) = UZ (l[k]?.getD 0) (QW (l.take k)) := by rw [setI_take h, h]; rfl
theorem vh {s : List Int} {x v : Int} {i : Nat} (hi : i ≤ s.length) (h : (s.take i ++ [x] ++ s.drop i)[i]? = some v) : v = x := by
  rw [List.append_assoc, List.getElem?_append_right (by rw [List.length_take]; omega), List.length_take, Nat.min_eq_left hi, Nat.sub_self] at h
  simpa using h.symm
theorem Gz {s : List Int} {x v : Int} {i : Nat} (h0 : 0 < i) (hi : i ≤ s.length) (h : (s.take i ++ [x] ++ s.drop i)[i - 1]? = some v) : s[i - 1]? = some v := by
  rw [List.append_assoc, List.getElem?_append_left (by rw [List.length_take]; omega), List.getElem?_take_of_lt (by omega)] at h
  exact h
theorem drop_bub {s : List Int} {x v : Int} {i : Nat} (h : ∀ y ∈ s.drop i, x < y) (h0 : 0 < i) (hi : i ≤ s.length) (hv : s[i - 1]? = some v) (hlt : x < v) : ∀ y ∈ s.drop (i - 1), x < y := by
  obtain ⟨m, rfl⟩ : ∃ m, i = m + 1 := ⟨i - 1, by omega⟩
  simp only [Nat.add_sub_cancel] at hv ⊢
  have hm := (List.getElem?_eq_some_iff.1 hv).1
  rw [List.drop_eq_getElem_cons hm, (List.getElem?_eq_some_iff.1 hv).2]
  intro y hy
  rcases List.mem_cons.1 hy with rfl | hy
  · exact hlt
  · exact h y hy
instance (l : List Int) : Decidable (Yu l) := inferInstanceAs (Decidable (l.Pairwise (· ≤ ·)))
theorem Vx (l : List Int) : Yu (VH l) := by
  have := List.pairwise_mergeSort (le := fun x y : Int => decide (x ≤ y)) (fun a b c h1 h2 => by simp at *; omega) (fun a b => by simp; omega) l
  exact List.Pairwise.imp (fun h => by simpa using h) this
theorem VQ (l : List Int) : (VH l).Perm l := List.mergeSort_perm ..
theorem yo {a b : List Int} (h : a.Perm b) : VH a = VH b := VS (Vx a) (Vx b) ((VQ a).trans (h.trans (VQ b).symm))
theorem Ue (l : List Int) : (QC l).length ≤ l.length :=
  ZQ Ye (fun p s => s.length ≤ p.length) [] (Nat.le_refl _) (fun p x h => by
    generalize p.foldl Ye [] = s at h ⊢
    unfold Ye; split
    · simp; omega
    · simp; omega) _ l rfl
theorem snocN {p : List Int} {k : Int} (h : p.Nodup) (hk : k ∉ p) : (p ++ [k]).Nodup :=
  List.nodup_append.2 ⟨h, by simp, fun a ha b hb => by simp at hb; subst hb; intro e; subst e; exact hk ha⟩
theorem snocS {p m : List Int} {k : Int} (h : ∀ z ∈ p, z ∈ m) (hk : k ∈ m) : ∀ z ∈ p ++ [k], z ∈ m := by
  intro z hz; rcases List.mem_append.1 hz with e | e
  · exact h z e
  · simp at e; rw [e]; exact hk
theorem qO {l : List Int} {k : Nat} {x : Int} (h : l[k]? = some x) (hx : x ∈ QC (l.take k)) : QC (l.take (k + 1)) = QC (l.take k) := by rw [YF h]; unfold Ye; rw [if_pos hx]
theorem Gr {l : List Int} {k : Nat} {x : Int} (h : l[k]? = some x) (hx : ¬ x ∈ QC (l.take k)) : QC (l.take (k + 1)) = QC (l.take k) ++ [x] := by rw [YF h]; unfold Ye; rw [if_neg hx]
theorem Ud (l : List Int) (y : Int) : QC (l ++ [y]) = Ye (QC l) y := by unfold QC; rw [List.foldl_append]; rfl
theorem Gg {ll : List (List Int)} {k j : Nat} {x : List Int} {y : Int} (h : ll[k]? = some x) (hj : x[j]? = some y) : (ll.take k).flatten ++ (ll[k]?.getD []).take (j + 1) = ((ll.take k).flatten ++ (ll[k]?.getD []).take j) ++ [y] := by
  rw [h, List.append_assoc]; simp only [Option.getD_some]; rw [Ju hj]
theorem yw {ll : List (List Int)} {k j : Nat} {x : List Int} (h : ll[k]? = some x) (hj : x.length ≤ j) : (ll.take (k + 1)).flatten = (ll.take k).flatten ++ (ll[k]?.getD []).take j := by
  rw [Vh h, h]; simp only [Option.getD_some]; rw [List.take_of_length_le hj]
theorem keyU_le (ll : List (List Int)) (k j : Nat) : (QC ((ll.take k).flatten ++ (ll[k]?.getD []).take j)).length ≤ total ll := by
  refine Nat.le_trans (Ue _) ?_
  have h2 := QO ll (k + 1)
  rw [List.length_append, Zg]
  cases h : ll[k]? with
  | none => have := QO ll k; simp only [Option.getD_none, List.take_nil, List.length_nil]; omega
  | some x => rw [Zi h] at h2; simp only [Option.getD_some, List.length_take]; omega
theorem yN (ll : List (List Int)) (k : Nat) : (QC (ll.take k).flatten).length ≤ total ll := by
  refine Nat.le_trans (Ue _) ?_
  rw [Zg]; exact QO ll k
theorem zp {β : Type} {k : Int} {v : β} : ∀ {L : List (Int × β)}, (L.map Prod.fst).Nodup → k ∈ L.map Prod.fst → JB L k v = L.map (fun p => if p.1 = k then (k, v) else p)
  | [], _, h => by cases h
  | p :: L, hn, h => by
    rw [List.map_cons, List.nodup_cons] at hn
    unfold JB
    by_cases hp : p.1 = k
    · have : ∀ q ∈ L, (fun q : Int × β => if q.1 = k then (k, v) else q) q = id q := fun q hq => by
        show (if q.1 = k then (k, v) else q) = q
        rw [if_neg]; intro e; exact hn.1 (by rw [hp, ← e]; exact List.mem_map_of_mem (f := Prod.fst) hq)
      rw [if_pos hp, List.map_cons, if_pos hp, List.map_congr_left this, List.map_id]
    · rw [if_neg hp, List.map_cons, if_neg hp, zp hn.2]
      rw [List.map_cons] at h
      rcases List.mem_cons.1 h with e | e
      · exact absurd e.symm hp
      · exact e
def QX (S : List Int) (f : Int → Bool) : List (Int × Bool) := S.map fun y => (y, f y)
theorem qP (S : List Int) (f : Int → Bool) : (QX S f).map Prod.fst = S := by unfold QX; rw [List.map_map]; simp [Function.comp_def]
theorem zV (S : List Int) (f : Int → Bool) : (QX S f).length = S.length := List.length_map _
theorem zW (S : List Int) (f : Int → Bool) (x : Int) : JI (QX S f) x = decide (x ∈ S) := by unfold JI; rw [qP]
theorem GA {S : List Int} {f g : Int → Bool} (h : ∀ y ∈ S, f y = g y) : QX S f = QX S g := List.map_congr_left fun y hy => by rw [h y hy]
theorem bm_put {S : List Int} {f : Int → Bool} {x : Int} {b : Bool} (hn : S.Nodup) (hx : x ∈ S) : JB (QX S f) x b = QX S (fun y => if y = x then b else f y) := by
  rw [zp (by rw [qP]; exact hn) (by rw [qP]; exact hx)]
  unfold QX; rw [List.map_map]
  refine List.map_congr_left fun y hy => ?_
  show (if y = x then (x, b) else (y, f y)) = _
  by_cases e : y = x
  · subst e; simp
  · simp [e]
theorem bm_del (S : List Int) (f : Int → Bool) (x : Int) : Ym (QX S f) x = QX (S.filter (fun y => decide (y ≠ x))) f := by
  unfold Ym QX; rw [List.filter_map]; rfl
theorem bm_add (l : List Int) (x : Int) : JB (QX (QC l) (fun _ => false)) x false = QX (QC (l ++ [x])) (fun _ => false) := by
  rw [Ud]; unfold Ye
  by_cases h : x ∈ QC l
  · rw [if_pos h, bm_put (Uo l) h]; exact GA fun y _ => by simp
  · rw [if_neg h, Gi (by rw [qP]; exact h)]; unfold QX; simp
def mkd (m : List Int) (y : Int) : Bool := decide (y ∈ m)
theorem mk_yes {S m : List Int} {x : Int} (hn : S.Nodup) (h : JI (QX S (mkd m)) x = true) : JB (QX S (mkd m)) x true = QX S (mkd (m ++ [x])) := by
  rw [zW, decide_eq_true_eq] at h
  rw [bm_put hn h]
  refine GA fun y _ => ?_
  unfold mkd
  by_cases e : y = x <;> simp [e]
theorem mk_no {S m : List Int} {x : Int} (h : ¬ JI (QX S (mkd m)) x = true) : QX S (mkd m) = QX S (mkd (m ++ [x])) := by
  rw [zW, decide_eq_true_eq] at h
  refine GA fun y hy => ?_
  have e : y ≠ x := fun e => h (by rw [← e]; exact hy)
  unfold mkd; simp [e]
theorem zx (S : List Int) : QX S (mkd []) = QX S (fun _ => false) := GA fun y _ => by simp [mkd]
theorem Uu {α β : Type} {f g : α → Option β} : ∀ {l : List α}, (∀ x ∈ l, f x = g x) → l.filterMap f = l.filterMap g
  | [], _ => rfl
  | x :: l, h => by rw [List.filterMap_cons, List.filterMap_cons, h x (List.mem_cons_self ..), Uu fun y hy => h y (List.mem_cons_of_mem _ hy)]
def JX (S : List Int) (f : Int → Bool) (D : List Int) : List (Int × Bool) := S.filterMap fun y => if y ∈ D then (if f y then some (y, false) else none) else some (y, f y)
theorem zl (S : List Int) (f : Int → Bool) : JX S f [] = QX S f := by unfold JX QX; simp
theorem sd_keys (S : List Int) (f : Int → Bool) (D : List Int) : (JX S f D).map Prod.fst = S.filter (fun y => !decide (y ∈ D) || f y) := by
  unfold JX
  induction S with
  | nil => rfl
  | cons y S ih =>
    rw [List.filterMap_cons, List.filter_cons]
    by_cases h : y ∈ D
    · by_cases h2 : f y = true
      · simp [h, h2, ih]
      · simp [h, h2, ih]
    · simp [h, ih]
theorem sd_nodup {S : List Int} (hn : S.Nodup) (f : Int → Bool) (D : List Int) : ((JX S f D).map Prod.fst).Nodup := by rw [sd_keys]; exact hn.filter _
theorem yu {S D : List Int} {f : Int → Bool} {k : Int} {u : Bool} (h : (k, u) ∈ JX S f D) (hk : k ∉ D) : k ∈ S ∧ f k = u := by
  unfold JX at h
  obtain ⟨y, hy, e⟩ := List.mem_filterMap.1 h
  by_cases hd : y ∈ D
  · rw [if_pos hd] at e
    split at e
    · cases e; exact absurd hd hk
    · cases e
  · rw [if_neg hd] at e; cases e; exact ⟨hy, rfl⟩
theorem sd_yes {S D : List Int} {f : Int → Bool} {k : Int} {u : Bool} (hn : S.Nodup) (h : (k, u) ∈ JX S f D) (hk : k ∉ D) (hu : u = true) : JB (JX S f D) k false = JX S f (D ++ [k]) := by
  have hm := yu h hk
  rw [zp (sd_nodup hn f D) (List.mem_map_of_mem (f := Prod.fst) h)]
  unfold JX
  rw [List.map_filterMap]
  refine Uu fun y hy => ?_
  by_cases hd : y ∈ D
  · have : y ≠ k := fun e => hk (by rw [← e]; exact hd)
    cases hf : f y <;> simp [hd, hf, this]
  · by_cases e : y = k
    · subst e; simp [hd, hm.2, hu]
    · simp [hd, e]
theorem sd_no {S D : List Int} {f : Int → Bool} {k : Int} {u : Bool} (h : (k, u) ∈ JX S f D) (hk : k ∉ D) (hu : ¬ u = true) : Ym (JX S f D) k = JX S f (D ++ [k]) := by
  have hm := yu h hk
  have hf : f k = false := by rw [hm.2]; simpa using hu
  unfold JX Ym
  rw [List.filter_filterMap]
  refine Uu fun y hy => ?_
  by_cases hd : y ∈ D
  · have : y ≠ k := fun e => hk (by rw [← e]; exact hd)
    cases hf : f y <;> simp [hd, hf, this]
  · by_cases e : y = k
    · subst e; simp [hd, hf]
    · simp [hd, e]
theorem sd_end {S D : List Int} {f : Int → Bool} (h : ∀ z ∈ JX S f D, z.1 ∈ D) : JX S f D = QX (S.filter f) (fun _ => false) := by
  have h2 : ∀ y ∈ S, y ∈ D := fun y hy => by
    by_cases hd : y ∈ D
    · exact hd
    · exact h (y, f y) (List.mem_filterMap.2 ⟨y, hy, by rw [if_neg hd]⟩)
  unfold JX QX
  rw [← List.filterMap_eq_map, ← List.filterMap_eq_filter, List.filterMap_filterMap]
  refine Uu fun y hy => ?_
  rw [if_pos (h2 y hy)]
  cases hf : f y <;> simp [Option.guard, hf]
def JV (f : Int → Int) (S p : List Int) : List Int := S.filter (fun y => !decide (y ∈ p.map f))
def ZI (f : Int → Int) : List Int → List Int → List Int
  | _, [] => []
  | S, x :: l => if f x ∈ S then x :: ZI f (S.filter (fun y => decide (y ≠ f x))) l else ZI f S l
theorem rem_cons (f : Int → Int) (S : List Int) (a : Int) (p : List Int) : JV f (S.filter (fun y => decide (y ≠ f a))) p = JV f S (a :: p) := by
  unfold JV; rw [List.filter_filter]
  refine List.filter_congr fun y _ => ?_
  by_cases e : y = f a <;> simp [e]
theorem rem_out {f : Int → Int} {S : List Int} {a : Int} (p : List Int) (h : ¬ f a ∈ S) : JV f S p = JV f S (a :: p) := by
  unfold JV
  refine List.filter_congr fun y hy => ?_
  have e : y ≠ f a := fun e => h (by rw [← e]; exact hy)
  simp [e]
theorem vK (f : Int → Int) (S p : List Int) (x : Int) : (JV f S p).filter (fun y => decide (y ≠ f x)) = JV f S (p ++ [x]) := by
  unfold JV; rw [List.filter_filter]
  refine List.filter_congr fun y _ => ?_
  by_cases e : y = f x <;> simp [e]
theorem rem_same {f : Int → Int} {S p : List Int} {x : Int} (h : ¬ f x ∈ JV f S p) : JV f S p = JV f S (p ++ [x]) := by
  rw [← vK, List.filter_eq_self.2]
  intro y hy
  have e : y ≠ f x := fun e => h (by rw [← e]; exact hy)
  simpa using e
theorem Gs (f : Int → Int) (x : Int) : ∀ (p S : List Int), ZI f S (p ++ [x]) = ZI f S p ++ (if f x ∈ JV f S p then [x] else [])
  | [], S => by
    have : JV f S [] = S := by unfold JV; simp
    simp only [List.nil_append, ZI, this]
  | a :: p, S => by
    simp only [List.cons_append, ZI]
    by_cases h : f a ∈ S
    · rw [if_pos h, if_pos h, Gs f x p, rem_cons, List.cons_append]
    · rw [if_neg h, if_neg h, Gs f x p, rem_out p h]
theorem isc_yes {f : Int → Int} {x : Int} {p S : List Int} (h : JI (QX (JV f S p) (fun _ => false)) (f x) = true) : ZI f S p ++ [x] = ZI f S (p ++ [x]) := by
  rw [zW, decide_eq_true_eq] at h; rw [Gs, if_pos h]
theorem isc_no {f : Int → Int} {x : Int} {p S : List Int} (h : ¬ JI (QX (JV f S p) (fun _ => false)) (f x) = true) : ZI f S p = ZI f S (p ++ [x]) := by
  rw [zW, decide_eq_true_eq] at h; rw [Gs, if_neg h, List.append_nil]
theorem rs_yes (f : Int → Int) (S p : List Int) (x : Int) : Ym (QX (JV f S p) (fun _ => false)) (f x) = QX (JV f S (p ++ [x])) (fun _ => false) := by rw [bm_del, vK]
theorem rs_no {f : Int → Int} {x : Int} {p S : List Int} (h : ¬ JI (QX (JV f S p) (fun _ => false)) (f x) = true) : QX (JV f S p) (fun _ => false) = QX (JV f S (p ++ [x])) (fun _ => false) := by
  rw [zW, decide_eq_true_eq] at h; rw [← rem_same h]
theorem VV (f : Int → Int) (S : List Int) : QX S (fun _ => false) = QX (JV f S []) (fun _ => false) := by unfold JV; rw [List.filter_eq_self.2 (by simp)]
theorem Up (f : Int → Int) : ∀ (l S : List Int), (ZI f S l).length ≤ l.length
  | [], S => Nat.le_refl _
  | x :: l, S => by
    simp only [ZI]; split
    · have := Up f l (S.filter (fun y => decide (y ≠ f x))); simp only [List.length_cons]; omega
    · have := Up f l S; simp only [List.length_cons]; omega
def sjI (f : Int → Int) (ll : List (List Int)) : Nat → List Int
  | 0 => QC ((ll.getD (ll.length - 1) []).map f)
  | j + 1 => (sjI f ll j).filter (mkd ((ll.getD (ll.length - 2 - j) []).map f))
theorem Vp (f : Int → Int) (ll : List (List Int)) : ∀ j, (sjI f ll j).Nodup
  | 0 => Uo _
  | j + 1 => (Vp f ll j).filter _
theorem vD {f : Int → Int} {ll : List (List Int)} {j : Nat} (h : sjI f ll j = []) : ∀ i, sjI f ll (j + i) = []
  | 0 => h
  | i + 1 => by show (sjI f ll (j + i)).filter _ = []; rw [vD h i]; rfl
theorem zj (f : Int → Int) (ll : List (List Int)) : ∀ j, (sjI f ll j).length ≤ (ll.getD (ll.length - 1) []).length
  | 0 => by
    show (QC _).length ≤ _
    have h : ∀ (l : List Int) (s : List Int), (l.foldl Ye s).length ≤ s.length + l.length := by
      intro l
      induction l with
      | nil => intro s; simp
      | cons a l ih => intro s; rw [List.foldl_cons]; have := ih (Ye s a); have h3 : (Ye s a).length ≤ s.length + 1 := (by unfold Ye; split <;> simp); simp only [List.length_cons]; omega
    have := h ((ll.getD (ll.length - 1) []).map f) []
    rw [List.length_map] at this
    unfold QC; simpa using this
  | j + 1 => Nat.le_trans (List.length_filter_le _ _) (zj f ll j)
def WI (f : Int → Int) (ll : List (List Int)) : List Int := ZI f (sjI f ll (ll.length - 2)) (ll.getD 0 [])
theorem Gj {f : Int → Int} {ll : List (List Int)} {k : Nat} (h : k ≤ ll.length - 2) (h2 : k = ll.length - 2 ∨ sjI f ll k = []) (l : List Int) : ZI f (sjI f ll k) l = ZI f (sjI f ll (ll.length - 2)) l := by
  rcases h2 with h2 | h2
  · rw [h2]
  · have := vD h2 (ll.length - 2 - k)
    rw [show k + (ll.length - 2 - k) = ll.length - 2 by omega] at this
    rw [h2, this]
theorem mem_sj {f : Int → Int} {ll : List (List Int)} {y : Int} : ∀ {j : Nat}, j + 2 ≤ ll.length ∨ j = 0 → (y ∈ sjI f ll j ↔ y ∈ (ll.getD (ll.length - 1) []).map f ∧ ∀ i, i < j → y ∈ (ll.getD (ll.length - 2 - i) []).map f)
  | 0, _ => by
    show y ∈ QC _ ↔ _
    rw [JZ]; exact ⟨fun h => ⟨h, fun i hi => by omega⟩, fun h => h.1⟩
  | j + 1, h => by
    show y ∈ (sjI f ll j).filter _ ↔ _
    rw [List.mem_filter, mem_sj (j := j) (by omega)]
    unfold mkd; rw [decide_eq_true_eq]
    constructor
    · rintro ⟨⟨h1, h2⟩, h3⟩
      refine ⟨h1, fun i hi => ?_⟩
      by_cases e : i = j
      · subst e; exact h3
      · exact h2 i (by omega)
    · rintro ⟨h1, h2⟩
      exact ⟨⟨h1, fun i hi => h2 i (by omega)⟩, h2 j (by omega)⟩
theorem mem_sjE {f : Int → Int} {ll : List (List Int)} {y : Int} (hl : 2 ≤ ll.length) : y ∈ sjI f ll (ll.length - 2) ↔ ∀ i, 1 ≤ i → i < ll.length → y ∈ (ll.getD i []).map f := by
  rw [mem_sj (by omega)]
  constructor
  · rintro ⟨h1, h2⟩ i h3 h4
    by_cases e : i = ll.length - 1
    · subst e; exact h1
    · have := h2 (ll.length - 2 - i) (by omega)
      rw [show ll.length - 2 - (ll.length - 2 - i) = i by omega] at this; exact this
  · intro h
    exact ⟨h _ (by omega) (by omega), fun i hi => h _ (by omega) (by omega)⟩
theorem yO {f : Int → Int} : ∀ {l S : List Int}, (∀ x ∈ ZI f S l, x ∈ l ∧ f x ∈ S) ∧ ((ZI f S l).map f).Nodup ∧ (∀ x ∈ l, f x ∈ S → f x ∈ (ZI f S l).map f)
  | [], S => by simp [ZI]
  | a :: l, S => by
    simp only [ZI]
    by_cases h : f a ∈ S
    · rw [if_pos h]
      obtain ⟨h1, h2, h3⟩ := yO (f := f) (l := l) (S := S.filter (fun y => decide (y ≠ f a)))
      refine ⟨fun x hx => ?_, ?_, fun x hx hs => ?_⟩
      · rcases List.mem_cons.1 hx with rfl | hx
        · exact ⟨List.mem_cons_self .., h⟩
        · exact ⟨List.mem_cons_of_mem _ (h1 x hx).1, (List.mem_filter.1 (h1 x hx).2).1⟩
      · rw [List.map_cons, List.nodup_cons]
        refine ⟨fun hm => ?_, h2⟩
        obtain ⟨x, hx, e⟩ := List.mem_map.1 hm
        have := (List.mem_filter.1 (h1 x hx).2).2
        rw [e] at this; simp at this
      · rw [List.map_cons]
        by_cases e : f x = f a
        · rw [e]; exact List.mem_cons_self ..
        · rcases List.mem_cons.1 hx with rfl | hx
          · exact absurd rfl e
          · exact List.mem_cons_of_mem _ (h3 x hx (List.mem_filter.2 ⟨hs, by simpa using e⟩))
    · rw [if_neg h]
      obtain ⟨h1, h2, h3⟩ := yO (f := f) (l := l) (S := S)
      refine ⟨fun x hx => ⟨List.mem_cons_of_mem _ (h1 x hx).1, (h1 x hx).2⟩, h2, fun x hx hs => ?_⟩
      rcases List.mem_cons.1 hx with rfl | hx
      · exact absurd hs h
      · exact h3 x hx hs
theorem vQ {ll : List (List Int)} {x : Int} (h0 : 0 < ll.length) : x ∈ WI (fun x => x) ll ↔ ∀ m ∈ ll, x ∈ m := by
  unfold WI
  obtain ⟨h1, h2, h3⟩ := yO (f := fun x => x) (l := ll.getD 0 []) (S := sjI (fun x => x) ll (ll.length - 2))
  have hd : ∀ i, i < ll.length → ll[i]? = some (ll.getD i []) := fun i hi => by rw [List.getD_eq_getElem?_getD, List.getElem?_eq_getElem hi]; rfl
  have hx : x ∈ ZI (fun x => x) (sjI (fun x => x) ll (ll.length - 2)) (ll.getD 0 []) ↔ x ∈ ll.getD 0 [] ∧ x ∈ sjI (fun x => x) ll (ll.length - 2) :=
    ⟨fun h => h1 x h, fun h => by have := h3 x h.1 h.2; simpa using this⟩
  rw [hx]
  by_cases hl : 2 ≤ ll.length
  · rw [mem_sjE hl]
    constructor
    · rintro ⟨ha, hb⟩ m hm
      obtain ⟨i, hi⟩ := List.getElem?_of_mem hm
      have hi2 := (List.getElem?_eq_some_iff.1 hi).1
      have e : m = ll.getD i [] := by have := hd i hi2; rw [hi] at this; exact Option.some.inj this
      by_cases hz : i = 0
      · subst hz; rw [e]; exact ha
      · have := hb i (by omega) hi2; rw [e]; simpa using this
    · intro h
      exact ⟨h _ (List.mem_of_getElem? (hd 0 h0)), fun i h5 h6 => by have := h _ (List.mem_of_getElem? (hd i h6)); simpa using this⟩
  · have e1 : ll.length = 1 := by omega
    obtain ⟨m0, rfl⟩ : ∃ m, ll = [m] := List.length_eq_one_iff.1 e1
    simp [sjI, JZ]
theorem jT : ∀ {D S : List Int}, D.Nodup → (∀ z ∈ D, z ∈ S) → D.length ≤ S.length
  | [], S, _, _ => Nat.zero_le _
  | x :: D, S, hn, h => by
    rw [List.nodup_cons] at hn
    have hx := List.perm_cons_erase (h x (List.mem_cons_self ..))
    have := jT (S := S.erase x) hn.2 fun z hz => (List.mem_erase_of_ne (fun e => hn.1 (by rw [← e]; exact hz))).2 (h z (List.mem_cons_of_mem _ hz))
    have h2 := hx.length_eq
    simp only [List.length_cons] at h2 ⊢; omega
theorem told_lt {D S : List Int} {f : Int → Bool} {k : Int} {u : Bool} (hn : D.Nodup) (h : ∀ z ∈ D, z ∈ S) (hm : (k, u) ∈ JX S f D) (hk : k ∉ D) : D.length < S.length := by
  have := jT (D := D ++ [k]) (S := S) (List.nodup_append.2 ⟨hn, by simp, fun a ha b hb => by simp at hb; subst hb; intro e; subst e; exact hk ha⟩) fun z hz => by
    rcases List.mem_append.1 hz with e | e
    · exact h z e
    · simp at e; rw [e]; exact (yu hm hk).1
  simp at this; omega
theorem vq {D S : List Int} {f : Int → Bool} {k : Int} {u : Bool} (h : ∀ z ∈ D, z ∈ S) (hm : (k, u) ∈ JX S f D) (hk : k ∉ D) : ∀ z ∈ D ++ [k], z ∈ S := fun z hz => by
  rcases List.mem_append.1 hz with e | e
  · exact h z e
  · simp at e; rw [e]; exact (yu hm hk).1
theorem qZ {D : List Int} {k : Int} (hn : D.Nodup) (hk : k ∉ D) : (D ++ [k]).Nodup :=
  List.nodup_append.2 ⟨hn, by simp, fun a ha b hb => by simp at hb; subst hb; intro e; subst e; exact hk ha⟩
theorem QV {ll : List (List Int)} {i : Nat} {n : Nat} {x : List Int} (h : ll[i]? = some x) (e : i = n) : ll.getD n [] = x := by
  subst e; rw [List.getD_eq_getElem?_getD, h]; rfl
theorem ZA (ll : List (List Int)) (i : Nat) (T : Nat) (h : ∀ x ∈ ll, x.length ≤ T) : (ll.getD i []).length ≤ T := by
  rw [List.getD_eq_getElem?_getD]
  cases e : ll[i]? with
  | none => simp
  | some x => exact h x (List.mem_of_getElem? e)
theorem bm_nil {S : List Int} {f : Int → Bool} (h : (QX S f).length = 0) : S = [] := by rw [zV] at h; exact List.eq_nil_of_length_eq_zero h
theorem at_yes {S X : List Int} {ll : List (List Int)} {n m : Nat} {x : Int} (F : Int → Int) (hn : S.Nodup) (h : X[m]? = some x) (e : ll.getD n [] = X) (hk : JI (QX S (mkd (((ll.getD n []).take m).map F))) (F x) = true) :
    JB (QX S (mkd (((ll.getD n []).take m).map F))) (F x) true = QX S (mkd (((ll.getD n []).take (m + 1)).map F)) := by
  rw [e] at hk ⊢; rw [Ju h, List.map_append]; exact mk_yes hn hk
theorem at_no {S X : List Int} {ll : List (List Int)} {n m : Nat} {x : Int} (F : Int → Int) (h : X[m]? = some x) (e : ll.getD n [] = X) (hk : JI (QX S (mkd (((ll.getD n []).take m).map F))) (F x) = false) :
    QX S (mkd (((ll.getD n []).take m).map F)) = QX S (mkd (((ll.getD n []).take (m + 1)).map F)) := by
  rw [e] at hk ⊢; rw [Ju h, List.map_append]; exact mk_no (by rw [hk]; simp)
theorem ad_new {X : List Int} {ll : List (List Int)} {n m : Nat} {x : Int} (F : Int → Int) (h : X[m]? = some x) (e : ll.getD n [] = X) :
    JB (QX (QC (((ll.getD n []).take m).map F)) (fun _ => false)) (F x) false = QX (QC (((ll.getD n []).take (m + 1)).map F)) (fun _ => false) := by
  rw [e, Ju h, List.map_append]; exact bm_add _ _
theorem GH {S X : List Int} {ll : List (List Int)} {n m : Nat} {x : Int} (F : Int → Int) (h : X[m]? = some x) (e : ll.getD n [] = X) :
    Ym (QX (JV F S ((ll.getD n []).take m)) (fun _ => false)) (F x) = QX (JV F S ((ll.getD n []).take (m + 1))) (fun _ => false) := by
  rw [e, Ju h]; exact rs_yes _ _ _ _
theorem jO {S X : List Int} {ll : List (List Int)} {n m : Nat} {x : Int} (F : Int → Int) (h : X[m]? = some x) (e : ll.getD n [] = X) (hk : JI (QX (JV F S ((ll.getD n []).take m)) (fun _ => false)) (F x) = false) :
    QX (JV F S ((ll.getD n []).take m)) (fun _ => false) = QX (JV F S ((ll.getD n []).take (m + 1))) (fun _ => false) := by
  rw [e] at hk ⊢; rw [Ju h]; exact rs_no (by rw [hk]; simp)
theorem UY {S X : List Int} {ll : List (List Int)} {n m : Nat} {x : Int} (F : Int → Int) (h : X[m]? = some x) (e : ll.getD n [] = X) (hk : JI (QX (JV F S ((ll.getD n []).take m)) (fun _ => false)) (F x) = true) :
    ZI F S ((ll.getD n []).take m) ++ [x] = ZI F S ((ll.getD n []).take (m + 1)) := by
  rw [e] at hk ⊢; rw [Ju h]; exact isc_yes hk
theorem ql {S X : List Int} {ll : List (List Int)} {n m : Nat} {x : Int} (F : Int → Int) (h : X[m]? = some x) (e : ll.getD n [] = X) (hk : JI (QX (JV F S ((ll.getD n []).take m)) (fun _ => false)) (F x) = false) :
    ZI F S ((ll.getD n []).take m) = ZI F S ((ll.getD n []).take (m + 1)) := by
  rw [e] at hk ⊢; rw [Ju h]; exact isc_no (by rw [hk]; simp)
theorem sd_nof {S D : List Int} {f : Int → Bool} {k : Int} {u : Bool} (h : (k, u) ∈ JX S f D) (hk : k ∉ D) (hu : u = false) : Ym (JX S f D) k = JX S f (D ++ [k]) := sd_no h hk (by rw [hu]; simp)
theorem vR (F : Int → Int) {ll : List (List Int)} {T : Nat} (h : ∀ x ∈ ll, x.length ≤ T) : (WI F ll).length ≤ T := by
  unfold WI; exact Nat.le_trans (Up _ _ _) (ZA ll 0 T h)
def JQ (f g : Int → Int → Int) : Int → List Int → List Int
  | _, [] => []
  | s, x :: l => f s x :: JQ f g (g s x) l
def Ya (g : Int → Int → Int) (s : Int) (l : List Int) : Int := l.foldl g s
theorem yd (g : Int → Int → Int) (s : Int) (l : List Int) (x : Int) : Ya g s (l ++ [x]) = g (Ya g s l) x := by simp [Ya]
theorem vS (f g : Int → Int → Int) : ∀ (a b : List Int) (s : Int), JQ f g s (a ++ b) = JQ f g s a ++ JQ f g (Ya g s a) b
  | [], b, s => rfl
  | x :: a, b, s => by simp only [List.cons_append, JQ, vS f g a b (g s x)]; rfl
theorem Wt (f g : Int → Int → Int) (s : Int) (l : List Int) (x : Int) : JQ f g s (l ++ [x]) = JQ f g s l ++ [f (Ya g s l) x] := vS ..
theorem Zj (f g : Int → Int → Int) : ∀ (l : List Int) (s : Int), (JQ f g s l).length = l.length
  | [], s => rfl
  | x :: l, s => by simp [JQ, Zj f g l]
def Zn (a b s x : Int) : Int := if s ≠ 0 ∧ x = a then b else x
def JF (a s x : Int) : Int := if s ≠ 0 ∧ x = a then w64 (s - 1) else s
theorem repG_no {a s x : Int} (hn : ¬ x = a ∨ s = 0) : JF a s x = s := by
  unfold JF; rw [if_neg]; rintro ⟨h2, h3⟩; rcases hn with h4 | h4 <;> contradiction
theorem repF_no {a b s x : Int} (hn : ¬ x = a ∨ s = 0) : Zn a b s x = x := by
  unfold Zn; rw [if_neg]; rintro ⟨h2, h3⟩; rcases hn with h4 | h4 <;> contradiction
theorem UV {f g : Int → Int → Int} {s : Int} {l : List Int} {k : Nat} {x : Int} (hk : k < l.length) (h : (JQ f g s (l.take k) ++ l.drop k)[k]? = some x) : l[k]? = some x := by
  have e : (JQ f g s (l.take k)).length = k := by rw [Zj, List.length_take]; omega
  rw [List.getElem?_append_right (by omega), e, Nat.sub_self, List.getElem?_drop] at h; simpa using h
theorem rp_set {f g : Int → Int → Int} {s : Int} {l : List Int} {k : Nat} {x : Int} (h : l[k]? = some x) : (JQ f g s (l.take k) ++ l.drop k).set k (f (Ya g s (l.take k)) x) = JQ f g s (l.take (k + 1)) ++ l.drop (k + 1) := by
  have hk := (List.getElem?_eq_some_iff.1 h).1
  have e : (JQ f g s (l.take k)).length = k := by rw [Zj, List.length_take]; omega
  rw [Ju h, Wt, List.set_append_right _ _ (by omega), e, Nat.sub_self, List.append_assoc]
  congr 1
  rw [List.drop_eq_getElem_cons hk]; rfl
theorem yv {a b s : Int} {l : List Int} {k : Nat} {x : Int} (hk : k < l.length) (h : (JQ (Zn a b) (JF a) s (l.take k) ++ l.drop k)[k]? = some x) (hx : x = a) (hs : ¬ Ya (JF a) s (l.take k) = 0) : (JQ (Zn a b) (JF a) s (l.take k) ++ l.drop k).set k b = JQ (Zn a b) (JF a) s (l.take (k + 1)) ++ l.drop (k + 1) := by
  rw [← rp_set (UV hk h)]; unfold Zn; rw [if_pos ⟨hs, hx⟩]
theorem rp_no {a b s : Int} {l : List Int} {k : Nat} {x : Int} (hk : k < l.length) (h : (JQ (Zn a b) (JF a) s (l.take k) ++ l.drop k)[k]? = some x) (hn : ¬ x = a ∨ Ya (JF a) s (l.take k) = 0) : JQ (Zn a b) (JF a) s (l.take k) ++ l.drop k = JQ (Zn a b) (JF a) s (l.take (k + 1)) ++ l.drop (k + 1) := by
  have h1 := UV hk h
  rw [Ju h1, Wt, List.append_assoc]
  congr 1
  rw [List.drop_eq_getElem_cons hk]
  have : l[k] = x := by rw [List.getElem?_eq_getElem hk] at h1; exact Option.some.inj h1
  rw [this]; unfold Zn; rw [if_neg]; rfl
  rintro ⟨h2, h3⟩; rcases hn with h4 | h4 <;> contradiction
theorem WQ {a s : Int} {l : List Int} {k : Nat} {x : Int} (h : l[k]? = some x) (hx : x = a) (hs : ¬ Ya (JF a) s (l.take k) = 0) : IntKind.i64.wrap (Ya (JF a) s (l.take k) - 1) = Ya (JF a) s (l.take (k + 1)) := by
  rw [Ju h, yd]; unfold JF; rw [if_pos ⟨hs, hx⟩]; rfl
theorem qg {a s : Int} {l : List Int} {k : Nat} {x : Int} (h : l[k]? = some x) (hn : ¬ x = a ∨ Ya (JF a) s (l.take k) = 0) : Ya (JF a) s (l.take k) = Ya (JF a) s (l.take (k + 1)) := by
  rw [Ju h, yd, repG_no hn]
theorem zo {a b s : Int} {l : List Int} {k : Nat} {x : Int} (h : l[k]? = some x) (hx : x = a) (hs : ¬ Ya (JF a) s (l.take k) = 0) : JQ (Zn a b) (JF a) s (l.take k) ++ [b] = JQ (Zn a b) (JF a) s (l.take (k + 1)) := by
  rw [Ju h, Wt]; unfold Zn; rw [if_pos ⟨hs, hx⟩]
theorem jP {a b s : Int} {l : List Int} {k : Nat} {x : Int} (h : l[k]? = some x) (hn : ¬ x = a ∨ Ya (JF a) s (l.take k) = 0) : JQ (Zn a b) (JF a) s (l.take k) ++ [x] = JQ (Zn a b) (JF a) s (l.take (k + 1)) := by
  rw [Ju h, Wt, repF_no hn]
theorem Zx {α : Type} {l : List α} {k : Nat} {x : α} (h : l[k]? = some x) : l.take (k + 1) = l.take k ++ [x] := by rw [List.take_add_one, h]; rfl
def g0 (l : List Int) (i : Nat) : Int := (l[i]?).getD 0
def full (a : List Int) (n : Nat) : List Int := a ++ List.replicate (n - a.length) 0
def zb (f : Int → Int → Int) (m : Nat) (a b : List Int) (k : Nat) : List Int := (List.range m).map fun i => if i < k then f (g0 a i) (g0 b i) else 0
def JA (n s : Nat) (l : List Int) (w : Nat) : List (List Int) := (List.range w).map fun i => (l.drop (i * s)).take n
def IsW (n s m w : Nat) : Prop := m < w * s + n ∧ (w = 0 ∨ (w - 1) * s + n ≤ m)
theorem IsW.uniq {n s m w w' : Nat} (h : IsW n s m w) (h' : IsW n s m w') : w = w' := by
  rcases Nat.lt_trichotomy w w' with h1 | h1 | h1
  · have h2 : w * s ≤ (w' - 1) * s := Nat.mul_le_mul_right s (by omega)
    rcases h'.2 with h3 | h3 <;> have := h.1 <;> omega
  · exact h1
  · have h2 : w' * s ≤ (w - 1) * s := Nat.mul_le_mul_right s (by omega)
    rcases h.2 with h3 | h3 <;> have := h'.1 <;> omega
def wN (n s m : Nat) : Nat := if m < n then 0 else (m - n) / s + 1
theorem wN_is {n s m : Nat} (hs : 0 < s) : IsW n s m (wN n s m) := by
  unfold wN IsW
  split
  · simp; omega
  · have h1 := Nat.div_mul_le_self (m - n) s
    have h2 : m - n < (m - n) / s * s + s := by
      have := Nat.div_add_mod (m - n) s
      have h3 := Nat.mod_lt (m - n) hs
      rw [Nat.mul_comm] at this; omega
    rw [Nat.succ_mul, Nat.add_sub_cancel]
    omega
def YY (n s : Nat) (l : List Int) : List (List Int) := JA n s l (wN n s l.length)
structure SlS where
  buf : List Int
  cnt : Nat
  skip : Nat
  out : List (List Int)
def IsV (n s m k : Nat) : Prop := k = 0 ∨ (k - 1) * s + n ≤ m
theorem IsV_zero (n s m : Nat) : IsV n s m 0 := .inl rfl
theorem IsV_succ {n s m k : Nat} (h : k * s + n ≤ m) : IsV n s m (k + 1) := .inr (by rw [Nat.add_sub_cancel]; exact h)
theorem win_end {n s k : Nat} {l : List Int} (hs : 0 < s) (h : IsV n s l.length k) (h2 : l.length < k * s + n) : YY n s l = JA n s l k := by
  unfold YY; rw [IsW.uniq (w := k) ⟨h2, h⟩ (wN_is hs)]
theorem JC (n s : Nat) (l : List Int) (k : Nat) : JA n s l k ++ [(l.drop (k * s)).take n] = JA n s l (k + 1) := by unfold JA; rw [List.range_succ, List.map_append]; rfl
theorem Jn (n s : Nat) (l : List Int) (k : Nat) : (JA n s l k).length = k := by simp [JA]
theorem qM {n a : Nat} {l : List Int} : (l.take (a + n)).drop a = (l.drop a).take n := by rw [List.drop_take]; congr 1; omega
theorem copy_win {n a : Nat} {l : List Int} (h : a + n ≤ l.length) : ((l.take (a + n)).drop a).take (List.replicate n (0 : Int)).length ++ (List.replicate n (0 : Int)).drop ((l.take (a + n)).drop a).length = (l.drop a).take n := by
  have e : ((l.take (a + n)).drop a).length = n := by rw [List.length_drop, List.length_take]; omega
  rw [e, List.drop_eq_nil_of_le (show (List.replicate n (0 : Int)).length ≤ n by simp), List.append_nil, List.length_replicate, List.take_of_length_le (by omega), qM]
theorem sli_none {n s : Nat} {l : List Int} (h : l.length < n) : YY n s l = [] := by unfold YY wN; rw [if_pos h]; rfl
theorem wN_le {n s m : Nat} (hs : 0 < s) (hn : 0 < n) : wN n s m ≤ m := by
  unfold wN; split
  · omega
  · have := Nat.div_le_self (m - n) s; omega
theorem yt {n s : Nat} {l : List Int} (hs : 0 < s) (hn : 0 < n) : (YY n s l).length ≤ l.length := by unfold YY; rw [Jn]; exact wN_le hs hn
theorem win_min {n s k : Nat} {l : List Int} (hn : 0 < n) (h : IsV n (min s l.length) l.length k) : JA n (min s l.length) l k = JA n s l k := by
  by_cases hs : s ≤ l.length
  · rw [Nat.min_eq_left hs]
  · rw [Nat.min_eq_right (by omega)] at h ⊢
    have hk : k ≤ 1 := by
      rcases h with h | h
      · omega
      · rcases Nat.lt_or_ge k 2 with h1 | h1
        · omega
        · have : 1 * l.length ≤ (k - 1) * l.length := Nat.mul_le_mul_right _ (by omega)
          omega
    unfold JA
    refine List.map_congr_left fun i hi => ?_
    have : i = 0 := by have := List.mem_range.1 hi; omega
    subst this; simp
theorem spw_end {n s k : Nat} {l : List Int} (hn : 0 < n) (hs : 0 < s) (h : IsV n (min s l.length) l.length k) (h2 : l.length < k * min s l.length + n) : YY n s l = JA n (min s l.length) l k := by
  rw [win_min hn h]
  refine win_end hs ?_ ?_
  · by_cases h3 : s ≤ l.length
    · rwa [Nat.min_eq_left h3] at h
    · rw [Nat.min_eq_right (by omega)] at h
      rcases Nat.lt_or_ge k 2 with h1 | h1
      · rcases h with h | h
        · exact .inl h
        · rcases Nat.eq_zero_or_pos k with h0 | h0
          · exact .inl h0
          · have e : k - 1 = 0 := by omega
            right; rw [e] at h ⊢; simpa using h
      · rcases h with h | h
        · omega
        · have : 1 * l.length ≤ (k - 1) * l.length := Nat.mul_le_mul_right _ (by omega)
          omega
  · have : k * min s l.length ≤ k * s := Nat.mul_le_mul_left k (Nat.min_le_left _ _)
    omega
def PF2U (P : Program) (fv : Value) (M : Hp) (f : Int → Int → Int × Int) : Prop := fv.oneCell' = true ∧ ∀ x i : Int, Pu P fv M [.int .i64 x, .int .i64 i] (fun r _ => r = .tuple #[.int .i64 (f x i).1, .int .i64 (f x i).2])
theorem PF2U.le {P : Program} {fv : Value} {M M' : Hp} {f : Int → Int → Int × Int} (h : PF2U P fv M f) (hM : Hp.le M M') : PF2U P fv M' f := ⟨h.1, fun x i => (h.2 x i).le hM⟩
def PF1U (P : Program) (fv : Value) (M : Hp) (f : Int → Int × Int) : Prop := fv.oneCell' = true ∧ ∀ x : Int, Pu P fv M [.int .i64 x] (fun r _ => r = .tuple #[.int .i64 (f x).1, .int .i64 (f x).2])
theorem PF1U.le {P : Program} {fv : Value} {M M' : Hp} {f : Int → Int × Int} (h : PF1U P fv M f) (hM : Hp.le M M') : PF1U P fv M' f := ⟨h.1, fun x => (h.2 x).le hM⟩
def PF2V (P : Program) (fv : Value) (M : Hp) (f : Int → Int → Int × Int × Bool) : Prop := fv.oneCell' = true ∧ ∀ x i : Int, Pu P fv M [.int .i64 x, .int .i64 i] (fun r _ => r = .tuple #[.int .i64 (f x i).1, .int .i64 (f x i).2.1, .bool (f x i).2.2])
theorem PF2V.le {P : Program} {fv : Value} {M M' : Hp} {f : Int → Int → Int × Int × Bool} (h : PF2V P fv M f) (hM : Hp.le M M') : PF2V P fv M' f := ⟨h.1, fun x i => (h.2 x i).le hM⟩
def RMp : Hp → List Value → List (Int × Int) → Prop := fun M cs q => ∃ v, cs = [v] ∧ RdM M v (QY (Value.int .i64) q)
theorem RdMp.at {M : Hp} {v : Value} {l : List (List (Int × Int))} {k : Nat} {e : List (Int × Int)} (h : RdS 1 RMp M v l) (he : l[k]? = some e) : ∃ p u, Zo v k 1 p ∧ Zm M p = some u ∧ RdM M u (QY (Value.int .i64) e) := by
  obtain ⟨p, u, h1, h2, ⟨v, h3, h4⟩⟩ := h.at1 he
  cases h3; exact ⟨p, u, h1, h2, h4⟩
theorem RdPP.at {M : Hp} {v : Value} {l : List (List (Int × Int))} {k : Nat} {e : List (Int × Int)} (h : RdS 1 (RSl 2 RP2) M v l) (he : l[k]? = some e) : ∃ p u, Zo v k 1 p ∧ Zm M p = some u ∧ RdS 2 RP2 M u e := by
  obtain ⟨p, u, h1, h2, ⟨v, h3, h4⟩⟩ := h.at1 he
  cases h3; exact ⟨p, u, h1, h2, h4⟩
def uqF (f : Int → Int) (s : List Int × List Int) (x : Int) : List Int × List Int := if f x ∈ s.1 then s else (s.1 ++ [f x], s.2 ++ [x])
def uqS (f : Int → Int) (l : List Int) : List Int × List Int := l.foldl (uqF f) ([], [])
theorem Ul (f : Int → Int) (l : List Int) (x : Int) : uqS f (l ++ [x]) = uqF f (uqS f l) x := by simp [uqS]
theorem Vc (f : Int → Int) (l : List Int) : (uqS f l).2.length ≤ l.length ∧ (uqS f l).1.length ≤ l.length :=
  ZQ (uqF f) (fun p s => s.2.length ≤ p.length ∧ s.1.length ≤ p.length) ([], []) ⟨Nat.le_refl _, Nat.le_refl _⟩ (fun p x h => by
    generalize p.foldl (uqF f) ([], []) = s at h ⊢
    unfold uqF; split <;> simp <;> omega) _ l rfl
theorem WM {f : Int → Int} {l : List Int} {k : Nat} {x : Int} (h : l[k]? = some x) (e : f x ∈ (uqS f (l.take k)).1) : uqS f (l.take (k + 1)) = uqS f (l.take k) := by rw [Zx h, Ul]; exact if_pos e
theorem YL {f : Int → Int} {l : List Int} {k : Nat} {x : Int} (h : l[k]? = some x) (e : f x ∉ (uqS f (l.take k)).1) : uqS f (l.take (k + 1)) = ((uqS f (l.take k)).1 ++ [f x], (uqS f (l.take k)).2 ++ [x]) := by rw [Zx h, Ul]; exact if_neg e
theorem ym {f : Int → Int} {l : List Int} {x : Int} (e : f x ∈ (uqS f l).1) : uqS f (l ++ [x]) = uqS f l := by rw [Ul]; exact if_pos e
theorem WZ {f : Int → Int} {l : List Int} {x : Int} (e : f x ∉ (uqS f l).1) : uqS f (l ++ [x]) = ((uqS f l).1 ++ [f x], (uqS f l).2 ++ [x]) := by rw [Ul]; exact if_neg e
theorem zX {s : List Int} {x : Int} (h : x ∉ s) : Ye s x = s ++ [x] := if_neg h
def dupF (f : Int → Int) (q : List (Int × Bool)) (x : Int) : List (Int × Bool) := if Jk false q (f x) = true then q else JB q (f x) (JI q (f x))
def Qw (f : Int → Int) (l : List Int) : List (Int × Bool) := l.foldl (dupF f) []
theorem Gx (f : Int → Int) (l : List Int) (x : Int) : Qw f (l ++ [x]) = dupF f (Qw f l) x := by simp [Qw]
theorem dup_yes {f : Int → Int} {l : List Int} {k : Nat} {x : Int} (h : l[k]? = some x) (e : Jk false (Qw f (l.take k)) (f x) = true) : Qw f (l.take k) = Qw f (l.take (k + 1)) := by rw [Zx h, Gx]; exact (if_pos e).symm
theorem dup_no {f : Int → Int} {l : List Int} {k : Nat} {x : Int} (h : l[k]? = some x) (e : ¬ Jk false (Qw f (l.take k)) (f x) = true) : JB (Qw f (l.take k)) (f x) (JI (Qw f (l.take k)) (f x)) = Qw f (l.take (k + 1)) := by rw [Zx h, Gx]; exact (if_neg e).symm
theorem dup1_yes {f : Int → Int} {l : List Int} {x : Int} (e : Jk false (Qw f l) (f x) = true) : Qw f l = Qw f (l ++ [x]) := by rw [Gx]; exact (if_pos e).symm
theorem dup1_no {f : Int → Int} {l : List Int} {x : Int} (e : ¬ Jk false (Qw f l) (f x) = true) : JB (Qw f l) (f x) (JI (Qw f l) (f x)) = Qw f (l ++ [x]) := by rw [Gx]; exact (if_neg e).symm
theorem putK_leB {β : Type} (q : List (Int × β)) (k : Int) (v : β) : q.length ≤ (JB q k v).length ∧ (JB q k v).length ≤ q.length + 1 := by
  have h := congrArg List.length (GI q k v)
  rw [List.length_map] at h
  rw [h]; split <;> simp
theorem ZD (f : Int → Int) (l : List Int) : (Qw f l).length ≤ l.length :=
  ZQ (dupF f) (fun p s => s.length ≤ p.length) [] (Nat.le_refl _) (fun p x h => by
    generalize p.foldl (dupF f) [] = s at h ⊢
    have := putK_leB s (f x) (JI s (f x))
    unfold dupF; split <;> simp <;> omega) _ l rfl
def Zu (q : List (Int × Bool)) : Nat := (q.filter Prod.snd).length
theorem Yj (q : List (Int × Bool)) : Zu q ≤ q.length := List.length_filter_le _ _
theorem cntT_put {q : List (Int × Bool)} {k : Int} (h : ¬ Jk false q k = true) (v : Bool) : Zu (JB q k v) = Zu q + (if v then 1 else 0) := by
  induction q with
  | nil => cases v <;> simp [JB, Zu]
  | cons a q ih =>
    obtain ⟨a1, a2⟩ := a
    simp only [JB]
    by_cases e : a1 = k
    · rw [if_pos e]
      have : a2 = false := by simp only [Jk, if_pos e] at h; simpa using h
      subst this
      cases v <;> simp [Zu]
    · rw [if_neg e]
      have ih := ih (by simp only [Jk, if_neg e] at h; exact h)
      unfold Zu at ih ⊢
      cases a2 <;> simp only [List.filter_cons, Bool.false_eq_true, if_true, if_false, List.length_cons] <;> omega
def fdF (f : Int → Int) (s : List (Int × Bool) × List Int) (x : Int) : List (Int × Bool) × List Int := if Jk false s.1 (f x) = true then (JB s.1 (f x) false, s.2 ++ [x]) else s
def fdS (f : Int → Int) (Q : List (Int × Bool)) (l : List Int) : List (Int × Bool) × List Int := l.foldl (fdF f) (Q, [])
theorem va (f : Int → Int) (Q : List (Int × Bool)) (l : List Int) (x : Int) : fdS f Q (l ++ [x]) = fdF f (fdS f Q l) x := by simp [fdS]
theorem Wc {f : Int → Int} {Q : List (Int × Bool)} {l : List Int} {k : Nat} {x : Int} (h : l[k]? = some x) (e : Jk false (fdS f Q (l.take k)).1 (f x) = true) : fdS f Q (l.take (k + 1)) = (JB (fdS f Q (l.take k)).1 (f x) false, (fdS f Q (l.take k)).2 ++ [x]) := by rw [Zx h, va]; exact if_pos e
theorem fd_no {f : Int → Int} {Q : List (Int × Bool)} {l : List Int} {k : Nat} {x : Int} (h : l[k]? = some x) (e : ¬ Jk false (fdS f Q (l.take k)).1 (f x) = true) : fdS f Q (l.take (k + 1)) = fdS f Q (l.take k) := by rw [Zx h, va]; exact if_neg e
theorem Gw (f : Int → Int) (Q : List (Int × Bool)) (l : List Int) : (fdS f Q l).2.length ≤ l.length :=
  ZQ (fdF f) (fun p s => s.2.length ≤ p.length) (Q, []) (Nat.le_refl _) (fun p x h => by
    generalize p.foldl (fdF f) (Q, []) = s at h ⊢
    unfold fdF; split <;> simp <;> omega) _ l rfl
theorem flt1_yes {f : Int → Bool} {l : List Int} {k : Nat} {x : Int} (h : l[k]? = some x) (e : f x = true) : (l.take k).filter f ++ [x] = (l.take (k + 1)).filter f := by rw [Zx h, List.filter_append, List.filter_cons_of_pos e]; rfl
theorem flt1_no {f : Int → Bool} {l : List Int} {k : Nat} {x : Int} (h : l[k]? = some x) (e : f x = false) : (l.take k).filter f = (l.take (k + 1)).filter f := by rw [Zx h, List.filter_append, List.filter_cons_of_neg (by rw [e]; simp)]; simp
theorem YT {f : Int → Int} {l : List Int} {k : Nat} {x : Int} (h : l[k]? = some x) (e : (!Jk false (Qw f (l.take k)) (f x)) = false) : Qw f (l.take k) = Qw f (l.take (k + 1)) := dup_yes h (by simpa using e)
theorem YA {f : Int → Int} {l : List Int} {k : Nat} {x : Int} (h : l[k]? = some x) (e : (!Jk false (Qw f (l.take k)) (f x)) = true) : JB (Qw f (l.take k)) (f x) (JI (Qw f (l.take k)) (f x)) = Qw f (l.take (k + 1)) := dup_no h (by simpa using e)
theorem cnt_y {f : Int → Int} {l : List Int} {k : Nat} {x : Int} (h : l[k]? = some x) (e : (!Jk false (Qw f (l.take k)) (f x)) = false) : Zu (Qw f (l.take k)) = Zu (Qw f (l.take (k + 1))) := by rw [← YT h e]
theorem cnt_n {f : Int → Int} {l : List Int} {k : Nat} {x : Int} (h : l[k]? = some x) (e : (!Jk false (Qw f (l.take k)) (f x)) = true) (s : JI (Qw f (l.take k)) (f x) = false) : Zu (Qw f (l.take k)) = Zu (Qw f (l.take (k + 1))) := by
  rw [← YA h e, cntT_put (by simpa using e), s]; rfl
theorem cnt_i {f : Int → Int} {l : List Int} {k : Nat} {x : Int} (h : l[k]? = some x) (e : (!Jk false (Qw f (l.take k)) (f x)) = true) (s : JI (Qw f (l.take k)) (f x) = true) : Zu (Qw f (l.take k)) + 1 = Zu (Qw f (l.take (k + 1))) := by
  rw [← YA h e, cntT_put (by simpa using e), s]; rfl
theorem fd_n {f : Int → Int} {Q : List (Int × Bool)} {l : List Int} {k : Nat} {x : Int} (h : l[k]? = some x) (e : Jk false (fdS f Q (l.take k)).1 (f x) = false) : fdS f Q (l.take (k + 1)) = fdS f Q (l.take k) := fd_no h (by simp [e])
theorem vB {C : List Int → Prop} (h0 : C []) (h1 : ∀ p x, C p → C (p ++ [x])) : ∀ l, C l := by
  have : ∀ n (l : List Int), l.length = n → C l := by
    intro n
    induction n with
    | zero => intro l h; rw [List.eq_nil_of_length_eq_zero h]; exact h0
    | succ n ih =>
      intro l h
      have hne : l ≠ [] := by intro e; subst e; simp at h
      obtain ⟨A, x, rfl⟩ : ∃ A x, l = A ++ [x] := ⟨l.dropLast, l.getLast hne, (List.dropLast_concat_getLast hne).symm⟩
      exact h1 A x (ih A (by simpa using h))
  exact fun l => this _ l rfl
theorem uqS_id (l : List Int) : uqS (fun x => x) l = (QC l, QC l) := by
  refine vB (C := fun l => uqS (fun x => x) l = (QC l, QC l)) rfl (fun p x h => ?_) l
  have e : QC (p ++ [x]) = Ye (QC p) x := by simp [QC]
  rw [Ul, h, e]; unfold uqF Ye
  by_cases c : x ∈ QC p
  · rw [if_pos c, if_pos c]
  · rw [if_neg c, if_neg c]
theorem YK (f : Int → Int) (l : List Int) : (∀ k, k ∈ (uqS f l).1 ↔ k ∈ l.map f) ∧ (uqS f l).1 = (uqS f l).2.map f ∧ (uqS f l).1.Nodup := by
  refine vB (C := fun l => (∀ k, k ∈ (uqS f l).1 ↔ k ∈ l.map f) ∧ (uqS f l).1 = (uqS f l).2.map f ∧ (uqS f l).1.Nodup) ⟨fun k => by simp [uqS], rfl, by simp [uqS]⟩ (fun p x h => ?_) l
  obtain ⟨h1, h2, h3⟩ := h
  by_cases c : f x ∈ (uqS f p).1
  · rw [ym c]
    refine ⟨fun k => ?_, h2, h3⟩
    rw [h1, List.map_append, List.mem_append]
    constructor
    · exact .inl
    · rintro (h | h)
      · exact h
      · simp at h; rw [h, ← h1]; exact c
  · rw [WZ c]
    refine ⟨fun k => ?_, by rw [List.map_append, h2]; rfl, List.nodup_append.2 ⟨h3, by simp, fun a ha b hb => by simp at hb; subst hb; intro e; subst e; exact c ha⟩⟩
    rw [List.map_append, List.mem_append, List.mem_append, h1]; rfl
def cn (f : Int → Int) (l : List Int) (k : Int) : Nat := (l.map f).count k
theorem zT (f : Int → Int) (l : List Int) (x k : Int) : cn f (l ++ [x]) k = cn f l k + (if f x = k then 1 else 0) := by
  unfold cn; rw [List.map_append, List.count_append]
  by_cases h : f x = k
  · rw [if_pos h, List.map_singleton, h, List.count_singleton_self]
  · rw [if_neg h, List.map_singleton]; simp [List.count_singleton, h]
theorem getB_put {β : Type} (z : β) (q : List (Int × β)) (k : Int) (v : β) (key : Int) : Jk z (JB q k v) key = if k = key then v else Jk z q key := by
  induction q with
  | nil => simp only [JB, Jk]
  | cons a q ih =>
    obtain ⟨a1, a2⟩ := a
    simp only [JB]
    by_cases h : a1 = k
    · subst h; simp only [if_true, Jk]
      by_cases h2 : a1 = key <;> simp [h2]
    · rw [if_neg h]; simp only [Jk]
      by_cases h2 : a1 = key
      · rw [if_pos h2]; subst h2; rw [if_neg (fun e => h e.symm), if_pos rfl]
      · rw [if_neg h2, ih, if_neg h2]
theorem hasB_put {β : Type} (q : List (Int × β)) (k : Int) (v : β) (key : Int) : JI (JB q k v) key = (decide (k = key) || JI q key) := by
  unfold JI
  rw [GI]
  by_cases h : k ∈ q.map Prod.fst
  · rw [if_pos h]
    by_cases e : k = key
    · subst e; simp [h]
    · simp [e]
  · rw [if_neg h]
    rw [Bool.eq_iff_iff, Bool.or_eq_true, decide_eq_true_eq, decide_eq_true_eq, decide_eq_true_eq, List.mem_append, List.mem_singleton]
    constructor
    · rintro (h | h)
      · exact .inr h
      · exact .inl h.symm
    · rintro (h | h)
      · exact .inr h.symm
      · exact .inl h
theorem dup_spec (f : Int → Int) (l : List Int) : (∀ k, JI (Qw f l) k = decide (1 ≤ cn f l k)) ∧ ∀ k, Jk false (Qw f l) k = decide (2 ≤ cn f l k) := by
  refine vB (C := fun l => (∀ k, JI (Qw f l) k = decide (1 ≤ cn f l k)) ∧ ∀ k, Jk false (Qw f l) k = decide (2 ≤ cn f l k)) ⟨fun k => by simp [Qw, JI, cn], fun k => by simp [Qw, Jk, cn]⟩ (fun p x h => ?_) l
  obtain ⟨h1, h2⟩ := h
  by_cases c : Jk false (Qw f p) (f x) = true
  · rw [← dup1_yes c]
    have c2 : 2 ≤ cn f p (f x) := by rw [h2] at c; simpa using c
    refine ⟨fun k => ?_, fun k => ?_⟩
    · rw [h1, zT, decide_eq_decide]; split
      · rename_i e; subst e; omega
      · omega
    · rw [h2, zT, decide_eq_decide]; split
      · rename_i e; subst e; omega
      · omega
  · rw [← dup1_no c]
    have c2 : ¬ 2 ≤ cn f p (f x) := by rw [h2] at c; simpa using c
    refine ⟨fun k => ?_, fun k => ?_⟩
    · rw [hasB_put, h1, zT, Bool.eq_iff_iff, Bool.or_eq_true, decide_eq_true_eq, decide_eq_true_eq, decide_eq_true_eq]
      by_cases e : f x = k
      · rw [if_pos e]; constructor
        · intro _; omega
        · intro _; exact .inl e
      · rw [if_neg e]; constructor
        · rintro (h | h)
          · exact absurd h e
          · omega
        · intro h; exact .inr (by omega)
    · rw [getB_put]
      by_cases e : f x = k
      · subst e; rw [if_pos rfl, h1, zT, if_pos rfl, decide_eq_decide]; omega
      · rw [if_neg e, h2, zT, if_neg e, Nat.add_zero]
def cano (f : Int → Int) (l : List Int) : List Int := (uqS f l).2.filter fun z => decide (2 ≤ cn f l (f z))
theorem fd_spec (f : Int → Int) (Q : List (Int × Bool)) (l : List Int) : (∀ k, Jk false (fdS f Q l).1 k = (Jk false Q k && !decide (k ∈ l.map f))) ∧ (fdS f Q l).2 = (uqS f l).2.filter fun z => Jk false Q (f z) := by
  refine vB (C := fun l => (∀ k, Jk false (fdS f Q l).1 k = (Jk false Q k && !decide (k ∈ l.map f))) ∧ (fdS f Q l).2 = (uqS f l).2.filter fun z => Jk false Q (f z)) ⟨fun k => by simp [fdS], by simp [fdS, uqS]⟩ (fun p x h => ?_) l
  obtain ⟨h1, h2⟩ := h
  have hk := YK f p
  rw [va]; unfold fdF
  by_cases c : Jk false (fdS f Q p).1 (f x) = true
  · rw [if_pos c]
    rw [h1, Bool.and_eq_true, Bool.not_eq_true', decide_eq_false_iff_not] at c
    have hn : f x ∉ (uqS f p).1 := by rw [hk.1]; exact c.2
    refine ⟨fun k => ?_, ?_⟩
    · show Jk false (JB _ _ _) k = _
      rw [getB_put, h1, List.map_append]
      by_cases e : f x = k
      · subst e; rw [if_pos rfl]; simp
      · rw [if_neg e]; congr 2; rw [decide_eq_decide, List.mem_append]
        constructor
        · exact .inl
        · rintro (h | h)
          · exact h
          · simp at h; exact absurd h.symm e
    · show (fdS f Q p).2 ++ [x] = _
      rw [WZ hn, h2, List.filter_append, List.filter_cons_of_pos (by exact c.1)]; rfl
  · rw [if_neg c]
    rw [h1, Bool.and_eq_true, Bool.not_eq_true', decide_eq_false_iff_not] at c
    refine ⟨fun k => ?_, ?_⟩
    · rw [h1, List.map_append, Bool.eq_iff_iff, Bool.and_eq_true, Bool.and_eq_true, Bool.not_eq_true', Bool.not_eq_true', decide_eq_false_iff_not, decide_eq_false_iff_not, List.mem_append]
      constructor
      · rintro ⟨a, b⟩
        refine ⟨a, ?_⟩
        rintro (h | h)
        · exact b h
        · simp at h; subst h; exact c ⟨a, b⟩
      · rintro ⟨a, b⟩; exact ⟨a, fun h => b (.inl h)⟩
    · rw [h2]
      by_cases hn : f x ∈ (uqS f p).1
      · rw [ym hn]
      · rw [WZ hn, List.filter_append]
        have hq : ¬ Jk false Q (f x) = true := fun a => c ⟨a, by rw [← hk.1]; exact hn⟩
        rw [List.filter_cons_of_neg (by exact hq)]; simp
theorem Wx (f : Int → Int) (l : List Int) : (fdS f (Qw f l) l).2 = cano f l := by
  rw [(fd_spec f (Qw f l) l).2]; unfold cano
  exact List.filter_congr fun z _ => (dup_spec f l).2 (f z)
theorem vv {q L : List Int} (hn : q.Nodup) (h : ∀ z, z ∈ q ↔ z ∈ L) : VH q = QW L := by
  have hs := Yn L
  exact VS (Vx q) hs.1.le ((VQ q).trans ((List.perm_ext_iff_of_nodup hn hs.1.nodup).2 fun z => by rw [h, hs.2.1]))
theorem srtM_key (l : List Int) : VH (QC l) = QW l := vv (Uo l) fun z => JZ
theorem sortI_key (l : List Int) : Ji (QC l) = QW l := by
  rw [← srtM_key]; exact VS (yr _) (Vx _) ((sortI_perm _).trans (VQ _).symm)
theorem YI : ∀ {l : List Int} {k : Nat} {x : Int}, l[k]? = some x → (fiI (eqx x) l = (k : Int) ↔ x ∉ l.take k)
  | [], k, x, h => by simp at h
  | a :: l, 0, x, h => by
    have e : a = x := by simpa using h
    rw [Vr]; simp [eqx, e]
  | a :: l, k + 1, x, h => by
    have ih := YI (l := l) (k := k) (x := x) (by simpa using h)
    rw [Vr, List.take_succ_cons, List.mem_cons, not_or]
    by_cases e : a = x
    · have e1 : eqx x a = true := decide_eq_true e
      rw [if_pos e1]
      constructor
      · intro h2; exfalso; omega
      · intro h2; exact absurd e.symm h2.1
    · have e1 : ¬ eqx x a = true := by simp [eqx, e]
      rw [if_neg e1, ← ih]
      constructor
      · intro h2; refine ⟨fun h3 => e h3.symm, ?_⟩; split at h2 <;> omega
      · intro h2; split <;> omega
def PFAB (P : Program) (fv : Value) (M : Hp) (f : Int × Int → Bool) : Prop := fv.oneCell' = true ∧ ∀ x y : Int, ((-9223372036854775808 ≤ x ∧ x ≤ 9223372036854775807) ∧ (-9223372036854775808 ≤ y ∧ y ≤ 9223372036854775807)) → Pu P fv M [.agg #[.int .i64 x, .int .i64 y]] (fun r _ => r = .bool (f (x, y)))
theorem PFAB.le {P : Program} {fv : Value} {M M' : Hp} {f : Int × Int → Bool} (h : PFAB P fv M f) (hM : Hp.le M M') : PFAB P fv M' f := ⟨h.1, fun x y g => (h.2 x y g).le hM⟩
def RA2 : Hp → List Value → List (Int × Int) × List (Int × Int) → Prop := fun M cs x => ∃ u v, cs = [u, v] ∧ RdS 2 RP2 M u x.1 ∧ RdS 2 RP2 M v x.2
theorem RdA2.at {M : Hp} {v : Value} {l : List (List (Int × Int) × List (Int × Int))} {k : Nat} {e : List (Int × Int) × List (Int × Int)} (h : RdS 2 RA2 M v l) (he : l[k]? = some e) : ∃ p u1 u2, Zo v k 2 p ∧ GX M p [u1, u2] ∧ RdS 2 RP2 M u1 e.1 ∧ RdS 2 RP2 M u2 e.2 := by
  obtain ⟨p, cs, h1, h2, ⟨u1, u2, h3, h5, h6⟩, h4⟩ := RdS.at h he
  subst h3; exact ⟨p, u1, u2, h1, h4, h5, h6⟩
theorem Ws : ∀ {A H : List QD} {h : Hq}, sat (A ++ H) h ↔ ∃ g1 g2, Hp.disj g1 g2 ∧ h = Hp.union g1 g2 ∧ sat A g1 ∧ sat H g2
  | [], H, h => ⟨fun s => ⟨Hp.emp, h, (Hp.disj_emp h).symm, (Hp.emp_union h).symm, rfl, s⟩, fun ⟨g1, g2, d, e, h1, h2⟩ => by
    have : g1 = Hp.emp := h1
    subst this; rw [Hp.emp_union] at e; subst e; exact h2⟩
  | p :: A, H, h => by
    constructor
    · rintro ⟨g1, g2, d, e, hp, hs⟩
      obtain ⟨g3, g4, d', e', h3, h4⟩ := Ws.1 hs
      subst e'; subst e
      have ⟨d1, d2⟩ := Hp.disj_union_right.1 d
      exact ⟨Hp.union g1 g3, g4, Hp.disj_union_left.2 ⟨d2, d'⟩, (Hp.union_assoc ..).symm, ⟨g1, g3, d1, rfl, hp, h3⟩, h4⟩
    · rintro ⟨g1, g2, d, e, ⟨g3, g4, d', e', hp, h4⟩, hs⟩
      subst e'; subst e
      have ⟨d1, d2⟩ := Hp.disj_union_left.1 d
      exact ⟨g3, Hp.union g4 g2, Hp.disj_union_right.2 ⟨d', d1⟩, Hp.union_assoc .., hp, Ws.2 ⟨g4, g2, d2, rfl, h4, hs⟩⟩
def grp (A : List QD) : QD := fun h => sat A h
theorem ungrp {w : World} {M : Hp} {A H : List QD} (s : St w M (grp A :: H)) : St w M (A ++ H) := s.of_sat fun _ ⟨g1, g2, d, e, h1, h2⟩ => Ws.2 ⟨g1, g2, d, e, h1, h2⟩
theorem regrp {w : World} {M : Hp} {A H : List QD} (s : St w M (A ++ H)) : St w M (grp A :: H) := s.of_sat fun _ h => let ⟨g1, g2, d, e, h1, h2⟩ := Ws.1 h; ⟨g1, g2, d, e, h1, h2⟩
abbrev MLE := List (Int × Value × List Int)
def YS (e : TypeId) (u : Value × List Int) : QD := QR e u.1 u.2
def RG2 : Hp → List Value → Int × List Int → Prop := fun M cs x => ∃ v, cs = [.int .i64 x.1, v] ∧ RdI M v x.2
theorem RdG2.at {M : Hp} {v : Value} {l : List (Int × List Int)} {k : Nat} {e : Int × List Int} (h : RdS 2 RG2 M v l) (he : l[k]? = some e) : ∃ p u, Zo v k 2 p ∧ GX M p [.int .i64 e.1, u] ∧ RdI M u e.2 := by
  obtain ⟨p, cs, h1, h2, ⟨u, h3, h5⟩, h4⟩ := RdS.at h he
  subst h3; exact ⟨p, u, h1, h4, h5⟩
theorem St.under2 {w : World} {M : Hp} {p q : QD} {H H' : List QD} (s : St w M (p :: q :: H)) (f : ∀ h, sat H h → sat H' h) : St w M (p :: q :: H') := s.of_sat fun _ h => UT (fun _ => UT f) h
def RdML (M : Hp) (v : Value) (q : List (Int × List Int)) : Prop := ∃ t : MLE, t.map (fun x => (x.1, x.2.2)) = q ∧ RdM M v (QY Prod.fst t) ∧ ∀ x ∈ t, RdI M x.2.1 x.2.2
theorem RdML.le {M M' : Hp} {v : Value} {q : List (Int × List Int)} (h : RdML M v q) (hM : Hp.le M M') : RdML M' v q := by
  obtain ⟨t, h1, h2, h3⟩ := h; exact ⟨t, h1, h2.le hM, fun x hx => (h3 x hx).le hM⟩
theorem RdML.one' {M : Hp} {v : Value} {q : List (Int × List Int)} (h : RdML M v q) : v.oneCell' = true := by obtain ⟨_, _, h, _⟩ := h; exact h.one'
theorem RdML.nodup {M : Hp} {v : Value} {q : List (Int × List Int)} (h : RdML M v q) : (q.map Prod.fst).Nodup := by
  obtain ⟨t, h1, h2, _⟩ := h
  have := h2.nodup
  rw [jX] at this
  rw [← h1, List.map_map]; exact this
theorem snoc_ind {P : List Int → Prop} (h0 : P []) (h1 : ∀ l x, P l → P (l ++ [x])) (l : List Int) : P l := by
  have : ∀ n (l : List Int), l.length = n → P l := by
    intro n
    induction n with
    | zero => intro l h; rw [List.eq_nil_of_length_eq_zero h]; exact h0
    | succ n ih =>
      intro l h
      have hne : l ≠ [] := by intro e; subst e; simp at h
      rw [(List.dropLast_concat_getLast hne).symm]
      exact h1 _ _ (ih _ (by simp [h]))
  exact this _ l rfl
section
variable {r : Option Nat} {P : Program} {Q : Exit → Act → World → Prop} {a : Act} {w : World}
  {n : Nat} {ds : List Deferred} {l : List (Nat × Value)} {ty t : TypeId} {pos : String} {af : Array Edge} {gd : Option (Nat × Bool)} {x y : Operand}
  {next : Act → World → Prop} {M : Hp} {H : List QD}
end
theorem Wu {k n x i : Int} (hn : -9223372036854775808 ≤ n ∧ n ≤ 9223372036854775807) (hx : -9223372036854775808 ≤ x ∧ x ≤ 9223372036854775807) (hi : -9223372036854775808 ≤ i ∧ i ≤ 9223372036854775807) : -9223372036854775808 ≤ Qs k n x i ∧ Qs k n x i ≤ 9223372036854775807 := by
  unfold Qs
  split
  · exact jI _
  split
  · exact jI _
  split
  · split
    · exact hx
    · rename_i h
      have h1 := Int.emod_nonneg x h
      have h2 := Int.emod_lt x h
      omega
  split
  · exact hn
  split
  · exact hi
  · exact hx
theorem keys_rng {k n : Int} {l : List Int} (hn : -9223372036854775808 ≤ n ∧ n ≤ 9223372036854775807) (hr : ∀ x ∈ l, -9223372036854775808 ≤ x ∧ x ≤ 9223372036854775807) : ∀ y ∈ l.map (fun x => Qs k n x 0), -9223372036854775808 ≤ y ∧ y ≤ 9223372036854775807 := by
  intro y hy
  obtain ⟨x, hx, rfl⟩ := List.mem_map.1 hy
  exact Wu hn (hr x hx) (by omega)
def VF (e2 e : TypeId) (v : Value) (q : List (List Int)) : QD := fun h => ∃ t : List (Value × List Int), t.map Prod.snd = q ∧ grp (JD e2 1 v t.length (t.map Prod.fst) :: t.map (YS e)) h
theorem yA {w : World} {M : Hp} {H : List QD} {e2 e : TypeId} {v : Value} {q : List (List Int)} (s : St w M (VF e2 e v q :: H)) : ∃ t : List (Value × List Int), t.map Prod.snd = q ∧ St w M (JD e2 1 v t.length (t.map Prod.fst) :: ((t.map (YS e)) ++ H)) := by
  obtain ⟨t, s⟩ := St.ex (P := fun (t : List (Value × List Int)) h => t.map Prod.snd = q ∧ grp (JD e2 1 v t.length (t.map Prod.fst) :: t.map (YS e)) h) s
  obtain ⟨h, s⟩ := St.pure_ s
  exact ⟨t, h, ungrp s⟩
theorem ve {w : World} {M : Hp} {H : List QD} {e2 e : TypeId} {v : Value} {t : List (Value × List Int)} (s : St w M (JD e2 1 v t.length (t.map Prod.fst) :: ((t.map (YS e)) ++ H))) : St w M (VF e2 e v (t.map Prod.snd) :: H) :=
  (regrp (A := JD e2 1 v t.length (t.map Prod.fst) :: t.map (YS e)) s).imp fun _ h => ⟨t, rfl, h⟩
theorem newLL {w : World} {M : Hp} {H : List QD} {e2 e : TypeId} {v : Value} (s : St w M (JD e2 1 v 0 [] :: H)) : St w M (VF e2 e v [] :: H) := ve (t := ([] : List (Value × List Int))) s
theorem reLL {w : World} {M : Hp} {H : List QD} {e2 e : TypeId} {v : Value} {q q' : List (List Int)} (s : St w M (VF e2 e v q :: H)) (h : q = q') : St w M (VF e2 e v q' :: H) := h ▸ s
theorem lookLL {w : World} {M : Hp} {H : List QD} {e2 e : TypeId} {v : Value} {q : List (List Int)} (k : Nat) (hk : k < q.length) (s : St w M (VF e2 e v q :: H)) :
    ∃ (xs : List Value) (rest : List QD) (hv : Value) (l : List Int), xs[k]? = some hv ∧ q[k]? = some l ∧
      (∀ (w' : World) (M' : Hp) (H' : List QD) (hv' : Value) (l' : List Int), St w' M' (JD e2 1 v q.length (xs.set k hv') :: QR e hv' l' :: grp rest :: H') → St w' M' (VF e2 e v (q.set k l') :: H')) ∧
      St w M (JD e2 1 v q.length xs :: QR e hv l :: grp rest :: H) := by
  obtain ⟨t, hq, s0⟩ := yA s
  subst hq; clear s; have s := s0; clear s0
  rw [List.length_map] at hk
  have ht : t = t.take k ++ t[k] :: t.drop (k + 1) := by rw [← List.drop_eq_getElem_cons hk, List.take_append_drop]
  refine ⟨t.map Prod.fst, (t.take k).map (YS e) ++ (t.drop (k + 1)).map (YS e), t[k].1, t[k].2, by simp [hk], by simp [hk], ?_, ?_⟩
  · intro w' M' H' hv' l' s'
    have hs : t.set k (hv', l') = t.take k ++ (hv', l') :: t.drop (k + 1) := by
      rw [List.set_eq_take_append_cons_drop, if_pos hk]
    have s1 : St w' M' (JD e2 1 v (t.map Prod.snd).length ((t.map Prod.fst).set k hv') :: YS e (hv', l') :: (((t.take k).map (YS e) ++ (t.drop (k + 1)).map (YS e)) ++ H')) :=
      St.under2 s' fun h hh => let ⟨g1, g2, d, e, h1, h2⟩ := hh; Ws.2 ⟨g1, g2, d, e, h1, h2⟩
    have s2 : St w' M' (JD e2 1 v (t.set k (hv', l')).length ((t.set k (hv', l')).map Prod.fst) :: (((t.set k (hv', l')).map (YS e)) ++ H')) := by
      rw [List.length_set, List.map_set, ← List.length_map (f := Prod.snd)]
      refine s1.perm (List.Perm.cons _ ?_)
      rw [hs, List.map_append, List.map_cons, List.append_assoc, List.append_assoc]
      exact (List.perm_middle (l₁ := (t.take k).map (YS e)) (a := YS e (hv', l')) (l₂ := (t.drop (k + 1)).map (YS e) ++ H')).symm
    have s3 := ve s2
    rw [List.map_set] at s3; exact s3
  · have s2 : St w M (JD e2 1 v t.length (t.map Prod.fst) :: YS e t[k] :: (((t.take k).map (YS e) ++ (t.drop (k + 1)).map (YS e)) ++ H)) := by
      refine s.perm (List.Perm.cons _ ?_)
      conv => lhs; rw [ht]
      rw [List.map_append, List.map_cons, List.append_assoc, List.append_assoc]
      exact List.perm_middle (l₁ := (t.take k).map (YS e)) (a := YS e t[k]) (l₂ := (t.drop (k + 1)).map (YS e) ++ H)
    rw [List.length_map]
    exact St.under2 s2 fun h hh => let ⟨g1, g2, d, e, h1, h2⟩ := Ws.1 hh; ⟨g1, g2, d, e, h1, h2⟩
theorem yc {w : World} {e : TypeId} : ∀ {t : List (Value × List Int)} {M : Hp} {H : List QD}, (∀ x ∈ t, x.2.length ≤ 1000000000000) → St w M ((t.map (YS e)) ++ H) → ∃ M', Hp.le M M' ∧ (∀ x ∈ t, RdI M' x.1 x.2) ∧ St w M' H
  | [], M, H, _, s => ⟨M, Hp.le.refl _, fun x hx => (by cases hx), s⟩
  | a :: t, M, H, hb, s => by
    have s1 : St w M (QR e a.1 a.2 :: ((t.map (YS e)) ++ H)) := s
    obtain ⟨M1, h1, r1, s2⟩ := s1.freezeI (by have := hb a (List.mem_cons_self ..); omega)
    obtain ⟨M2, h2, r2, s3⟩ := yc (t := t) (fun x hx => hb x (List.mem_cons_of_mem _ hx)) s2
    refine ⟨M2, h1.trans h2, fun x hx => ?_, s3⟩
    rcases List.mem_cons.1 hx with hx | hx
    · subst hx; exact r1.le h2
    · exact r2 x hx
theorem frzLL {w : World} {M : Hp} {H : List QD} {e2 e : TypeId} {v : Value} {q : List (List Int)} (s : St w M (VF e2 e v q :: H)) (hb : ∀ l ∈ q, l.length ≤ 1000000000000) (hl : q.length ≤ 1000000000000) :
    ∃ M' : Hp, Hp.le M M' ∧ Jy M' v q ∧ St w M' H := by
  obtain ⟨t, hq, s0⟩ := yA s
  subst hq; clear s; have s := s0; clear s0
  obtain ⟨M1, h1, r1, s⟩ := yc (H := JD e2 1 v t.length (t.map Prod.fst) :: H) (fun x hx => hb x.2 (List.mem_map_of_mem hx)) (s.perm (List.perm_middle (l₁ := t.map (YS e)) (a := JD e2 1 v t.length (t.map Prod.fst)) (l₂ := H)).symm)
  rw [← List.length_map (f := Prod.snd)] at s
  have hr : JH (RSl 1 Jr) 1 M1 (t.map Prod.snd) (t.map Prod.fst) := by
    refine ⟨by simp, fun u hu => ?_, fun i x hx => ?_⟩
    · obtain ⟨x, hx, rfl⟩ := List.mem_map.1 hu
      exact RdI.one (r1 x hx)
    · rw [List.getElem?_map] at hx
      cases ht : t[i]? with
      | none => rw [ht] at hx; cases hx
      | some y =>
        rw [ht] at hx
        have e1 : y.2 = x := by simpa using hx
        rw [Nat.mul_one, List.take_one, List.head?_drop, List.getElem?_map, ht]
        exact ⟨y.1, rfl, e1 ▸ r1 y (List.mem_of_getElem? ht)⟩
  obtain ⟨M2, h2, r2, s⟩ := s.freezeR hr (QN QI) (by omega)
  exact ⟨M2, h1.trans h2, r2, s⟩
section
variable {r : Option Nat} {P : Program} {Q : Exit → Act → World → Prop} {a : Act} {w : World}
  {n : Nat} {ds : List Deferred} {l : List (Nat × Value)} {d : Nat} {ty t el : TypeId} {pos : String} {af : Array Edge} {gd : Option (Nat × Bool)} {x y : Operand}
  {next : Act → World → Prop} {M : Hp} {H : List QD} {v : Value} {by_ : Nat} {zv : Value}
theorem X_appendLL {e' e : TypeId} {q : List (List Int)} {sv hdr : Value} {xs : List Int} (E : Env a n ds l) (S : St w M (JD e' 1 sv 1 [hdr] :: QR e hdr xs :: VF el e v q :: H)) (hd : Nat.blt d n = true) (hx : opv l x = some v) (hy : opv l y = some sv) (T : SlT P t el 1 by_ zv)
    (hb : (q.length + 1) * by_ ≤ 140737488355328) (h63 : q.length + 1 ≤ 2 ^ 44)
    (kk : ∀ a w' v', Env a n ds ((d, v') :: l) → St w' M (VF el e v' (q ++ [xs]) :: H) → next a w') : (⟨some d, .call ⟨.builtin .append, #[x, y], #[t, t]⟩, ty, pos, af, gd⟩ : Oper).wpIn (Fw r) 0 P a w next Q := by
  have s1 : St w M (VF el e v q :: QR e hdr xs :: JD e' 1 sv 1 [hdr] :: H) := S.perm (by
    refine List.Perm.trans (List.Perm.swap ..) ?_
    refine List.Perm.trans (List.Perm.cons _ (List.Perm.swap ..)) ?_
    exact List.Perm.swap ..)
  obtain ⟨t0, rfl, s2⟩ := yA s1
  have h1 : hdr.oneCell' = true := by
    have := S.drop.oneC; exact this
  have s3 : St w M (JD el 1 v t0.length (t0.map Prod.fst) :: ((t0.map (YS e)) ++ (QR e hdr xs :: H))) := by
    have := s2.perm (H' := JD e' 1 sv 1 [hdr] :: JD el 1 v t0.length (t0.map Prod.fst) :: ((t0.map (YS e)) ++ (QR e hdr xs :: H))) (by
      refine List.Perm.trans (List.Perm.cons _ (List.Perm.append_left _ (List.Perm.swap ..))) ?_
      refine List.Perm.trans (List.Perm.cons _ List.perm_middle) ?_
      exact List.Perm.swap ..)
    exact this.drop
  rw [List.length_map] at hb h63
  refine GB E s3 hd hx hy T (Src.own S) (by simp) (by intro u hu; simp at hu; rw [hu]; exact h1) hb h63 fun a w' v' E S => kk a w' v' E ?_
  have s4 : St w' M (JD el 1 v' (t0 ++ [(hdr, xs)]).length ((t0 ++ [(hdr, xs)]).map Prod.fst) :: (((t0 ++ [(hdr, xs)]).map (YS e)) ++ H)) := by
    rw [List.length_append, List.map_append, List.map_append, List.append_assoc]; exact S
  have s5 := ve s4
  rw [List.map_append] at s5; exact s5
end
theorem lenLL {w : World} {M : Hp} {H : List QD} {e2 e : TypeId} {v : Value} {q : List (List Int)} (s : St w M (VF e2 e v q :: H)) : LenV v q.length := by
  obtain ⟨t, hq, s0⟩ := yA s
  subst hq; rw [List.length_map]; exact s0.lenC
theorem sk_yes {f : Int → Int} {l : List Int} {k : Nat} {x : Int} (h : l[k]? = some x) (c : cn f l (f x) = 1) : (l.take k).filter (fun x => decide (cn f l (f x) = 1)) ++ [x] = (l.take (k + 1)).filter fun x => decide (cn f l (f x) = 1) := by
  rw [Zx h, List.filter_append, List.filter_cons_of_pos (by simpa using c)]; rfl
theorem sk_no {f : Int → Int} {l : List Int} {k : Nat} {x : Int} (h : l[k]? = some x) (c : ¬ cn f l (f x) = 1) : (l.take k).filter (fun x => decide (cn f l (f x) = 1)) = (l.take (k + 1)).filter fun x => decide (cn f l (f x) = 1) := by
  rw [Zx h, List.filter_append, List.filter_cons_of_neg (by simpa using c)]; simp
theorem Yc {f : Int → Int} {l : List Int} {k : Nat} {x y : Int} (h : l[k]? = some x) (hy : (l.map f)[k]? = some y) : y = f x := by
  rw [List.getElem?_map, h] at hy; simpa using hy.symm
def ZJ (f : Int → Int) (l p : List Int) : List Int := (uqS f p).2.filter fun z => decide (2 ≤ cn f l (f z))
theorem yf (f : Int → Int) (l p : List Int) : (ZJ f l p).length ≤ p.length := Nat.le_trans (List.length_filter_le _ _) (Vc f p).1
theorem cp_old {f : Int → Int} {l : List Int} {k : Nat} {x : Int} (h : l[k]? = some x) (e : f x ∈ (l.take k).map f) : ZJ f l (l.take k) = ZJ f l (l.take (k + 1)) := by
  unfold ZJ; rw [WM h (((YK f _).1 _).2 e)]
theorem cp_few {f : Int → Int} {l : List Int} {k : Nat} {x : Int} (h : l[k]? = some x) (c : ¬ 1 < cn f l (f x)) : ZJ f l (l.take k) = ZJ f l (l.take (k + 1)) := by
  by_cases e : f x ∈ (l.take k).map f
  · exact cp_old h e
  · unfold ZJ; rw [YL h (fun h => e (((YK f _).1 _).1 h))]
    rw [List.filter_append, List.filter_cons_of_neg (by simp; omega)]; simp
theorem cp_new {f : Int → Int} {l : List Int} {k : Nat} {x : Int} (h : l[k]? = some x) (c : 1 < cn f l (f x)) (e : f x ∉ (l.take k).map f) : ZJ f l (l.take k) ++ [x] = ZJ f l (l.take (k + 1)) := by
  unfold ZJ; rw [YL h (fun h => e (((YK f _).1 _).1 h))]
  rw [List.filter_append, List.filter_cons_of_pos (by simp; omega)]; rfl
theorem cp_newI {f : Int → Int} {l : List Int} {k : Nat} {x y z : Int} (h : l[k]? = some x) (hy : (l.map f)[k]? = some y) (hz : (l.map f)[k]? = some z) (c : 1 < (l.map f).count y) (e : fiI (eqx z) (l.map f) = (k : Int)) : ZJ f l (l.take k) ++ [x] = ZJ f l (l.take (k + 1)) := by
  have h1 := (YI hz).1 e
  rw [← List.map_take] at h1
  have hx := Yc h hy; have hx2 := Yc h hz
  subst hx; subst hx2
  exact cp_new h c h1
theorem cp_oldI {f : Int → Int} {l : List Int} {k : Nat} {x z : Int} (h : l[k]? = some x) (hz : (l.map f)[k]? = some z) (e : ¬ fiI (eqx z) (l.map f) = (k : Int)) : ZJ f l (l.take k) = ZJ f l (l.take (k + 1)) := by
  have h1 : z ∈ (l.map f).take k := Decidable.not_not.1 fun h2 => e ((YI hz).2 h2)
  rw [← List.map_take] at h1
  have hx2 := Yc h hz
  subst hx2
  exact cp_old h h1
theorem cp_fewI {f : Int → Int} {l : List Int} {k : Nat} {x y : Int} (h : l[k]? = some x) (hy : (l.map f)[k]? = some y) (c : ¬ 1 < (l.map f).count y) : ZJ f l (l.take k) = ZJ f l (l.take (k + 1)) := by
  have hx := Yc h hy
  subst hx; exact cp_few h c
theorem sk_yesK {f : Int → Int} {l : List Int} {k : Nat} {x y : Int} (h : l[k]? = some x) (hy : (l.map f)[k]? = some y) (c : (((l.map f).count y : Nat) : Int) = 1) : (l.take k).filter (fun x => decide (cn f l (f x) = 1)) ++ [x] = (l.take (k + 1)).filter fun x => decide (cn f l (f x) = 1) := by
  have hx := Yc h hy
  subst hx; exact sk_yes h (by unfold cn; omega)
theorem sk_noK {f : Int → Int} {l : List Int} {k : Nat} {x y : Int} (h : l[k]? = some x) (hy : (l.map f)[k]? = some y) (c : ¬ (((l.map f).count y : Nat) : Int) = 1) : (l.take k).filter (fun x => decide (cn f l (f x) = 1)) = (l.take (k + 1)).filter fun x => decide (cn f l (f x) = 1) := by
  have hx := Yc h hy
  subst hx; exact sk_no h (by unfold cn; omega)
theorem fi_leB : ∀ {l : List Int} {k : Nat} {x : Int}, l[k]? = some x → 0 ≤ fiI (eqx x) l ∧ fiI (eqx x) l ≤ (k : Int)
  | [], k, x, h => by simp at h
  | a :: l, 0, x, h => by
    have e : a = x := by simpa using h
    rw [Vr]; simp [eqx, e]
  | a :: l, k + 1, x, h => by
    have ih := fi_leB (l := l) (k := k) (x := x) (by simpa using h)
    rw [Vr]
    split
    · omega
    · rw [if_neg (by omega)]; omega
def JS (f : Int → Int) (p : List Int) : List (Int × Int) := (uqS f p).1.zipIdx.map fun z => (z.1, (z.2 : Int))
def Js (f : Int → Int) (p : List Int) : List (List Int) := (uqS f p).1.map fun key => p.filter fun x => decide (f x = key)
theorem qN (f : Int → Int) (p : List Int) : (Js f p).length ≤ p.length := by unfold Js; rw [List.length_map]; exact (Vc f p).2
theorem yz {f : Int → Int} {p y : List Int} (h : y ∈ Js f p) : y.length ≤ p.length := by
  obtain ⟨key, _, rfl⟩ := List.mem_map.1 h; exact List.length_filter_le ..
theorem jH : ∀ (K : List Int) (n : Nat), ((K.zipIdx n).map fun z : Int × Nat => (z.1, (z.2 : Int))).map Prod.fst = K
  | [], _ => rfl
  | a :: K, n => by simp only [List.zipIdx_cons, List.map_cons, jH K (n + 1)]
theorem WO (f : Int → Int) (p : List Int) : (JS f p).map Prod.fst = (uqS f p).1 := jH _ 0
theorem vo : ∀ (K : List Int) (n : Nat) (key : Int), key ∈ K → ∃ j : Nat, Jk 0 ((K.zipIdx n).map fun z : Int × Nat => (z.1, (z.2 : Int))) key = ((n + j : Nat) : Int) ∧ K[j]? = some key
  | [], _, key, h => by cases h
  | a :: K, n, key, h => by
    simp only [List.zipIdx_cons, List.map_cons, Jk]
    by_cases e : a = key
    · exact ⟨0, by rw [if_pos e]; rfl, by simp [e]⟩
    · rw [if_neg e]
      obtain ⟨j, h1, h2⟩ := vo K (n + 1) key (by rcases List.mem_cons.1 h with h | h; exact absurd h.symm e; exact h)
      exact ⟨j + 1, by rw [h1]; congr 1; omega, by simpa using h2⟩
theorem seen_at {f : Int → Int} {p : List Int} {key : Int} (h : JI (JS f p) key = true) : ∃ j : Nat, Jk 0 (JS f p) key = (j : Int) ∧ j < (Js f p).length ∧ (uqS f p).1[j]? = some key := by
  unfold JI at h
  rw [WO] at h
  obtain ⟨j, h1, h2⟩ := vo (uqS f p).1 0 key (of_decide_eq_true h)
  refine ⟨j, by rw [Nat.zero_add] at h1; exact h1, ?_, h2⟩
  unfold Js; rw [List.length_map]; exact (List.getElem?_eq_some_iff.1 h2).1
theorem seen_no {f : Int → Int} {p : List Int} {key : Int} (h : JI (JS f p) key = false) : key ∉ (uqS f p).1 := by
  unfold JI at h
  rw [WO] at h
  exact of_decide_eq_false h
theorem putK_app {q : List (Int × Int)} {k v : Int} (h : k ∉ q.map Prod.fst) : JB q k v = q ++ [(k, v)] := by
  induction q with
  | nil => rfl
  | cons a q ih =>
    simp only [List.map_cons, List.mem_cons, not_or] at h
    simp only [JB]
    rw [if_neg (fun e => h.1 e.symm), ih h.2, List.cons_append]
theorem seen_new1 {f : Int → Int} {p : List Int} {x : Int} (h : JI (JS f p) (f x) = false) : JB (JS f p) (f x) ((Js f p).length : Int) = JS f (p ++ [x]) := by
  have hk := seen_no h
  rw [putK_app (by rw [WO]; exact hk)]
  unfold JS Js
  rw [WZ hk]
  simp only []
  rw [List.zipIdx_append, List.map_append, List.length_map]
  simp
theorem seen_old1 {f : Int → Int} {p : List Int} {x : Int} {j : Nat} (h : (uqS f p).1[j]? = some (f x)) : JS f p = JS f (p ++ [x]) := by
  unfold JS; rw [ym (List.mem_of_getElem? h)]
theorem part_new1 {f : Int → Int} {p : List Int} {x : Int} (h : JI (JS f p) (f x) = false) : Js f p ++ [[x]] = Js f (p ++ [x]) := by
  have hk := seen_no h
  unfold Js
  rw [WZ hk]
  simp only []
  rw [List.map_append, List.map_singleton]
  have hno : p.filter (fun y => decide (f y = f x)) = [] := List.filter_eq_nil_iff.2 fun y hy e => hk (((YK f p).1 _).2 (of_decide_eq_true e ▸ List.mem_map_of_mem hy))
  congr 1
  · exact List.map_congr_left fun key hkey => by
      have hne : ¬ f x = key := fun e => hk (e ▸ hkey)
      rw [List.filter_append, List.filter_cons_of_neg (by simpa using hne)]; simp
  · rw [List.filter_append, hno, List.filter_cons_of_pos (by simp)]; rfl
theorem part_set1 {f : Int → Int} {p l' : List Int} {x : Int} {j : Nat} (hk : (uqS f p).1[j]? = some (f x)) (hl : (Js f p)[j]? = some l') : (Js f p).set j (l' ++ [x]) = Js f (p ++ [x]) := by
  have hK : (uqS f (p ++ [x])).1 = (uqS f p).1 := by rw [ym (List.mem_of_getElem? hk)]
  have hnd := (YK f p).2.2
  refine List.ext_getElem? fun i => ?_
  rw [List.getElem?_set]
  have e1 : (Js f (p ++ [x]))[i]? = (uqS f p).1[i]?.map fun key => (p ++ [x]).filter fun y => decide (f y = key) := by unfold Js; rw [hK, List.getElem?_map]
  have e0 : ∀ i : Nat, (Js f p)[i]? = (uqS f p).1[i]?.map fun key => p.filter fun y => decide (f y = key) := fun i => by unfold Js; rw [List.getElem?_map]
  rw [e1]
  by_cases hij : j = i
  · subst hij
    have hlt : j < (Js f p).length := (List.getElem?_eq_some_iff.1 hl).1
    rw [if_pos rfl, if_pos hlt, hk]
    rw [e0, hk] at hl
    have hl2 : p.filter (fun y => decide (f y = f x)) = l' := by simpa using hl
    simp only [Option.map_some]
    rw [List.filter_append, hl2, List.filter_cons_of_pos (by simp)]; rfl
  · rw [if_neg hij, e0]
    cases hi : (uqS f p).1[i]? with
    | none => rfl
    | some key =>
      have hne : ¬ f x = key := fun e => hij (by
        subst e
        obtain ⟨h1, h2⟩ := List.getElem?_eq_some_iff.1 hk
        obtain ⟨h3, h4⟩ := List.getElem?_eq_some_iff.1 hi
        exact (List.getElem_inj hnd).1 (h2.trans h4.symm))
      simp only [Option.map_some]
      rw [List.filter_append, List.filter_cons_of_neg (by simpa using hne)]; simp
theorem VU {f : Int → Int} {l : List Int} {k : Nat} {x : Int} (h : l[k]? = some x) (e : JI (JS f (l.take k)) (f x) = false) : JB (JS f (l.take k)) (f x) ((Js f (l.take k)).length : Int) = JS f (l.take (k + 1)) := by rw [Ju h, seen_new1 e]
theorem VT {f : Int → Int} {l : List Int} {k j : Nat} {x : Int} (h : l[k]? = some x) (hk : (uqS f (l.take k)).1[j]? = some (f x)) : JS f (l.take k) = JS f (l.take (k + 1)) := by rw [Ju h]; exact seen_old1 hk
theorem VX {f : Int → Int} {l : List Int} {k : Nat} {x : Int} (h : l[k]? = some x) (e : JI (JS f (l.take k)) (f x) = false) : Js f (l.take k) ++ [[x]] = Js f (l.take (k + 1)) := by rw [Ju h]; exact part_new1 e
theorem VW {f : Int → Int} {l l' : List Int} {k j : Nat} {x : Int} (h : l[k]? = some x) (hk : (uqS f (l.take k)).1[j]? = some (f x)) (hl : (Js f (l.take k))[j]? = some l') : (Js f (l.take k)).set j (l' ++ [x]) = Js f (l.take (k + 1)) := by rw [Ju h]; exact part_set1 hk hl
def Yb (f : Int → Int) (l p : List Int) : List (List Int) := (uqS f p).1.map fun key => l.filter fun x => decide (f x = key)
theorem partP_len (f : Int → Int) (l p : List Int) : (Yb f l p).length ≤ p.length := by unfold Yb; rw [List.length_map]; exact (Vc f p).2
theorem pp_old {f : Int → Int} {l : List Int} {k : Nat} {y : Int} (hk : k < l.length) (hy : (l.map f)[k]? = some y) (e : fiI (eqx y) (l.map f) < (k : Int)) : Yb f l (l.take k) = Yb f l (l.take (k + 1)) := by
  have hx : l[k]? = some l[k] := List.getElem?_eq_getElem hk
  have h1 : y ∈ (l.map f).take k := Decidable.not_not.1 fun h2 => by have := (YI hy).2 h2; omega
  rw [← List.map_take] at h1
  have hr := Yc hx hy
  subst hr
  unfold Yb; rw [WM hx (((YK f _).1 _).2 h1)]
theorem pp_new {f : Int → Int} {l : List Int} {k : Nat} {y : Int} {r : List Int} (hk : k < l.length) (hy : (l.map f)[k]? = some y) (e : ¬ fiI (eqx y) (l.map f) < (k : Int)) (hr2 : l.filter (fun x => decide (f x = y)) = r) : Yb f l (l.take k) ++ [r] = Yb f l (l.take (k + 1)) := by
  have hx : l[k]? = some l[k] := List.getElem?_eq_getElem hk
  have h1 : y ∉ (l.map f).take k := (YI hy).1 (by have := (fi_leB hy).2; omega)
  rw [← List.map_take] at h1
  have hr := Yc hx hy
  subst hr; subst hr2
  unfold Yb; rw [YL hx (fun h => h1 (((YK f _).1 _).1 h))]
  simp only []
  rw [List.map_append]; rfl
theorem pz_yes {f : Int → Int} {l : List Int} {k : Nat} {x y z : Int} (h : l[k]? = some x) (hy : (l.map f)[k]? = some y) (e : y = z) : (l.take k).filter (fun x => decide (f x = z)) ++ [x] = (l.take (k + 1)).filter fun x => decide (f x = z) := by
  have hr := Yc h hy
  subst hr; rw [Zx h, List.filter_append, List.filter_cons_of_pos (by simpa using e)]; rfl
theorem pz_no {f : Int → Int} {l : List Int} {k : Nat} {y z : Int} (hk : k < l.length) (hy : (l.map f)[k]? = some y) (e : ¬ y = z) : (l.take k).filter (fun x => decide (f x = z)) = (l.take (k + 1)).filter fun x => decide (f x = z) := by
  have hx : l[k]? = some l[k] := List.getElem?_eq_getElem hk
  have hr := Yc hx hy
  subst hr; rw [Zx hx, List.filter_append, List.filter_cons_of_neg (by simpa using e)]; simp
theorem pz_yes2 {f : Int → Int} {l : List Int} {i k : Nat} {x y z z' : Int} (h : l[k]? = some x) (e : y = z') (hy : (l.map f)[k]? = some y) (hz : (l.map f)[i]? = some z') (hz2 : (l.map f)[i]? = some z) : (l.take k).filter (fun x => decide (f x = z)) ++ [x] = (l.take (k + 1)).filter fun x => decide (f x = z) :=
  pz_yes h hy (e.trans (Option.some.inj (hz.symm.trans hz2)))
theorem pz_no2 {f : Int → Int} {l : List Int} {i k : Nat} {y z z' : Int} (hk : k < l.length) (e : ¬ y = z') (hy : (l.map f)[k]? = some y) (hz : (l.map f)[i]? = some z') (hz2 : (l.map f)[i]? = some z) : (l.take k).filter (fun x => decide (f x = z)) = (l.take (k + 1)).filter fun x => decide (f x = z) :=
  pz_no hk hy (fun h => e (h.trans (Option.some.inj (hz2.symm.trans hz))))
section
variable {P : Program}
def CallP (P : Program) (fv : Value) (args : List Value) (w : World) (R : Value → World → Prop) : Prop :=
  ∀ (r : Option Nat) (o : Oper) (c : Call) (f : Operand) (a : Act) (next : Act → World → Prop) (Q : Exit → Act → World → Prop), o.op = .call c → c.callee = .value f → a.eval f = fv →
    c.args.toList.map a.eval = args → (∀ t u w', R (.iface t u) w' → Q (.panic [{ v := .iface t u, recovered := false }]) a w') → o.wpIn (Fw r) 0 P a w next Q
def PEnd (R : Value → World → Prop) : Ending → World → Prop := fun e w' => ∃ t u, e = .panicked [{ v := .iface t u, recovered := false }] ∧ R (.iface t u) w'
theorem CallP.func {g : FuncId} {first cap : Array Value} {args : List Value} {w : World} {R : Value → World → Prop}
    (hc : ∀ args w, (callFunc g args).run P w = .ok (.enter g args) w)
    (h : Calls P g (first.toList ++ args ++ cap.toList).toArray w (PEnd R)) : CallP P (.func (.func g) first cap) args w R := by
  intro r o c f a next Q h1 h2 h3 h4 h5
  refine ⟨fun _ _ => trivial, ?_⟩
  rw [JL (by rw [h1]; rfl)]
  have e4 : c.args.map a.eval = args.toArray := by rw [← h4, ← Array.toList_map, Array.toArray_toList]
  have : (execOp a.eval o).run P w = .ok (.enter g (first ++ args.toArray ++ cap)) w := by
    simp only [execOp, h1, resolve, h2, h3, e4, Deferred.ofValue]
    simp [invoke, hc]
  rw [this]
  refine ⟨fun h => by simp [jg] at h, ?_⟩
  rw [WV, show first ++ args.toArray ++ cap = (first.toList ++ args ++ cap.toList).toArray by simp]
  exact h.mono fun e w' ⟨t, u, he, hR⟩ => by subst he; exact h5 t u w' hR
def PuP (P : Program) (fv : Value) (M : Hp) (args : List Value) : Prop :=
  ∀ w M1 H, Hp.le M M1 → St w M1 H → CallP P fv args w (fun _ w' => ∃ M2, Hp.le M1 M2 ∧ St w' M2 H)
theorem PuP.le {fv : Value} {M M' : Hp} {args : List Value} (h : PuP P fv M args) (hM : Hp.le M M') : PuP P fv M' args := fun w M1 H h1 => h w M1 H (hM.trans h1)
theorem yh {g : FuncId} {fn : Func} {c : Code} {first cap : Array Value} {args : List Value} {M : Hp}
    (hf : P.funcs[g]? = some fn) (hb : fn.body = some c) {m : Nat} (hm : fn.ntmps = m) (hl : Nat.ble (first.toList ++ args ++ cap.toList).length m = true)
    (hc : ∀ args w, (callFunc g args).run P w = .ok (.enter g args) w)
    (h : ∀ a w M1 H, Hp.le M M1 → St w M1 H → Env a m [] (Gt (first.toList ++ args ++ cap.toList) 0) →
      WP none P c (YW P fn (PEnd fun _ w' => ∃ M2, Hp.le M1 M2 ∧ St w' M2 H)) a w) : PuP P (.func (.func g) first cap) M args :=
  fun w M1 H hM S => CallP.func hc (VG hf hb hm hl fun a E => h a w M1 H hM S E)
def PF0P (P : Program) (fv : Value) (M : Hp) : Prop := fv.oneCell' = true ∧ PuP P fv M []
theorem PF0P.le {fv : Value} {M M' : Hp} (h : PF0P P fv M) (hM : Hp.le M M') : PF0P P fv M' := ⟨h.1, h.2.le hM⟩
variable {Q : Exit → Act → World → Prop} {a : Act} {w : World} {n : Nat} {ds : List Deferred} {l : List (Nat × Value)} {fn : Func} {R : Ending → World → Prop} {M : Hp} {H : List QD} {next : Act → World → Prop} {r : Option Nat}
theorem F_panic {ch : List PanicEntry} (E : Env a n [] l) (h : R (.panicked ch) w) : YW P fn R (.panic ch) a w := by
  show LeavesInM _ _ _ _ _ _ a.defers _ w
  rw [E.dfr]; exact h
theorem X_panic {dst : Option Nat} {x : Operand} {ty : TypeId} {pos : String} {af : Array Edge} {gd : Option (Nat × Bool)} {t : TypeId} {u : Value} (E : Env a n ds l) (hx : opv l x = some (.iface t u)) (h : Q (.panic [{ v := .iface t u, recovered := false }]) a w) :
    (⟨dst, .panic x, ty, pos, af, gd⟩ : Oper).wpIn (Fw r) 0 P a w next Q := by
  refine ⟨fun _ _ => trivial, ?_⟩
  rw [JL rfl]
  have : (execOp a.eval ⟨dst, .panic x, ty, pos, af, gd⟩).run P w = .halt (.panic (.iface t u)) w := by simp [execOp, E.eval hx, Instr.panic, Result.andThen]
  rw [this]; exact h
theorem X_puP {dst : Option Nat} {ty : TypeId} {ats : Array TypeId} {pos : String} {af : Array Edge} {gd : Option (Nat × Bool)} {f : Operand} {aa : Array Operand} {fv : Value} {args : List Value} {M0 : Hp}
    (E : Env a n ds l) (S : St w M H) (hf : opv l f = some fv) (ha : GJ l aa.toList = some args) (C : PuP P fv M0 args) (hM : Hp.le M0 M)
    (k : ∀ t u w' M', Hp.le M M' → St w' M' H → Q (.panic [{ v := .iface t u, recovered := false }]) a w') : (⟨dst, .call ⟨.value f, aa, ats⟩, ty, pos, af, gd⟩ : Oper).wpIn (Fw r) 0 P a w next Q :=
  C w M H hM S r _ _ f a _ Q rfl rfl (E.eval hf) (E.evals ha) fun t u w' ⟨M', h1, h2⟩ => k t u w' M' h1 h2
theorem R_ifaceS {d : Nat} {x : Operand} {t : TypeId} {ty : TypeId} {pos : String} {af : Array Edge} {gd : Option (Nat × Bool)} {v : Value} (E : Env a n ds l) (hx : opv l x = some v) (hu : P.underlying t = some .string) :
    (execOp a.eval ⟨some d, .makeInterface t x, ty, pos, af, gd⟩).run P w = .ok (.value (.iface t v)) w := by
  simp [execOp, E.eval hx, Instr.makeInterface, run_underlying hu]
theorem F_panicDC2 {g : FuncId} {t t' : Tmp} {ty ty' e e' : TypeId} {b b' : Nat} {v v' u1 u2 u : Value} {T : TypeId} (E : Env a n [⟨.fn (.func g) #[.pointer (some ⟨b, 0, none⟩), .pointer (some ⟨b', 0, none⟩)], #[]⟩] l) (S : St w M (blk b (.cells #[v] e) :: blk b' (.cells #[v'] e') :: H)) (h : fn.results = #[.cell t ty, .cell t' ty'])
    (hp : Sl.look l t = some (.pointer (some ⟨b, 0, none⟩))) (hp' : Sl.look l t' = some (.pointer (some ⟨b', 0, none⟩))) (hg : ∀ w, (isAgg ty).run P w = .ok false w) (hg' : ∀ w, (isAgg ty').run P w = .ok false w)
    (hc : ∀ args w, (callFunc g args).run P w = .ok (.enter g args) w)
    (hD : ∀ w, w.heap[b]? = some (.cells #[v] e) → (w.setCell ⟨b, 0, none⟩ u1).heap[b']? = some (.cells #[v'] e') → CallsDIn (Fw none) 0 P g #[.pointer (some ⟨b, 0, none⟩), .pointer (some ⟨b', 0, none⟩)] (.panicking [{ v := .iface T u, recovered := false }]) w
      (fun e u' w' => e = .returned (.tuple #[]) ∧ u' = .panicking [{ v := .iface T u, recovered := true }] ∧ w' = (w.setCell ⟨b, 0, none⟩ u1).setCell ⟨b', 0, none⟩ u2))
    (hR : ∀ w', St w' M (blk b (.cells #[u1] e) :: blk b' (.cells #[u2] e') :: H) → R (.returned (.tuple #[u1, u2])) w') : YW P fn R (.panic [{ v := .iface T u, recovered := false }]) a w := by
  show LeavesInM _ _ _ _ _ _ a.defers _ w
  rw [E.dfr]
  have hgb := S.get
  have S1 : St (w.setCell ⟨b, 0, none⟩ u1) M (blk b (.cells #[u1] e) :: blk b' (.cells #[v'] e') :: H) := by
    refine S.set ?_ fun c hc x hx => ?_
    · simp only [World.setCell]; rw [Array.getElem?_modify, if_pos rfl, hgb]; rfl
    · simp only [World.setCell]; rw [Array.getElem?_modify, if_neg (Ne.symm hc)]; exact hx
  have hgb' := S1.swap.get
  have S2 : St ((w.setCell ⟨b, 0, none⟩ u1).setCell ⟨b', 0, none⟩ u2) M (blk b (.cells #[u1] e) :: blk b' (.cells #[u2] e') :: H) := by
    refine St.swap (S1.swap.set ?_ fun c hc x hx => ?_)
    · simp only [World.setCell]; rw [Array.getElem?_modify, if_pos rfl, show (w.heap.modify b _)[b']? = _ from hgb']; rfl
    · simp only [World.setCell]; rw [Array.getElem?_modify, if_neg (Ne.symm hc)]; exact hx
  refine ⟨by simp, .inr ⟨by simp [Fw, Fence.wide], .func g, _, g, _, rfl, by simp [invoke, hc], fun _ _ => trivial, (hD w hgb hgb').mono ?_⟩⟩
  rintro _ _ _ ⟨rfl, rfl, rfl⟩
  show LeavesInM _ _ _ _ _ _ [] (settle _) _
  refine ⟨.tuple #[u1, u2], ?_, hR _ S2⟩
  have h1 := E.eval (o := .tmp t) hp
  have h2 := E.eval (o := .tmp t') hp'
  simp only [Act.eval, Array.getD_eq_getD_getElem?] at h1 h2
  simp [results, h, h1, h2, asAddr, Vz hg S2.get, Vz hg' S2.swap.get]
end
def chF (n : Nat) (s : List (List Int) × List Int) (x : Int) : List (List Int) × List Int := if (s.2 ++ [x]).length = n then (s.1 ++ [s.2 ++ [x]], []) else (s.1, s.2 ++ [x])
def chS (n : Nat) (p : List Int) : List (List Int) × List Int := p.foldl (chF n) ([], [])
theorem chS_app (n : Nat) (p : List Int) (x : Int) : chS n (p ++ [x]) = chF n (chS n p) x := by simp [chS]
theorem ch_full {n : Nat} {p : List Int} {x : Int} (h : ((chS n p).2 ++ [x]).length = n) : chS n (p ++ [x]) = ((chS n p).1 ++ [(chS n p).2 ++ [x]], []) := by rw [chS_app]; exact if_pos h
theorem vg {n : Nat} {p : List Int} {x : Int} (h : ¬ ((chS n p).2 ++ [x]).length = n) : chS n (p ++ [x]) = ((chS n p).1, (chS n p).2 ++ [x]) := by rw [chS_app]; exact if_neg h
def chL (n : Nat) (l : List Int) : List (List Int) := (chS n l).1 ++ (if (chS n l).2 = [] then [] else [(chS n l).2])
theorem chL_some {n : Nat} {l : List Int} (h : (chS n l).2 ≠ []) : chL n l = (chS n l).1 ++ [(chS n l).2] := by unfold chL; rw [if_neg h]
theorem chL_none {n : Nat} {l : List Int} (h : (chS n l).2 = []) : chL n l = (chS n l).1 := by unfold chL; rw [if_pos h, List.append_nil]
theorem ch_flat (n : Nat) (p : List Int) : (chS n p).1.flatten ++ (chS n p).2 = p := by
  induction p using snoc_ind with
  | h0 => rfl
  | h1 p x ih =>
    by_cases c : ((chS n p).2 ++ [x]).length = n
    · rw [ch_full c]; simp only [List.flatten_append, List.flatten_cons, List.flatten_nil, List.append_nil]; rw [← List.append_assoc, ih]
    · rw [vg c]; simp only []; rw [← List.append_assoc, ih]
theorem chL_flat (n : Nat) (l : List Int) : (chL n l).flatten = l := by
  by_cases c : (chS n l).2 = []
  · rw [chL_none c]; have := ch_flat n l; rw [c, List.append_nil] at this; exact this
  · rw [chL_some c, List.flatten_append]; simp only [List.flatten_cons, List.flatten_nil, List.append_nil]; exact ch_flat n l
theorem zU {n : Nat} : ∀ (c p : List Int), (chS n p).2 ++ c = (chS n p).2 ++ c → (chS n p).2.length + c.length < n → chS n (p ++ c) = ((chS n p).1, (chS n p).2 ++ c)
  | [], p, _, _ => by rw [List.append_nil, List.append_nil]
  | x :: c, p, _, h => by
    have h1 : ¬ ((chS n p).2 ++ [x]).length = n := by simp at h ⊢; omega
    have h2 := zU c (p ++ [x]) rfl (by rw [vg h1]; simp at h ⊢; omega)
    rw [List.append_assoc, List.singleton_append] at h2
    rw [h2, vg h1]; simp
theorem ch_next {n : Nat} (hn : 0 < n) {p c : List Int} (h : (chS n p).2 = []) (hc : c.length = n) : chS n (p ++ c) = ((chS n p).1 ++ [c], []) := by
  have hne : c ≠ [] := by intro e; subst e; simp at hc; omega
  have e : c = c.dropLast ++ [c.getLast hne] := (List.dropLast_concat_getLast hne).symm
  have hl : c.dropLast.length = n - 1 := by rw [List.length_dropLast, hc]
  have h1 := zU (n := n) c.dropLast p rfl (by rw [h]; simp; omega)
  have h2 : chS n (p ++ c) = chS n ((p ++ c.dropLast) ++ [c.getLast hne]) := by rw [List.append_assoc, ← e]
  rw [h2, ch_full (by rw [h1, h]; simp; omega), h1, h]
  simp only [List.nil_append]
  rw [← e]
theorem ch_win {n : Nat} (hn : 0 < n) (l : List Int) : ∀ k, k * n ≤ l.length → chS n (l.take (k * n)) = (JA n n l k, [])
  | 0, _ => by simp [chS, JA]
  | k + 1, h => by
    rw [Nat.succ_mul] at h ⊢
    have ih := ch_win hn l k (by omega)
    have e : l.take (k * n + n) = l.take (k * n) ++ (l.drop (k * n)).take n := by rw [List.take_add]
    rw [e, ch_next hn (by rw [ih]) (by rw [List.length_take, List.length_drop]; omega), ih]
    simp only []
    rw [JC]
theorem ch_end {n k : Nat} (hn : 0 < n) {l : List Int} (h1 : k * n ≤ l.length) (h2 : l.length < k * n + n) : chS n l = (JA n n l k, l.drop (k * n)) := by
  have hw := ch_win hn l k h1
  have h3 := zU (n := n) (l.drop (k * n)) (l.take (k * n)) rfl (by rw [hw]; simp; omega)
  rw [List.take_append_drop, hw] at h3
  simpa using h3
theorem qK {n k : Nat} (hn : 0 < n) {l : List Int} (h : l.length ≤ k * n) (h2 : k = 0 ∨ (k - 1) * n < l.length) : JA n n l k = chL n l := by
  rcases h2 with rfl | h2
  · have : l = [] := List.eq_nil_of_length_eq_zero (by omega)
    subst this; rfl
  · obtain ⟨m, rfl⟩ : ∃ m, k = m + 1 := ⟨k - 1, by cases k with
      | zero => simp only [Nat.zero_sub, Nat.zero_mul] at h h2; omega
      | succ m => omega⟩
    simp only [Nat.add_sub_cancel] at h2
    rw [Nat.succ_mul] at h
    by_cases hf : l.length = m * n + n
    · have hw := ch_win hn l (m + 1) (by rw [Nat.succ_mul]; omega)
      rw [List.take_of_length_le (by rw [Nat.succ_mul]; omega)] at hw
      rw [chL_none (by rw [hw]), hw]
    · have hw := ch_end hn (by omega) (show l.length < m * n + n by omega)
      rw [chL_some (by rw [hw]; intro e; have := congrArg List.length e; simp at this; omega), hw]
      simp only []
      rw [← JC, List.take_of_length_le (by simp; omega)]
theorem ceil_ok {n m : Nat} (hn : 0 < n) (h : m % n ≠ 0) : m ≤ (m / n + 1) * n ∧ m / n * n < m := by
  have h1 := Nat.div_add_mod m n
  have h2 := Nat.mod_lt m hn
  rw [Nat.mul_comm] at h1
  rw [Nat.succ_mul]; omega
theorem ceil_ok0 {n m : Nat} (hn : 0 < n) (h : m % n = 0) : m ≤ m / n * n ∧ (m / n = 0 ∨ (m / n - 1) * n < m) := by
  have h1 := Nat.div_add_mod m n
  rw [Nat.mul_comm] at h1
  refine ⟨by omega, ?_⟩
  rcases Nat.eq_zero_or_pos (m / n) with e | e
  · exact .inl e
  · refine .inr ?_
    obtain ⟨k, hk⟩ : ∃ k, m / n = k + 1 := ⟨m / n - 1, by omega⟩
    rw [hk] at h1 ⊢
    rw [Nat.succ_mul] at h1
    simp only [Nat.add_sub_cancel]; omega
def WU (n : Nat) (l : List Int) : List (List Int) := if 0 < n then chL n l else []
theorem Ux {n : Nat} (h : 0 < n) (l : List Int) : WU n l = chL n l := if_pos h
theorem ck_win0 {n k : Nat} (hn : 0 < n) {l : List Int} (h : k * n ≤ l.length) (h2 : (l.drop (k * n)).length = 0) : JA n n l k = chL n l := by
  rw [List.length_drop] at h2
  refine qK hn (by omega) ?_
  rcases Nat.eq_zero_or_pos k with e | e
  · exact .inl e
  · refine .inr ?_
    obtain ⟨m, rfl⟩ : ∃ m, k = m + 1 := ⟨k - 1, by omega⟩
    rw [Nat.succ_mul] at h; simp only [Nat.add_sub_cancel]; omega
theorem ck_win1 {n k : Nat} (hn : 0 < n) {l : List Int} (h : k * n ≤ l.length) (h2 : 0 < (l.drop (k * n)).length) (h3 : (l.drop (k * n)).length ≤ n) : JA n n l k ++ [l.drop (k * n)] = chL n l := by
  rw [List.length_drop] at h2 h3
  have e : JA n n l (k + 1) = chL n l := qK hn (by rw [Nat.succ_mul]; omega) (.inr (by simp only [Nat.add_sub_cancel]; omega))
  rw [← JC, List.take_of_length_le (by simp; omega)] at e; exact e
theorem ck_drop {n k : Nat} {l : List Int} : (l.drop (k * n)).drop n = l.drop ((k + 1) * n) := by rw [List.drop_drop, Nat.succ_mul]
theorem ck_step {n k : Nat} {l : List Int} (h : n < (l.drop (k * n)).length) : (k + 1) * n ≤ l.length := by rw [List.length_drop] at h; rw [Nat.succ_mul]; omega
theorem Gy {n : Nat} {s : List Int} (h : s.length = n) : s.take (List.replicate n (0 : Int)).length ++ (List.replicate n (0 : Int)).drop s.length = s := by
  rw [List.length_replicate, List.take_of_length_le (by omega), List.drop_eq_nil_of_le (by simp; omega), List.append_nil]
theorem ck_cut {n k : Nat} {l : List Int} (h : (k + 1) * n ≤ l.length) : (l.take ((k + 1) * n)).drop (k * n) = (l.drop (k * n)).take n := by rw [Nat.succ_mul]; exact qM
theorem ck_cutL {n k : Nat} {l : List Int} (h : l.length < (k + 1) * n) : (l.take l.length).drop (k * n) = (l.drop (k * n)).take n := by
  rw [List.take_length, List.take_of_length_le]; rw [List.length_drop]; rw [Nat.succ_mul] at h; omega
def bs (l : List UInt8) : ByteArray := ⟨l.toArray⟩
def RTx : Hp → List Value → List UInt8 → Prop := fun _ cs x => cs = [.string (bs x)]
theorem RdTx.at {M : Hp} {v : Value} {l : List (List UInt8)} {k : Nat} {e : List UInt8} (h : RdS 1 RTx M v l) (he : l[k]? = some e) : ∃ p, Zo v k 1 p ∧ Zm M p = some (.string (bs e)) := by
  obtain ⟨p, cs, h1, h2, h3, h4⟩ := RdS.at h he
  have h5 : cs = [.string (bs e)] := h3
  subst h5
  exact ⟨p, h1, h4 0 _ rfl⟩
section
variable {r : Option Nat} {P : Program} {Q : Exit → Act → World → Prop} {a : Act} {w : World}
  {n : Nat} {ds : List Deferred} {l : List (Nat × Value)} {d : Nat} {ty t : TypeId} {pos : String} {af : Array Edge} {gd : Option (Nat × Bool)} {x : Operand}
  {next : Act → World → Prop} {M : Hp} {H : List QD} {s : List UInt8}
end
def RdSU (T : TypeId) (M : Hp) (v : Value) (c : List Int) : Prop := ∃ b m q, v = .pointer (some ⟨b, 0, none⟩) ∧ M b = some (.cells #[m] T) ∧ RdM M m (Sl.encS q) ∧ q.Nodup ∧ ∀ x, x ∈ q ↔ x ∈ c
theorem RdSU.le {T : TypeId} {M M' : Hp} {v : Value} {c : List Int} (h : RdSU T M v c) (hM : Hp.le M M') : RdSU T M' v c := by
  obtain ⟨b, m, q, e, hb, hm, hn, hq⟩ := h
  exact ⟨b, m, q, e, hM.2 _ _ hb, hm.le hM, hn, hq⟩
theorem RdSU.eq {T : TypeId} {M : Hp} {v : Value} {c c' : List Int} (h : RdSU T M v c) (e : ∀ x, x ∈ c ↔ x ∈ c') : RdSU T M v c' := by
  obtain ⟨b, m, q, e1, hb, hm, hn, hq⟩ := h
  exact ⟨b, m, q, e1, hb, hm, hn, fun x => (hq x).trans (e x)⟩
abbrev TSt := Int × Int × Int × Int × Int × List Int × Int × Int × List Int
def i64 (x : Int) : Prop := -9223372036854775808 ≤ x ∧ x ≤ 9223372036854775807
def RTS : Hp → List Value → TSt → Prop := fun M cs x => ∃ w v, cs = [.int .i64 x.1, .int .i64 x.2.1, .int .i64 x.2.2.1, .int .i64 x.2.2.2.1, .int .i64 x.2.2.2.2.1, w, .int .i64 x.2.2.2.2.2.2.1, .int .i64 x.2.2.2.2.2.2.2.1, v] ∧ RdI M w x.2.2.2.2.2.1 ∧ RdI M v x.2.2.2.2.2.2.2.2 ∧ i64 x.1 ∧ i64 x.2.1 ∧ i64 x.2.2.1 ∧ i64 x.2.2.2.2.1 ∧ i64 x.2.2.2.2.2.2.2.1 ∧ ∀ y ∈ x.2.2.2.2.2.2.2.2, -9223372036854775808 ≤ y ∧ y ≤ 9223372036854775807
theorem JJ : qp RTS := fun _ _ _ _ hM ⟨w, v, e, h1, h2, h⟩ => ⟨w, v, e, h1.le hM, h2.le hM, h⟩
theorem RdTS.at {M : Hp} {v : Value} {l : List TSt} {k : Nat} {e : TSt} (h : RdS 9 RTS M v l) (he : l[k]? = some e) : ∃ p w u, Zo v k 9 p ∧ GX M p [.int .i64 e.1, .int .i64 e.2.1, .int .i64 e.2.2.1, .int .i64 e.2.2.2.1, .int .i64 e.2.2.2.2.1, w, .int .i64 e.2.2.2.2.2.2.1, .int .i64 e.2.2.2.2.2.2.2.1, u] ∧ RdI M w e.2.2.2.2.2.1 ∧ RdI M u e.2.2.2.2.2.2.2.2 ∧
    (-9223372036854775808 ≤ e.1 ∧ e.1 ≤ 9223372036854775807) ∧ (-9223372036854775808 ≤ e.2.1 ∧ e.2.1 ≤ 9223372036854775807) ∧ (-9223372036854775808 ≤ e.2.2.1 ∧ e.2.2.1 ≤ 9223372036854775807) ∧ (-9223372036854775808 ≤ e.2.2.2.2.1 ∧ e.2.2.2.2.1 ≤ 9223372036854775807) ∧ (-9223372036854775808 ≤ e.2.2.2.2.2.2.2.1 ∧ e.2.2.2.2.2.2.2.1 ≤ 9223372036854775807) ∧ ∀ y ∈ e.2.2.2.2.2.2.2.2, -9223372036854775808 ≤ y ∧ y ≤ 9223372036854775807 := by
  obtain ⟨p, cs, h1, h2, ⟨w, u, h3, h5, h6, h7⟩, h4⟩ := RdS.at h he
  subst h3; exact ⟨p, w, u, h1, h4, h5, h6, h7⟩
theorem stW {M : Hp} {v : Value} {l : List (Int × Int × Int × (Int × Int × List Int) × (Int × Int) × List Int)}
    (h : RdS 9 (fun M cs (x : Int × Int × Int × (Int × Int × List Int) × (Int × Int) × List Int) => cs.length = 9 ∧ Wh M ((cs.drop 0).take 1) x.1 ∧ Wh M ((cs.drop 1).take 1) x.2.1 ∧ Wh M ((cs.drop 2).take 1) x.2.2.1 ∧ RS3 Wh Wh (RSl 1 Wh) M ((cs.drop 3).take 3) x.2.2.2.1 ∧ RS2 Wh Wh M ((cs.drop 6).take 2) x.2.2.2.2.1 ∧ RSl 1 Wh M ((cs.drop 8).take 1) x.2.2.2.2.2) M v l) :
    ∃ l', RdS 9 RTS M v l' ∧ ∀ y ∈ l', True := by
  refine h.rel (R' := RTS) (fun _ => True) fun cs x ⟨hl, h0, h1, h2, h3, h4, h5⟩ => ?_
  match cs, hl with
  | [a0, a1, a2, a3, a4, a5, a6, a7, a8], _ =>
  obtain ⟨u, hu, h5⟩ := h5
  obtain ⟨l', h6, h6r⟩ := h5.intW
  simp only [List.drop_succ_cons, List.drop_zero, List.take_succ_cons, List.take_zero] at h0 h1 h2 h3 h4 hu
  obtain ⟨e0, g0⟩ := h0
  obtain ⟨e1, g1⟩ := h1
  obtain ⟨e2, g2⟩ := h2
  obtain ⟨b0, b1, b2, e3, r3, r4, r5⟩ := h3
  obtain ⟨c0, c1, e6, r6, r7⟩ := h4
  obtain ⟨w, hw, r5⟩ := r5
  obtain ⟨pl, h7, _⟩ := r5.intW
  obtain ⟨e8, g8⟩ := r3
  obtain ⟨e9, g9⟩ := r4
  obtain ⟨e10, g10⟩ := r6
  obtain ⟨e11, g11⟩ := r7
  simp only [List.cons.injEq, and_true] at e0 e1 e2 e3 e6 e8 e9 e10 e11 hu hw
  refine ⟨(x.1, x.2.1, x.2.2.1, x.2.2.2.1.1, x.2.2.2.1.2.1, pl, x.2.2.2.2.1.1, x.2.2.2.2.1.2, l'), ⟨w, u, ?_, h7, h6, g0, g1, g2, g9, g11, h6r⟩, trivial⟩
  rw [e0, e1, e2, e3.1, e3.2.1, e3.2.2, e6.1, e6.2, e8, e9, e10, e11, hu, hw]
theorem tkA {α : Type} {Q : α → Prop} {l : List α} {k : Nat} {x : α} (h : l[k]? = some x) (hp : ∀ s ∈ l.take k, Q s) (hx : Q x) : ∀ s ∈ l.take (k + 1), Q s := fun s hs => by
  rw [List.take_add_one, h] at hs
  rcases List.mem_append.1 hs with h1 | h1
  · exact hp s h1
  · simp at h1; rw [h1]; exact hx
theorem tkE {α : Type} {Q : α → Prop} {l : List α} {k : Nat} (hp : ∀ s ∈ l.take k, Q s) (hk : l.length ≤ k) : ∀ s ∈ l, Q s := by rwa [List.take_of_length_le hk] at hp
theorem nd {p : Prop} [Decidable p] (h : (!decide p) = false) : p := by simpa using h
theorem RdS.eqL {α : Type} {sz : Nat} {R : Hp → List Value → α → Prop} {M : Hp} {v : Value} {l l' : List α} (h : RdS sz R M v l) (e : l' = l) : RdS sz R M v l' := e ▸ h
theorem Qn {P : Program} {a : Act} {w : World} {r : Option Nat} {Q : Exit → Act → World → Prop} {n : Nat} {ds : List Deferred} {l : List (Nat × Value)} {o : Operand} {x y : Code} {p : Prop} [Decidable p] (E : Env a n ds l) (hc : opv l o = some (.bool (decide p)))
    (ht : p → WP r P x Q a w) (hf : ¬ p → WP r P y Q a w) : WP r P (.cond o x y) Q a w := QL E hc (fun h => ht (of_decide_eq_true h)) (fun h => hf (of_decide_eq_false h))
theorem S_m {P : Program} {a : Act} {w : World} {r : Option Nat} {Q : Exit → Act → World → Prop} {n : Nat} {ds : List Deferred} {l : List (Nat × Value)} {d : Nat} {ty : TypeId} {pos : String} {af : Array Edge} {x : Operand} {ops : Array Oper} {rest : List Oper} {v : Value} (E : Env a n ds l) (hd : Nat.blt d n = true) (hx : opv l x = some v)
    (k : ∀ a, Env a n ds ((d, v) :: l) → WL r P ops Q rest a w) : WL r P ops Q (⟨some d, .move x, ty, pos, af, none⟩ :: rest) a w := S_v E hd (Qu E hx) rfl k
theorem S_a {P : Program} {a : Act} {w : World} {r : Option Nat} {Q : Exit → Act → World → Prop} {n : Nat} {ds : List Deferred} {l : List (Nat × Value)} {d : Nat} {ty : TypeId} {pos : String} {af : Array Edge} {x : Operand} {ops : Array Oper} {rest : List Oper} {v : Value} (E : Env a n ds l) (hd : Nat.blt d n = true) (hx : opv l x = some v)
    (k : ∀ a, Env a n ds ((d, v) :: l) → WL r P ops Q rest a w) : WL r P ops Q (⟨some d, .assign x, ty, pos, af, none⟩ :: rest) a w := S_v E hd (Jm E hx) rfl k
def ZG (s : TSt) : Prop := s.2.2.2.2.2.2.2.2.length ≤ 50 ∧ (-1099511627776 < s.2.2.2.2.1 ∧ s.2.2.2.2.1 < 1099511627776) ∧ s.2.2.2.2.2.1.length ≤ 300 ∧ (-1099511627776 < s.2.2.2.2.2.2.2.1 ∧ s.2.2.2.2.2.2.2.1 < 1099511627776) ∧ (29 ≤ s.1 % 47 ∧ s.1 % 47 ≤ 32 → s.2.2.2.2.2.2.2.2.length ≠ 0) ∧ (s.1 % 47 = 46 → s.2.2.2.2.2.2.2.2.length ≠ 0)
instance : DecidablePred ZG := fun s => by unfold ZG; infer_instance
theorem Ga (l c : List Int) : total [l, c] = l.length + c.length := by simp [total]
theorem yn {B : Nat} : ∀ {ll : List (List Int)}, (∀ x ∈ ll, x.length ≤ B) → total ll ≤ ll.length * B
  | [], _ => by simp [total]
  | x :: ll, h => by
    have h1 := h x (List.mem_cons_self ..)
    have h2 := yn (ll := ll) fun y hy => h y (List.mem_cons_of_mem _ hy)
    simp only [total, List.map_cons, List.sum_cons, List.length_cons, Nat.succ_mul] at h2 ⊢
    omega
theorem JG (n : Nat) (l : List Int) : total (WU n l) ≤ l.length := by
  rcases Nat.eq_zero_or_pos n with h | h
  · subst h; simp [WU, total]
  · rw [Ux h, ← Zg, chL_flat]; exact Nat.le_refl _
theorem JR {f : Int → Int} {l : List Int} (h : l.length ≤ 10000) : total (Js f l) ≤ 1000000000 := by
  have h1 := yn (B := l.length) fun x (hx : x ∈ Js f l) => yz hx
  have h2 := qN f l
  have h3 : (Js f l).length * l.length ≤ 10000 * 10000 := Nat.mul_le_mul (by omega) h
  omega
theorem Zp {n s : Nat} {l : List Int} (h : l.length ≤ 10000) (hn : 0 < n) (hn2 : n ≤ 100) (hs : 0 < s) : total (YY n s l) ≤ 1000000000 := by
  have h1 := yn (B := n) (ll := YY n s l) fun x hx => by
    unfold YY JA at hx
    obtain ⟨i, _, rfl⟩ := List.mem_map.1 hx
    rw [List.length_take]; omega
  have h2 := yt (l := l) hs hn
  have h3 : (YY n s l).length * n ≤ 10000 * 100 := Nat.mul_le_mul (by omega) hn2
  omega
theorem jU {l c : List Int} (h : l.length ≤ 10000) (h2 : c.length ≤ 10000) : (WI (fun x => x) [l, c]).length ≤ 1000000000000 :=
  Nat.le_trans (vR (T := 10000) _ fun x hx => by simp at hx; rcases hx with rfl | rfl <;> assumption) (by omega)
theorem cut2_len {l c : List Int} (h : l.length ≤ 10000) : (Yd l c).1.length + (Yd l c).2.1.length ≤ 1000000000000 := by
  have := cut_len (l := l) (b := c); omega
def Jo (d a b : Nat) (n m pk pn : Int) (pl : List Int) (kk kn : Int) (c l : List Int) : List Int :=
  match d with
  | 0 => QP (QF pk pn pl) 0 l
  | 1 => QP (fun x i => !(QF pk pn pl) x i) 0 l
  | 2 => ZN (Qs kk kn) 0 l
  | 3 => Zb (fun x i => (Qs kk kn x i, QF pk pn pl x i)) 0 l
  | 4 => Zl (fun x i => [x, Qs kk kn x i]) 0 l
  | 5 => QC l
  | 6 => (uqS (fun x => Qs kk kn x 0) l).2
  | 7 => (l).filter (fun x => !Jk false (Qw (fun x => x) l) ((fun x => x) x))
  | 8 => (fdS (fun x => x) (Qw (fun x => x) l) l).2
  | 9 => (l).filter (fun x => !Jk false (Qw (fun x => Qs kk kn x 0) l) ((fun x => Qs kk kn x 0) x))
  | 10 => (fdS (fun x => Qs kk kn x 0) (Qw (fun x => Qs kk kn x 0) l) l).2
  | 11 => (l).reverse
  | 12 => (l).take (((a : Nat) : Int) : Int).toNat
  | 13 => (l).drop (((a : Nat) : Int) : Int).toNat
  | 14 => (l).take ((l).length - (((a : Nat) : Int) : Int).toNat)
  | 15 => (l).takeWhile (fun x => QF pk pn pl x 0)
  | 16 => (l).dropWhile (fun x => QF pk pn pl x 0)
  | 17 => drw (fun x => QF pk pn pl x 0) l
  | 18 => (QP (QF pk pn pl) 0 l).take (((a : Nat) : Int) : Int).toNat
  | 19 => Vm l [((a : Nat) : Int), ((b : Nat) : Int)]
  | 20 => QS l ((a : Nat) : Int) ((b : Nat) : Int)
  | 21 => JE l ((a : Nat) : Int) ((b : Nat) : Int)
  | 22 => JQ (Zn n m) (JF n) ((b : Nat) : Int) l
  | 23 => JQ (Zn n m) (JF n) (-1) l
  | 24 => (l).filter (fun x => decide (x ≠ 0))
  | 25 => Yh l ((min a l.length : Nat) : Int) c
  | 26 => (l).dropWhile (fun x => decide (x ∈ c))
  | 27 => drw (fun x => decide (x ∈ c)) l
  | 28 => drw (fun x => decide (x ∈ c)) ((l).dropWhile (fun x => decide (x ∈ c)))
  | 29 => ZH c l
  | 30 => trimS c l
  | 31 => VD l c
  | 32 => VC l c
  | 33 => (l).filter (fun x => !decide (x ∈ c))
  | 34 => (l).filter (fun x => !decide (Qs kk kn x 0 ∈ c))
  | 35 => QC ([l, c]).flatten
  | 36 => (l).filter (fun x => !decide (x ∈ c))
  | 37 => (c).filter (fun x => !decide (x ∈ l))
  | 38 => WS [l, c]
  | 39 => if decide (0 < a) = true then (WU a l).flatten else [-7777]
  | 40 => (Js (fun x => Qs kk kn x 0) l).flatten
  | 41 => (YY (a + 1) 1 l).flatten
  | 42 => (YY (a + 1) (b + 1) l).flatten
  | 43 => VH (QC l)
  | 44 => ([l, c]).flatten
  | 45 => QW (WI (fun x => x) [l, c])
  | _ => if (Yd l c).2.2 = true then (Yd l c).1 ++ (Yd l c).2.1 else (Yd l c).2.1 ++ (Yd l c).1
def stepV (s : TSt) (l : List Int) : List Int := Jo (s.1 % 47).toNat (s.2.1 % 12).toNat (s.2.2.1 % 12).toNat s.2.1 s.2.2.1 s.2.2.2.1 s.2.2.2.2.1 s.2.2.2.2.2.1 s.2.2.2.2.2.2.1 s.2.2.2.2.2.2.2.1 s.2.2.2.2.2.2.2.2 l
section
variable {H : Type} {enc : TypeId × Value → H} {P : Program} {W : World} {α β γ δ ε ζ : Type}
theorem jq {t t0 t1 t2 t3 t4 t5 : TypeId} {o0 o1 o2 o3 o4 o5 n0 n1 n2 n3 n4 n5 N : Nat} {fs : Array Field} {R0 : Hp → List Value → α → Prop} {R1 : Hp → List Value → β → Prop} {R2 : Hp → List Value → γ → Prop} {R3 : Hp → List Value → δ → Prop} {R4 : Hp → List Value → ε → Prop} {R5 : Hp → List Value → ζ → Prop}
    (ht : P.underlying t = some (.struct fs)) (hfs : fs.toList.map (fun f => (f.type, f.offset)) = [(t0, o0), (t1, o1), (t2, o2), (t3, o3), (t4, o4), (t5, o5)])
    (h0 : P.cellsOf t0 = n0) (h1 : P.cellsOf t1 = n1) (h2 : P.cellsOf t2 = n2) (h3 : P.cellsOf t3 = n3) (h4 : P.cellsOf t4 = n4) (h5 : P.cellsOf t5 = n5) (hc : P.cellsOf t = N)
    (O0 : JK enc P W t0 R0) (O1 : JK enc P W t1 R1) (O2 : JK enc P W t2 R2) (O3 : JK enc P W t3 R3) (O4 : JK enc P W t4 R4) (O5 : JK enc P W t5 R5) :
    JK enc P W t (fun M cs (x : α × β × γ × δ × ε × ζ) => cs.length = N ∧ R0 M ((cs.drop o0).take n0) x.1 ∧ R1 M ((cs.drop o1).take n1) x.2.1 ∧ R2 M ((cs.drop o2).take n2) x.2.2.1 ∧ R3 M ((cs.drop o3).take n3) x.2.2.2.1 ∧ R4 M ((cs.drop o4).take n4) x.2.2.2.2.1 ∧ R5 M ((cs.drop o5).take n5) x.2.2.2.2.2) := by
  intro n cs x h hw
  obtain ⟨xs, n, rfl, rfl, hl, hxl, hi⟩ := DataW.trod_struct ht h
  have hl3 : fs.toList.length = 6 := by simpa using congrArg List.length hfs
  obtain ⟨f0, f1, f2, f3, f4, f5, hf⟩ : ∃ f0 f1 f2 f3 f4 f5, fs = #[f0, f1, f2, f3, f4, f5] := by
    match fs, hl3 with
    | ⟨[f0, f1, f2, f3, f4, f5]⟩, _ => exact ⟨f0, f1, f2, f3, f4, f5, rfl⟩
  subst hf
  simp at hfs
  obtain ⟨⟨rfl, e0⟩, ⟨rfl, e1⟩, ⟨rfl, e2⟩, ⟨rfl, e3⟩, ⟨rfl, e4⟩, rfl, e5⟩ := hfs
  rw [hc] at hl
  match xs, hxl with
  | [x0, x1, x2, x3, x4, x5], _ =>
  have g0 := hi 0 f0 rfl
  have g1 := hi 1 f1 rfl
  have g2 := hi 2 f2 rfl
  have g3 := hi 3 f3 rfl
  have g4 := hi 4 f4 rfl
  have g5 := hi 5 f5 rfl
  rw [e0, h0] at g0; rw [e1, h1] at g1; rw [e2, h2] at g2; rw [e3, h3] at g3; rw [e4, h4] at g4; rw [e5, h5] at g5
  simp only [DataW.weights, ht] at hw
  obtain ⟨y0, r0⟩ := O0 n _ x0 g0 fun k hk => hw k (DataW.weights_mem_each (j := 0) rfl rfl k hk)
  obtain ⟨y1, r1⟩ := O1 n _ x1 g1 fun k hk => hw k (DataW.weights_mem_each (j := 1) rfl rfl k hk)
  obtain ⟨y2, r2⟩ := O2 n _ x2 g2 fun k hk => hw k (DataW.weights_mem_each (j := 2) rfl rfl k hk)
  obtain ⟨y3, r3⟩ := O3 n _ x3 g3 fun k hk => hw k (DataW.weights_mem_each (j := 3) rfl rfl k hk)
  obtain ⟨y4, r4⟩ := O4 n _ x4 g4 fun k hk => hw k (DataW.weights_mem_each (j := 4) rfl rfl k hk)
  obtain ⟨y5, r5⟩ := O5 n _ x5 g5 fun k hk => hw k (DataW.weights_mem_each (j := 5) rfl rfl k hk)
  exact ⟨(y0, y1, y2, y3, y4, y5), hl, r0, r1, r2, r3, r4, r5⟩
end
def jo (ss : List TSt) (l : List Int) : List Int := ss.foldl (fun l s => stepV s l) l
theorem vF {ss : List TSt} {k : Nat} {s : TSt} {l : List Int} (h : ss[k]? = some s) : stepV s (jo (ss.take k) l) = jo (ss.take (k + 1)) l := by
  unfold jo; rw [List.take_add_one, h, List.foldl_append]; rfl
theorem lit {l0 : List Int} {l1 : List TSt} (h : (!decide ((l0.length ≤ 200 ∧ l1.length ≤ 40) ∧ ∀ s ∈ l1, ZG s)) = false) : l0.length ≤ 200 ∧ ∀ s ∈ l1, s.2.2.2.2.2.2.2.2.length ≤ 50 ∧ s.2.2.2.2.2.1.length ≤ 300 := by
  have h := nd h
  exact ⟨h.1.1, fun s hs => ⟨(h.2 s hs).1, (h.2 s hs).2.2.1⟩⟩
theorem uqg_y {f : Int → Int} {l : List Int} {k : Nat} {x y : Int} (h : l[k]? = some x) (h2 : (l.map f)[k]? = some y) (e : fiI (eqx y) (l.map f) = (k : Int)) : (uqS f (l.take k)).2 ++ [x] = (uqS f (l.take (k + 1))).2 := by
  have hy : y = f x := by rw [List.getElem?_map, h] at h2; exact (Option.some.inj h2).symm
  subst hy
  have hn := (YI h2).1 e
  rw [← List.map_take] at hn
  have hq : f x ∉ (uqS f (l.take k)).1 := by rw [(YK f _).1]; exact hn
  rw [Zx h, Ul]; unfold uqF; rw [if_neg hq]
theorem uqg_n {f : Int → Int} {l : List Int} {k : Nat} {x y : Int} (h : l[k]? = some x) (h2 : (l.map f)[k]? = some y) (e : ¬ fiI (eqx y) (l.map f) = (k : Int)) : (uqS f (l.take k)).2 = (uqS f (l.take (k + 1))).2 := by
  have hy : y = f x := by rw [List.getElem?_map, h] at h2; exact (Option.some.inj h2).symm
  subst hy
  have hn : f x ∈ (l.map f).take k := Decidable.not_not.1 fun h3 => e ((YI h2).2 h3)
  rw [← List.map_take] at hn
  rw [WM h (by rw [(YK f _).1]; exact hn)]
theorem uqg5 (n : Int) (l : List Int) : QC l = (uqS (fun x => Qs 5 n x 0) l).2 := by rw [key5, uqS_id]
theorem fu_eq (f : Int → Int) (l : List Int) : l.filter (fun x => !Jk false (Qw f l) (f x)) = l.filter (fun x => decide (cn f l (f x) = 1)) := by
  refine List.filter_congr fun x hx => ?_
  have h1 : 0 < cn f l (f x) := List.count_pos_iff.2 (List.mem_map_of_mem hx)
  rw [(dup_spec f l).2, ← decide_not]
  exact decide_eq_decide.2 (by omega)
theorem tkm_min (n : Nat) (l : List Int) : l.take (min n l.length) = l.take n := by
  by_cases h : n ≤ l.length
  · rw [Nat.min_eq_left h]
  · rw [Nat.min_eq_right (by omega), List.take_of_length_le (Nat.le_refl _), List.take_of_length_le (by omega)]
theorem drp_min (n : Nat) (l : List Int) : l.drop (min n l.length) = l.drop n := by
  by_cases h : n ≤ l.length
  · rw [Nat.min_eq_left h]
  · rw [Nat.min_eq_right (by omega), List.drop_of_length_le (Nat.le_refl _), List.drop_of_length_le (by omega)]
theorem td_nil {n m : Nat} {l : List Int} (h : min m l.length ≤ n) : [] = (l.take m).drop n := by
  rw [List.drop_of_length_le]; rw [List.length_take]; exact h
theorem flt_y {F : Int → Bool} {l : List Int} {k : Nat} {x : Int} (h : l[k]? = some x) (e : F x = true) : (l.take k).filter F ++ [x] = (l.take (k + 1)).filter F := by
  rw [Zx h, List.filter_append]; simp [e]
theorem flt_n {F : Int → Bool} {l : List Int} {k : Nat} {x : Int} (h : l[k]? = some x) (e : F x = false) : (l.take k).filter F = (l.take (k + 1)).filter F := by
  rw [Zx h, List.filter_append]; simp [e]
theorem wo5 (n : Int) (l m : List Int) : l.filter (fun x => !decide (x ∈ m)) = l.filter (fun x => !decide (Qs 5 n x 0 ∈ m)) := List.filter_congr fun x _ => by rw [show Qs 5 n x 0 = x from congrFun (key5 n) x]
theorem cmp0 (l : List Int) : l.filter (fun x => decide (x ≠ 0)) = l.filter (fun x => !decide (x ∈ ([0] : List Int))) := List.filter_congr fun x _ => by simp
theorem srt_kl (l : List Int) : VH (QC l) = QW l := vv (Uo l) fun z => JZ
def allIn (ll : List (List Int)) (x : Int) : Bool := ll.all fun m => decide (x ∈ m)
theorem meet_set (l c : List Int) : QW (WI (fun x => x) [l, c]) = QW ((QW l).filter (allIn [l, c])) := setI_eq fun z => by
  rw [vQ (by simp), List.mem_filter, (Yn l).2.1 z]; simp [allIn]
theorem alli_s {ll : List (List Int)} {k : Nat} {m : List Int} (h : ll[k]? = some m) (x : Int) (b : Bool) (hb : b = allIn (ll.take k) x) : (b && decide (x ∈ m)) = allIn (ll.take (k + 1)) x := by
  subst hb; unfold allIn; rw [List.take_add_one, h, List.all_append]; simp
theorem flt_yA {ll : List (List Int)} {L : List Int} {k j : Nat} {x : Int} (h : L[k]? = some x) (e : allIn (ll.take j) x = true) (hj : ll.length ≤ j) : (L.take k).filter (allIn ll) ++ [x] = (L.take (k + 1)).filter (allIn ll) :=
  flt_y h (by rwa [List.take_of_length_le hj] at e)
theorem flt_nA {ll : List (List Int)} {L : List Int} {k j : Nat} {x : Int} (h : L[k]? = some x) (e : allIn (ll.take j) x = false) (hj : ll.length ≤ j) : (L.take k).filter (allIn ll) = (L.take (k + 1)).filter (allIn ll) :=
  flt_n h (by rwa [List.take_of_length_le hj] at e)
theorem int_res {ll : List (List Int)} {k : Nat} {X : List Int} (h : ll[0]? = some X) (hk : (QW X).length ≤ k) : (QW (ll.getD 0 [])).filter (allIn ll) = ((QW X).take k).filter (allIn ll) := by
  rw [List.getD_eq_getElem?_getD, h, List.take_of_length_le hk]; rfl
theorem alli_t {ll : List (List Int)} {k : Nat} {m : List Int} {x : Int} (h : ll[k]? = some m) (e : allIn (ll.take k) x = true) : decide (x ∈ m) = allIn (ll.take (k + 1)) x := by
  have := alli_s h x _ rfl; rwa [e, Bool.true_and] at this
theorem alli_f {ll : List (List Int)} {k : Nat} {m : List Int} {x : Int} (h : ll[k]? = some m) (e : allIn (ll.take k) x = false) : false = allIn (ll.take (k + 1)) x := by
  have := alli_s h x _ rfl; rwa [e, Bool.false_and] at this
theorem fu5 (n : Int) (l : List Int) : l.filter (fun x => decide (cn (fun x => x) l ((fun x => x) x) = 1)) = l.filter (fun x => decide (cn (fun x => Qs 5 n x 0) l ((fun x => Qs 5 n x 0) x) = 1)) := by rw [key5]
theorem fd5 (n : Int) (l : List Int) : cano (fun x => x) l = cano (fun x => Qs 5 n x 0) l := by rw [key5]
theorem rng2 {l c : List Int} (h1 : ∀ x ∈ l, -9223372036854775808 ≤ x ∧ x ≤ 9223372036854775807) (h2 : ∀ x ∈ c, -9223372036854775808 ≤ x ∧ x ≤ 9223372036854775807) : ∀ x ∈ [l, c].flatten, -9223372036854775808 ≤ x ∧ x ≤ 9223372036854775807 := by
  intro x hx
  obtain ⟨m, hm, hxm⟩ := List.mem_flatten.1 hx
  simp only [List.mem_cons, List.not_mem_nil, or_false] at hm
  rcases hm with rfl | rfl
  · exact h1 x hxm
  · exact h2 x hxm
theorem vY {l c : List Int} (h : l.length ≤ 10000) : ((QW (([l, c] : List (List Int)).getD 0 [])).filter (allIn [l, c])).length ≤ 1000000000000 :=
  Nat.le_trans (List.length_filter_le _ _) (Nat.le_trans (show (QW l).length ≤ l.length from (Yn l).2.2) (by omega))
abbrev Rng (l : List Int) : Prop := ∀ x ∈ l, -9223372036854775808 ≤ x ∧ x ≤ 9223372036854775807
theorem rg_sub {a l : List Int} (h : Rng l) (hs : ∀ x ∈ a, x ∈ l) : Rng a := fun x hx => h x (hs x hx)
theorem rg_mapI {k n : Int} (hn : -9223372036854775808 ≤ n ∧ n ≤ 9223372036854775807) : ∀ {l : List Int} {i : Nat}, Rng l → i + l.length ≤ 1000000 → Rng (ZN (Qs k n) i l)
  | [], _, _, _ => fun x hx => by cases hx
  | y :: l, i, h, hb => fun x hx => by
    rw [List.length_cons] at hb
    rcases List.mem_cons.1 hx with e | e
    · rw [e]; exact Wu hn (h y (List.mem_cons_self ..)) (by omega)
    · exact rg_mapI hn (l := l) (i := i + 1) (fun z hz => h z (List.mem_cons_of_mem _ hz)) (by omega) x e
theorem vI {k n : Int} {p : Int → Int → Bool} (hn : -9223372036854775808 ≤ n ∧ n ≤ 9223372036854775807) : ∀ {l : List Int} {i : Nat}, Rng l → i + l.length ≤ 1000000 → Rng (Zb (fun x i => (Qs k n x i, p x i)) i l)
  | [], _, _, _ => fun x hx => by cases hx
  | y :: l, i, h, hb => fun x hx => by
    rw [List.length_cons] at hb
    have ih := vI (k := k) (p := p) hn (l := l) (i := i + 1) (fun z hz => h z (List.mem_cons_of_mem _ hz)) (by omega)
    unfold Zb at hx
    split at hx
    · rcases List.mem_cons.1 hx with e | e
      · rw [e]; exact Wu hn (h y (List.mem_cons_self ..)) (by omega)
      · exact ih x e
    · exact ih x hx
theorem vJ {k n : Int} (hn : -9223372036854775808 ≤ n ∧ n ≤ 9223372036854775807) : ∀ {l : List Int} {i : Nat}, Rng l → i + l.length ≤ 1000000 → Rng (Zl (fun x i => [x, Qs k n x i]) i l)
  | [], _, _, _ => fun x hx => by cases hx
  | y :: l, i, h, hb => fun x hx => by
    rw [List.length_cons] at hb
    have hy := h y (List.mem_cons_self ..)
    simp only [Zl, List.cons_append, List.nil_append] at hx
    rcases List.mem_cons.1 hx with e | e
    · rw [e]; exact hy
    rcases List.mem_cons.1 e with e | e
    · rw [e]; exact Wu hn hy (by omega)
    · exact vJ hn (l := l) (i := i + 1) (fun z hz => h z (List.mem_cons_of_mem _ hz)) (by omega) x e
theorem Vj {f : Int → Int → Bool} : ∀ {l : List Int} {i : Nat} {x : Int}, x ∈ QP f i l → x ∈ l
  | [], _, _, h => by cases h
  | y :: l, i, x, h => by
    unfold QP at h
    split at h
    · rcases List.mem_cons.1 h with e | e
      · rw [e]; exact List.mem_cons_self ..
      · exact List.mem_cons_of_mem _ (Vj e)
    · exact List.mem_cons_of_mem _ (Vj h)
theorem yl {f : Int → Int} : ∀ (l : List Int) {x : Int}, x ∈ (uqS f l).2 → x ∈ l := fun l => by
  refine vB (C := fun l => ∀ {x : Int}, x ∈ (uqS f l).2 → x ∈ l) (fun h => by simp [uqS] at h) (fun p y h => ?_) l
  intro x hx
  rw [Ul] at hx
  unfold uqF at hx
  split at hx
  · exact List.mem_append_left _ (h hx)
  · rcases List.mem_append.1 hx with e | e
    · exact List.mem_append_left _ (h e)
    · exact List.mem_append_right _ e
theorem vc {f : Int → Bool} {l : List Int} {x : Int} (h : x ∈ drw f l) : x ∈ l := by
  unfold drw at h
  have h := (List.dropWhile_sublist f).subset (List.mem_reverse.1 h)
  exact List.mem_reverse.1 h
theorem rg_repS {a b : Int} (hb : -9223372036854775808 ≤ b ∧ b ≤ 9223372036854775807) {F G : Int → Int → Int} (hF : ∀ s x, F s x = x ∨ F s x = b) : ∀ {l : List Int} {s : Int}, Rng l → Rng (JQ F G s l)
  | [], _, _ => fun x hx => by cases hx
  | y :: l, s, h => fun x hx => by
    rcases List.mem_cons.1 hx with e | e
    · rcases hF s y with e2 | e2
      · rw [e, e2]; exact h y (List.mem_cons_self ..)
      · rw [e, e2]; exact hb
    · exact rg_repS (a := a) hb hF (l := l) (fun z hz => h z (List.mem_cons_of_mem _ hz)) x e
theorem qX {b : List Int} : ∀ {n : Nat} {l : List Int} {x : Int}, x ∈ ZX b n l → x ∈ l
  | 0, l, x, h => h
  | n + 1, l, x, h => by
    unfold ZX at h
    split at h
    · exact List.mem_of_mem_drop (qX h)
    · exact h
theorem qV {b : List Int} : ∀ {n : Nat} {l : List Int} {x : Int}, x ∈ ZW b n l → x ∈ l
  | 0, l, x, h => h
  | n + 1, l, x, h => by
    unfold ZW at h
    split at h
    · exact List.mem_of_mem_take (qV h)
    · exact h
theorem cut_mem {l b : List Int} {x : Int} (h : x ∈ (Yd l b).1 ∨ x ∈ (Yd l b).2.1) : x ∈ l := by
  unfold Yd at h
  split at h
  · rcases h with h | h
    · exact List.mem_of_mem_take h
    · exact List.mem_of_mem_drop h
  · rcases h with h | h
    · exact h
    · cases h
theorem meet_mem {l c : List Int} {x : Int} (h : x ∈ WI (fun x => x) [l, c]) : x ∈ l := (vQ (by simp)).1 h l (by simp)
theorem play_rng {d a b : Nat} {n m pk pn : Int} {pl : List Int} {kk kn : Int} {c l : List Int} (hl : Rng l) (hc : Rng c) (hm : -9223372036854775808 ≤ m ∧ m ≤ 9223372036854775807) (hkn : -9223372036854775808 ≤ kn ∧ kn ≤ 9223372036854775807) (hb : l.length ≤ 10000) : Rng (Jo d a b n m pk pn pl kk kn c l) := by
  have H : ∀ {q : List Int}, (∀ x ∈ q, x ∈ l) → Rng q := fun h => rg_sub hl h
  have h7 : Rng [-7777] := fun x hx => by simp at hx; omega
  have hlc : Rng [l, c].flatten := rng2 hl hc
  have HI : ∀ {q : List Int}, Rng q → Rng (QW q) := fun {q} h x hx => h x (((Yn q).2.1 x).1 hx)
  have hFl : ∀ {f : Int → Bool}, Rng (l.filter f) := fun {f} => H fun x hx => (List.mem_filter.1 hx).1
  have hR : ∀ {s : Int}, Rng (JQ (Zn n m) (JF n) s l) := fun {s} => rg_repS (a := n) hm (fun s x => by unfold Zn; split <;> simp) hl
  have hch : Rng (if decide (0 < a) = true then (WU a l).flatten else [-7777]) := by
    split
    · rename_i h
      rw [Ux (by simpa using h), chL_flat]; exact hl
    · exact h7
  have hwin : ∀ {w s : Nat}, Rng (YY w s l).flatten := fun {w s} => H fun x hx => by
    obtain ⟨y, hy, hx⟩ := List.mem_flatten.1 hx
    unfold YY JA at hy
    obtain ⟨i, _, rfl⟩ := List.mem_map.1 hy
    exact List.mem_of_mem_drop (List.mem_of_mem_take hx)
  have hpart : ∀ {f : Int → Int}, Rng (Js f l).flatten := fun {f} => H fun x hx => by
    obtain ⟨y, hy, hx⟩ := List.mem_flatten.1 hx
    unfold Js at hy
    obtain ⟨i, _, rfl⟩ := List.mem_map.1 hy
    exact (List.mem_filter.1 hx).1
  unfold Jo
  split
  · exact H fun x hx => Vj hx
  · exact H fun x hx => Vj hx
  · exact rg_mapI hkn hl (by omega)
  · exact vI hkn hl (by omega)
  · exact vJ hkn hl (by omega)
  · exact H fun x hx => JZ.1 hx
  · exact H fun x hx => yl l hx
  · exact hFl
  · rw [Wx]; exact H fun x hx => yl l (List.mem_filter.1 hx).1
  · exact hFl
  · rw [Wx]; exact H fun x hx => yl l (List.mem_filter.1 hx).1
  · exact H fun x hx => List.mem_reverse.1 hx
  · exact H fun x hx => List.mem_of_mem_take hx
  · exact H fun x hx => List.mem_of_mem_drop hx
  · exact H fun x hx => List.mem_of_mem_take hx
  · exact H fun x hx => (List.takeWhile_sublist _).subset hx
  · exact H fun x hx => (List.dropWhile_sublist _).subset hx
  · exact H fun x hx => vc hx
  · exact H fun x hx => Vj (List.mem_of_mem_take hx)
  · exact H fun x hx => Vj hx
  · exact H fun x hx => List.mem_of_mem_take (List.mem_of_mem_drop hx)
  · exact H fun x hx => List.mem_of_mem_drop (List.mem_of_mem_take hx)
  · exact hR
  · exact hR
  · exact hFl
  · unfold Yh
    intro x hx
    rcases List.mem_append.1 hx with hx | hx
    · rcases List.mem_append.1 hx with hx | hx
      · exact hl x (List.mem_of_mem_take hx)
      · exact hc x hx
    · exact hl x (List.mem_of_mem_drop hx)
  · exact H fun x hx => (List.dropWhile_sublist _).subset hx
  · exact H fun x hx => vc hx
  · exact H fun x hx => (List.dropWhile_sublist _).subset (vc hx)
  · exact H fun x hx => by unfold ZH at hx; split at hx; exact hx; exact qX hx
  · exact H fun x hx => by unfold trimS at hx; split at hx; exact hx; exact qV hx
  · exact H fun x hx => by unfold VD at hx; split at hx; exact List.mem_of_mem_drop hx; exact hx
  · exact H fun x hx => by unfold VC at hx; split at hx; exact List.mem_of_mem_take hx; exact hx
  · exact hFl
  · exact hFl
  · exact fun x hx => hlc x (JZ.1 hx)
  · exact hFl
  · exact fun x hx => hc x (List.mem_filter.1 hx).1
  · exact fun x hx => hlc x ((vX _).subset hx)
  · exact hch
  · exact hpart
  · exact hwin
  · exact hwin
  · exact fun x hx => hl x (JZ.1 ((VQ _).subset hx))
  · exact hlc
  · exact HI (H fun x hx => meet_mem hx)
  · split <;> exact H fun x hx => by rcases List.mem_append.1 hx with e | e <;> first | exact cut_mem (.inl e) | exact cut_mem (.inr e)
theorem step_rng {ss : List TSt} {k : Nat} {s : TSt} {l : List Int} (h : ss[k]? = some s) (hl : Rng (jo (ss.take k) l)) (hb : (jo (ss.take k) l).length ≤ 10000) (hc : Rng s.2.2.2.2.2.2.2.2) (hm : -9223372036854775808 ≤ s.2.2.1 ∧ s.2.2.1 ≤ 9223372036854775807) (hk : -9223372036854775808 ≤ s.2.2.2.2.2.2.2.1 ∧ s.2.2.2.2.2.2.2.1 ≤ 9223372036854775807) : Rng (jo (ss.take (k + 1)) l) := by
  rw [← vF h]; exact play_rng hl hc hm hk hb
end Go.Proofs.YtgceicmfefpngaaGreat.wFnScript
