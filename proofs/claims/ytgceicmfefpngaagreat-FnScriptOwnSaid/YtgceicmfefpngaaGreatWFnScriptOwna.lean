import Derived.Test.YtgceicmfefpngaaGreatProg
import Derived.Test.YtgceicmfefpngaaGreatSlS
import Derived.Ground.SlgmProg
set_option linter.unusedVariables false
set_option linter.unusedSimpArgs false
namespace Go.Proofs.YtgceicmfefpngaaGreat.wFnScriptOwn
open Go Go.Sl
set_option maxRecDepth 100000
set_option maxHeartbeats 4000000

theorem Tryz.mixed : Tryz.prog.follows .mixedOrders = true := by kernel_rfl
theorem QE : qp Tryz.prog 22 3 1 8 (.int .i64 0) := ⟨Tryz.underlying22, ⟨Tryz.t3, by kernel_rfl, rfl, rfl, rfl⟩, rfl, by decide⟩
theorem T23 : qp Tryz.prog 23 32 9 104 (.agg #[(.int .i64 0), (.int .i64 0), (.int .i64 0), (.int .i64 0), (.int .i64 0), (.slice none 0 0), (.int .i64 0), (.int .i64 0), (.slice none 0 0)]) := ⟨Tryz.underlying23, ⟨Tryz.t32, by kernel_rfl, rfl, rfl, rfl⟩, rfl, by decide⟩
theorem Vn : qp Tryz.prog 74 22 1 24 (.slice none 0 0) := ⟨Tryz.underlying74, ⟨Tryz.t22, by kernel_rfl, rfl, rfl, rfl⟩, rfl, by decide⟩
theorem ja : qp Tryz.prog 139 62 1 8 (.nilFunc) := ⟨Tryz.underlying139, ⟨Tryz.t62, by kernel_rfl, rfl, rfl, rfl⟩, rfl, by decide⟩
theorem Yp : Vc Tryz.prog 116 3 117 (.agg #[]) := ⟨Tryz.underlying116, Tryz.underlying3, ⟨Tryz.t117, by kernel_rfl, rfl⟩⟩
theorem Zc : Vc Tryz.prog 119 3 4 (.bool false) := ⟨Tryz.underlying119, Tryz.underlying3, ⟨Tryz.t4, by kernel_rfl, rfl⟩⟩
theorem MT150 : Vc Tryz.prog 150 3 3 (.int .i64 0) := ⟨Tryz.underlying150, Tryz.underlying3, ⟨Tryz.t3, by kernel_rfl, rfl⟩⟩
theorem WG (w : World) : (Instr.build 117 #[]).run Tryz.prog w = .ok (.agg #[]) w := run_build _ _ _ _ (by kernel_rfl)
theorem FB27_0_i (x0 : Int) (w : World) : (Instr.build 27 #[(0, (.int .i64 x0))]).run Tryz.prog w = .ok (.agg #[(.int .i64 x0), (.int .i64 0), (.slice none 0 0)]) w := run_build _ _ _ _ (by kernel_rfl)
theorem FA27_0 (p : Addr) (w : World) : (Instr.fieldAt 27 (.pointer (some p)) 0).run Tryz.prog w = .ok (.pointer (some (p.add 0))) w := by kernel_rfl
theorem qr (p : Addr) (w : World) : (Instr.fieldAt 27 (.pointer (some p)) 1).run Tryz.prog w = .ok (.pointer (some (p.add 1))) w := by kernel_rfl
theorem vH (p : Addr) (w : World) : (Instr.fieldAt 27 (.pointer (some p)) 2).run Tryz.prog w = .ok (.pointer (some (p.add 2))) w := by kernel_rfl
theorem FA30_0 (p : Addr) (w : World) : (Instr.fieldAt 30 (.pointer (some p)) 0).run Tryz.prog w = .ok (.pointer (some (p.add 0))) w := by kernel_rfl
theorem qq (p : Addr) (w : World) : (Instr.fieldAt 30 (.pointer (some p)) 1).run Tryz.prog w = .ok (.pointer (some (p.add 1))) w := by kernel_rfl
theorem WH (p : Addr) (w : World) : (Instr.fieldAt 32 (.pointer (some p)) 0).run Tryz.prog w = .ok (.pointer (some (p.add 0))) w := by kernel_rfl
theorem jg (p : Addr) (w : World) : (Instr.fieldAt 32 (.pointer (some p)) 1).run Tryz.prog w = .ok (.pointer (some (p.add 1))) w := by kernel_rfl
theorem jf (p : Addr) (w : World) : (Instr.fieldAt 32 (.pointer (some p)) 2).run Tryz.prog w = .ok (.pointer (some (p.add 2))) w := by kernel_rfl
theorem Vd (p : Addr) (w : World) : (Instr.fieldAt 32 (.pointer (some p)) 3).run Tryz.prog w = .ok (.pointer (some (p.add 3))) w := by kernel_rfl
theorem Vk (p : Addr) (w : World) : (Instr.fieldAt 32 (.pointer (some p)) 4).run Tryz.prog w = .ok (.pointer (some (p.add 6))) w := by kernel_rfl
theorem JR (p : Addr) (w : World) : (Instr.fieldAt 32 (.pointer (some p)) 5).run Tryz.prog w = .ok (.pointer (some (p.add 8))) w := by kernel_rfl
def VS (l : List Int) (i : Int) (m : List Int) : List Int :=
  let j := min (if i < 0 then (i + l.length).toNat else i.toNat) l.length
  l.take j ++ m ++ l.drop j
def cutAt (l b : List Int) : Option Nat := (List.range (l.length + 1)).find? (fun i => decide ((l.drop i).take b.length = b))
def Ur (l b : List Int) : List Int × List Int × Bool :=
  match cutAt l b with
  | some k => (l.take k, l.drop (k + b.length), true)
  | none => (l, [], false)
theorem cutAt_some {l b : List Int} {k : Nat} (hk : k ≤ l.length) (h : (l.drop k).take b.length = b) (hn : ∀ j, j < k → ¬ (l.drop j).take b.length = b) : cutAt l b = some k := by
  unfold cutAt
  rw [List.find?_range_eq_some]
  exact ⟨by simpa using h, by simp; omega, fun j hj => by simpa using hn j hj⟩
theorem cutAt_none {l b : List Int} (hn : ∀ j, j ≤ l.length → ¬ (l.drop j).take b.length = b) : cutAt l b = none := by
  unfold cutAt
  rw [List.find?_range_eq_none]
  intro j hj
  simpa using hn j (by omega)
theorem Uv {l b : List Int} {k : Nat} (hk : k ≤ l.length) (h : (l.drop k).take b.length = b) (hn : ∀ j, j < k → ¬ (l.drop j).take b.length = b) : Ur l b = (l.take k, l.drop (k + b.length), true) := by
  unfold Ur; rw [cutAt_some hk h hn]
theorem zW {l b : List Int} {k : Nat} (hk : l.length < k + b.length) (hn : ∀ j, j < k → ¬ (l.drop j).take b.length = b) : Ur l b = (l, [], false) := by
  unfold Ur; rw [cutAt_none]
  intro j hj e
  by_cases h : j < k
  · exact hn j h e
  · have := congrArg List.length e
    simp at this; omega
theorem cut_len {l b : List Int} : (Ur l b).1.length ≤ l.length ∧ (Ur l b).2.1.length ≤ l.length := by
  unfold Ur; split <;> simp <;> omega
def maxLen (ll : List (List Int)) : Nat := ll.foldl (fun a x => max a x.length) 0
def Yw (i : Nat) (ll : List (List Int)) : List Int := ll.filterMap (fun l => l[i]?)
def JP (k : Nat) (ll : List (List Int)) : List Int := (List.range k).flatMap (fun i => Yw i ll)
def total (ll : List (List Int)) : Nat := (ll.map List.length).sum
theorem jk {ll : List (List Int)} {k : Nat} {x : List Int} (h : ll[k]? = some x) : maxLen (ll.take (k + 1)) = max (maxLen (ll.take k)) x.length := by
  simp [maxLen, List.take_add_one, h]
theorem foldl_max_le (ll : List (List Int)) : ∀ a, a ≤ ll.foldl (fun a x => max a x.length) a ∧ ∀ x ∈ ll, x.length ≤ ll.foldl (fun a x => max a x.length) a := by
  induction ll with
  | nil => intro a; simp
  | cons y ll ih =>
    intro a
    obtain ⟨h1, h2⟩ := ih (max a y.length)
    simp only [List.foldl_cons, List.mem_cons]
    refine ⟨by omega, fun x hx => ?_⟩
    rcases hx with rfl | hx
    · omega
    · exact h2 x hx
theorem zH {ll : List (List Int)} {x : List Int} (h : x ∈ ll) : x.length ≤ maxLen ll := (foldl_max_le ll 0).2 x h
theorem maxLen_le {ll : List (List Int)} {b : Nat} (h : ∀ x ∈ ll, x.length ≤ b) : maxLen ll ≤ b := by
  unfold maxLen
  suffices ∀ a, a ≤ b → ll.foldl (fun a x => max a x.length) a ≤ b from this 0 (by omega)
  induction ll with
  | nil => intro a ha; exact ha
  | cons y ll ih => intro a ha; exact ih (fun x hx => h x (by simp [hx])) _ (by have := h y (by simp); show max a y.length ≤ b; omega)
theorem Yj {ll : List (List Int)} {k : Nat} {x : List Int} (h : ll[k]? = some x) : total (ll.take (k + 1)) = total (ll.take k) + x.length := by
  simp [total, List.take_add_one, h]
theorem Jn (ll : List (List Int)) (k : Nat) : total (ll.take k) ≤ total ll := by
  unfold total
  conv => rhs; rw [← List.take_append_drop k ll]
  rw [List.map_append, List.sum_append]; omega
theorem total_le {ll : List (List Int)} {b : Nat} (h : ∀ x ∈ ll, x.length ≤ b) : total ll ≤ ll.length * b := by
  induction ll with
  | nil => simp [total]
  | cons y ll ih =>
    have h1 := h y (by simp)
    have h2 := ih (fun x hx => h x (by simp [hx]))
    simp only [total, List.map_cons, List.sum_cons, List.length_cons, Nat.succ_mul] at *; omega
theorem YQ (k : Nat) (ll : List (List Int)) : JP (k + 1) ll = JP k ll ++ Yw k ll := by
  simp [JP, List.range_succ, List.flatMap_append]
theorem rowI_cons (k : Nat) (x : List Int) (ll : List (List Int)) : (Yw k (x :: ll)).length = (if k < x.length then 1 else 0) + (Yw k ll).length := by
  unfold Yw
  by_cases h : k < x.length
  · rw [List.filterMap_cons, List.getElem?_eq_getElem h]; simp [h]; omega
  · rw [List.filterMap_cons, List.getElem?_eq_none (by omega)]; simp [h]
theorem yT (k : Nat) : JP k [] = [] := by simp [JP, Yw, List.flatMap_eq_nil_iff]
theorem jo (k : Nat) (x : List Int) (ll : List (List Int)) : (JP k (x :: ll)).length = min k x.length + (JP k ll).length := by
  induction k with
  | zero => simp [JP]
  | succ k ih => rw [YQ, YQ, List.length_append, List.length_append, ih, rowI_cons]; split <;> omega
theorem interP_le (k : Nat) (ll : List (List Int)) : (JP k ll).length ≤ total ll := by
  induction ll with
  | nil => simp [yT, total]
  | cons x ll ih => rw [jo]; simp only [total, List.map_cons, List.sum_cons] at *; omega
theorem interP_full {k : Nat} {ll : List (List Int)} (h : ∀ x ∈ ll, x.length ≤ k) : (JP k ll).length = total ll := by
  induction ll with
  | nil => simp [yT, total]
  | cons x ll ih =>
    have h1 := h x (by simp)
    have h2 := ih fun y hy => h y (by simp [hy])
    rw [jo]; simp only [total, List.map_cons, List.sum_cons] at *; omega
theorem YT {ll : List (List Int)} {j i : Nat} {x : List Int} (h : ll[j]? = some x) : Yw i (ll.take (j + 1)) = Yw i (ll.take j) ++ x[i]?.toList := by
  unfold Yw
  rw [List.take_add_one, h, List.filterMap_append]
  cases e : x[i]? <;> simp [e]
theorem rowI_take_le (i j : Nat) (ll : List (List Int)) : (Yw i (ll.take j)).length ≤ (Yw i ll).length := by
  unfold Yw
  conv => rhs; rw [← List.take_append_drop j ll, List.filterMap_append, List.length_append]
  omega
theorem qS (i j : Nat) (ll : List (List Int)) : (JP i ll).length + (Yw i (ll.take j)).length ≤ total ll := by
  have h := interP_le (i + 1) ll
  rw [YQ, List.length_append] at h
  have := rowI_take_le i j ll; omega
theorem Vu {i j : Nat} {ll : List (List Int)} {x : List Int} (h : ll[j]? = some x) (hi : i < x.length) : (JP i ll).length + (Yw i (ll.take j)).length < total ll := by
  have h1 := qS i (j + 1) ll
  rw [YT h, List.getElem?_eq_getElem hi] at h1
  simp at h1; omega
theorem rowI_out {i : Nat} {ll : List (List Int)} (h : ∀ x ∈ ll, x.length ≤ i) : Yw i ll = [] := by
  unfold Yw
  rw [List.filterMap_eq_nil_iff]
  intro x hx
  exact List.getElem?_eq_none (h x hx)
theorem interP_stable {ll : List (List Int)} {m : Nat} (h : ∀ x ∈ ll, x.length ≤ m) : ∀ k, m ≤ k → JP k ll = JP m ll := by
  intro k hk
  induction k with
  | zero => rw [show m = 0 by omega]
  | succ k ih =>
    by_cases e : m = k + 1
    · rw [e]
    · rw [YQ, ih (by omega), rowI_out fun x hx => by have := h x hx; omega, List.append_nil]
def yU (ll : List (List Int)) : List Int := JP (maxLen ll) ll
theorem interL_eq {ll : List (List Int)} {k : Nat} (h : maxLen ll ≤ k) : JP k ll = yU ll :=
  interP_stable (fun x hx => zH hx) k h
theorem maxLen_total (ll : List (List Int)) : maxLen ll ≤ total ll := by
  refine maxLen_le fun x hx => ?_
  obtain ⟨k, hk⟩ := List.getElem?_of_mem hx
  have := Jn ll (k + 1)
  rw [Yj hk] at this; omega
theorem GS (ll : List (List Int)) : (yU ll).length = total ll := interP_full fun x hx => zH hx
theorem Yr (ll : List (List Int)) : ll.flatten.length = total ll := by simp [total, List.length_flatten]
theorem ZL {ll : List (List Int)} {k : Nat} {x : List Int} (h : ll[k]? = some x) : (ll.take (k + 1)).flatten = (ll.take k).flatten ++ x := by
  simp [List.take_add_one, h]
theorem qE {p q : List Int} {n : Nat} {y : Int} (h : p.length < n) (hq : q = p ++ [y]) : (p ++ List.replicate (n - p.length) (0 : Int)).set p.length y = q ++ List.replicate (n - q.length) (0 : Int) := by
  subst hq
  rw [List.set_append_right _ _ (Nat.le_refl _), Nat.sub_self]
  obtain ⟨m, hm⟩ : ∃ m, n - p.length = m + 1 := ⟨n - p.length - 1, by omega⟩
  rw [hm, List.replicate_succ, List.set_cons_zero]
  simp; omega
theorem UH {l : List (List Int)} {k : Nat} {xk p : List Int} {x : Int} (h : l[k]? = some xk) (hp : p ++ [x] <+: xk) : ((l.take k).flatten ++ p) ++ [x] <+: l.flatten := by
  have h1 : (l.take (k + 1)).flatten <+: l.flatten := by
    conv => rhs; rw [← List.take_append_drop (k + 1) l, List.flatten_append]
    exact List.prefix_append _ _
  rw [ZL h] at h1
  rw [List.append_assoc]
  exact ((List.prefix_append_right_inj _).2 hp).trans h1
def Um (l : List Int) (k : Nat) : List Int := (List.range l.length).map fun i => if i < k ∨ l.length ≤ i + k then l.getD (l.length - 1 - i) 0 else l.getD i 0
theorem swapK_zero (l : List Int) : l = Um l 0 := by
  apply List.ext_getElem?
  intro i
  unfold Um
  rw [List.getElem?_map]
  by_cases h : i < l.length
  · rw [List.getElem?_range h, Option.map_some, if_neg (by omega), List.getElem?_eq_getElem h]; simp [List.getD_eq_getElem?_getD, h]
  · rw [List.getElem?_eq_none (by omega), List.getElem?_eq_none (by simp; omega)]; rfl
theorem YS (l : List Int) (k : Nat) : (Um l k).length = l.length := by simp [Um]
theorem Gs {l : List Int} {k i : Nat} (h : i < l.length) : (Um l k)[i]? = some (if i < k ∨ l.length ≤ i + k then l.getD (l.length - 1 - i) 0 else l.getD i 0) := by
  unfold Um; rw [List.getElem?_map, List.getElem?_range h]; rfl
theorem swapK_succ {l : List Int} {k j : Nat} {x y : Int} (hk : 2 * k + 1 < l.length) (hj : j = l.length - 1 - k) (hx : (Um l k)[j]? = some x) (hy : (Um l k)[k]? = some y) : ((Um l k).set k x).set j y = Um l (k + 1) := by
  subst hj
  rw [Gs (by omega)] at hx hy
  rw [if_neg (by omega)] at hx hy
  apply List.ext_getElem?
  intro i
  by_cases h : i < l.length
  · rw [Gs h, List.getElem?_set, List.getElem?_set, YS, List.length_set, YS]
    by_cases h1 : l.length - 1 - k = i
    · rw [if_pos h1, if_pos (by omega), if_pos (by omega), ← hy, ← h1]; congr 2; omega
    · rw [if_neg h1]
      by_cases h2 : k = i
      · rw [if_pos h2, if_pos (by omega), if_pos (by omega), ← hx, ← h2]
      · rw [if_neg h2, Gs h]
        by_cases h3 : i < k ∨ l.length ≤ i + k
        · rw [if_pos h3, if_pos (by omega)]
        · rw [if_neg h3, if_neg (by omega)]
  · rw [List.getElem?_eq_none (by simp [YS]; omega), List.getElem?_eq_none (by simp [YS]; omega)]
theorem swapK_half {l : List Int} {k : Nat} (h : l.length / 2 ≤ k) : Um l k = l.reverse := by
  apply List.ext_getElem?
  intro i
  by_cases hi : i < l.length
  · rw [Gs hi, List.getElem?_reverse hi]
    by_cases h3 : i < k ∨ l.length ≤ i + k
    · rw [if_pos h3, List.getElem?_eq_getElem (by omega)]; simp [List.getD_eq_getElem?_getD, List.getElem?_eq_getElem (show l.length - 1 - i < l.length by omega)]
    · rw [if_neg h3, List.getElem?_eq_getElem (by omega)]
      have : l.length - 1 - i = i := by omega
      simp [List.getD_eq_getElem?_getD, List.getElem?_eq_getElem hi, this]
  · rw [List.getElem?_eq_none (by simp [YS]; omega), List.getElem?_eq_none (by simp; omega)]
theorem Ud {l : List Int} {x : Int} (h : l[0]? = some x) : l.headD 0 = x ∧ l.isEmpty = false := by
  cases l with
  | nil => cases h
  | cons y l => cases h; exact ⟨rfl, rfl⟩
theorem yw {l : List Int} {k j : Nat} {x : Int} (hk : k < l.length) (hj : (j : Int) = (l.length : Int) - 1 - k) (h : l[j]? = some x) : (l.drop (l.length - k)).reverse ++ [x] = (l.drop (l.length - (k + 1))).reverse := by
  have e : j = l.length - (k + 1) := by omega
  subst e
  rw [List.drop_eq_getElem_cons (show l.length - (k + 1) < l.length by omega), show l.length - (k + 1) + 1 = l.length - k by omega, List.reverse_cons]
  rw [List.getElem?_eq_getElem (by omega)] at h
  rw [Option.some.inj h]
theorem yx {l : List Int} {k j : Nat} {x : Int} (hk : k < l.length) (hj : (j : Int) = (l.length : Int) - 1 - k) (h : l[j]? = some x) : (l.drop (l.length - k)).reverse ++ [x] <+: l.reverse := by
  rw [yw hk hj h]
  conv => rhs; rw [← List.take_append_drop (l.length - (k + 1)) l, List.reverse_append]
  exact List.prefix_append _ _
def Jv (k n : Int) (l : List Int) (x i : Int) : Bool :=
  if k = 0 then decide (x < n) else if k = 1 then (decide (n ≠ 0) && decide (x % n = l.headD 0)) else if k = 2 then decide (x ∈ l) else if k = 3 then decide (Int.tmod i 2 = 0) else decide (k = 4)
theorem UN (a b : Int) (hb : b ≠ 0) : (Int.tmod a b = a % b ∨ Int.tmod a b = a % b - b.natAbs) ∧ 0 ≤ a % b ∧ a % b < b.natAbs := by
  refine ⟨?_, Int.emod_nonneg _ hb, ?_⟩
  · rw [Int.tmod_eq_emod]; split <;> simp
  · have := Int.emod_lt a hb; omega
def QT (f : Int → Int → Bool) : Nat → List Int → List Int
  | _, [] => []
  | i, x :: l => if f x i then x :: QT f (i + 1) l else QT f (i + 1) l
theorem Vx (f : Int → Int → Bool) : ∀ (a b : List Int) (i : Nat), QT f i (a ++ b) = QT f i a ++ QT f (i + a.length) b
  | [], b, i => by simp [QT]
  | x :: a, b, i => by
    simp only [List.cons_append, QT, Vx f a b (i + 1), List.length_cons]
    rw [show i + 1 + a.length = i + (a.length + 1) by omega]
    split <;> rfl
theorem Zb {f : Int → Int → Bool} {l : List Int} {k : Nat} {x : Int} (h : l[k]? = some x) : QT f 0 (l.take (k + 1)) = QT f 0 (l.take k) ++ (if f x k then [x] else []) := by
  have hk := (List.getElem?_eq_some_iff.1 h).1
  rw [List.take_add_one, h, Vx]
  simp only [Option.toList_some, QT, List.length_take, Nat.zero_add, Nat.min_eq_left (Nat.le_of_lt hk)]
theorem Zs (f : Int → Int → Bool) : ∀ (l : List Int) (i : Nat), (QT f i l).length ≤ l.length
  | [], i => by simp [QT]
  | x :: l, i => by have := Zs f l (i + 1); unfold QT; split <;> simp <;> omega
def idxOf (l : List Int) (x : Int) : Int := match (List.range l.length).find? (fun i => decide (l[i]? = some x)) with | some i => (i : Int) | none => -1
theorem idxOf_some {l : List Int} {x : Int} {k : Nat} (h : l[k]? = some x) (hn : ∀ j, j < k → l[j]? ≠ some x) : idxOf l x = (k : Int) := by
  have hk := (List.getElem?_eq_some_iff.1 h).1
  have : (List.range l.length).find? (fun i => decide (l[i]? = some x)) = some k := by
    rw [List.find?_range_eq_some]
    exact ⟨by simpa using h, by simpa using hk, fun j hj => by simpa using hn j hj⟩
  unfold idxOf; rw [this]
theorem vo {l : List Int} {x : Int} (hn : ∀ j : Nat, l[j]? ≠ some x) : idxOf l x = -1 := by
  have : (List.range l.length).find? (fun i => decide (l[i]? = some x)) = none := by
    rw [List.find?_range_eq_none]
    intro i hi; simpa using hn i
  unfold idxOf; rw [this]
theorem idxOf_mem (l : List Int) (x : Int) : decide (0 ≤ idxOf l x) = decide (x ∈ l) := by
  by_cases h : x ∈ l
  · rw [decide_eq_true h]
    cases e : (List.range l.length).find? (fun i => decide (l[i]? = some x)) with
    | some i => unfold idxOf; rw [e]; simp
    | none =>
      rw [List.find?_range_eq_none] at e
      obtain ⟨k, hk⟩ := List.getElem?_of_mem h
      have := e k (List.getElem?_eq_some_iff.1 hk).1
      simp [hk] at this
  · rw [decide_eq_false h, vo (fun j e => h (List.mem_of_getElem? e))]; rfl
def w64 (x : Int) : Int := IntKind.i64.wrap x
def JL (k n x i : Int) : Int :=
  if k = 0 then w64 (x + n) else if k = 1 then w64 (x * n) else if k = 2 then (if n = 0 then x else x % n) else if k = 3 then n else if k = 4 then i else x
def Yk (f : Int → Int → Int) : Nat → List Int → List Int
  | _, [] => []
  | i, x :: l => f x i :: Yk f (i + 1) l
theorem WW (f : Int → Int → Int) : ∀ (l : List Int) (i : Nat), (Yk f i l).length = l.length
  | [], i => rfl
  | x :: l, i => by simp [Yk, WW f l (i + 1)]
theorem UF (f : Int → Int → Int) : ∀ (a b : List Int) (i : Nat), Yk f i (a ++ b) = Yk f i a ++ Yk f (i + a.length) b
  | [], b, i => by simp [Yk]
  | x :: a, b, i => by
    simp only [List.cons_append, Yk, UF f a b (i + 1), List.length_cons]
    rw [show i + 1 + a.length = i + (a.length + 1) by omega]
theorem mapI_succ {f : Int → Int → Int} {l : List Int} {k : Nat} {x : Int} (h : l[k]? = some x) : Yk f 0 (l.take (k + 1)) = Yk f 0 (l.take k) ++ [f x k] := by
  have hk := (List.getElem?_eq_some_iff.1 h).1
  rw [List.take_add_one, h, UF]
  simp only [Option.toList_some, Yk, List.length_take, Nat.zero_add, Nat.min_eq_left (Nat.le_of_lt hk)]
def PF2T (P : Program) (fv : Value) (M : Hp) (f : Int → Int → Int × Bool) : Prop := fv.oneCell' = true ∧ ∀ x i : Int, Pu P fv M [.int .i64 x, .int .i64 i] (fun r _ => r = .tuple #[.int .i64 (f x i).1, .bool (f x i).2])
theorem PF2T.le {P : Program} {fv : Value} {M M' : Hp} {f : Int → Int → Int × Bool} (h : PF2T P fv M f) (hM : Hp.le M M') : PF2T P fv M' f := ⟨h.1, fun x i => (h.2 x i).le hM⟩
def Zt (f : Int → Int → Int × Bool) : Nat → List Int → List Int
  | _, [] => []
  | i, x :: l => if (f x i).2 then (f x i).1 :: Zt f (i + 1) l else Zt f (i + 1) l
theorem WA (f : Int → Int → Int × Bool) : ∀ (a b : List Int) (i : Nat), Zt f i (a ++ b) = Zt f i a ++ Zt f (i + a.length) b
  | [], b, i => by simp [Zt]
  | x :: a, b, i => by
    simp only [List.cons_append, Zt, WA f a b (i + 1), List.length_cons]
    rw [show i + 1 + a.length = i + (a.length + 1) by omega]
    split <;> rfl
theorem WB (f : Int → Int → Int × Bool) (a : List Int) (x : Int) : Zt f 0 (a ++ [x]) = Zt f 0 a ++ (if (f x a.length).2 then [(f x a.length).1] else []) := by
  rw [WA, Nat.zero_add]; rfl
theorem vr {f : Int → Int → Int × Bool} {l : List Int} {k : Nat} {x : Int} (h : l[k]? = some x) : Zt f 0 (l.take (k + 1)) = Zt f 0 (l.take k) ++ (if (f x k).2 then [(f x k).1] else []) := by
  have hk := (List.getElem?_eq_some_iff.1 h).1
  rw [List.take_add_one, h]
  show Zt f 0 (l.take k ++ [x]) = _
  rw [WB, List.length_take, Nat.min_eq_left (Nat.le_of_lt hk)]
theorem GA (f : Int → Int → Int × Bool) : ∀ (l : List Int) (i : Nat), (Zt f i l).length ≤ l.length
  | [], i => by simp [Zt]
  | x :: l, i => by have := GA f l (i + 1); unfold Zt; split <;> simp <;> omega
theorem fmapI_prefix0 {f : Int → Int → Int × Bool} {p l : List Int} (hp : p <+: l) : Zt f 0 p <+: Zt f 0 l := by
  obtain ⟨t, rfl⟩ := hp
  rw [WA]; exact List.prefix_append _ _
theorem ze {f : Int → Int → Int × Bool} {p l : List Int} {x : Int} (hp : p ++ [x] <+: l) (hk : (f x p.length).2 = true) : Zt f 0 p ++ [(f x p.length).1] <+: Zt f 0 l := by
  have h := fmapI_prefix0 (f := f) hp
  rw [WB, if_pos hk] at h; exact h
theorem filtI_prefix0 {f : Int → Int → Bool} {p l : List Int} (hp : p <+: l) : QT f 0 p <+: QT f 0 l := by
  obtain ⟨t, rfl⟩ := hp
  rw [Vx]; exact List.prefix_append _ _
theorem ZS (f : Int → Int → Bool) (a : List Int) (x : Int) : QT f 0 (a ++ [x]) = QT f 0 a ++ (if f x a.length then [x] else []) := by
  rw [Vx, Nat.zero_add]; rfl
theorem YB {f : Int → Int → Bool} {p l : List Int} {x : Int} (hp : p ++ [x] <+: l) (hk : f x p.length = true) : QT f 0 p ++ [x] <+: QT f 0 l := by
  have h := filtI_prefix0 (f := f) hp
  rw [ZS, if_pos hk] at h; exact h
theorem map_set {f : Int → Int → Int} {l : List Int} {k : Nat} {x : Int} (hk : (Yk f 0 (l.take k)).length = k) (hx : l[k]? = some x) : (Yk f 0 (l.take k) ++ l.drop k).set k (f x k) = Yk f 0 (l.take (k + 1)) ++ l.drop (k + 1) := by
  have hlt := (List.getElem?_eq_some_iff.1 hx).1
  rw [List.set_append_right _ _ (by omega), hk, Nat.sub_self, List.drop_eq_getElem_cons hlt, List.set_cons_zero, mapI_succ hx, List.append_assoc]; rfl
theorem mapI_app1 (f : Int → Int → Int) (a : List Int) (x : Int) : Yk f 0 (a ++ [x]) = Yk f 0 a ++ [f x a.length] := by
  rw [UF, Nat.zero_add]; rfl
theorem mapI_prefix0 {f : Int → Int → Int} {p l : List Int} (hp : p <+: l) : Yk f 0 p <+: Yk f 0 l := by
  obtain ⟨t, rfl⟩ := hp
  rw [UF]; exact List.prefix_append _ _
theorem jl {f : Int → Int → Int} {p l : List Int} {x : Int} (hp : p ++ [x] <+: l) : Yk f 0 p ++ [f x p.length] <+: Yk f 0 l := by
  have h := mapI_prefix0 (f := f) hp
  rw [mapI_app1] at h; exact h
def Zu (f : Int → Int → List Int) : Nat → List Int → List Int
  | _, [] => []
  | i, x :: l => f x i ++ Zu f (i + 1) l
theorem WC (f : Int → Int → List Int) : ∀ (a b : List Int) (i : Nat), Zu f i (a ++ b) = Zu f i a ++ Zu f (i + a.length) b
  | [], b, i => by simp [Zu]
  | x :: a, b, i => by
    simp only [List.cons_append, Zu, WC f a b (i + 1), List.length_cons, List.append_assoc]
    rw [show i + 1 + a.length = i + (a.length + 1) by omega]
theorem ql (f : Int → Int → List Int) (a : List Int) (x : Int) : Zu f 0 (a ++ [x]) = Zu f 0 a ++ f x a.length := by
  rw [WC, Nat.zero_add]; simp [Zu]
theorem flatI_succ {f : Int → Int → List Int} {l : List Int} {k : Nat} {x : Int} (h : l[k]? = some x) : Zu f 0 (l.take (k + 1)) = Zu f 0 (l.take k) ++ f x k := by
  have hk := (List.getElem?_eq_some_iff.1 h).1
  rw [List.take_add_one, h]
  show Zu f 0 (l.take k ++ [x]) = _
  rw [ql, List.length_take, Nat.min_eq_left (Nat.le_of_lt hk)]
theorem GB {f : Int → Int → List Int} (hf : ∀ x i, (f x i).length = 2) : ∀ (l : List Int) (i : Nat), (Zu f i l).length = 2 * l.length
  | [], i => rfl
  | x :: l, i => by simp only [Zu, List.length_append, hf, GB hf l (i + 1), List.length_cons]; omega
theorem flatI_prefix0 {f : Int → Int → List Int} {p l : List Int} (hp : p <+: l) : Zu f 0 p <+: Zu f 0 l := by
  obtain ⟨t, rfl⟩ := hp
  rw [WC]; exact List.prefix_append _ _
theorem zf {f : Int → Int → List Int} {p l q : List Int} {x : Int} (hp : p ++ [x] <+: l) (hq : q <+: f x p.length) : Zu f 0 p ++ q <+: Zu f 0 l := by
  have h := flatI_prefix0 (f := f) hp
  rw [ql] at h
  exact ((List.prefix_append_right_inj _).2 hq).trans h
def Wy (l m : List Int) : Bool := decide (l.take m.length = m)
theorem Gz {l m : List Int} {k : Nat} {x y : Int} (hx : l[k]? = some x) (hy : m[k]? = some y) (hne : x ≠ y) : Wy l m = false := by
  apply decide_eq_false; intro e
  have hk := (List.getElem?_eq_some_iff.1 hy).1
  have h2 : (l.take m.length)[k]? = some x := by rw [List.getElem?_take, if_pos hk, hx]
  rw [e, hy] at h2; exact hne (Option.some.inj h2).symm
theorem Vj {l m : List Int} (h : l.length < m.length) : Wy l m = false := by
  apply decide_eq_false; intro e
  have := congrArg List.length e; simp at this; omega
theorem UZ {l m : List Int} {k : Nat} (hk : ¬ k < m.length) (h : l.take k = m.take k) (hle : k ≤ m.length) : Wy l m = true := by
  have e : k = m.length := by omega
  subst e; apply decide_eq_true; rw [h, List.take_length]
def Vv (l m : List Int) : Bool := decide (l.drop (l.length - m.length) = m)
theorem Vi {l m : List Int} (h : l.length < m.length) : Vv l m = false := by
  apply decide_eq_false; intro e
  have := congrArg List.length e; simp at this; omega
theorem Gy {l m : List Int} {k : Nat} {x y : Int} (hx : l[l.length - m.length + k]? = some x) (hy : m[k]? = some y) (hne : x ≠ y) : Vv l m = false := by
  apply decide_eq_false; intro e
  have h2 : (l.drop (l.length - m.length))[k]? = some x := by rw [List.getElem?_drop, hx]
  rw [e, hy] at h2; exact hne (Option.some.inj h2).symm
theorem UY {l m : List Int} (hle : m.length ≤ l.length) (h : ∀ k x y, l[l.length - m.length + k]? = some x → m[k]? = some y → x = y) : Vv l m = true := by
  apply decide_eq_true
  apply List.ext_getElem?
  intro k
  rw [List.getElem?_drop]
  by_cases hk : k < m.length
  · have h1 : l.length - m.length + k < l.length := by omega
    rw [List.getElem?_eq_getElem h1, List.getElem?_eq_getElem hk]
    exact congrArg some (h k _ _ (List.getElem?_eq_getElem h1) (List.getElem?_eq_getElem hk))
  · rw [List.getElem?_eq_none (by omega), List.getElem?_eq_none (by omega)]
def VZ (n : Nat) (p : List Int) : List Int := p.zipIdx.foldl (fun r xi => r.set (xi.2 % n) xi.1) (List.replicate n 0)
theorem zD (n : Nat) (p : List Int) (x : Int) : VZ n (p ++ [x]) = (VZ n p).set (p.length % n) x := by
  simp [VZ, List.zipIdx_append, List.foldl_append]
theorem ringL_len (n : Nat) (p : List Int) : (VZ n p).length = n := by
  unfold VZ
  suffices h : ∀ (q : List (Int × Nat)) (r : List Int), (q.foldl (fun r xi => r.set (xi.2 % n) xi.1) r).length = r.length by rw [h]; simp
  intro q; induction q with
  | nil => intro r; rfl
  | cons a q ih => intro r; rw [List.foldl_cons, ih, List.length_set]
def Qw (l : List Int) : List Int := l.foldl Ym []
theorem VO {l : List Int} {k : Nat} {x : Int} (h : l[k]? = some x) : Qw (l.take (k + 1)) = Ym (Qw (l.take k)) x := by rw [List.take_add_one, h]; simp [Qw]
theorem yC (l : List Int) : ∀ (s : List Int) (x : Int), x ∈ l.foldl Ym s ↔ x ∈ s ∨ x ∈ l := by
  induction l with
  | nil => intro s x; simp
  | cons a l ih => intro s x; rw [List.foldl_cons, ih, mem_addS]; simp [or_assoc]
theorem Yd {l : List Int} {x : Int} : x ∈ Qw l ↔ x ∈ l := by unfold Qw; rw [yC]; simp
theorem yK (l : List Int) : (Qw l).Nodup := by
  unfold Qw
  suffices h : ∀ (l s : List Int), s.Nodup → (l.foldl Ym s).Nodup from h l [] (by simp)
  intro l; induction l with
  | nil => intro s h; exact h
  | cons a l ih => intro s h; exact ih _ (addS_nodup h a)
def VG (l s : List Int) : List Int := QT (fun _ i => !decide (i ∈ s)) 0 l
def Va (l : List Int) (i j : Int) : List Int := (l.take j.toNat).drop i.toNat
theorem GR {l : List Int} {a b a' b' : Nat} (h : min b l.length = min b' l.length) (h2 : a = a' ∨ (l.length ≤ a ∧ l.length ≤ a')) : (l.take b).drop a = (l.take b').drop a' := by
  have e : ∀ c : Nat, l.take c = l.take (min c l.length) := fun c => by
    by_cases hc : c ≤ l.length
    · rw [Nat.min_eq_left hc]
    · rw [Nat.min_eq_right (by omega), List.take_length, List.take_of_length_le (by omega)]
  rw [e b, h, ← e b']
  rcases h2 with rfl | ⟨h3, h4⟩
  · rfl
  · rw [List.drop_eq_nil_of_le (by simp; omega), List.drop_eq_nil_of_le (by simp; omega)]
theorem sliceL_len (l : List Int) (i j : Int) : (Va l i j).length ≤ l.length := by simp [Va]; omega
def jj (l m : List Int) (i : Nat) : List Int := l.take i ++ m ++ l.drop i
def spP (p m : List Int) (i : Nat) : List Int := if p.length ≤ i then p else p.take i ++ m ++ p.drop i
theorem spP_le {p m : List Int} {i : Nat} (h : p.length ≤ i) : spP p m i = p := if_pos h
theorem spP_snoc {p m : List Int} {i : Nat} {x : Int} (h : p.length ≠ i) : spP (p ++ [x]) m i = spP p m i ++ [x] := by
  unfold spP
  by_cases h1 : p.length ≤ i
  · rw [if_pos h1, if_pos (by simp; omega)]
  · rw [if_neg h1, if_neg (by simp; omega), List.take_append_of_le_length (by omega), List.drop_append_of_le_length (by omega)]; simp
theorem spP_at {p m : List Int} {i : Nat} {x : Int} (h : p.length = i) : spP (p ++ [x]) m i = p ++ m ++ [x] := by
  unfold spP; rw [if_neg (by simp; omega), ← h]; simp
theorem spP_pref {p l m : List Int} {i : Nat} (h : p <+: l) : spP p m i <+: jj l m i := by
  obtain ⟨r, rfl⟩ := h
  unfold spP jj
  by_cases h1 : p.length ≤ i
  · rw [if_pos h1, List.take_append, List.take_of_length_le h1, List.append_assoc, List.append_assoc]; exact List.prefix_append _ _
  · rw [if_neg h1, List.take_append_of_le_length (by omega), List.drop_append_of_le_length (by omega), ← List.append_assoc]; exact List.prefix_append _ _
theorem spF_at {p r m : List Int} {i : Nat} (h : p.length = i) : jj (p ++ r) m i = p ++ m ++ r := by unfold jj; rw [← h]; simp
theorem spM_pref {p l m : List Int} {i k : Nat} {x y : Int} (h : p ++ [x] <+: l) (hi : p.length = i) (hy : m[k]? = some y) : p ++ m.take k ++ [y] <+: jj l m i := by
  obtain ⟨r, rfl⟩ := h
  rw [show jj (p ++ [x] ++ r) m i = p ++ m ++ ([x] ++ r) by rw [List.append_assoc, spF_at hi], List.append_assoc, List.append_assoc]
  rw [show m.take k ++ [y] = m.take (k + 1) by rw [List.take_add_one, hy]; rfl]
  exact List.prefix_append_right_inj _ |>.2 ((List.take_prefix _ _).trans (List.prefix_append _ _))
theorem spE_pref {l m : List Int} {i k : Nat} {y : Int} (hi : l.length ≤ i) (hy : m[k]? = some y) : l ++ m.take k ++ [y] <+: jj l m i := by
  unfold jj
  rw [List.take_of_length_le hi, List.drop_eq_nil_of_le hi, List.append_nil, List.append_assoc, show m.take k ++ [y] = m.take (k + 1) by rw [List.take_add_one, hy]; rfl]
  exact List.prefix_append_right_inj _ |>.2 (List.take_prefix _ _)
theorem WS {p l m : List Int} {i : Nat} {x : Int} (hi : p.length = i) (h : p ++ [x] <+: l) : p ++ m ++ [x] <+: jj l m i := by rw [← spP_at hi]; exact spP_pref h
theorem UL {p l m : List Int} {i : Nat} {x : Int} (hi : p.length ≠ i) (h : p ++ [x] <+: l) : spP p m i ++ [x] <+: jj l m i := by rw [← spP_snoc hi]; exact spP_pref h
theorem spF_end {l m : List Int} {i : Nat} (h : l.length ≤ i) : jj l m i = l ++ m := by unfold jj; rw [List.take_of_length_le h, List.drop_eq_nil_of_le h, List.append_nil]
theorem spP_end {l m : List Int} {i : Nat} (h : ¬ l.length ≤ i) : spP l m i = jj l m i := if_neg h
theorem spF_nil (l : List Int) (i : Nat) : jj l [] i = l := by simp [jj]
theorem spF_len (l m : List Int) (i : Nat) : (jj l m i).length = l.length + m.length := by simp [jj]; omega
theorem ZN {p : Int → Bool} {l : List Int} {k : Nat} {x : Int} (h : l[k]? = some x) : (l.take (k + 1)).filter p = (l.take k).filter p ++ (if p x then [x] else []) := by
  rw [List.take_add_one, h, List.filter_append]; simp only [Option.toList_some, List.filter_cons, List.filter_nil]
theorem zS (p : Int → Bool) : ∀ (l : List Int) (i : Nat), QT (fun x _ => p x) i l = l.filter p
  | [], _ => rfl
  | x :: l, i => by simp only [QT, List.filter_cons, zS p l]
theorem Ux {p l : List Int} {n : Nat} (h : p <+: l) (hn : p.length = n) : p = l.take n := by
  obtain ⟨r, rfl⟩ := h; rw [← hn, List.take_left]
theorem Ua {p l : List Int} {n : Nat} (h : p <+: l) (hn : p.length ≤ n) : p <+: l.take n := by
  obtain ⟨r, rfl⟩ := h; rw [List.take_append, List.take_of_length_le hn]; exact List.prefix_append _ _
theorem jO (f : Int → Int → Bool) (l : List Int) (k : Nat) : QT f 0 (l.take k) <+: QT f 0 l := by
  obtain ⟨r, hr⟩ := List.take_prefix k l
  conv => rhs; rw [← hr]
  rw [Vx]; exact List.prefix_append _ _
theorem filtI_step {f : Int → Int → Bool} {l : List Int} {k : Nat} {x : Int} (h : l[k]? = some x) (hf : f x k = true) : QT f 0 (l.take k) ++ [x] <+: QT f 0 l := by
  have := jO f l (k + 1)
  rw [Zb h, if_pos hf] at this; exact this
def Yv (l : List Int) (off n : Int) : List Int := (l.drop (if off < 0 then (off + l.length).toNat else off.toNat)).take n.toNat
theorem subsetL_len (l : List Int) (i j : Int) : (Yv l i j).length ≤ l.length := by simp [Yv]; omega
theorem Wp {l : List Int} {a b c d e : Nat} (h : a = b ∨ (l.length ≤ a ∧ l.length ≤ b)) (h2 : min d (l.length - b) = min c l.length - b) : (l.drop a).take d = (l.take c).drop b := by
  rcases h with rfl | ⟨h1, h1'⟩
  · rw [List.drop_take]
    by_cases hd : d ≤ l.length - a
    · by_cases hc : c ≤ l.length
      · congr 1; omega
      · rw [List.take_of_length_le (i := c - a) (by simp; omega)]; rw [List.take_of_length_le (by simp; omega)]
    · rw [List.take_of_length_le (i := d) (by simp; omega), List.take_of_length_le (by simp; omega)]
  · rw [List.drop_eq_nil_of_le h1, List.drop_eq_nil_of_le (by simp; omega)]; simp
theorem vt (c : Int) (hc : 0 ≤ c) : ∀ (l : List Int) (i : Nat), QT (fun _ j => decide (c ≤ j)) i l = l.drop (c.toNat - i)
  | [], i => by simp [QT]
  | x :: l, i => by
    simp only [QT]
    rw [vt c hc l (i + 1)]
    by_cases h : c ≤ (i : Int)
    · rw [if_pos (by simpa using h), show c.toNat - i = 0 by omega, show c.toNat - (i + 1) = 0 by omega]; rfl
    · rw [if_neg (by simpa using h), show c.toNat - i = (c.toNat - (i + 1)) + 1 by omega]; rfl
theorem ringL_get {n : Nat} (hn : 0 < n) : ∀ (p : List Int) (j : Nat), j < p.length → p.length ≤ j + n → (VZ n p)[j % n]? = p[j]? := by
  suffices h : ∀ (m : Nat) (p : List Int), p.length = m → ∀ j, j < p.length → p.length ≤ j + n → (VZ n p)[j % n]? = p[j]? from fun p => h _ p rfl
  intro m
  induction m with
  | zero => intro p hp j h1; omega
  | succ m ih =>
    intro p hp j h1 h2
    obtain ⟨q, x, rfl⟩ : ∃ q x, p = q ++ [x] := by
      have hne : p ≠ [] := by intro e; subst e; simp at hp
      exact ⟨p.dropLast, p.getLast hne, (List.dropLast_concat_getLast hne).symm⟩
    simp at hp h1 h2
    rw [zD, List.getElem?_set, ringL_len]
    by_cases hj : j = q.length
    · subst hj; rw [if_pos rfl, if_pos (Nat.mod_lt _ hn)]; simp
    · have hne : ¬ q.length % n = j % n := by
        intro e
        have h3 : (q.length - j) % n = 0 := by
          have := Nat.sub_mod_eq_zero_of_mod_eq e; exact this
        rw [Nat.mod_eq_of_lt (by omega)] at h3; omega
      rw [if_neg hne, ih q hp j (by omega) (by omega), List.getElem?_append_left (by omega)]
theorem ringL_old {n : Nat} {p : List Int} {y : Int} (hn : 0 < n) (h : n ≤ p.length) (hy : (VZ n p)[p.length % n]? = some y) : p[p.length - n]? = some y := by
  rw [← ringL_get hn p (p.length - n) (by omega) (by omega), ← hy]
  congr 1
  conv => rhs; rw [show p.length = (p.length - n) + n by omega]
  rw [Nat.add_mod_right]
theorem GQ {p : List Int} {n : Nat} {x y : Int} (h : n ≤ p.length) (hn : 0 < n) (hy : p[p.length - n]? = some y) : (p ++ [x]).take (p.length + 1 - n) = p.take (p.length - n) ++ [y] := by
  rw [List.take_append_of_le_length (by omega), show p.length + 1 - n = (p.length - n) + 1 by omega, List.take_add_one, hy]; rfl
theorem dl_pref {p l : List Int} {n : Nat} {x y : Int} (hp : p ++ [x] <+: l) (hn : 0 < n) (h : n ≤ p.length) (hy : p[p.length - n]? = some y) : p.take (p.length - n) ++ [y] <+: l.take (l.length - n) := by
  rw [← GQ (x := x) h hn hy]
  have h1 := hp.length_le
  simp at h1
  exact Ua ((List.take_prefix _ _).trans hp) (by simp; omega)
theorem yo {P : Int → Prop} {l : List Int} {k : Nat} {y : Int} (h : ∀ x ∈ l.take k, P x) (hy : l[k]? = some y) (hp : P y) : ∀ x ∈ l.take (k + 1), P x := by
  intro x hx; rw [List.take_add_one, hy, List.mem_append] at hx
  rcases hx with hx | hx
  · exact h x hx
  · simp at hx; rw [hx]; exact hp
def VE (f : Int → Bool) (l : List Int) : List Int := (l.reverse.dropWhile f).reverse
def Wk (f : Int → Bool) (l : List Int) : List Int := (l.reverse.takeWhile f).reverse
theorem YW (f : Int → Bool) (l : List Int) : VE f l ++ Wk f l = l := by
  unfold VE Wk; rw [← List.reverse_append, List.takeWhile_append_dropWhile, List.reverse_reverse]
theorem drw_yes {f : Int → Bool} {l : List Int} {x : Int} (h : f x = true) : VE f (l ++ [x]) = VE f l := by unfold VE; simp [List.dropWhile_cons, h]
theorem drw_no {f : Int → Bool} {l : List Int} {x : Int} (h : f x = false) : VE f (l ++ [x]) = l ++ [x] := by unfold VE; simp [List.dropWhile_cons, h]
theorem rtw_yes {f : Int → Bool} {l : List Int} {x : Int} (h : f x = true) : Wk f (l ++ [x]) = Wk f l ++ [x] := by unfold Wk; simp [List.takeWhile_cons, h]
theorem rtw_no {f : Int → Bool} {l : List Int} {x : Int} (h : f x = false) : Wk f (l ++ [x]) = [] := by unfold Wk; simp [List.takeWhile_cons, h]
theorem GF (f : Int → Bool) (l : List Int) : (VE f l).length ≤ l.length := by have := congrArg List.length (YW f l); simp at this; omega
theorem drw_pref (f : Int → Bool) (p r : List Int) : VE f p <+: VE f (p ++ r) := by
  have h : ∀ (n : Nat) (r : List Int), r.length = n → ∀ p, VE f p <+: VE f (p ++ r) := by
    intro n
    induction n with
    | zero => intro r hr p; rw [List.eq_nil_of_length_eq_zero hr, List.append_nil]; exact List.prefix_refl _
    | succ n ih =>
      intro r hr p
      match r, hr with
      | x :: r, hr =>
      rw [show p ++ x :: r = (p ++ [x]) ++ r by simp]
      refine List.IsPrefix.trans ?_ (ih r (by simpa using hr) (p ++ [x]))
      cases hx : f x
      · rw [drw_no hx]
        have := YW f p
        exact ⟨Wk f p ++ [x], by rw [← List.append_assoc, this]⟩
      · rw [drw_yes hx]; exact List.prefix_refl _
  exact h _ r Y p
theorem zh {f : Int → Bool} : ∀ {l : List Int} {k : Nat}, (∀ x ∈ l.take k, f x = true) → (l.length ≤ k ∨ ∃ x, l[k]? = some x ∧ f x = false) → l.dropWhile f = l.drop k
  | [], k, _, _ => by simp
  | a :: l, 0, _, h2 => by
    rcases h2 with h2 | ⟨x, hx, hf⟩
    · simp at h2
    · simp at hx; subst hx; simp [List.dropWhile_cons, hf]
  | a :: l, k + 1, h1, h2 => by
    have ha : f a = true := h1 a (by simp)
    rw [List.dropWhile_cons, if_pos ha, List.drop_succ_cons]
    exact zh (fun x hx => h1 x (by simp [hx])) (h2.imp (fun h => by simpa using h) fun ⟨x, h3, h4⟩ => ⟨x, by simpa using h3, h4⟩)
theorem zV {f : Int → Bool} {l : List Int} {j : Nat} (hj : j ≤ l.length) (h1 : ∀ x ∈ l.drop (l.length - j), f x = true) (h2 : l.length ≤ j ∨ ∃ x, l[l.length - 1 - j]? = some x ∧ f x = false) : VE f l = l.take (l.length - j) := by
  unfold VE
  rw [zh (k := j)]
  · rw [List.drop_reverse, List.reverse_reverse]
  · intro x hx; rw [List.take_reverse] at hx; exact h1 x (by simpa using hx)
  · rcases h2 with h2 | ⟨x, hx, hf⟩
    · left; simpa using h2
    · right
      have := (List.getElem?_eq_some_iff.1 hx).1
      by_cases hl : j < l.length
      · exact ⟨x, by rw [List.getElem?_reverse hl]; exact hx, hf⟩
      · have h0 : l.length - 1 - j = 0 := by omega
        exact absurd (h1 x (by rw [show l.length - j = 0 by omega, List.drop_zero]; exact List.mem_of_getElem? hx)) (by simp [hf])
theorem drop_all {f : Int → Bool} {l : List Int} {j : Nat} {x : Int} (h : ∀ x ∈ l.drop (l.length - j), f x = true) (hj : j < l.length) (hx : l[l.length - 1 - j]? = some x) (hf : f x = true) : ∀ x ∈ l.drop (l.length - (j + 1)), f x = true := by
  intro y hy
  rw [show l.length - (j + 1) = l.length - 1 - j by omega, List.drop_eq_getElem_cons (by omega)] at hy
  have h1 := (List.getElem?_eq_some_iff.1 hx)
  obtain ⟨h2, h3⟩ := h1
  rcases List.mem_cons.1 hy with h4 | h4
  · rw [h4, h3]; exact hf
  · exact h y (by rw [show l.length - j = l.length - 1 - j + 1 by omega]; exact h4)
theorem VW (f : Int → Bool) (l : List Int) (x : Int) : (l ++ [x]).dropWhile f = if (l.all f && f x) = true then [] else l.dropWhile f ++ [x] := by
  induction l with
  | nil => by_cases h : f x = true <;> simp [List.dropWhile_cons, h]
  | cons a l ih =>
    by_cases h : f a = true
    · rw [List.cons_append, List.dropWhile_cons, if_pos h, List.dropWhile_cons, if_pos h, ih]; simp [h]
    · rw [List.cons_append, List.dropWhile_cons, if_neg h, List.dropWhile_cons, if_neg h]; simp [h]
theorem GT {f : Int → Bool} {l : List Int} (h : l.all f = true) : l.dropWhile f = [] := by
  rw [List.all_eq_true] at h
  exact (zh (k := l.length) (fun x hx => h x (by simpa using hx)) (.inl (Nat.le_refl _))).trans (by simp)
theorem yb {f : Int → Bool} {p : List Int} {x : Int} (h : p.all f = false) : (p ++ [x]).dropWhile f = p.dropWhile f ++ [x] := by rw [VW, h]; rfl
theorem ya {f : Int → Bool} {p : List Int} {x : Int} (h : f x = false) : (p ++ [x]).dropWhile f = p.dropWhile f ++ [x] := by rw [VW, h]; simp
theorem dwa_yes {f : Int → Bool} {p : List Int} {x : Int} (h1 : p.all f = true) (h : f x = true) : (p ++ [x]).dropWhile f = p.dropWhile f := by rw [VW, h, h1, GT h1]; rfl
theorem vw {f : Int → Bool} {p l : List Int} (h : p <+: l) : p.dropWhile f <+: l.dropWhile f := by
  obtain ⟨r, rfl⟩ := h
  suffices h : ∀ (n : Nat) (r p : List Int), r.length = n → p.dropWhile f <+: (p ++ r).dropWhile f from h _ r p rfl
  intro n
  induction n with
  | zero => intro r p hr; rw [List.eq_nil_of_length_eq_zero hr, List.append_nil]; exact List.prefix_refl _
  | succ n ih =>
    intro r p hr
    match r, hr with
    | x :: r, hr =>
    rw [show p ++ x :: r = (p ++ [x]) ++ r by simp]
    refine List.IsPrefix.trans ?_ (ih r (p ++ [x]) (by simpa using hr))
    rw [VW]; split
    · rename_i h; simp only [Bool.and_eq_true] at h; rw [GT h.1]; exact List.nil_prefix
    · exact List.prefix_append _ _
theorem Wd {f : Int → Bool} {p l : List Int} {x : Int} (h : p ++ [x] <+: l) (he : (p ++ [x]).dropWhile f = p.dropWhile f ++ [x]) : p.dropWhile f ++ [x] <+: l.dropWhile f := by rw [← he]; exact vw h
theorem vv (f : Int → Bool) (l : List Int) : (l.dropWhile f).length ≤ l.length := (List.dropWhile_sublist f).length_le
theorem We {f : Int → Bool} {p l : List Int} {x : Int} (h : p ++ [x] <+: l) (hx : f x = false) : p ++ [x] <+: VE f l := by
  obtain ⟨r, rfl⟩ := h
  have := drw_pref f (p ++ [x]) r
  rwa [drw_no hx] at this
theorem GD {f : Int → Bool} {p l : List Int} {x y : Int} {k : Nat} (h : p ++ [x] <+: l) (hx : f x = false) (hy : (Wk f p)[k]? = some y) : VE f p ++ (Wk f p).take k ++ [y] <+: VE f l := by
  refine List.IsPrefix.trans ?_ (We h hx)
  rw [List.append_assoc, YP hy]
  refine List.IsPrefix.trans ?_ (List.prefix_append p [x])
  conv => rhs; rw [← YW f p]
  exact (List.prefix_append_right_inj _).2 (List.take_prefix _ _)
theorem GE {f : Int → Bool} {p l : List Int} {x : Int} (h : p ++ [x] <+: l) (hx : f x = false) (h0 : (Wk f p).length = 0) : VE f p ++ [x] <+: VE f l := by
  have e := YW f p
  rw [List.eq_nil_of_length_eq_zero h0, List.append_nil] at e
  rw [e]; exact We h hx
theorem yj {f : Int → Bool} : ∀ {l : List Int} {k : Nat}, (∀ x ∈ l.take k, f x = true) → (l.length ≤ k ∨ ∃ x, l[k]? = some x ∧ f x = false) → l.takeWhile f = l.take k
  | [], k, _, _ => by simp
  | a :: l, 0, _, h2 => by
    rcases h2 with h2 | ⟨x, hx, hf⟩
    · simp at h2
    · simp at hx; subst hx; simp [List.takeWhile_cons, hf]
  | a :: l, k + 1, h1, h2 => by
    have ha : f a = true := h1 a (by simp)
    rw [List.takeWhile_cons, if_pos ha, List.take_succ_cons]
    congr 1
    exact yj (fun x hx => h1 x (by simp [hx])) (h2.imp (fun h => by simpa using h) fun ⟨x, h3, h4⟩ => ⟨x, by simpa using h3, h4⟩)
theorem tw_stop {f : Int → Bool} {p l : List Int} {x : Int} (h : p ++ [x] <+: l) (ha : ∀ y ∈ p, f y = true) (hx : f x = false) : p = l.takeWhile f := by
  obtain ⟨r, rfl⟩ := h
  rw [yj (k := p.length)]
  · simp
  · intro y hy; apply ha; simpa using hy
  · right; exact ⟨x, by simp, hx⟩
theorem tw_pref {f : Int → Bool} {p l : List Int} (h : p <+: l) (ha : ∀ y ∈ p, f y = true) : p <+: l.takeWhile f := by
  obtain ⟨r, rfl⟩ := h
  induction p with
  | nil => exact List.nil_prefix
  | cons a p ih => rw [List.cons_append, List.takeWhile_cons, if_pos (ha a (by simp))]; exact (List.cons_prefix_cons).2 ⟨rfl, ih fun y hy => ha y (by simp [hy])⟩
theorem tw_all {f : Int → Bool} {l : List Int} (ha : ∀ y ∈ l, f y = true) : l.takeWhile f = l := by
  rw [yj (k := l.length) (by simpa using ha) (.inl (Nat.le_refl _)), List.take_length]
theorem twlen (f : Int → Bool) (l : List Int) : (l.takeWhile f).length ≤ l.length := (List.takeWhile_sublist f).length_le
theorem trim_eq {f : Int → Bool} {l : List Int} {k j : Nat} {x : Int} (h1 : ∀ x ∈ l.take k, f x = true) (hx : l[k]? = some x) (hf : f x = false) (h2 : VE f l = l.take (l.length - j)) (hj : j ≤ l.length) : VE f (l.dropWhile f) = (l.take (l.length - j)).drop k := by
  have hk := (List.getElem?_eq_some_iff.1 hx).1
  rw [zh h1 (.inr ⟨x, hx, hf⟩)]
  have e := YW f l
  have hr : ∀ y ∈ Wk f l, f y = true := fun y hy => by
    unfold Wk at hy; rw [List.mem_reverse] at hy; exact List.all_eq_true.1 (List.all_takeWhile (l := l.reverse) (p := f)) y hy
  have hkl : k < (VE f l).length := by
    apply Classical.byContradiction; intro hc
    have : x ∈ Wk f l := by
      rw [← e, List.getElem?_append_right (by omega)] at hx
      exact List.mem_of_getElem? hx
    rw [hr x this] at hf; cases hf
  have e2 : l.drop k = (VE f l).drop k ++ Wk f l := by
    conv => lhs; rw [← e]
    rw [List.drop_append_of_le_length (by omega)]
  rw [e2, ← h2]
  have hd : (VE f l).drop k ≠ [] := by intro h; have := congrArg List.length h; simp at this; omega
  unfold VE
  rw [List.reverse_append, List.dropWhile_append_of_pos (fun y hy => hr y (by simpa using hy))]
  rw [show ((l.reverse.dropWhile f).reverse.drop k).reverse.dropWhile f = ((l.reverse.dropWhile f).reverse.drop k).reverse from ?_, List.reverse_reverse]
  rw [List.reverse_drop, List.reverse_reverse]
  have hne : l.reverse.dropWhile f ≠ [] := by intro h; unfold VE at hkl; rw [h] at hkl; simp at hkl
  match hq : l.reverse.dropWhile f, hne with
  | a :: q, _ =>
    have ha : f a = false := by
      have := List.head?_dropWhile_not (p := f) (l := l.reverse)
      rw [hq] at this; simpa using this
    have hkl2 : k < (a :: q).length := by unfold VE at hkl; rw [hq] at hkl; simpa using hkl
    obtain ⟨n, hn⟩ : ∃ n, (a :: q).reverse.length - k = n + 1 := ⟨(a :: q).reverse.length - k - 1, by simp at hkl2 ⊢; omega⟩
    rw [hn]; simp [List.dropWhile_cons, ha]
theorem trim_lt {f : Int → Bool} {l : List Int} {k n : Nat} {x : Int} (hx : l[k]? = some x) (hf : f x = false) (h2 : VE f l = l.take n) : k < n := by
  apply Classical.byContradiction; intro hc
  have e := YW f l
  have hr : ∀ y ∈ Wk f l, f y = true := fun y hy => by
    unfold Wk at hy; rw [List.mem_reverse] at hy; exact List.all_eq_true.1 (List.all_takeWhile (l := l.reverse) (p := f)) y hy
  have hl : (VE f l).length ≤ n := by rw [h2]; simp; omega
  have : x ∈ Wk f l := by
    rw [← e, List.getElem?_append_right (by omega)] at hx
    exact List.mem_of_getElem? hx
  rw [hr x this] at hf; cases hf
def zi (l m : List Int) : List Int := if Wy l m = true then l.drop m.length else l
def Gg (l m : List Int) : List Int := if Vv l m = true then l.take (l.length - m.length) else l
theorem cutPl_len (l m : List Int) : (zi l m).length ≤ l.length := by unfold zi; split <;> simp
theorem GG (l m : List Int) : (Gg l m).length ≤ l.length := by unfold Gg; split <;> simp
theorem Wx {l m : List Int} (h : Wy l m = true) : m.length ≤ l.length := by
  have := congrArg List.length (of_decide_eq_true h); simp at this; omega
theorem Uq {l m : List Int} (h : Vv l m = true) : m.length ≤ l.length := by
  have := congrArg List.length (of_decide_eq_true h); simp at this; omega
theorem take_s {l : List Int} {k : Nat} {x : Int} (hx : l[k]? = some x) : l.take (k + 1) = l.take k ++ [x] ∧ (l.take k).length = k := by
  have hk := (List.getElem?_eq_some_iff.1 hx).1
  rw [List.take_add_one, hx]; exact ⟨rfl, by rw [List.length_take]; omega⟩
def Vr (b : List Int) : Nat → List Int → List Int
  | 0, l => l
  | n + 1, l => if Wy l b = true then Vr b n (l.drop b.length) else l
def Yc (b l : List Int) : List Int := if b.length = 0 then l else Vr b l.length l
def Vq (b : List Int) : Nat → List Int → List Int
  | 0, l => l
  | n + 1, l => if Vv l b = true then Vq b n (l.take (l.length - b.length)) else l
def trimS (b l : List Int) : List Int := if b.length = 0 then l else Vq b l.length l
theorem ym {b : List Int} (hb : 0 < b.length) : ∀ (n m : Nat) (l : List Int), l.length ≤ n → l.length ≤ m → Vr b n l = Vr b m l
  | 0, 0, l, _, _ => rfl
  | 0, m + 1, l, h, _ => by unfold Vr; rw [if_neg]; intro h2; have := Wx h2; omega
  | n + 1, 0, l, _, h => by unfold Vr; rw [if_neg]; intro h2; have := Wx h2; omega
  | n + 1, m + 1, l, h, h' => by
    unfold Vr; split
    · rename_i h2; have := Wx h2; exact ym hb n m _ (by simp; omega) (by simp; omega)
    · rfl
theorem yl {b : List Int} (hb : 0 < b.length) : ∀ (n m : Nat) (l : List Int), l.length ≤ n → l.length ≤ m → Vq b n l = Vq b m l
  | 0, 0, l, _, _ => rfl
  | 0, m + 1, l, h, _ => by unfold Vq; rw [if_neg]; intro h2; have := Uq h2; omega
  | n + 1, 0, l, _, h => by unfold Vq; rw [if_neg]; intro h2; have := Uq h2; omega
  | n + 1, m + 1, l, h, h' => by
    unfold Vq; split
    · rename_i h2; have := Uq h2; exact yl hb n m _ (by simp; omega) (by simp; omega)
    · rfl
theorem trimP_yes {b l : List Int} (hb : 0 < b.length) (h : Wy l b = true) : Yc b l = Yc b (l.drop b.length) := by
  have h2 := Wx h
  have e : Vr b l.length l = Vr b (l.length - 1) (l.drop b.length) := by
    have e1 : ∀ n, Vr b (n + 1) l = Vr b n (l.drop b.length) := by intro n; exact if_pos h
    rw [← e1 (l.length - 1), show l.length - 1 + 1 = l.length by omega]
  unfold Yc; rw [if_neg (by omega), if_neg (by omega), e]
  exact ym hb _ _ _ (by simp; omega) (Nat.le_refl _)
theorem qv {b l : List Int} (h : Wy l b = false) : Yc b l = l := by
  unfold Yc; split
  · rfl
  · cases hl : l.length with
    | zero => rfl
    | succ n => unfold Vr; rw [if_neg (by simp [h])]
theorem Gr {b l : List Int} (h : b.length = 0) : Yc b l = l := by unfold Yc; rw [if_pos h]
theorem trimS_yes {b l : List Int} (hb : 0 < b.length) (h : Vv l b = true) : trimS b l = trimS b (l.take (l.length - b.length)) := by
  have h2 := Uq h
  have e : Vq b l.length l = Vq b (l.length - 1) (l.take (l.length - b.length)) := by
    have e1 : ∀ n, Vq b (n + 1) l = Vq b n (l.take (l.length - b.length)) := by intro n; exact if_pos h
    rw [← e1 (l.length - 1), show l.length - 1 + 1 = l.length by omega]
  unfold trimS; rw [if_neg (by omega), if_neg (by omega), e]
  exact yl hb _ _ _ (by simp; omega) (Nat.le_refl _)
theorem qu {b l : List Int} (h : Vv l b = false) : trimS b l = l := by
  unfold trimS; split
  · rfl
  · cases hl : l.length with
    | zero => rfl
    | succ n => unfold Vq; rw [if_neg (by simp [h])]
theorem Gq {b l : List Int} (h : b.length = 0) : trimS b l = l := by unfold trimS; rw [if_pos h]
theorem hasP_app (b r : List Int) : Wy (b ++ r) b = true := by unfold Wy; apply decide_eq_true; simp
theorem hasS_app (r b : List Int) : Vv (r ++ b) b = true := by unfold Vv; apply decide_eq_true; simp
theorem trimP_app {b : List Int} (hb : 0 < b.length) (r : List Int) : Yc b (b ++ r) = Yc b r := by rw [trimP_yes hb (hasP_app b r)]; simp
theorem trimS_app {b : List Int} (hb : 0 < b.length) (r : List Int) : trimS b (r ++ b) = trimS b r := by rw [trimS_yes hb (hasS_app r b)]; simp
def Vh (b : List Int) (s : Int × List Int) (x : Int) : Int × List Int :=
  if 0 ≤ s.1 then (if b[s.1.toNat]? = some x then (Int.tmod (s.1 + 1) (b.length : Int), s.2) else (-1, s.2 ++ b.take s.1.toNat ++ [x])) else (s.1, s.2 ++ [x])
def Yq (b l : List Int) : Int × List Int := l.foldl (Vh b) (0, [])
def tpR (b l : List Int) : List Int := (Yq b l).2 ++ (if 0 ≤ (Yq b l).1 then b.take (Yq b l).1.toNat else [])
theorem jU (b l : List Int) (x : Int) : Yq b (l ++ [x]) = Vh b (Yq b l) x := by simp [Yq]
theorem tpF_yes {b l : List Int} {x : Int} (h0 : 0 ≤ (Yq b l).1) (h : b[(Yq b l).1.toNat]? = some x) : Yq b (l ++ [x]) = (Int.tmod ((Yq b l).1 + 1) (b.length : Int), (Yq b l).2) := by
  rw [jU]; unfold Vh; rw [if_pos h0, if_pos h]
theorem tpF_no {b l : List Int} {x y : Int} (h0 : 0 ≤ (Yq b l).1) (h : b[(Yq b l).1.toNat]? = some y) (hne : ¬ x = y) : Yq b (l ++ [x]) = (-1, (Yq b l).2 ++ b.take (Yq b l).1.toNat ++ [x]) := by
  rw [jU]; unfold Vh; rw [if_pos h0, if_neg (by rw [h]; intro e; exact hne (Option.some.inj e).symm)]
theorem yn {b l : List Int} {x : Int} (h0 : ¬ 0 ≤ (Yq b l).1) : Yq b (l ++ [x]) = ((Yq b l).1, (Yq b l).2 ++ [x]) := by
  rw [jU]; unfold Vh; rw [if_neg h0]
theorem tpStep_lt {b : List Int} (hb : 0 < b.length) {s : Int × List Int} {x : Int} (h : -1 ≤ s.1 ∧ s.1 < b.length) : -1 ≤ (Vh b s x).1 ∧ (Vh b s x).1 < b.length := by
  unfold Vh; split
  · split
    · have h1 := Int.tmod_nonneg (b := (b.length : Int)) (a := s.1 + 1) (by omega)
      have h2 := Int.tmod_lt_of_pos (b := (b.length : Int)) (s.1 + 1) (by omega)
      exact ⟨by show -1 ≤ Int.tmod _ _; omega, h2⟩
    · exact ⟨by show (-1 : Int) ≤ -1; omega, by show (-1 : Int) < _; omega⟩
  · exact h
theorem YK {σ : Type} (f : σ → Int → σ) (Q : List Int → σ → Prop) (s0 : σ) (h0 : Q [] s0) (hs : ∀ p x, Q p (p.foldl f s0) → Q (p ++ [x]) (f (p.foldl f s0) x)) : ∀ (n : Nat) (l : List Int), l.length = n → Q l (l.foldl f s0)
  | 0, l, h => by have := List.eq_nil_of_length_eq_zero h; subst this; exact h0
  | n + 1, l, h => by
    obtain ⟨p, x, rfl⟩ : ∃ p x, l = p ++ [x] := ⟨l.dropLast, l.getLast (by intro e; subst e; simp at h), (List.dropLast_concat_getLast _).symm⟩
    have ih := YK f Q s0 h0 hs n p (by simpa using h)
    have e : (p ++ [x]).foldl f s0 = f (p.foldl f s0) x := by simp
    rw [e]; exact hs p x ih
theorem tpF_lt {b : List Int} (hb : 0 < b.length) (l : List Int) : -1 ≤ (Yq b l).1 ∧ (Yq b l).1 < b.length :=
  YK (Vh b) (fun _ s => -1 ≤ s.1 ∧ s.1 < b.length) (0, []) ⟨by show (-1 : Int) ≤ 0; omega, by show (0 : Int) < _; omega⟩ (fun p x h => tpStep_lt hb h) _ l rfl
theorem tpStep_ext (b : List Int) (s : Int × List Int) (x : Int) : s.2 <+: (Vh b s x).2 := by
  unfold Vh; split
  · split
    · exact List.prefix_rfl
    · rw [List.append_assoc]; exact List.prefix_append _ _
  · exact List.prefix_append _ _
theorem tpF_mono (b p : List Int) : ∀ (r : List Int), (Yq b p).2 <+: (Yq b (p ++ r)).2 := by
  intro r
  induction r generalizing p with
  | nil => simp
  | cons x r ih =>
    rw [show p ++ x :: r = (p ++ [x]) ++ r by simp]
    refine List.IsPrefix.trans ?_ (ih _)
    rw [jU]; exact tpStep_ext _ _ _
theorem tpR_of {b p l : List Int} (h : p <+: l) : (Yq b p).2 <+: tpR b l := by
  obtain ⟨r, rfl⟩ := h
  exact (tpF_mono b p r).trans (List.prefix_append _ _)
theorem qz {b p l : List Int} {x y z : Int} {k : Nat} (h : p ++ [x] <+: l) (h0 : 0 ≤ (Yq b p).1) (hy : b[(Yq b p).1.toNat]? = some y) (hne : ¬ x = y) (hk : k < (Yq b p).1.toNat) (hz : b[k]? = some z) : (Yq b p).2 ++ b.take k ++ [z] <+: tpR b l := by
  refine List.IsPrefix.trans ?_ (tpR_of h)
  rw [tpF_no h0 hy hne, List.append_assoc, YP hz, List.append_assoc]
  refine (List.prefix_append_right_inj _).2 (List.IsPrefix.trans ?_ (List.prefix_append _ _))
  exact List.take_prefix_take_left (by omega)
theorem qy {b p l : List Int} {x y : Int} {k : Nat} (h : p ++ [x] <+: l) (h0 : 0 ≤ (Yq b p).1) (hy : b[(Yq b p).1.toNat]? = some y) (hne : ¬ x = y) (hk : k = (Yq b p).1.toNat) : (Yq b p).2 ++ b.take k ++ [x] <+: tpR b l := by
  refine List.IsPrefix.trans ?_ (tpR_of h)
  rw [tpF_no h0 hy hne, hk]; exact List.prefix_rfl
theorem qx {b p l : List Int} {x : Int} (h : p ++ [x] <+: l) (h0 : ¬ 0 ≤ (Yq b p).1) : (Yq b p).2 ++ [x] <+: tpR b l := by
  refine List.IsPrefix.trans ?_ (tpR_of h)
  rw [yn h0]; exact List.prefix_rfl
theorem qw {b l : List Int} {z : Int} {k : Nat} (hk : k < (Yq b l).1.toNat) (hz : b[k]? = some z) : (Yq b l).2 ++ b.take k ++ [z] <+: tpR b l := by
  unfold tpR; rw [if_pos (by omega), List.append_assoc, YP hz]
  exact (List.prefix_append_right_inj _).2 (List.take_prefix_take_left (by omega))
theorem tp_end {b l : List Int} {k : Nat} (hk : k = (Yq b l).1.toNat) : (Yq b l).2 ++ b.take k = tpR b l := by
  unfold tpR; subst hk; split
  · rfl
  · rw [show (Yq b l).1.toNat = 0 by omega]; simp
theorem JV {b : List Int} {i : Nat} {x : Int} (h : b[i]? = some x) : b.take (i + 1) = b.take i ++ [x] := by rw [List.take_add_one, h]; rfl
theorem hasP_mis {b r : List Int} {i : Nat} {x : Int} (hi : i < b.length) (h : ¬ b[i]? = some x) : Wy (b.take i ++ x :: r) b = false := by
  unfold Wy; apply decide_eq_false; intro e
  apply h
  rw [← e, List.getElem?_take_of_lt hi, List.getElem?_append_right (by rw [List.length_take]; omega), List.length_take, Nat.min_eq_left (by omega), Nat.sub_self]; rfl
theorem tpR_trimP {b : List Int} (hb : 0 < b.length) (l : List Int) : tpR b l = Yc b l := by
  have h := YK (Vh b) (fun p s => (-1 ≤ s.1 ∧ s.1 < b.length) ∧ (0 ≤ s.1 → s.2 = [] ∧ ∀ r, Yc b (p ++ r) = Yc b (b.take s.1.toNat ++ r)) ∧ (s.1 < 0 → ∀ r, Yc b (p ++ r) = s.2 ++ r)) (0, [])
    ⟨⟨by show (-1 : Int) ≤ 0; omega, by show (0 : Int) < _; omega⟩, fun _ => ⟨rfl, fun r => by simp⟩, fun h => absurd h (by show ¬ (0 : Int) < 0; omega)⟩ ?_ _ l rfl
  · obtain ⟨h0, h1, h2⟩ := h
    change (-1 ≤ (Yq b l).1 ∧ (Yq b l).1 < b.length) at h0
    change (0 ≤ (Yq b l).1 → (Yq b l).2 = [] ∧ ∀ r, Yc b (l ++ r) = Yc b (b.take (Yq b l).1.toNat ++ r)) at h1
    change ((Yq b l).1 < 0 → ∀ r, Yc b (l ++ r) = (Yq b l).2 ++ r) at h2
    unfold tpR
    by_cases hs : 0 ≤ (Yq b l).1
    · obtain ⟨h3, h4⟩ := h1 hs
      have h5 := h4 []
      rw [List.append_nil, List.append_nil] at h5
      rw [if_pos hs, h3, h5, qv (Vj (by rw [List.length_take]; omega))]; rfl
    · have h5 := h2 (by omega) []
      rw [List.append_nil] at h5
      rw [if_neg hs, h5]
  · intro p x
    generalize p.foldl (Vh b) (0, []) = s
    intro ⟨h0, h1, h2⟩
    refine ⟨tpStep_lt hb h0, ?_, ?_⟩
    · intro hs
      unfold Vh at hs ⊢
      by_cases h3 : 0 ≤ s.1
      · rw [if_pos h3] at hs ⊢
        obtain ⟨h4, h5⟩ := h1 h3
        by_cases h6 : b[s.1.toNat]? = some x
        · rw [if_pos h6] at hs ⊢
          refine ⟨h4, fun r => ?_⟩
          rw [List.append_assoc, h5, List.singleton_append]
          show _ = Yc b (b.take (Int.tmod _ _).toNat ++ r)
          have e1 : b.take s.1.toNat ++ x :: r = b.take (s.1.toNat + 1) ++ r := by rw [JV h6]; simp
          rw [e1]
          by_cases h7 : s.1 + 1 = b.length
          · rw [h7, Int.tmod_self, show s.1.toNat + 1 = b.length by omega, List.take_of_length_le (Nat.le_refl _), trimP_app hb]; simp
          · have h8 : Int.tmod (s.1 + 1) (b.length : Int) = s.1 + 1 := Int.tmod_eq_of_lt (by omega) (by omega)
            rw [h8, show (s.1 + 1).toNat = s.1.toNat + 1 by omega]
        · rw [if_neg h6] at hs; exact absurd hs (by show ¬ (0 : Int) ≤ -1; omega)
      · rw [if_neg h3] at hs; exact absurd hs h3
    · intro hs r
      unfold Vh at hs ⊢
      by_cases h3 : 0 ≤ s.1
      · rw [if_pos h3] at hs ⊢
        obtain ⟨h4, h5⟩ := h1 h3
        by_cases h6 : b[s.1.toNat]? = some x
        · rw [if_pos h6] at hs
          have := Int.tmod_nonneg (b := (b.length : Int)) (a := s.1 + 1) (by omega)
          exact absurd hs (by show ¬ Int.tmod _ _ < 0; omega)
        · rw [if_neg h6, List.append_assoc, h5, List.singleton_append, qv (hasP_mis (by omega) h6), h4]; simp
      · rw [if_neg h3]
        rw [List.append_assoc, h2 (by omega)]; simp
def UC (b : List Int) (i : Nat) : List Int := (List.range i).map fun j => b.getD (j % b.length) 0
theorem Wf {b : List Int} {i : Nat} {y : Int} (h : b[i % b.length]? = some y) : UC b (i + 1) = UC b i ++ [y] := by
  unfold UC; rw [List.range_succ, List.map_append]; simp [List.getD, h]
theorem cyc_pre (b : List Int) {k i : Nat} (h : k ≤ i) : UC b k <+: UC b i := by
  obtain ⟨m, rfl⟩ : ∃ m, i = k + m := ⟨i - k, by omega⟩
  unfold UC; rw [List.range_add, List.map_append]; exact List.prefix_append _ _
theorem cyc_round {b : List Int} (hb : 0 < b.length) (q : Nat) : UC b ((q + 1) * b.length) = UC b (q * b.length) ++ b := by
  unfold UC
  rw [Nat.add_mul, Nat.one_mul, List.range_add, List.map_append, List.map_map]
  congr 1
  apply List.ext_getElem?
  intro j
  by_cases hj : j < b.length
  · rw [List.getElem?_map, List.getElem?_range hj]
    simp only [Option.map_some, Function.comp]
    rw [Nat.mul_comm, Nat.mul_add_mod, Nat.mod_eq_of_lt hj, List.getD, List.getElem?_eq_getElem hj]; rfl
  · rw [List.getElem?_eq_none (by simp; omega), List.getElem?_eq_none (by omega)]
def Vp (b : List Int) (s : Nat × List Int) (x : Int) : Nat × List Int :=
  if b[s.1 % b.length]? = some x then (s.1 + 1, s.2) else if b[0]? = some x then (1, s.2 ++ UC b s.1) else (0, s.2 ++ UC b s.1 ++ [x])
def Yi (b l : List Int) : Nat × List Int := l.foldl (Vp b) (0, [])
def tsR (b l : List Int) : List Int := if (Yi b l).1 % b.length = 0 then (Yi b l).2 else (Yi b l).2 ++ UC b (Yi b l).1
theorem qt (b l : List Int) (x : Int) : Yi b (l ++ [x]) = Vp b (Yi b l) x := by simp [Yi]
theorem tsF_yes {b l : List Int} {x y : Int} (h : b[(Yi b l).1 % b.length]? = some y) (e : x = y) : Yi b (l ++ [x]) = ((Yi b l).1 + 1, (Yi b l).2) := by
  rw [qt]; unfold Vp; rw [if_pos (by rw [h, e])]
theorem tsF_b0 {b l : List Int} {x y z : Int} (h : b[(Yi b l).1 % b.length]? = some y) (hne : ¬ x = y) (h0 : b[0]? = some z) (e : x = z) : Yi b (l ++ [x]) = (1, (Yi b l).2 ++ UC b (Yi b l).1) := by
  rw [qt]; unfold Vp; rw [if_neg (by rw [h]; intro e; exact hne (Option.some.inj e).symm), if_pos (by rw [h0, e])]
theorem tsF_no {b l : List Int} {x y z : Int} (h : b[(Yi b l).1 % b.length]? = some y) (hne : ¬ x = y) (h0 : b[0]? = some z) (hne0 : ¬ x = z) : Yi b (l ++ [x]) = (0, (Yi b l).2 ++ UC b (Yi b l).1 ++ [x]) := by
  rw [qt]; unfold Vp; rw [if_neg (by rw [h]; intro e; exact hne (Option.some.inj e).symm), if_neg (by rw [h0]; intro e; exact hne0 (Option.some.inj e).symm)]
theorem yk (b : List Int) (s : Nat × List Int) (x : Int) : s.2 <+: (Vp b s x).2 ∧ (Vp b s x).1 ≤ s.1 + 1 := by
  unfold Vp; split
  · exact ⟨List.prefix_rfl, Nat.le_refl _⟩
  · split
    · exact ⟨List.prefix_append _ _, by show 1 ≤ _; omega⟩
    · exact ⟨by rw [List.append_assoc]; exact List.prefix_append _ _, by show 0 ≤ _; omega⟩
theorem tsF_le (b l : List Int) : (Yi b l).1 ≤ l.length :=
  YK (Vp b) (fun p s => s.1 ≤ p.length) (0, []) (Nat.le_refl _) (fun p x h => by have := (yk b (p.foldl (Vp b) (0, [])) x).2; simp; omega) _ l rfl
theorem tsF_mono (b p : List Int) : ∀ (r : List Int), (Yi b p).2 <+: (Yi b (p ++ r)).2 := by
  intro r
  induction r generalizing p with
  | nil => simp
  | cons x r ih =>
    rw [show p ++ x :: r = (p ++ [x]) ++ r by simp]
    refine List.IsPrefix.trans ?_ (ih _)
    rw [qt]; exact (yk _ _ _).1
theorem tsR_of {b p l : List Int} (h : p <+: l) : (Yi b p).2 <+: tsR b l := by
  obtain ⟨r, rfl⟩ := h
  refine (tsF_mono b p r).trans ?_
  unfold tsR; split
  · exact List.prefix_rfl
  · exact List.prefix_append _ _
theorem ts_mis {b p : List Int} {x y : Int} (h : b[(Yi b p).1 % b.length]? = some y) (hne : ¬ x = y) : (Yi b p).2 ++ UC b (Yi b p).1 <+: (Yi b (p ++ [x])).2 := by
  rw [qt]; unfold Vp; rw [if_neg (by rw [h]; intro e; exact hne (Option.some.inj e).symm)]
  split
  · exact List.prefix_rfl
  · exact List.prefix_append _ _
theorem jT {b p l : List Int} {x y z : Int} {k : Nat} (h : p ++ [x] <+: l) (hy : b[(Yi b p).1 % b.length]? = some y) (hne : ¬ x = y) (hk : k < (Yi b p).1) (hz : b[k % b.length]? = some z) : (Yi b p).2 ++ UC b k ++ [z] <+: tsR b l := by
  refine List.IsPrefix.trans ?_ ((ts_mis hy hne).trans (tsR_of h))
  rw [List.append_assoc, ← Wf hz]
  exact (List.prefix_append_right_inj _).2 (cyc_pre b (by omega))
theorem jS {b p l : List Int} {x y z : Int} {k : Nat} (h : p ++ [x] <+: l) (hy : b[(Yi b p).1 % b.length]? = some y) (hne : ¬ x = y) (h0 : b[0]? = some z) (hne0 : ¬ x = z) (hk : k = (Yi b p).1) : (Yi b p).2 ++ UC b k ++ [x] <+: tsR b l := by
  refine List.IsPrefix.trans ?_ (tsR_of h)
  rw [tsF_no hy hne h0 hne0, hk]; exact List.prefix_rfl
theorem jR {b l : List Int} {z : Int} {k : Nat} (h0 : ¬ (Yi b l).1 % b.length = 0) (hk : k < (Yi b l).1) (hz : b[k % b.length]? = some z) : (Yi b l).2 ++ UC b k ++ [z] <+: tsR b l := by
  unfold tsR; rw [if_neg h0, List.append_assoc, ← Wf hz]
  exact (List.prefix_append_right_inj _).2 (cyc_pre b (by omega))
theorem ts_end {b l : List Int} {k : Nat} (h0 : ¬ (Yi b l).1 % b.length = 0) (hk : k = (Yi b l).1) : (Yi b l).2 ++ UC b k = tsR b l := by
  unfold tsR; rw [if_neg h0, hk]
theorem ts_end0 {b l : List Int} (h0 : (Yi b l).1 % b.length = 0) : (Yi b l).2 = tsR b l := by
  unfold tsR; rw [if_pos h0]
theorem vp (l b : List Int) : Vv l b = true ↔ b <:+ l := by
  unfold Vv; rw [decide_eq_true_eq]
  constructor
  · intro h; rw [← h]; exact List.drop_suffix _ _
  · rintro ⟨t, rfl⟩; simp
theorem suf_snoc {b p : List Int} {x : Int} {r : Nat} (hr : r < b.length) (h : b.take (r + 1) <:+ p ++ [x]) : b[r]? = some x ∧ b.take r <:+ p := by
  obtain ⟨t, h⟩ := h
  have hy := List.getElem?_eq_getElem hr
  rw [JV hy, ← List.append_assoc] at h
  have := List.append_inj' h rfl
  have h2 : b[r] = x := by simpa using this.2
  exact ⟨by rw [hy, h2], t, this.1⟩
theorem tsR_trimS {b : List Int} (hb : 0 < b.length) (hbl : ∀ j x, 0 < j → b[0]? = some x → ¬ b[j]? = some x) (l : List Int) : tsR b l = trimS b l := by
  have h := YK (Vp b) (fun p s => p = s.2 ++ UC b s.1 ∧ (∀ r, 1 ≤ r → r ≤ b.length → b.take r <:+ p → 0 < s.1 ∧ s.1 % b.length = r % b.length) ∧ Vv s.2 b = false) (0, [])
    ⟨by simp [UC], fun r h1 h2 h3 => by have := h3.length_le; simp only [List.length_take, List.length_nil] at this; omega, Vi (by simpa using hb)⟩ ?_ _ l rfl
  · obtain ⟨hA, hB, hC⟩ := h
    change l = (Yi b l).2 ++ UC b (Yi b l).1 at hA
    change ∀ r, 1 ≤ r → r ≤ b.length → b.take r <:+ l → 0 < (Yi b l).1 ∧ (Yi b l).1 % b.length = r % b.length at hB
    change Vv (Yi b l).2 b = false at hC
    unfold tsR
    split
    · rename_i h0
      have e : ∀ q, trimS b ((Yi b l).2 ++ UC b (q * b.length)) = trimS b (Yi b l).2 := by
        intro q; induction q with
        | zero => simp [UC]
        | succ q ih => rw [cyc_round hb, ← List.append_assoc, trimS_app hb, ih]
      have e2 : (Yi b l).1 = (Yi b l).1 / b.length * b.length := by have := Nat.div_add_mod (Yi b l).1 b.length; rw [h0, Nat.mul_comm] at this; omega
      conv => rhs; rw [hA, e2]
      rw [e, qu hC]
    · rename_i h0
      rw [← hA]
      refine (qu ?_).symm
      cases hs : Vv l b with
      | false => rfl
      | true => exact absurd ((hB b.length hb (Nat.le_refl _) (by rw [List.take_of_length_le (Nat.le_refl _)]; exact (vp l b).1 hs)).2.trans (Nat.mod_self _)) h0
  · intro p x
    generalize p.foldl (Vp b) (0, []) = s
    intro ⟨hA, hB, hC⟩
    have hlt : ∀ i : Nat, i % b.length < b.length := fun i => Nat.mod_lt _ hb
    -- what ends in x
    have key : ∀ r, 1 ≤ r → r ≤ b.length → b.take r <:+ p ++ [x] → (r = 1 ∧ b[0]? = some x) ∨ (b[s.1 % b.length]? = some x ∧ (s.1 + 1) % b.length = r % b.length) := by
      intro r h1 h2 h3
      obtain ⟨r, rfl⟩ : ∃ q, r = q + 1 := ⟨r - 1, by omega⟩
      obtain ⟨h4, h5⟩ := suf_snoc (by omega) h3
      by_cases hr : r = 0
      · left; subst hr; exact ⟨rfl, h4⟩
      · right
        have hr1 : r < b.length := h2
        obtain ⟨h6, h7⟩ := hB r (by omega) (by omega) h5
        have h8 : r % b.length = r := Nat.mod_eq_of_lt hr1
        refine ⟨by rw [h7, h8]; exact h4, ?_⟩
        rw [Nat.add_mod, h7, ← Nat.add_mod]
    unfold Vp
    by_cases hm : b[s.1 % b.length]? = some x
    · rw [if_pos hm]
      refine ⟨by show p ++ [x] = _ ++ UC b (_ + 1); rw [Wf hm, ← List.append_assoc, ← hA], ?_, hC⟩
      intro r h1 h2 h3
      refine ⟨Nat.succ_pos _, ?_⟩
      rcases key r h1 h2 h3 with ⟨rfl, h4⟩ | ⟨_, h4⟩
      · show (s.1 + 1) % b.length = 1 % b.length
        have h5 : s.1 % b.length = 0 := by
          cases hq : s.1 % b.length with
          | zero => rfl
          | succ q => rw [hq] at hm; exact absurd hm (hbl _ _ (by omega) h4)
        rw [Nat.add_mod, h5, Nat.zero_add, Nat.mod_mod]
      · exact h4
    · rw [if_neg hm]
      have nop : Vv p b = true → b[0]? = some x → False := by
        intro hs h0
        have := hB b.length hb (Nat.le_refl _) (by rw [List.take_of_length_le (Nat.le_refl _)]; exact (vp p b).1 hs)
        rw [Nat.mod_self] at this
        rw [this.2] at hm; exact hm h0
      by_cases h0 : b[0]? = some x
      · rw [if_pos h0]
        refine ⟨?_, ?_, ?_⟩
        · show p ++ [x] = (_ ++ UC b _) ++ UC b (0 + 1)
          rw [Wf (i := 0) (by rw [Nat.zero_mod]; exact h0), ← hA]; simp [UC]
        · intro r h1 h2 h3
          refine ⟨by show 0 < 1; omega, ?_⟩
          rcases key r h1 h2 h3 with ⟨rfl, h4⟩ | ⟨h4, _⟩
          · rfl
          · exact absurd h4 hm
        · show Vv (_ ++ UC b _) b = false
          rw [← hA]
          cases hs : Vv p b with
          | false => rfl
          | true => exact (nop hs h0).elim
      · rw [if_neg h0]
        have none_ : ∀ r, 1 ≤ r → r ≤ b.length → ¬ b.take r <:+ p ++ [x] := by
          intro r h1 h2 h3
          rcases key r h1 h2 h3 with ⟨rfl, h4⟩ | ⟨h4, _⟩
          · exact h0 h4
          · exact hm h4
        refine ⟨?_, fun r h1 h2 h3 => absurd h3 (none_ r h1 h2), ?_⟩
        · show p ++ [x] = (_ ++ UC b _ ++ [x]) ++ UC b 0
          rw [← hA]; simp [UC]
        · show Vv (_ ++ UC b _ ++ [x]) b = false
          rw [← hA]
          cases hs : Vv (p ++ [x]) b with
          | false => rfl
          | true => exact absurd ((vp _ _).1 hs) (by have := none_ b.length hb (Nat.le_refl _); rwa [List.take_of_length_le (Nat.le_refl _)] at this)
theorem trimPn_le (b : List Int) : ∀ (n : Nat) (l : List Int), (Vr b n l).length ≤ l.length
  | 0, l => Nat.le_refl _
  | n + 1, l => by
    unfold Vr; split
    · have := trimPn_le b n (l.drop b.length); simp at this; omega
    · exact Nat.le_refl _
theorem trimP_le (b l : List Int) : (Yc b l).length ≤ l.length := by
  unfold Yc; split
  · exact Nat.le_refl _
  · exact trimPn_le b _ l
theorem trimSn_le (b : List Int) : ∀ (n : Nat) (l : List Int), (Vq b n l).length ≤ l.length
  | 0, l => Nat.le_refl _
  | n + 1, l => by
    unfold Vq; split
    · have := trimSn_le b n (l.take (l.length - b.length)); simp at this; omega
    · exact Nat.le_refl _
theorem trimS_le (b l : List Int) : (trimS b l).length ≤ l.length := by
  unfold trimS; split
  · exact Nat.le_refl _
  · exact trimSn_le b _ l
def GH (l : List Int) : Prop := l.Pairwise (· ≤ ·)
theorem sorted_eq : ∀ {a b : List Int}, GH a → GH b → a.Perm b → a = b
  | [], b, _, _, h => (List.nil_perm.1 h).symm ▸ rfl
  | x :: a, [], _, _, h => by simp at h
  | x :: a, y :: b, ha, hb, h => by
    unfold GH at ha hb
    rw [List.pairwise_cons] at ha hb
    have h1 : x ≤ y := by
      rcases List.mem_cons.1 (h.symm.subset (List.mem_cons_self ..)) with e | e
      · omega
      · exact ha.1 y e
    have h2 : y ≤ x := by
      rcases List.mem_cons.1 (h.subset (List.mem_cons_self ..)) with e | e
      · omega
      · exact hb.1 x e
    have e : x = y := by omega
    subst e
    rw [sorted_eq ha.2 hb.2 ((List.perm_cons x).1 h)]
def Gb (x : Int) (l : List Int) : List Int := l.takeWhile (fun y => decide (y < x)) ++ (if x ∈ l then [] else [x]) ++ l.dropWhile (fun y => decide (y < x))
def JW (l : List Int) : List Int := l.foldl (fun s x => Gb x s) []
def Us (l : List Int) : Prop := l.Pairwise (· < ·)
theorem setI_app (l : List Int) (x : Int) : JW (l ++ [x]) = Gb x (JW l) := by simp [JW]
theorem setI_take {l : List Int} {k : Nat} {x : Int} (h : l[k]? = some x) : JW (l.take (k + 1)) = Gb x (JW (l.take k)) := by rw [(take_s h).1, setI_app]
theorem zK {x : Int} {l : List Int} (h : x ∈ l) : Gb x l = l := by
  unfold Gb; rw [if_pos h, List.append_nil, List.takeWhile_append_dropWhile]
theorem insU_mem {x z : Int} {l : List Int} : z ∈ Gb x l ↔ z = x ∨ z ∈ l := by
  by_cases h : x ∈ l
  · rw [zK h]; constructor
    · exact .inr
    · rintro (rfl | h2); exact h; exact h2
  · unfold Gb; rw [if_neg h]
    have e : l = l.takeWhile (fun y => decide (y < x)) ++ l.dropWhile (fun y => decide (y < x)) := (List.takeWhile_append_dropWhile).symm
    conv => rhs; rw [e]
    simp only [List.mem_append, List.mem_singleton]
    constructor
    · rintro ((h1 | h1) | h1); exact .inr (.inl h1); exact .inl h1; exact .inr (.inr h1)
    · rintro (h1 | h1 | h1); exact .inl (.inr h1); exact .inl (.inl h1); exact .inr h1
theorem insU_len (x : Int) (l : List Int) : (Gb x l).length ≤ l.length + 1 := by
  have := congrArg List.length (List.takeWhile_append_dropWhile (p := fun y => decide (y < x)) (l := l))
  rw [List.length_append] at this
  unfold Gb; simp only [List.length_append]; split <;> simp <;> omega
theorem insU_sorted {x : Int} {l : List Int} (h : Us l) : Us (Gb x l) := by
  by_cases hx : x ∈ l
  · rw [zK hx]; exact h
  · unfold Gb; rw [if_neg hx]
    unfold Us at h ⊢
    induction l with
    | nil => simp
    | cons a l ih =>
      have hx2 : x ∉ l := fun e => hx (by simp [e])
      rw [List.pairwise_cons] at h
      by_cases ha : a < x
      · simp only [List.takeWhile_cons, List.dropWhile_cons, ha, decide_true, if_true, List.cons_append, List.pairwise_cons]
        refine ⟨fun y hy => ?_, ih h.2 hx2⟩
        have e : l.takeWhile (fun y => decide (y < x)) ++ l.dropWhile (fun y => decide (y < x)) = l := List.takeWhile_append_dropWhile
        simp only [List.mem_append, List.mem_singleton] at hy
        rcases hy with (hy | hy) | hy
        · exact h.1 y (by rw [← e]; exact List.mem_append_left _ hy)
        · omega
        · exact h.1 y (by rw [← e]; exact List.mem_append_right _ hy)
      · have hne : x ≠ a := fun e => hx (by simp [e])
        simp only [List.takeWhile_cons, List.dropWhile_cons, ha, decide_false, Bool.false_eq_true, if_false, List.nil_append, List.singleton_append, List.pairwise_cons]
        refine ⟨fun y hy => ?_, h.1, h.2⟩
        rcases List.mem_cons.1 hy with rfl | hy
        · omega
        · have := h.1 y hy; omega
theorem setI_spec (l : List Int) : Us (JW l) ∧ (∀ z, z ∈ JW l ↔ z ∈ l) ∧ (JW l).length ≤ l.length :=
  YK (fun s x => Gb x s) (fun p s => Us s ∧ (∀ z, z ∈ s ↔ z ∈ p) ∧ s.length ≤ p.length) [] ⟨List.Pairwise.nil, fun z => Iff.rfl, Nat.le_refl _⟩ (fun p x h => ⟨insU_sorted h.1, fun z => by rw [insU_mem, h.2.1, List.mem_append, List.mem_singleton]; exact Or.comm, by have := insU_len x (p.foldl (fun s x => Gb x s) []); simp; omega⟩) _ l rfl
theorem Us.le {l : List Int} (h : Us l) : GH l := List.Pairwise.imp (fun h => by omega) h
theorem split_at {p : Int → Bool} {s : List Int} {j : Nat} (h : ∀ y ∈ s.take j, p y = true) (h2 : s.length ≤ j ∨ ∃ v, s[j]? = some v ∧ p v = false) : s.takeWhile p = s.take j ∧ s.dropWhile p = s.drop j := by
  induction s generalizing j with
  | nil => simp
  | cons a s ih =>
    cases j with
    | zero =>
      rcases h2 with h2 | ⟨v, hv, hn⟩
      · simp at h2
      · have : a = v := by simpa using hv
        subst this
        simp [List.takeWhile_cons, List.dropWhile_cons, hn]
    | succ j =>
      have ha : p a = true := h a (by simp)
      have := ih (j := j) (fun y hy => h y (by simp [hy])) (by
        rcases h2 with h2 | ⟨v, hv, hn⟩
        · left; simp at h2; omega
        · right; exact ⟨v, by simpa using hv, hn⟩)
      simp [List.takeWhile_cons, List.dropWhile_cons, ha, this.1, this.2]
theorem set_at {s : List Int} {x : Int} {j : Nat} (hs : Us s) (h : ∀ y ∈ s.take j, y < x) (h2 : s.length ≤ j ∨ ∃ v, s[j]? = some v ∧ ¬ v < x ∧ ¬ v = x) : s.take j ++ [x] ++ s.drop j = Gb x s := by
  obtain ⟨e1, e2⟩ := split_at (p := fun y => decide (y < x)) (fun y hy => decide_eq_true (h y hy)) (by
    rcases h2 with h2 | ⟨v, hv, hn, _⟩
    · exact .inl h2
    · exact .inr ⟨v, hv, decide_eq_false hn⟩)
  have hx : x ∉ s := by
    intro hx
    rw [← List.take_append_drop j s, List.mem_append] at hx
    rcases hx with hx | hx
    · have := h x hx; omega
    · rcases h2 with h2 | ⟨v, hv, hn, hn2⟩
      · rw [List.drop_of_length_le h2] at hx; cases hx
      · have hj := (List.getElem?_eq_some_iff.1 hv).1
        have hd : s.drop j = v :: s.drop (j + 1) := by rw [List.drop_eq_getElem_cons hj, (List.getElem?_eq_some_iff.1 hv).2]
        rw [hd] at hx
        rcases List.mem_cons.1 hx with e | hx
        · exact hn2 e.symm
        · have hp : (s.drop j).Pairwise (· < ·) := List.Pairwise.sublist (List.drop_sublist _ _) hs
          rw [hd, List.pairwise_cons] at hp
          have := hp.1 x hx; omega
  unfold Gb; rw [if_neg hx, e1, e2]
theorem yt {s : List Int} {x : Int} {i : Nat} (hs : Us s) (hx : x ∉ s) (h : ∀ y ∈ s.drop i, x < y) (hi : i ≤ s.length) (h2 : i = 0 ∨ ∃ v, s[i - 1]? = some v ∧ ¬ x < v) : s.take i ++ [x] ++ s.drop i = Gb x s := by
  refine set_at hs (fun y hy => ?_) ?_
  · rcases h2 with h2 | ⟨v, hv, hn⟩
    · subst h2; simp at hy
    · obtain ⟨m, hm⟩ := List.mem_iff_getElem?.1 hy
      have hm1 := (List.getElem?_eq_some_iff.1 hm).1
      rw [List.length_take] at hm1
      rw [List.getElem?_take_of_lt (by omega)] at hm
      have hy2 := (List.getElem?_eq_some_iff.1 hm).2
      have hv2 := (List.getElem?_eq_some_iff.1 hv).2
      have hyv : y ≤ v := by
        by_cases e : m = i - 1
        · subst e; rw [hy2] at hv2; omega
        · have := List.pairwise_iff_getElem.1 hs m (i - 1) (by omega) (by omega) (by omega)
          rw [hy2, hv2] at this; omega
      have : y ≠ x := fun e => hx (by rw [← e]; exact List.mem_of_getElem? hm)
      omega
  · by_cases hl : s.length ≤ i
    · exact .inl hl
    · right
      refine ⟨s[i], List.getElem?_eq_getElem (by omega), ?_⟩
      have := h s[i] (by rw [List.drop_eq_getElem_cons (by omega)]; exact List.mem_cons_self ..)
      exact ⟨by omega, by omega⟩
theorem bubble_step {s : List Int} {x v : Int} {i : Nat} (h0 : 0 < i) (hi : i ≤ s.length) (hv : s[i - 1]? = some v) : s.take (i - 1) ++ [x] ++ s.drop (i - 1) = ((s.take i ++ [x] ++ s.drop i).set i v).set (i - 1) x := by
  obtain ⟨m, rfl⟩ : ∃ m, i = m + 1 := ⟨i - 1, by omega⟩
  simp only [Nat.add_sub_cancel] at hv ⊢
  have hm := (List.getElem?_eq_some_iff.1 hv).1
  have e1 : s.take (m + 1) = s.take m ++ [v] := JV hv
  have e2 : s.drop m = v :: s.drop (m + 1) := by rw [List.drop_eq_getElem_cons hm, (List.getElem?_eq_some_iff.1 hv).2]
  rw [e1, e2]
  have hl : (s.take m).length = m := by rw [List.length_take]; omega
  simp [List.set_append, hl]
theorem GV {l : List Int} {k : Nat} {x : Int} (h : l[k]? = some x) : JW (l.take (k + 1)) = Gb (l[k]?.getD 0) (JW (l.take k)) := by rw [setI_take h, h]; rfl
theorem bub_at {s : List Int} {x v : Int} {i : Nat} (hi : i ≤ s.length) (h : (s.take i ++ [x] ++ s.drop i)[i]? = some v) : v = x := by
  rw [List.append_assoc, List.getElem?_append_right (by rw [List.length_take]; omega), List.length_take, Nat.min_eq_left hi, Nat.sub_self] at h
  simpa using h.symm
theorem zm {s : List Int} {x v : Int} {i : Nat} (h0 : 0 < i) (hi : i ≤ s.length) (h : (s.take i ++ [x] ++ s.drop i)[i - 1]? = some v) : s[i - 1]? = some v := by
  rw [List.append_assoc, List.getElem?_append_left (by rw [List.length_take]; omega), List.getElem?_take_of_lt (by omega)] at h
  exact h
theorem drop_bub {s : List Int} {x v : Int} {i : Nat} (h : ∀ y ∈ s.drop i, x < y) (h0 : 0 < i) (hi : i ≤ s.length) (hv : s[i - 1]? = some v) (hlt : x < v) : ∀ y ∈ s.drop (i - 1), x < y := by
  obtain ⟨m, rfl⟩ : ∃ m, i = m + 1 := ⟨i - 1, by omega⟩
  simp only [Nat.add_sub_cancel] at hv ⊢
  have hm := (List.getElem?_eq_some_iff.1 hv).1
  rw [List.drop_eq_getElem_cons hm, (List.getElem?_eq_some_iff.1 hv).2]
  intro y hy
  rcases List.mem_cons.1 hy with rfl | hy
  · exact hlt
  · exact h y hy
instance (l : List Int) : Decidable (GH l) := inferInstanceAs (Decidable (l.Pairwise (· ≤ ·)))
theorem ji (l : List Int) : GH (Wq l) := by
  have := List.pairwise_mergeSort (le := fun x y : Int => decide (x ≤ y)) (fun a b c h1 h2 => by simp at *; omega) (fun a b => by simp; omega) l
  exact List.Pairwise.imp (fun h => by simpa using h) this
theorem srtM_perm (l : List Int) : (Wq l).Perm l := List.mergeSort_perm ..
theorem srtM_perm_eq {a b : List Int} (h : a.Perm b) : Wq a = Wq b := sorted_eq (ji a) (ji b) ((srtM_perm a).trans (h.trans (srtM_perm b).symm))
theorem UX (l : List Int) : (Qw l).length ≤ l.length :=
  YK Ym (fun p s => s.length ≤ p.length) [] (Nat.le_refl _) (fun p x h => by
    generalize p.foldl Ym [] = s at h ⊢
    unfold Ym; split
    · simp; omega
    · simp; omega) _ l rfl
theorem snocN {p : List Int} {k : Int} (h : p.Nodup) (hk : k ∉ p) : (p ++ [k]).Nodup :=
  List.nodup_append.2 ⟨h, by simp, fun a ha b hb => by simp at hb; subst hb; intro e; subst e; exact hk ha⟩
theorem snocS {p m : List Int} {k : Int} (h : ∀ z ∈ p, z ∈ m) (hk : k ∈ m) : ∀ z ∈ p ++ [k], z ∈ m := by
  intro z hz; rcases List.mem_append.1 hz with e | e
  · exact h z e
  · simp at e; rw [e]; exact hk
theorem jX {l : List Int} {k : Nat} {x : Int} (h : l[k]? = some x) (hx : x ∈ Qw (l.take k)) : Qw (l.take (k + 1)) = Qw (l.take k) := by rw [VO h]; unfold Ym; rw [if_pos hx]
theorem qO {l : List Int} {k : Nat} {x : Int} (h : l[k]? = some x) (hx : ¬ x ∈ Qw (l.take k)) : Qw (l.take (k + 1)) = Qw (l.take k) ++ [x] := by rw [VO h]; unfold Ym; rw [if_neg hx]
theorem YJ (l : List Int) (y : Int) : Qw (l ++ [y]) = Ym (Qw l) y := by unfold Qw; rw [List.foldl_append]; rfl
theorem qF {ll : List (List Int)} {k j : Nat} {x : List Int} {y : Int} (h : ll[k]? = some x) (hj : x[j]? = some y) : (ll.take k).flatten ++ (ll[k]?.getD []).take (j + 1) = ((ll.take k).flatten ++ (ll[k]?.getD []).take j) ++ [y] := by
  rw [h, List.append_assoc]; simp only [Option.getD_some]; rw [JV hj]
theorem row_end {ll : List (List Int)} {k j : Nat} {x : List Int} (h : ll[k]? = some x) (hj : x.length ≤ j) : (ll.take (k + 1)).flatten = (ll.take k).flatten ++ (ll[k]?.getD []).take j := by
  rw [ZL h, h]; simp only [Option.getD_some]; rw [List.take_of_length_le hj]
theorem keyU_le (ll : List (List Int)) (k j : Nat) : (Qw ((ll.take k).flatten ++ (ll[k]?.getD []).take j)).length ≤ total ll := by
  refine Nat.le_trans (UX _) ?_
  have h2 := Jn ll (k + 1)
  rw [List.length_append, Yr]
  cases h : ll[k]? with
  | none => have := Jn ll k; simp only [Option.getD_none, List.take_nil, List.length_nil]; omega
  | some x => rw [Yj h] at h2; simp only [Option.getD_some, List.length_take]; omega
theorem jY (ll : List (List Int)) (k : Nat) : (Qw (ll.take k).flatten).length ≤ total ll := by
  refine Nat.le_trans (UX _) ?_
  rw [Yr]; exact Jn ll k
theorem yy {β : Type} {k : Int} {v : β} : ∀ {L : List (Int × β)}, (L.map Prod.fst).Nodup → k ∈ L.map Prod.fst → Zj L k v = L.map (fun p => if p.1 = k then (k, v) else p)
  | [], _, h => by cases h
  | p :: L, hn, h => by
    rw [List.map_cons, List.nodup_cons] at hn
    unfold Zj
    by_cases hp : p.1 = k
    · have : ∀ q ∈ L, (fun q : Int × β => if q.1 = k then (k, v) else q) q = id q := fun q hq => by
        show (if q.1 = k then (k, v) else q) = q
        rw [if_neg]; intro e; exact hn.1 (by rw [hp, ← e]; exact List.mem_map_of_mem (f := Prod.fst) hq)
      rw [if_pos hp, List.map_cons, if_pos hp, List.map_congr_left this, List.map_id]
    · rw [if_neg hp, List.map_cons, if_neg hp, yy hn.2]
      rw [List.map_cons] at h
      rcases List.mem_cons.1 h with e | e
      · exact absurd e.symm hp
      · exact e
def QP (S : List Int) (f : Int → Bool) : List (Int × Bool) := S.map fun y => (y, f y)
theorem yc (S : List Int) (f : Int → Bool) : (QP S f).map Prod.fst = S := by unfold QP; rw [List.map_map]; simp [Function.comp_def]
theorem vy (S : List Int) (f : Int → Bool) : (QP S f).length = S.length := List.length_map _
theorem vz (S : List Int) (f : Int → Bool) (x : Int) : ZA (QP S f) x = decide (x ∈ S) := by unfold ZA; rw [yc]
theorem zn {S : List Int} {f g : Int → Bool} (h : ∀ y ∈ S, f y = g y) : QP S f = QP S g := List.map_congr_left fun y hy => by rw [h y hy]
theorem bm_put {S : List Int} {f : Int → Bool} {x : Int} {b : Bool} (hn : S.Nodup) (hx : x ∈ S) : Zj (QP S f) x b = QP S (fun y => if y = x then b else f y) := by
  rw [yy (by rw [yc]; exact hn) (by rw [yc]; exact hx)]
  unfold QP; rw [List.map_map]
  refine List.map_congr_left fun y hy => ?_
  show (if y = x then (x, b) else (y, f y)) = _
  by_cases e : y = x
  · subst e; simp
  · simp [e]
theorem bm_del (S : List Int) (f : Int → Bool) (x : Int) : YX (QP S f) x = QP (S.filter (fun y => decide (y ≠ x))) f := by
  unfold YX QP; rw [List.filter_map]; rfl
theorem bm_add (l : List Int) (x : Int) : Zj (QP (Qw l) (fun _ => false)) x false = QP (Qw (l ++ [x])) (fun _ => false) := by
  rw [YJ]; unfold Ym
  by_cases h : x ∈ Qw l
  · rw [if_pos h, bm_put (yK l) h]; exact zn fun y _ => by simp
  · rw [if_neg h, qH (by rw [yc]; exact h)]; unfold QP; simp
def YR (m : List Int) (y : Int) : Bool := decide (y ∈ m)
theorem mk_yes {S m : List Int} {x : Int} (hn : S.Nodup) (h : ZA (QP S (YR m)) x = true) : Zj (QP S (YR m)) x true = QP S (YR (m ++ [x])) := by
  rw [vz, decide_eq_true_eq] at h
  rw [bm_put hn h]
  refine zn fun y _ => ?_
  unfold YR
  by_cases e : y = x <;> simp [e]
theorem mk_no {S m : List Int} {x : Int} (h : ¬ ZA (QP S (YR m)) x = true) : QP S (YR m) = QP S (YR (m ++ [x])) := by
  rw [vz, decide_eq_true_eq] at h
  refine zn fun y hy => ?_
  have e : y ≠ x := fun e => h (by rw [← e]; exact hy)
  unfold YR; simp [e]
theorem UT (S : List Int) : QP S (YR []) = QP S (fun _ => false) := zn fun y _ => by simp [YR]
theorem Wz {α β : Type} {f g : α → Option β} : ∀ {l : List α}, (∀ x ∈ l, f x = g x) → l.filterMap f = l.filterMap g
  | [], _ => rfl
  | x :: l, h => by rw [List.filterMap_cons, List.filterMap_cons, h x (List.mem_cons_self ..), Wz fun y hy => h y (List.mem_cons_of_mem _ hy)]
def Zh (S : List Int) (f : Int → Bool) (D : List Int) : List (Int × Bool) := S.filterMap fun y => if y ∈ D then (if f y then some (y, false) else none) else some (y, f y)
theorem UQ (S : List Int) (f : Int → Bool) : Zh S f [] = QP S f := by unfold Zh QP; simp
theorem sd_keys (S : List Int) (f : Int → Bool) (D : List Int) : (Zh S f D).map Prod.fst = S.filter (fun y => !decide (y ∈ D) || f y) := by
  unfold Zh
  induction S with
  | nil => rfl
  | cons y S ih =>
    rw [List.filterMap_cons, List.filter_cons]
    by_cases h : y ∈ D
    · by_cases h2 : f y = true
      · simp [h, h2, ih]
      · simp [h, h2, ih]
    · simp [h, ih]
theorem sd_nodup {S : List Int} (hn : S.Nodup) (f : Int → Bool) (D : List Int) : ((Zh S f D).map Prod.fst).Nodup := by rw [sd_keys]; exact hn.filter _
theorem sd_mem {S D : List Int} {f : Int → Bool} {k : Int} {u : Bool} (h : (k, u) ∈ Zh S f D) (hk : k ∉ D) : k ∈ S ∧ f k = u := by
  unfold Zh at h
  obtain ⟨y, hy, e⟩ := List.mem_filterMap.1 h
  by_cases hd : y ∈ D
  · rw [if_pos hd] at e
    split at e
    · cases e; exact absurd hd hk
    · cases e
  · rw [if_neg hd] at e; cases e; exact ⟨hy, rfl⟩
theorem zA {S D : List Int} {f : Int → Bool} {k : Int} {u : Bool} (hn : S.Nodup) (h : (k, u) ∈ Zh S f D) (hk : k ∉ D) (hu : u = true) : Zj (Zh S f D) k false = Zh S f (D ++ [k]) := by
  have hm := sd_mem h hk
  rw [yy (sd_nodup hn f D) (List.mem_map_of_mem (f := Prod.fst) h)]
  unfold Zh
  rw [List.map_filterMap]
  refine Wz fun y hy => ?_
  by_cases hd : y ∈ D
  · have : y ≠ k := fun e => hk (by rw [← e]; exact hd)
    cases hf : f y <;> simp [hd, hf, this]
  · by_cases e : y = k
    · subst e; simp [hd, hm.2, hu]
    · simp [hd, e]
theorem sd_no {S D : List Int} {f : Int → Bool} {k : Int} {u : Bool} (h : (k, u) ∈ Zh S f D) (hk : k ∉ D) (hu : ¬ u = true) : YX (Zh S f D) k = Zh S f (D ++ [k]) := by
  have hm := sd_mem h hk
  have hf : f k = false := by rw [hm.2]; simpa using hu
  unfold Zh YX
  rw [List.filter_filterMap]
  refine Wz fun y hy => ?_
  by_cases hd : y ∈ D
  · have : y ≠ k := fun e => hk (by rw [← e]; exact hd)
    cases hf : f y <;> simp [hd, hf, this]
  · by_cases e : y = k
    · subst e; simp [hd, hf]
    · simp [hd, e]
theorem sd_end {S D : List Int} {f : Int → Bool} (h : ∀ z ∈ Zh S f D, z.1 ∈ D) : Zh S f D = QP (S.filter f) (fun _ => false) := by
  have h2 : ∀ y ∈ S, y ∈ D := fun y hy => by
    by_cases hd : y ∈ D
    · exact hd
    · exact h (y, f y) (List.mem_filterMap.2 ⟨y, hy, by rw [if_neg hd]⟩)
  unfold Zh QP
  rw [← List.filterMap_eq_map, ← List.filterMap_eq_filter, List.filterMap_filterMap]
  refine Wz fun y hy => ?_
  rw [if_pos (h2 y hy)]
  cases hf : f y <;> simp [Option.guard, hf]
def JQ (f : Int → Int) (S p : List Int) : List Int := S.filter (fun y => !decide (y ∈ p.map f))
def ZY (f : Int → Int) : List Int → List Int → List Int
  | _, [] => []
  | S, x :: l => if f x ∈ S then x :: ZY f (S.filter (fun y => decide (y ≠ f x))) l else ZY f S l
theorem rem_cons (f : Int → Int) (S : List Int) (a : Int) (p : List Int) : JQ f (S.filter (fun y => decide (y ≠ f a))) p = JQ f S (a :: p) := by
  unfold JQ; rw [List.filter_filter]
  refine List.filter_congr fun y _ => ?_
  by_cases e : y = f a <;> simp [e]
theorem rem_out {f : Int → Int} {S : List Int} {a : Int} (p : List Int) (h : ¬ f a ∈ S) : JQ f S p = JQ f S (a :: p) := by
  unfold JQ
  refine List.filter_congr fun y hy => ?_
  have e : y ≠ f a := fun e => h (by rw [← e]; exact hy)
  simp [e]
theorem rem_snoc (f : Int → Int) (S p : List Int) (x : Int) : (JQ f S p).filter (fun y => decide (y ≠ f x)) = JQ f S (p ++ [x]) := by
  unfold JQ; rw [List.filter_filter]
  refine List.filter_congr fun y _ => ?_
  by_cases e : y = f x <;> simp [e]
theorem rem_same {f : Int → Int} {S p : List Int} {x : Int} (h : ¬ f x ∈ JQ f S p) : JQ f S p = JQ f S (p ++ [x]) := by
  rw [← rem_snoc, List.filter_eq_self.2]
  intro y hy
  have e : y ≠ f x := fun e => h (by rw [← e]; exact hy)
  simpa using e
theorem qR (f : Int → Int) (x : Int) : ∀ (p S : List Int), ZY f S (p ++ [x]) = ZY f S p ++ (if f x ∈ JQ f S p then [x] else [])
  | [], S => by
    have : JQ f S [] = S := by unfold JQ; simp
    simp only [List.nil_append, ZY, this]
  | a :: p, S => by
    simp only [List.cons_append, ZY]
    by_cases h : f a ∈ S
    · rw [if_pos h, if_pos h, qR f x p, rem_cons, List.cons_append]
    · rw [if_neg h, if_neg h, qR f x p, rem_out p h]
theorem jZ {f : Int → Int} {x : Int} {p S : List Int} (h : ZA (QP (JQ f S p) (fun _ => false)) (f x) = true) : ZY f S p ++ [x] = ZY f S (p ++ [x]) := by
  rw [vz, decide_eq_true_eq] at h; rw [qR, if_pos h]
theorem isc_no {f : Int → Int} {x : Int} {p S : List Int} (h : ¬ ZA (QP (JQ f S p) (fun _ => false)) (f x) = true) : ZY f S p = ZY f S (p ++ [x]) := by
  rw [vz, decide_eq_true_eq] at h; rw [qR, if_neg h, List.append_nil]
theorem GX (f : Int → Int) (S p : List Int) (x : Int) : YX (QP (JQ f S p) (fun _ => false)) (f x) = QP (JQ f S (p ++ [x])) (fun _ => false) := by rw [bm_del, rem_snoc]
theorem rs_no {f : Int → Int} {x : Int} {p S : List Int} (h : ¬ ZA (QP (JQ f S p) (fun _ => false)) (f x) = true) : QP (JQ f S p) (fun _ => false) = QP (JQ f S (p ++ [x])) (fun _ => false) := by
  rw [vz, decide_eq_true_eq] at h; rw [← rem_same h]
theorem YD (f : Int → Int) (S : List Int) : QP S (fun _ => false) = QP (JQ f S []) (fun _ => false) := by unfold JQ; rw [List.filter_eq_self.2 (by simp)]
theorem isc_pre (f : Int → Int) : ∀ (a b S : List Int), ZY f S a <+: ZY f S (a ++ b)
  | [], b, S => List.nil_prefix
  | x :: a, b, S => by
    simp only [List.cons_append, ZY]
    split
    · exact (List.prefix_cons_inj _).2 (isc_pre f a b _)
    · exact isc_pre f a b _
theorem isc_prefix {f : Int → Int} {p l S : List Int} (h : p <+: l) : ZY f S p <+: ZY f S l := by obtain ⟨t, rfl⟩ := h; exact isc_pre f _ _ _
theorem Wv (f : Int → Int) : ∀ (l S : List Int), (ZY f S l).length ≤ l.length
  | [], S => Nat.le_refl _
  | x :: l, S => by
    simp only [ZY]; split
    · have := Wv f l (S.filter (fun y => decide (y ≠ f x))); simp only [List.length_cons]; omega
    · have := Wv f l S; simp only [List.length_cons]; omega
def JY (f : Int → Int) (ll : List (List Int)) : Nat → List Int
  | 0 => Qw ((ll.getD (ll.length - 1) []).map f)
  | j + 1 => (JY f ll j).filter (YR ((ll.getD (ll.length - 2 - j) []).map f))
theorem Yo (f : Int → Int) (ll : List (List Int)) : ∀ j, (JY f ll j).Nodup
  | 0 => yK _
  | j + 1 => (Yo f ll j).filter _
theorem sj_empty {f : Int → Int} {ll : List (List Int)} {j : Nat} (h : JY f ll j = []) : ∀ i, JY f ll (j + i) = []
  | 0 => h
  | i + 1 => by show (JY f ll (j + i)).filter _ = []; rw [sj_empty h i]; rfl
theorem yr (f : Int → Int) (ll : List (List Int)) : ∀ j, (JY f ll j).length ≤ (ll.getD (ll.length - 1) []).length
  | 0 => by
    show (Qw _).length ≤ _
    have h : ∀ (l : List Int) (s : List Int), (l.foldl Ym s).length ≤ s.length + l.length := by
      intro l
      induction l with
      | nil => intro s; simp
      | cons a l ih => intro s; rw [List.foldl_cons]; have := ih (Ym s a); have h3 : (Ym s a).length ≤ s.length + 1 := (by unfold Ym; split <;> simp); simp only [List.length_cons]; omega
    have := h ((ll.getD (ll.length - 1) []).map f) []
    rw [List.length_map] at this
    unfold Qw; simpa using this
  | j + 1 => Nat.le_trans (List.length_filter_le _ _) (yr f ll j)
def Ub (f : Int → Int) (ll : List (List Int)) : List Int := ZY f (JY f ll (ll.length - 2)) (ll.getD 0 [])
theorem UU {f : Int → Int} {ll : List (List Int)} {k : Nat} (h : k ≤ ll.length - 2) (h2 : k = ll.length - 2 ∨ JY f ll k = []) (l : List Int) : ZY f (JY f ll k) l = ZY f (JY f ll (ll.length - 2)) l := by
  rcases h2 with h2 | h2
  · rw [h2]
  · have := sj_empty h2 (ll.length - 2 - k)
    rw [show k + (ll.length - 2 - k) = ll.length - 2 by omega] at this
    rw [h2, this]
theorem nodup_len : ∀ {D S : List Int}, D.Nodup → (∀ z ∈ D, z ∈ S) → D.length ≤ S.length
  | [], S, _, _ => Nat.zero_le _
  | x :: D, S, hn, h => by
    rw [List.nodup_cons] at hn
    have hx := List.perm_cons_erase (h x (List.mem_cons_self ..))
    have := nodup_len (S := S.erase x) hn.2 fun z hz => (List.mem_erase_of_ne (fun e => hn.1 (by rw [← e]; exact hz))).2 (h z (List.mem_cons_of_mem _ hz))
    have h2 := hx.length_eq
    simp only [List.length_cons] at h2 ⊢; omega
theorem jV {D S : List Int} {f : Int → Bool} {k : Int} {u : Bool} (hn : D.Nodup) (h : ∀ z ∈ D, z ∈ S) (hm : (k, u) ∈ Zh S f D) (hk : k ∉ D) : D.length < S.length := by
  have := nodup_len (D := D ++ [k]) (S := S) (List.nodup_append.2 ⟨hn, by simp, fun a ha b hb => by simp at hb; subst hb; intro e; subst e; exact hk ha⟩) fun z hz => by
    rcases List.mem_append.1 hz with e | e
    · exact h z e
    · simp at e; rw [e]; exact (sd_mem hm hk).1
  simp at this; omega
theorem qA {D S : List Int} {f : Int → Bool} {k : Int} {u : Bool} (h : ∀ z ∈ D, z ∈ S) (hm : (k, u) ∈ Zh S f D) (hk : k ∉ D) : ∀ z ∈ D ++ [k], z ∈ S := fun z hz => by
  rcases List.mem_append.1 hz with e | e
  · exact h z e
  · simp at e; rw [e]; exact (sd_mem hm hk).1
theorem Wo {D : List Int} {k : Int} (hn : D.Nodup) (hk : k ∉ D) : (D ++ [k]).Nodup :=
  List.nodup_append.2 ⟨hn, by simp, fun a ha b hb => by simp at hb; subst hb; intro e; subst e; exact hk ha⟩
theorem Jl {ll : List (List Int)} {i : Nat} {n : Nat} {x : List Int} (h : ll[i]? = some x) (e : i = n) : ll.getD n [] = x := by
  subst e; rw [List.getD_eq_getElem?_getD, h]; rfl
theorem YA (ll : List (List Int)) (i : Nat) (T : Nat) (h : ∀ x ∈ ll, x.length ≤ T) : (ll.getD i []).length ≤ T := by
  rw [List.getD_eq_getElem?_getD]
  cases e : ll[i]? with
  | none => simp
  | some x => exact h x (List.mem_of_getElem? e)
theorem Gv {f : Int → Int} {ll : List (List Int)} {k : Nat} {X p : List Int} {x : Int} (h : k ≤ ll.length - 2) (h2 : k = ll.length - 2 ∨ JY f ll k = []) (h0 : ll[0]? = some X) (hp : p ++ [x] <+: X)
    (hk : ZA (QP (JQ f (JY f ll k) p) (fun _ => false)) (f x) = true) : ZY f (JY f ll k) p ++ [x] <+: Ub f ll := by
  rw [jZ hk]
  have e : ll.getD 0 [] = X := Jl h0 rfl
  unfold Ub
  rw [e, ← UU h h2]
  exact isc_prefix hp
theorem meet_done {f : Int → Int} {ll : List (List Int)} {k : Nat} {X : List Int} (h : k ≤ ll.length - 2) (h2 : k = ll.length - 2 ∨ JY f ll k = []) (h0 : ll[0]? = some X) : ZY f (JY f ll k) X = Ub f ll := by
  have e : ll.getD 0 [] = X := Jl h0 rfl
  unfold Ub
  rw [e, ← UU h h2]
theorem zY {S : List Int} {f : Int → Bool} (h : (QP S f).length = 0) : S = [] := by rw [vy] at h; exact List.eq_nil_of_length_eq_zero h
theorem keyU_yes {a : List Int} {x : Int} (h : ¬ x ∈ Qw a) : Qw a ++ [x] = Qw (a ++ [x]) := by rw [YJ]; unfold Ym; rw [if_neg h]
theorem keyU_no {a : List Int} {x : Int} (h : x ∈ Qw a) : Qw a = Qw (a ++ [x]) := by rw [YJ]; unfold Ym; rw [if_pos h]
theorem addS_pre : ∀ (l s : List Int), s <+: l.foldl Ym s
  | [], s => List.prefix_refl _
  | a :: l, s => by
    rw [List.foldl_cons]
    refine List.IsPrefix.trans ?_ (addS_pre l (Ym s a))
    unfold Ym; split
    · exact List.prefix_refl _
    · exact List.prefix_append _ _
theorem keyL_pre {a l : List Int} (h : a <+: l) : Qw a <+: Qw l := by
  obtain ⟨t, rfl⟩ := h
  unfold Qw; rw [List.foldl_append]; exact addS_pre _ _
theorem at_yes {S X : List Int} {ll : List (List Int)} {n m : Nat} {x : Int} (F : Int → Int) (hn : S.Nodup) (h : X[m]? = some x) (e : ll.getD n [] = X) (hk : ZA (QP S (YR (((ll.getD n []).take m).map F))) (F x) = true) :
    Zj (QP S (YR (((ll.getD n []).take m).map F))) (F x) true = QP S (YR (((ll.getD n []).take (m + 1)).map F)) := by
  rw [e] at hk ⊢; rw [JV h, List.map_append]; exact mk_yes hn hk
theorem at_no {S X : List Int} {ll : List (List Int)} {n m : Nat} {x : Int} (F : Int → Int) (h : X[m]? = some x) (e : ll.getD n [] = X) (hk : ZA (QP S (YR (((ll.getD n []).take m).map F))) (F x) = false) :
    QP S (YR (((ll.getD n []).take m).map F)) = QP S (YR (((ll.getD n []).take (m + 1)).map F)) := by
  rw [e] at hk ⊢; rw [JV h, List.map_append]; exact mk_no (by rw [hk]; simp)
theorem sq_yes {S p : List Int} {x : Int} (F : Int → Int) (hn : S.Nodup) (hk : ZA (QP S (YR (p.map F))) (F x) = true) : Zj (QP S (YR (p.map F))) (F x) true = QP S (YR ((p ++ [x]).map F)) := by
  rw [List.map_append]; exact mk_yes hn hk
theorem sq_no {S p : List Int} {x : Int} (F : Int → Int) (hk : ZA (QP S (YR (p.map F))) (F x) = false) : QP S (YR (p.map F)) = QP S (YR ((p ++ [x]).map F)) := by
  rw [List.map_append]; exact mk_no (by rw [hk]; simp)
theorem ad_new {X : List Int} {ll : List (List Int)} {n m : Nat} {x : Int} (F : Int → Int) (h : X[m]? = some x) (e : ll.getD n [] = X) :
    Zj (QP (Qw (((ll.getD n []).take m).map F)) (fun _ => false)) (F x) false = QP (Qw (((ll.getD n []).take (m + 1)).map F)) (fun _ => false) := by
  rw [e, JV h, List.map_append]; exact bm_add _ _
theorem ad_seq {p : List Int} {x : Int} (F : Int → Int) : Zj (QP (Qw (p.map F)) (fun _ => false)) (F x) false = QP (Qw ((p ++ [x]).map F)) (fun _ => false) := by
  rw [List.map_append]; exact bm_add _ _
theorem zC {S X : List Int} {ll : List (List Int)} {n m : Nat} {x : Int} (F : Int → Int) (h : X[m]? = some x) (e : ll.getD n [] = X) :
    YX (QP (JQ F S ((ll.getD n []).take m)) (fun _ => false)) (F x) = QP (JQ F S ((ll.getD n []).take (m + 1))) (fun _ => false) := by
  rw [e, JV h]; exact GX _ _ _ _
theorem rm_no {S X : List Int} {ll : List (List Int)} {n m : Nat} {x : Int} (F : Int → Int) (h : X[m]? = some x) (e : ll.getD n [] = X) (hk : ZA (QP (JQ F S ((ll.getD n []).take m)) (fun _ => false)) (F x) = false) :
    QP (JQ F S ((ll.getD n []).take m)) (fun _ => false) = QP (JQ F S ((ll.getD n []).take (m + 1))) (fun _ => false) := by
  rw [e] at hk ⊢; rw [JV h]; exact rs_no (by rw [hk]; simp)
theorem Ga {S X : List Int} {ll : List (List Int)} {n m : Nat} {x : Int} (F : Int → Int) (h : X[m]? = some x) (e : ll.getD n [] = X) (hk : ZA (QP (JQ F S ((ll.getD n []).take m)) (fun _ => false)) (F x) = true) :
    ZY F S ((ll.getD n []).take m) ++ [x] = ZY F S ((ll.getD n []).take (m + 1)) := by
  rw [e] at hk ⊢; rw [JV h]; exact jZ hk
theorem jn {S X : List Int} {ll : List (List Int)} {n m : Nat} {x : Int} (F : Int → Int) (h : X[m]? = some x) (e : ll.getD n [] = X) (hk : ZA (QP (JQ F S ((ll.getD n []).take m)) (fun _ => false)) (F x) = false) :
    ZY F S ((ll.getD n []).take m) = ZY F S ((ll.getD n []).take (m + 1)) := by
  rw [e] at hk ⊢; rw [JV h]; exact isc_no (by rw [hk]; simp)
theorem rq_no {S p : List Int} {x : Int} (F : Int → Int) (hk : ZA (QP (JQ F S p) (fun _ => false)) (F x) = false) : QP (JQ F S p) (fun _ => false) = QP (JQ F S (p ++ [x])) (fun _ => false) := rs_no (by rw [hk]; simp)
theorem iq_no {S p : List Int} {x : Int} (F : Int → Int) (hk : ZA (QP (JQ F S p) (fun _ => false)) (F x) = false) : ZY F S p = ZY F S (p ++ [x]) := isc_no (by rw [hk]; simp)
theorem zB {S D : List Int} {f : Int → Bool} {k : Int} {u : Bool} (h : (k, u) ∈ Zh S f D) (hk : k ∉ D) (hu : u = false) : YX (Zh S f D) k = Zh S f (D ++ [k]) := sd_no h hk (by rw [hu]; simp)
theorem Gx {a : List Int} {x : Int} (h : (!decide (x ∈ Qw a)) = true) : Qw a ++ [x] = Qw (a ++ [x]) := keyU_yes (by simpa using h)
theorem WZ {a : List Int} {x : Int} (h : (!decide (x ∈ Qw a)) = false) : Qw a = Qw (a ++ [x]) := keyU_no (by simpa using h)
theorem yD (F : Int → Int) {ll : List (List Int)} {T : Nat} (h : ∀ x ∈ ll, x.length ≤ T) : (Ub F ll).length ≤ T := by
  unfold Ub; exact Nat.le_trans (Wv _ _ _) (YA ll 0 T h)
def Zn (f g : Int → Int → Int) : Int → List Int → List Int
  | _, [] => []
  | s, x :: l => f s x :: Zn f g (g s x) l
def YF (g : Int → Int → Int) (s : Int) (l : List Int) : Int := l.foldl g s
theorem zU (g : Int → Int → Int) (s : Int) (l : List Int) (x : Int) : YF g s (l ++ [x]) = g (YF g s l) x := by simp [YF]
theorem yE (f g : Int → Int → Int) : ∀ (a b : List Int) (s : Int), Zn f g s (a ++ b) = Zn f g s a ++ Zn f g (YF g s a) b
  | [], b, s => rfl
  | x :: a, b, s => by simp only [List.cons_append, Zn, yE f g a b (g s x)]; rfl
theorem Ut (f g : Int → Int → Int) (s : Int) (l : List Int) (x : Int) : Zn f g s (l ++ [x]) = Zn f g s l ++ [f (YF g s l) x] := yE ..
theorem YE (f g : Int → Int → Int) : ∀ (l : List Int) (s : Int), (Zn f g s l).length = l.length
  | [], s => rfl
  | x :: l, s => by simp [Zn, YE f g l]
theorem mapS_pre {f g : Int → Int → Int} {s : Int} {p l : List Int} (h : p <+: l) : Zn f g s p <+: Zn f g s l := by
  obtain ⟨t, rfl⟩ := h; rw [yE]; exact List.prefix_append _ _
theorem mapS_pre1 {f g : Int → Int → Int} {s : Int} {p l : List Int} {x : Int} (h : p ++ [x] <+: l) : Zn f g s p ++ [f (YF g s p) x] <+: Zn f g s l := by rw [← Ut]; exact mapS_pre h
def ZD (a b s x : Int) : Int := if s ≠ 0 ∧ x = a then b else x
def Zi (a s x : Int) : Int := if s ≠ 0 ∧ x = a then w64 (s - 1) else s
theorem repG_no {a s x : Int} (hn : ¬ x = a ∨ s = 0) : Zi a s x = s := by
  unfold Zi; rw [if_neg]; rintro ⟨h2, h3⟩; rcases hn with h4 | h4 <;> contradiction
theorem repF_no {a b s x : Int} (hn : ¬ x = a ∨ s = 0) : ZD a b s x = x := by
  unfold ZD; rw [if_neg]; rintro ⟨h2, h3⟩; rcases hn with h4 | h4 <;> contradiction
theorem WU {f g : Int → Int → Int} {s : Int} {l : List Int} {k : Nat} {x : Int} (hk : k < l.length) (h : (Zn f g s (l.take k) ++ l.drop k)[k]? = some x) : l[k]? = some x := by
  have e : (Zn f g s (l.take k)).length = k := by rw [YE, List.length_take]; omega
  rw [List.getElem?_append_right (by omega), e, Nat.sub_self, List.getElem?_drop] at h; simpa using h
theorem rp_set {f g : Int → Int → Int} {s : Int} {l : List Int} {k : Nat} {x : Int} (h : l[k]? = some x) : (Zn f g s (l.take k) ++ l.drop k).set k (f (YF g s (l.take k)) x) = Zn f g s (l.take (k + 1)) ++ l.drop (k + 1) := by
  have hk := (List.getElem?_eq_some_iff.1 h).1
  have e : (Zn f g s (l.take k)).length = k := by rw [YE, List.length_take]; omega
  rw [JV h, Ut, List.set_append_right _ _ (by omega), e, Nat.sub_self, List.append_assoc]
  congr 1
  rw [List.drop_eq_getElem_cons hk]; rfl
theorem rp_yes {a b s : Int} {l : List Int} {k : Nat} {x : Int} (hk : k < l.length) (h : (Zn (ZD a b) (Zi a) s (l.take k) ++ l.drop k)[k]? = some x) (hx : x = a) (hs : ¬ YF (Zi a) s (l.take k) = 0) : (Zn (ZD a b) (Zi a) s (l.take k) ++ l.drop k).set k b = Zn (ZD a b) (Zi a) s (l.take (k + 1)) ++ l.drop (k + 1) := by
  rw [← rp_set (WU hk h)]; unfold ZD; rw [if_pos ⟨hs, hx⟩]
theorem rp_no {a b s : Int} {l : List Int} {k : Nat} {x : Int} (hk : k < l.length) (h : (Zn (ZD a b) (Zi a) s (l.take k) ++ l.drop k)[k]? = some x) (hn : ¬ x = a ∨ YF (Zi a) s (l.take k) = 0) : Zn (ZD a b) (Zi a) s (l.take k) ++ l.drop k = Zn (ZD a b) (Zi a) s (l.take (k + 1)) ++ l.drop (k + 1) := by
  have h1 := WU hk h
  rw [JV h1, Ut, List.append_assoc]
  congr 1
  rw [List.drop_eq_getElem_cons hk]
  have : l[k] = x := by rw [List.getElem?_eq_getElem hk] at h1; exact Option.some.inj h1
  rw [this]; unfold ZD; rw [if_neg]; rfl
  rintro ⟨h2, h3⟩; rcases hn with h4 | h4 <;> contradiction
theorem zE {a s : Int} {l : List Int} {k : Nat} {x : Int} (h : l[k]? = some x) (hx : x = a) (hs : ¬ YF (Zi a) s (l.take k) = 0) : IntKind.i64.wrap (YF (Zi a) s (l.take k) - 1) = YF (Zi a) s (l.take (k + 1)) := by
  rw [JV h, zU]; unfold Zi; rw [if_pos ⟨hs, hx⟩]; rfl
theorem rg_no {a s : Int} {l : List Int} {k : Nat} {x : Int} (h : l[k]? = some x) (hn : ¬ x = a ∨ YF (Zi a) s (l.take k) = 0) : YF (Zi a) s (l.take k) = YF (Zi a) s (l.take (k + 1)) := by
  rw [JV h, zU, repG_no hn]
theorem rf_yes {a b s : Int} {l : List Int} {k : Nat} {x : Int} (h : l[k]? = some x) (hx : x = a) (hs : ¬ YF (Zi a) s (l.take k) = 0) : Zn (ZD a b) (Zi a) s (l.take k) ++ [b] = Zn (ZD a b) (Zi a) s (l.take (k + 1)) := by
  rw [JV h, Ut]; unfold ZD; rw [if_pos ⟨hs, hx⟩]
theorem rf_no {a b s : Int} {l : List Int} {k : Nat} {x : Int} (h : l[k]? = some x) (hn : ¬ x = a ∨ YF (Zi a) s (l.take k) = 0) : Zn (ZD a b) (Zi a) s (l.take k) ++ [x] = Zn (ZD a b) (Zi a) s (l.take (k + 1)) := by
  rw [JV h, Ut, repF_no hn]
theorem Uo {α : Type} {l : List α} {k : Nat} {x : α} (h : l[k]? = some x) : l.take (k + 1) = l.take k ++ [x] := by rw [List.take_add_one, h]; rfl
def g0 (l : List Int) (i : Nat) : Int := (l[i]?).getD 0
def full (a : List Int) (n : Nat) : List Int := a ++ List.replicate (n - a.length) 0
def zb (f : Int → Int → Int) (m : Nat) (a b : List Int) (k : Nat) : List Int := (List.range m).map fun i => if i < k then f (g0 a i) (g0 b i) else 0
def ZQ (n s : Nat) (l : List Int) (w : Nat) : List (List Int) := (List.range w).map fun i => (l.drop (i * s)).take n
def IsW (n s m w : Nat) : Prop := m < w * s + n ∧ (w = 0 ∨ (w - 1) * s + n ≤ m)
theorem IsW.uniq {n s m w w' : Nat} (h : IsW n s m w) (h' : IsW n s m w') : w = w' := by
  rcases Nat.lt_trichotomy w w' with h1 | h1 | h1
  · have h2 : w * s ≤ (w' - 1) * s := Nat.mul_le_mul_right s (by omega)
    rcases h'.2 with h3 | h3 <;> have := h.1 <;> omega
  · exact h1
  · have h2 : w' * s ≤ (w - 1) * s := Nat.mul_le_mul_right s (by omega)
    rcases h.2 with h3 | h3 <;> have := h'.1 <;> omega
def wN (n s m : Nat) : Nat := if m < n then 0 else (m - n) / s + 1
theorem wN_is {n s m : Nat} (hs : 0 < s) : IsW n s m (wN n s m) := by
  unfold wN IsW
  split
  · simp; omega
  · have h1 := Nat.div_mul_le_self (m - n) s
    have h2 : m - n < (m - n) / s * s + s := by
      have := Nat.div_add_mod (m - n) s
      have h3 := Nat.mod_lt (m - n) hs
      rw [Nat.mul_comm] at this; omega
    rw [Nat.succ_mul, Nat.add_sub_cancel]
    omega
def Vb (n s : Nat) (l : List Int) : List (List Int) := ZQ n s l (wN n s l.length)
structure SlS where
  buf : List Int
  cnt : Nat
  skip : Nat
  out : List (List Int)
def Wr (n s : Nat) (t : SlS) (x : Int) : SlS :=
  if 0 < t.skip then { t with skip := t.skip - 1 }
  else if t.cnt + 1 = n then
    (if s ≤ n then ⟨(t.buf.set t.cnt x).drop s ++ (t.buf.set t.cnt x).drop (n - s), n - s, 0, t.out ++ [t.buf.set t.cnt x]⟩ else ⟨t.buf.set t.cnt x, 0, s - n, t.out ++ [t.buf.set t.cnt x]⟩)
  else ⟨t.buf.set t.cnt x, t.cnt + 1, 0, t.out⟩
def JU (n s : Nat) (p : List Int) : SlS := p.foldl (Wr n s) ⟨List.replicate n 0, 0, 0, []⟩
theorem Uy (n s : Nat) (p : List Int) (x : Int) : JU n s (p ++ [x]) = Wr n s (JU n s p) x := by simp [JU]
def SlInv (n s : Nat) (p : List Int) (t : SlS) (w : Nat) : Prop :=
  t.buf.length = n ∧ t.cnt = p.length - w * s ∧ t.skip = w * s - p.length ∧ t.cnt < n ∧ t.buf.take t.cnt = p.drop (w * s) ∧ t.out = ZQ n s p w ∧ IsW n s p.length w ∧ (s ≤ n → w * s ≤ p.length)
theorem zy {n s w : Nat} {p : List Int} {x : Int} (h : w = 0 ∨ (w - 1) * s + n ≤ p.length) : ZQ n s (p ++ [x]) w = ZQ n s p w := by
  unfold ZQ
  refine List.map_congr_left fun i hi => ?_
  have hi := List.mem_range.1 hi
  have h2 : i * s ≤ (w - 1) * s := Nat.mul_le_mul_right s (by omega)
  have h3 : i * s + n ≤ p.length := by rcases h with h | h <;> omega
  rw [List.drop_append_of_le_length (by omega), List.take_append_of_le_length (by simp; omega)]
theorem list_snoc {P : List Int → Prop} (h0 : P []) (h : ∀ p x, P p → P (p ++ [x])) (l : List Int) : P l := by
  rw [← List.reverse_reverse l]
  induction l.reverse with
  | nil => exact h0
  | cons a q ih => rw [List.reverse_cons]; exact h _ _ ih
theorem vJ {b : List Int} {c : Nat} {x : Int} (h : c < b.length) : (b.set c x).take (c + 1) = b.take c ++ [x] := by
  rw [Uo (List.getElem?_set_self h), List.take_set_of_le (Nat.le_refl _)]
theorem sl_inv {n s : Nat} (hn : 0 < n) (hs : 0 < s) (p : List Int) : ∃ w, SlInv n s p (JU n s p) w := by
  refine list_snoc (P := fun p => ∃ w, SlInv n s p (JU n s p) w) ⟨0, by simp [JU], by simp [JU], by simp [JU], hn, by simp [JU], by simp [JU, ZQ], ⟨by simp; omega, .inl rfl⟩, by simp⟩ ?_ p
  rintro p x ⟨w, hb, hc, hk, hcn, ht, ho, hw, hle⟩
  rw [Uy]
  generalize JU n s p = t at hb hc hk hcn ht ho
  obtain ⟨buf, cnt, skip, out⟩ := t
  simp only at hb hc hk hcn ht ho
  unfold Wr
  simp only
  by_cases h1 : 0 < skip
  · rw [if_pos h1]
    refine ⟨w, hb, ?_, ?_, hcn, ?_, ?_, ⟨?_, ?_⟩, ?_⟩
    · simp only [List.length_append, List.length_cons, List.length_nil]; omega
    · simp only [List.length_append, List.length_cons, List.length_nil]; omega
    · have : cnt = 0 := by omega
      subst this
      rw [List.drop_eq_nil_of_le (by simp; omega)]; rfl
    · rw [ho, zy hw.2]
    · simp only [List.length_append, List.length_cons, List.length_nil]; omega
    · rcases hw.2 with h | h
      · exact .inl h
      · right; simp only [List.length_append, List.length_cons, List.length_nil]; omega
    · intro h; have := hle h; omega
  · rw [if_neg h1]
    have hbl : (buf.set cnt x).length = n := by rw [List.length_set]; exact hb
    have htk : (buf.set cnt x).take (cnt + 1) = (p ++ [x]).drop (w * s) := by
      rw [vJ (by omega), ht, List.drop_append_of_le_length (by omega)]
    have hm1 : (p ++ [x]).length = p.length + 1 := by simp
    by_cases h2 : cnt + 1 = n
    · rw [if_pos h2]
      have hall : (p ++ [x]).drop (w * s) = buf.set cnt x := by rw [← htk, List.take_of_length_le (by omega)]
      have hww : (w + 1) * s = w * s + s := Nat.succ_mul w s
      have hwin : out ++ [buf.set cnt x] = ZQ n s (p ++ [x]) (w + 1) := by
        rw [ho]; unfold ZQ
        rw [List.range_succ, List.map_append]
        have := zy (x := x) hw.2
        unfold ZQ at this
        rw [this]
        simp only [List.map_cons, List.map_nil]
        rw [hall, List.take_of_length_le (by omega)]
      have hW : IsW n s (p ++ [x]).length (w + 1) := ⟨by omega, .inr (by rw [Nat.add_sub_cancel]; omega)⟩
      by_cases h3 : s ≤ n
      · rw [if_pos h3]
        refine ⟨w + 1, ?_, ?_, ?_, ?_, ?_, hwin, hW, fun _ => by omega⟩
        · simp only [List.length_append, List.length_drop, hbl]; omega
        · show n - s = _; omega
        · show 0 = _; omega
        · show n - s < n; omega
        · show ((buf.set cnt x).drop s ++ (buf.set cnt x).drop (n - s)).take (n - s) = _
          rw [List.take_append_of_le_length (by rw [List.length_drop]; omega), List.take_of_length_le (by rw [List.length_drop]; omega), ← hall, List.drop_drop, hww]
      · rw [if_neg h3]
        refine ⟨w + 1, hbl, ?_, ?_, hn, ?_, hwin, hW, fun h => absurd h h3⟩
        · show 0 = _; omega
        · show s - n = _; omega
        · show (buf.set cnt x).take 0 = _
          rw [List.drop_eq_nil_of_le (by omega)]; rfl
    · rw [if_neg h2]
      refine ⟨w, hbl, ?_, ?_, ?_, htk, ?_, ⟨?_, ?_⟩, fun h => by have := hle h; omega⟩
      · show cnt + 1 = _; omega
      · show 0 = _; omega
      · show cnt + 1 < n; omega
      · show out = _; rw [ho, zy hw.2]
      · omega
      · rcases hw.2 with h | h
        · exact .inl h
        · right; omega
theorem sl_out {n s : Nat} (hn : 0 < n) (hs : 0 < s) (l : List Int) : (JU n s l).out = Vb n s l := by
  obtain ⟨w, _, _, _, _, _, ho, hw, _⟩ := sl_inv hn hs l
  rw [ho, hw.uniq (wN_is hs)]; rfl
theorem yq {n s : Nat} (hn : 0 < n) (hs : 0 < s) (p : List Int) : (JU n s p).buf.length = n ∧ (JU n s p).cnt < n ∧ (s ≤ n → (JU n s p).skip = 0) ∧ (JU n s p).skip ≤ s + s := by
  obtain ⟨w, hb, hc, hk, hcn, ht, ho, hw, hle⟩ := sl_inv hn hs p
  refine ⟨hb, hcn, fun h => by have := hle h; omega, ?_⟩
  rcases hw.2 with h | h
  · subst h; simp at hk; omega
  · have : w * s ≤ (w - 1) * s + s := by
      rcases Nat.eq_zero_or_pos w with h0 | h0
      · subst h0; simp
      · rw [← Nat.succ_mul]; exact Nat.mul_le_mul_right s (by omega)
    omega
theorem slS_pre {n s : Nat} {p l : List Int} (h : p <+: l) : (JU n s p).out <+: (JU n s l).out := by
  obtain ⟨t, rfl⟩ := h
  refine list_snoc (P := fun t => (JU n s p).out <+: (JU n s (p ++ t)).out) (by simp) (fun t x ih => ih.trans ?_) t
  rw [← List.append_assoc, Uy]
  unfold Wr
  split
  · exact List.prefix_refl _
  · split
    · split <;> exact List.prefix_append _ _
    · exact List.prefix_refl _
theorem Up {n s : Nat} (hn : 0 < n) (hs : 0 < s) {p l : List Int} {x : Int} (h : p ++ [x] <+: l) (hk : (JU n s p).skip = 0) (hc : (JU n s p).cnt + 1 = n) : (JU n s p).out ++ [(JU n s p).buf.set (JU n s p).cnt x] <+: Vb n s l := by
  rw [← sl_out hn hs]
  refine List.IsPrefix.trans ?_ (slS_pre h)
  rw [Uy]; unfold Wr
  rw [if_neg (by omega), if_pos hc]
  split <;> exact List.prefix_refl _
section
variable {n s : Nat} {p : List Int} {x : Int}
theorem VT (hk : (JU n s p).skip = 0) (hc : ¬ (JU n s p).cnt + 1 = n) : JU n s (p ++ [x]) = ⟨(JU n s p).buf.set (JU n s p).cnt x, (JU n s p).cnt + 1, 0, (JU n s p).out⟩ := by
  rw [Uy]; unfold Wr; rw [if_neg (by omega), if_neg hc]
theorem sl_le (h : s ≤ n) (hk : (JU n s p).skip = 0) (hc : (JU n s p).cnt + 1 = n) : JU n s (p ++ [x]) = ⟨((JU n s p).buf.set (JU n s p).cnt x).drop s ++ ((JU n s p).buf.set (JU n s p).cnt x).drop (n - s), n - s, 0, (JU n s p).out ++ [(JU n s p).buf.set (JU n s p).cnt x]⟩ := by
  rw [Uy]; unfold Wr; rw [if_neg (by omega), if_pos hc, if_pos h]
theorem sl_gt (h : n < s) (hk : (JU n s p).skip = 0) (hc : (JU n s p).cnt + 1 = n) : JU n s (p ++ [x]) = ⟨(JU n s p).buf.set (JU n s p).cnt x, 0, s - n, (JU n s p).out ++ [(JU n s p).buf.set (JU n s p).cnt x]⟩ := by
  rw [Uy]; unfold Wr; rw [if_neg (by omega), if_pos hc, if_neg (by omega)]
theorem jW (hk : 0 < (JU n s p).skip) : JU n s (p ++ [x]) = { JU n s p with skip := (JU n s p).skip - 1 } := by
  rw [Uy]; unfold Wr; rw [if_pos hk]
theorem sl_same {b : List Int} (h : b.length = n) (hs : s = n) : b = b.drop s ++ b.drop (n - s) := by
  subst hs; rw [List.drop_eq_nil_of_le (by omega), Nat.sub_self]; rfl
end
def IsV (n s m k : Nat) : Prop := k = 0 ∨ (k - 1) * s + n ≤ m
theorem IsV_zero (n s m : Nat) : IsV n s m 0 := .inl rfl
theorem IsV_succ {n s m k : Nat} (h : k * s + n ≤ m) : IsV n s m (k + 1) := .inr (by rw [Nat.add_sub_cancel]; exact h)
theorem win_end {n s k : Nat} {l : List Int} (hs : 0 < s) (h : IsV n s l.length k) (h2 : l.length < k * s + n) : Vb n s l = ZQ n s l k := by
  unfold Vb; rw [IsW.uniq (w := k) ⟨h2, h⟩ (wN_is hs)]
theorem YI (n s : Nat) (l : List Int) (k : Nat) : ZQ n s l k ++ [(l.drop (k * s)).take n] = ZQ n s l (k + 1) := by unfold ZQ; rw [List.range_succ, List.map_append]; rfl
theorem ZI (n s : Nat) (l : List Int) (k : Nat) : (ZQ n s l k).length = k := by simp [ZQ]
theorem sub_win {n a : Nat} {l : List Int} : (l.take (a + n)).drop a = (l.drop a).take n := by rw [List.drop_take]; congr 1; omega
theorem copy_win {n a : Nat} {l : List Int} (h : a + n ≤ l.length) : ((l.take (a + n)).drop a).take (List.replicate n (0 : Int)).length ++ (List.replicate n (0 : Int)).drop ((l.take (a + n)).drop a).length = (l.drop a).take n := by
  have e : ((l.take (a + n)).drop a).length = n := by rw [List.length_drop, List.length_take]; omega
  rw [e, List.drop_eq_nil_of_le (show (List.replicate n (0 : Int)).length ≤ n by simp), List.append_nil, List.length_replicate, List.take_of_length_le (by omega), sub_win]
theorem sli_none {n s : Nat} {l : List Int} (h : l.length < n) : Vb n s l = [] := by unfold Vb wN; rw [if_pos h]; rfl
theorem wN_le {n s m : Nat} (hs : 0 < s) (hn : 0 < n) : wN n s m ≤ m := by
  unfold wN; split
  · omega
  · have := Nat.div_le_self (m - n) s; omega
theorem qD {n s : Nat} {l : List Int} (hs : 0 < s) (hn : 0 < n) : (Vb n s l).length ≤ l.length := by unfold Vb; rw [ZI]; exact wN_le hs hn
theorem wnth_len (l D : List Int) : (VG l D).length ≤ l.length := Zs _ _ _
def PF2U (P : Program) (fv : Value) (M : Hp) (f : Int → Int → Int × Int) : Prop := fv.oneCell' = true ∧ ∀ x i : Int, Pu P fv M [.int .i64 x, .int .i64 i] (fun r _ => r = .tuple #[.int .i64 (f x i).1, .int .i64 (f x i).2])
theorem PF2U.le {P : Program} {fv : Value} {M M' : Hp} {f : Int → Int → Int × Int} (h : PF2U P fv M f) (hM : Hp.le M M') : PF2U P fv M' f := ⟨h.1, fun x i => (h.2 x i).le hM⟩
def PF1U (P : Program) (fv : Value) (M : Hp) (f : Int → Int × Int) : Prop := fv.oneCell' = true ∧ ∀ x : Int, Pu P fv M [.int .i64 x] (fun r _ => r = .tuple #[.int .i64 (f x).1, .int .i64 (f x).2])
theorem PF1U.le {P : Program} {fv : Value} {M M' : Hp} {f : Int → Int × Int} (h : PF1U P fv M f) (hM : Hp.le M M') : PF1U P fv M' f := ⟨h.1, fun x => (h.2 x).le hM⟩
def PF2V (P : Program) (fv : Value) (M : Hp) (f : Int → Int → Int × Int × Bool) : Prop := fv.oneCell' = true ∧ ∀ x i : Int, Pu P fv M [.int .i64 x, .int .i64 i] (fun r _ => r = .tuple #[.int .i64 (f x i).1, .int .i64 (f x i).2.1, .bool (f x i).2.2])
theorem PF2V.le {P : Program} {fv : Value} {M M' : Hp} {f : Int → Int → Int × Int × Bool} (h : PF2V P fv M f) (hM : Hp.le M M') : PF2V P fv M' f := ⟨h.1, fun x i => (h.2 x i).le hM⟩
def RMp : Hp → List Value → List (Int × Int) → Prop := fun M cs q => ∃ v, cs = [v] ∧ ye M v (Jd (Value.int .i64) q)
theorem RdMp.at {M : Hp} {v : Value} {l : List (List (Int × Int))} {k : Nat} {e : List (Int × Int)} (h : QX 1 RMp M v l) (he : l[k]? = some e) : ∃ p u, ZX v k 1 p ∧ ZU M p = some u ∧ ye M u (Jd (Value.int .i64) e) := by
  obtain ⟨p, u, h1, h2, ⟨v, h3, h4⟩⟩ := h.at1 he
  cases h3; exact ⟨p, u, h1, h2, h4⟩
theorem RdPP.at {M : Hp} {v : Value} {l : List (List (Int × Int))} {k : Nat} {e : List (Int × Int)} (h : QX 1 (Vf 2 RP2) M v l) (he : l[k]? = some e) : ∃ p u, ZX v k 1 p ∧ ZU M p = some u ∧ QX 2 RP2 M u e := by
  obtain ⟨p, u, h1, h2, ⟨v, h3, h4⟩⟩ := h.at1 he
  cases h3; exact ⟨p, u, h1, h2, h4⟩
def uqF (f : Int → Int) (s : List Int × List Int) (x : Int) : List Int × List Int := if f x ∈ s.1 then s else (s.1 ++ [f x], s.2 ++ [x])
def Zm (f : Int → Int) (l : List Int) : List Int × List Int := l.foldl (uqF f) ([], [])
theorem Gp (f : Int → Int) (l : List Int) (x : Int) : Zm f (l ++ [x]) = uqF f (Zm f l) x := by simp [Zm]
theorem Wm (f : Int → Int) (l : List Int) : (Zm f l).2.length ≤ l.length ∧ (Zm f l).1.length ≤ l.length :=
  YK (uqF f) (fun p s => s.2.length ≤ p.length ∧ s.1.length ≤ p.length) ([], []) ⟨Nat.le_refl _, Nat.le_refl _⟩ (fun p x h => by
    generalize p.foldl (uqF f) ([], []) = s at h ⊢
    unfold uqF; split <;> simp <;> omega) _ l rfl
theorem uq1_in {f : Int → Int} {l : List Int} {k : Nat} {x : Int} (h : l[k]? = some x) (e : f x ∈ (Zm f (l.take k)).1) : Zm f (l.take (k + 1)) = Zm f (l.take k) := by rw [Uo h, Gp]; exact if_pos e
theorem Wn {f : Int → Int} {l : List Int} {k : Nat} {x : Int} (h : l[k]? = some x) (e : f x ∉ (Zm f (l.take k)).1) : Zm f (l.take (k + 1)) = ((Zm f (l.take k)).1 ++ [f x], (Zm f (l.take k)).2 ++ [x]) := by rw [Uo h, Gp]; exact if_neg e
theorem yi {f : Int → Int} {l : List Int} {x : Int} (e : f x ∈ (Zm f l).1) : Zm f (l ++ [x]) = Zm f l := by rw [Gp]; exact if_pos e
theorem qs {f : Int → Int} {l : List Int} {x : Int} (e : f x ∉ (Zm f l).1) : Zm f (l ++ [x]) = ((Zm f l).1 ++ [f x], (Zm f l).2 ++ [x]) := by rw [Gp]; exact if_neg e
theorem zo {s : List Int} {x : Int} (h : x ∉ s) : Ym s x = s ++ [x] := if_neg h
def dupF (f : Int → Int) (q : List (Int × Bool)) (x : Int) : List (Int × Bool) := if Zo false q (f x) = true then q else Zj q (f x) (ZA q (f x))
def QC (f : Int → Int) (l : List Int) : List (Int × Bool) := l.foldl (dupF f) []
theorem dupM_app (f : Int → Int) (l : List Int) (x : Int) : QC f (l ++ [x]) = dupF f (QC f l) x := by simp [QC]
theorem dup_yes {f : Int → Int} {l : List Int} {k : Nat} {x : Int} (h : l[k]? = some x) (e : Zo false (QC f (l.take k)) (f x) = true) : QC f (l.take k) = QC f (l.take (k + 1)) := by rw [Uo h, dupM_app]; exact (if_pos e).symm
theorem dup_no {f : Int → Int} {l : List Int} {k : Nat} {x : Int} (h : l[k]? = some x) (e : ¬ Zo false (QC f (l.take k)) (f x) = true) : Zj (QC f (l.take k)) (f x) (ZA (QC f (l.take k)) (f x)) = QC f (l.take (k + 1)) := by rw [Uo h, dupM_app]; exact (if_neg e).symm
theorem putK_leB {β : Type} (q : List (Int × β)) (k : Int) (v : β) : q.length ≤ (Zj q k v).length ∧ (Zj q k v).length ≤ q.length + 1 := by
  have h := congrArg List.length (putK_keys q k v)
  rw [List.length_map] at h
  rw [h]; split <;> simp
theorem YG (f : Int → Int) (l : List Int) : (QC f l).length ≤ l.length :=
  YK (dupF f) (fun p s => s.length ≤ p.length) [] (Nat.le_refl _) (fun p x h => by
    generalize p.foldl (dupF f) [] = s at h ⊢
    have := putK_leB s (f x) (ZA s (f x))
    unfold dupF; split <;> simp <;> omega) _ l rfl
def Yl (q : List (Int × Bool)) : Nat := (q.filter Prod.snd).length
theorem Vg (q : List (Int × Bool)) : Yl q ≤ q.length := List.length_filter_le _ _
theorem cntT_put {q : List (Int × Bool)} {k : Int} (h : ¬ Zo false q k = true) (v : Bool) : Yl (Zj q k v) = Yl q + (if v then 1 else 0) := by
  induction q with
  | nil => cases v <;> simp [Zj, Yl]
  | cons a q ih =>
    obtain ⟨a1, a2⟩ := a
    simp only [Zj]
    by_cases e : a1 = k
    · rw [if_pos e]
      have : a2 = false := by simp only [Zo, if_pos e] at h; simpa using h
      subst this
      cases v <;> simp [Yl]
    · rw [if_neg e]
      have ih := ih (by simp only [Zo, if_neg e] at h; exact h)
      unfold Yl at ih ⊢
      cases a2 <;> simp only [List.filter_cons, Bool.false_eq_true, if_true, if_false, List.length_cons] <;> omega
def fdF (f : Int → Int) (s : List (Int × Bool) × List Int) (x : Int) : List (Int × Bool) × List Int := if Zo false s.1 (f x) = true then (Zj s.1 (f x) false, s.2 ++ [x]) else s
def VH (f : Int → Int) (Q : List (Int × Bool)) (l : List Int) : List (Int × Bool) × List Int := l.foldl (fdF f) (Q, [])
theorem fdS_app (f : Int → Int) (Q : List (Int × Bool)) (l : List Int) (x : Int) : VH f Q (l ++ [x]) = fdF f (VH f Q l) x := by simp [VH]
theorem Ge {f : Int → Int} {Q : List (Int × Bool)} {l : List Int} {k : Nat} {x : Int} (h : l[k]? = some x) (e : Zo false (VH f Q (l.take k)).1 (f x) = true) : VH f Q (l.take (k + 1)) = (Zj (VH f Q (l.take k)).1 (f x) false, (VH f Q (l.take k)).2 ++ [x]) := by rw [Uo h, fdS_app]; exact if_pos e
theorem fd_no {f : Int → Int} {Q : List (Int × Bool)} {l : List Int} {k : Nat} {x : Int} (h : l[k]? = some x) (e : ¬ Zo false (VH f Q (l.take k)).1 (f x) = true) : VH f Q (l.take (k + 1)) = VH f Q (l.take k) := by rw [Uo h, fdS_app]; exact if_neg e
theorem zg (f : Int → Int) (Q : List (Int × Bool)) (l : List Int) : (VH f Q l).2.length ≤ l.length :=
  YK (fdF f) (fun p s => s.2.length ≤ p.length) (Q, []) (Nat.le_refl _) (fun p x h => by
    generalize p.foldl (fdF f) (Q, []) = s at h ⊢
    unfold fdF; split <;> simp <;> omega) _ l rfl
theorem flt1_yes {f : Int → Bool} {l : List Int} {k : Nat} {x : Int} (h : l[k]? = some x) (e : f x = true) : (l.take k).filter f ++ [x] = (l.take (k + 1)).filter f := by rw [Uo h, List.filter_append, List.filter_cons_of_pos e]; rfl
theorem flt1_no {f : Int → Bool} {l : List Int} {k : Nat} {x : Int} (h : l[k]? = some x) (e : f x = false) : (l.take k).filter f = (l.take (k + 1)).filter f := by rw [Uo h, List.filter_append, List.filter_cons_of_neg (by rw [e]; simp)]; simp
theorem Ug {f : Int → Int} {l : List Int} {k : Nat} {x : Int} (h : l[k]? = some x) (e : (!Zo false (QC f (l.take k)) (f x)) = false) : QC f (l.take k) = QC f (l.take (k + 1)) := dup_yes h (by simpa using e)
theorem VI {f : Int → Int} {l : List Int} {k : Nat} {x : Int} (h : l[k]? = some x) (e : (!Zo false (QC f (l.take k)) (f x)) = true) : Zj (QC f (l.take k)) (f x) (ZA (QC f (l.take k)) (f x)) = QC f (l.take (k + 1)) := dup_no h (by simpa using e)
theorem cnt_y {f : Int → Int} {l : List Int} {k : Nat} {x : Int} (h : l[k]? = some x) (e : (!Zo false (QC f (l.take k)) (f x)) = false) : Yl (QC f (l.take k)) = Yl (QC f (l.take (k + 1))) := by rw [← Ug h e]
theorem cnt_n {f : Int → Int} {l : List Int} {k : Nat} {x : Int} (h : l[k]? = some x) (e : (!Zo false (QC f (l.take k)) (f x)) = true) (s : ZA (QC f (l.take k)) (f x) = false) : Yl (QC f (l.take k)) = Yl (QC f (l.take (k + 1))) := by
  rw [← VI h e, cntT_put (by simpa using e), s]; rfl
theorem cnt_i {f : Int → Int} {l : List Int} {k : Nat} {x : Int} (h : l[k]? = some x) (e : (!Zo false (QC f (l.take k)) (f x)) = true) (s : ZA (QC f (l.take k)) (f x) = true) : Yl (QC f (l.take k)) + 1 = Yl (QC f (l.take (k + 1))) := by
  rw [← VI h e, cntT_put (by simpa using e), s]; rfl
theorem fd_n {f : Int → Int} {Q : List (Int × Bool)} {l : List Int} {k : Nat} {x : Int} (h : l[k]? = some x) (e : Zo false (VH f Q (l.take k)).1 (f x) = false) : VH f Q (l.take (k + 1)) = VH f Q (l.take k) := fd_no h (by simp [e])
theorem uqa_in {f : Int → Int} {l : List Int} {x : Int} (e : f x ∈ (Zm f l).1) : (Zm f l).1 = (Zm f (l ++ [x])).1 := by rw [yi e]
theorem uqb_in {f : Int → Int} {l : List Int} {x : Int} (e : f x ∈ (Zm f l).1) : (Zm f l).2 = (Zm f (l ++ [x])).2 := by rw [yi e]
theorem uqa_out {f : Int → Int} {l : List Int} {x : Int} (e : f x ∉ (Zm f l).1) : Ym (Zm f l).1 (f x) = (Zm f (l ++ [x])).1 := by rw [qs e, zo e]
theorem uqb_out {f : Int → Int} {l : List Int} {x : Int} (e : f x ∉ (Zm f l).1) : (Zm f l).2 ++ [x] = (Zm f (l ++ [x])).2 := by rw [qs e]
theorem uqs_pre (f : Int → Int) : ∀ (t p : List Int), (Zm f p).2 <+: (Zm f (p ++ t)).2
  | [], p => by rw [List.append_nil]; exact List.prefix_refl _
  | x :: t, p => by
    have h := uqs_pre f t (p ++ [x])
    rw [List.append_assoc, List.singleton_append] at h
    refine List.IsPrefix.trans ?_ h
    rw [Gp]; unfold uqF; split
    · exact List.prefix_refl _
    · exact List.prefix_append _ _
theorem uqp {f : Int → Int} {p l : List Int} {x : Int} (h : p ++ [x] <+: l) (e : f x ∉ (Zm f p).1) : (Zm f p).2 ++ [x] <+: (Zm f l).2 := by
  obtain ⟨t, rfl⟩ := h
  rw [uqb_out e]; exact uqs_pre f t _
theorem snocI {C : List Int → Prop} (h0 : C []) (h1 : ∀ p x, C p → C (p ++ [x])) : ∀ l, C l := by
  have : ∀ n (l : List Int), l.length = n → C l := by
    intro n
    induction n with
    | zero => intro l h; rw [List.eq_nil_of_length_eq_zero h]; exact h0
    | succ n ih =>
      intro l h
      have hne : l ≠ [] := by intro e; subst e; simp at h
      obtain ⟨A, x, rfl⟩ : ∃ A x, l = A ++ [x] := ⟨l.dropLast, l.getLast hne, (List.dropLast_concat_getLast hne).symm⟩
      exact h1 A x (ih A (by simpa using h))
  exact fun l => this _ l Y
theorem uqS_id (l : List Int) : Zm (fun x => x) l = (Qw l, Qw l) := by
  refine snocI (C := fun l => Zm (fun x => x) l = (Qw l, Qw l)) Y (fun p x h => ?_) l
  have e : Qw (p ++ [x]) = Ym (Qw p) x := by simp [Qw]
  rw [Gp, h, e]; unfold uqF Ym
  by_cases c : x ∈ Qw p
  · rw [if_pos c, if_pos c]
  · rw [if_neg c, if_neg c]
theorem uq_keys (f : Int → Int) (l : List Int) : (∀ k, k ∈ (Zm f l).1 ↔ k ∈ l.map f) ∧ (Zm f l).1 = (Zm f l).2.map f ∧ (Zm f l).1.Nodup := by
  refine snocI (C := fun l => (∀ k, k ∈ (Zm f l).1 ↔ k ∈ l.map f) ∧ (Zm f l).1 = (Zm f l).2.map f ∧ (Zm f l).1.Nodup) ⟨fun k => by simp [Zm], rfl, by simp [Zm]⟩ (fun p x h => ?_) l
  obtain ⟨h1, h2, h3⟩ := h
  by_cases c : f x ∈ (Zm f p).1
  · rw [yi c]
    refine ⟨fun k => ?_, h2, h3⟩
    rw [h1, List.map_append, List.mem_append]
    constructor
    · exact .inl
    · rintro (h | h)
      · exact h
      · simp at h; rw [h, ← h1]; exact c
  · rw [qs c]
    refine ⟨fun k => ?_, by rw [List.map_append, h2]; rfl, List.nodup_append.2 ⟨h3, by simp, fun a ha b hb => by simp at hb; subst hb; intro e; subst e; exact c ha⟩⟩
    rw [List.map_append, List.mem_append, List.mem_append, h1]; rfl
theorem keyL_app1 (l : List Int) (x : Int) : Qw (l ++ [x]) = Ym (Qw l) x := by simp [Qw]
def PFAB (P : Program) (fv : Value) (M : Hp) (f : Int × Int → Bool) : Prop := fv.oneCell' = true ∧ ∀ x y : Int, ((-9223372036854775808 ≤ x ∧ x ≤ 9223372036854775807) ∧ (-9223372036854775808 ≤ y ∧ y ≤ 9223372036854775807)) → Pu P fv M [.agg #[.int .i64 x, .int .i64 y]] (fun r _ => r = .bool (f (x, y)))
theorem PFAB.le {P : Program} {fv : Value} {M M' : Hp} {f : Int × Int → Bool} (h : PFAB P fv M f) (hM : Hp.le M M') : PFAB P fv M' f := ⟨h.1, fun x y g => (h.2 x y g).le hM⟩
def RA2 : Hp → List Value → List (Int × Int) × List (Int × Int) → Prop := fun M cs x => ∃ u v, cs = [u, v] ∧ QX 2 RP2 M u x.1 ∧ QX 2 RP2 M v x.2
theorem RdA2.at {M : Hp} {v : Value} {l : List (List (Int × Int) × List (Int × Int))} {k : Nat} {e : List (Int × Int) × List (Int × Int)} (h : QX 2 RA2 M v l) (he : l[k]? = some e) : ∃ p u1 u2, ZX v k 2 p ∧ qo M p [u1, u2] ∧ QX 2 RP2 M u1 e.1 ∧ QX 2 RP2 M u2 e.2 := by
  obtain ⟨p, cs, h1, h2, ⟨u1, u2, h3, h5, h6⟩, h4⟩ := QX.at h he
  subst h3; exact ⟨p, u1, u2, h1, h4, h5, h6⟩
theorem Gt : ∀ {A H : List Qr} {h : Hq}, sat (A ++ H) h ↔ ∃ g1 g2, Hp.disj g1 g2 ∧ h = Hp.union g1 g2 ∧ sat A g1 ∧ sat H g2
  | [], H, h => ⟨fun s => ⟨Hp.emp, h, (Hp.disj_emp h).symm, (Hp.emp_union h).symm, rfl, s⟩, fun ⟨g1, g2, d, e, h1, h2⟩ => by
    have : g1 = Hp.emp := h1
    subst this; rw [Hp.emp_union] at e; subst e; exact h2⟩
  | p :: A, H, h => by
    constructor
    · rintro ⟨g1, g2, d, e, hp, hs⟩
      obtain ⟨g3, g4, d', e', h3, h4⟩ := Gt.1 hs
      subst e'; subst e
      have ⟨d1, d2⟩ := Hp.disj_union_right.1 d
      exact ⟨Hp.union g1 g3, g4, Hp.disj_union_left.2 ⟨d2, d'⟩, (Hp.union_assoc ..).symm, ⟨g1, g3, d1, Y, hp, h3⟩, h4⟩
    · rintro ⟨g1, g2, d, e, ⟨g3, g4, d', e', hp, h4⟩, hs⟩
      subst e'; subst e
      have ⟨d1, d2⟩ := Hp.disj_union_left.1 d
      exact ⟨g3, Hp.union g4 g2, Hp.disj_union_right.2 ⟨d', d1⟩, Hp.union_assoc .., hp, Gt.2 ⟨g4, g2, d2, Y, h4, hs⟩⟩
def grp (A : List Qr) : Qr := fun h => sat A h
theorem ungrp {w : World} {M : Hp} {A H : List Qr} (s : St w M (grp A :: H)) : St w M (A ++ H) := s.of_sat fun _ ⟨g1, g2, d, e, h1, h2⟩ => Gt.2 ⟨g1, g2, d, e, h1, h2⟩
theorem regrp {w : World} {M : Hp} {A H : List Qr} (s : St w M (A ++ H)) : St w M (grp A :: H) := s.of_sat fun _ h => let ⟨g1, g2, d, e, h1, h2⟩ := Gt.1 h; ⟨g1, g2, d, e, h1, h2⟩
abbrev MLE := List (Int × Value × List Int)
def Ue (e : TypeId) (u : Value × List Int) : Qr := Jg e u.1 u.2
def RG2 : Hp → List Value → Int × List Int → Prop := fun M cs x => ∃ v, cs = [.int .i64 x.1, v] ∧ Qy M v x.2
theorem RdG2.at {M : Hp} {v : Value} {l : List (Int × List Int)} {k : Nat} {e : Int × List Int} (h : QX 2 RG2 M v l) (he : l[k]? = some e) : ∃ p u, ZX v k 2 p ∧ qo M p [.int .i64 e.1, u] ∧ Qy M u e.2 := by
  obtain ⟨p, cs, h1, h2, ⟨u, h3, h5⟩, h4⟩ := QX.at h he
  subst h3; exact ⟨p, u, h1, h4, h5⟩
theorem St.under2 {w : World} {M : Hp} {p q : Qr} {H H' : List Qr} (s : St w M (p :: q :: H)) (f : ∀ h, sat H h → sat H' h) : St w M (p :: q :: H') := s.of_sat fun _ h => WT (fun _ => WT f) h
def RdML (M : Hp) (v : Value) (q : List (Int × List Int)) : Prop := ∃ t : MLE, t.map (fun x => (x.1, x.2.2)) = q ∧ ye M v (Jd Prod.fst t) ∧ ∀ x ∈ t, Qy M x.2.1 x.2.2
theorem RdML.le {M M' : Hp} {v : Value} {q : List (Int × List Int)} (h : RdML M v q) (hM : Hp.le M M') : RdML M' v q := by
  obtain ⟨t, h1, h2, h3⟩ := h; exact ⟨t, h1, h2.le hM, fun x hx => (h3 x hx).le hM⟩
theorem RdML.one' {M : Hp} {v : Value} {q : List (Int × List Int)} (h : RdML M v q) : v.oneCell' = true := by obtain ⟨_, _, h, _⟩ := h; exact h.one'
theorem qB {P : List Int → Prop} (h0 : P []) (h1 : ∀ l x, P l → P (l ++ [x])) (l : List Int) : P l := by
  have : ∀ n (l : List Int), l.length = n → P l := by
    intro n
    induction n with
    | zero => intro l h; rw [List.eq_nil_of_length_eq_zero h]; exact h0
    | succ n ih =>
      intro l h
      have hne : l ≠ [] := by intro e; subst e; simp at h
      rw [(List.dropLast_concat_getLast hne).symm]
      exact h1 _ _ (ih _ (by simp [h]))
  exact this _ l Y
section
variable {r : Option Nat} {P : Program} {Q : Exit → Act → World → Prop} {a : Act} {w : World}
  {n : Nat} {ds : List Deferred} {l : List (Nat × Value)} {ty t : TypeId} {pos : String} {af : Array Edge} {gd : Option (Nat × Bool)} {x y : Operand}
  {next : Act → World → Prop} {M : Hp} {H : List Qr}
end
def VA (e2 e : TypeId) (v : Value) (q : List (List Int)) : Qr := fun h => ∃ t : List (Value × List Int), t.map Prod.snd = q ∧ grp (Zk e2 1 v t.length (t.map Prod.fst) :: t.map (Ue e)) h
theorem yz {w : World} {M : Hp} {H : List Qr} {e2 e : TypeId} {v : Value} {q : List (List Int)} (s : St w M (VA e2 e v q :: H)) : ∃ t : List (Value × List Int), t.map Prod.snd = q ∧ St w M (Zk e2 1 v t.length (t.map Prod.fst) :: ((t.map (Ue e)) ++ H)) := by
  obtain ⟨t, s⟩ := St.ex (P := fun (t : List (Value × List Int)) h => t.map Prod.snd = q ∧ grp (Zk e2 1 v t.length (t.map Prod.fst) :: t.map (Ue e)) h) s
  obtain ⟨h, s⟩ := St.pure_ s
  exact ⟨t, h, ungrp s⟩
theorem closeLL {w : World} {M : Hp} {H : List Qr} {e2 e : TypeId} {v : Value} {t : List (Value × List Int)} (s : St w M (Zk e2 1 v t.length (t.map Prod.fst) :: ((t.map (Ue e)) ++ H))) : St w M (VA e2 e v (t.map Prod.snd) :: H) :=
  (regrp (A := Zk e2 1 v t.length (t.map Prod.fst) :: t.map (Ue e)) s).imp fun _ h => ⟨t, rfl, h⟩
theorem newLL {w : World} {M : Hp} {H : List Qr} {e2 e : TypeId} {v : Value} (s : St w M (Zk e2 1 v 0 [] :: H)) : St w M (VA e2 e v [] :: H) := closeLL (t := ([] : List (Value × List Int))) s
theorem reLL {w : World} {M : Hp} {H : List Qr} {e2 e : TypeId} {v : Value} {q q' : List (List Int)} (s : St w M (VA e2 e v q :: H)) (h : q = q') : St w M (VA e2 e v q' :: H) := h ▸ s
theorem lookLL {w : World} {M : Hp} {H : List Qr} {e2 e : TypeId} {v : Value} {q : List (List Int)} (k : Nat) (hk : k < q.length) (s : St w M (VA e2 e v q :: H)) :
    ∃ (xs : List Value) (rest : List Qr) (hv : Value) (l : List Int), xs[k]? = some hv ∧ q[k]? = some l ∧
      (∀ (w' : World) (M' : Hp) (H' : List Qr) (hv' : Value) (l' : List Int), St w' M' (Zk e2 1 v q.length (xs.set k hv') :: Jg e hv' l' :: grp rest :: H') → St w' M' (VA e2 e v (q.set k l') :: H')) ∧
      St w M (Zk e2 1 v q.length xs :: Jg e hv l :: grp rest :: H) := by
  obtain ⟨t, hq, s0⟩ := yz s
  subst hq; clear s; have s := s0; clear s0
  rw [List.length_map] at hk
  have ht : t = t.take k ++ t[k] :: t.drop (k + 1) := by rw [← List.drop_eq_getElem_cons hk, List.take_append_drop]
  refine ⟨t.map Prod.fst, (t.take k).map (Ue e) ++ (t.drop (k + 1)).map (Ue e), t[k].1, t[k].2, by simp [hk], by simp [hk], ?_, ?_⟩
  · intro w' M' H' hv' l' s'
    have hs : t.set k (hv', l') = t.take k ++ (hv', l') :: t.drop (k + 1) := by
      rw [List.set_eq_take_append_cons_drop, if_pos hk]
    have s1 : St w' M' (Zk e2 1 v (t.map Prod.snd).length ((t.map Prod.fst).set k hv') :: Ue e (hv', l') :: (((t.take k).map (Ue e) ++ (t.drop (k + 1)).map (Ue e)) ++ H')) :=
      St.under2 s' fun h hh => let ⟨g1, g2, d, e, h1, h2⟩ := hh; Gt.2 ⟨g1, g2, d, e, h1, h2⟩
    have s2 : St w' M' (Zk e2 1 v (t.set k (hv', l')).length ((t.set k (hv', l')).map Prod.fst) :: (((t.set k (hv', l')).map (Ue e)) ++ H')) := by
      rw [List.length_set, List.map_set, ← List.length_map (f := Prod.snd)]
      refine s1.perm (List.Perm.cons _ ?_)
      rw [hs, List.map_append, List.map_cons, List.append_assoc, List.append_assoc]
      exact (List.perm_middle (l₁ := (t.take k).map (Ue e)) (a := Ue e (hv', l')) (l₂ := (t.drop (k + 1)).map (Ue e) ++ H')).symm
    have s3 := closeLL s2
    rw [List.map_set] at s3; exact s3
  · have s2 : St w M (Zk e2 1 v t.length (t.map Prod.fst) :: Ue e t[k] :: (((t.take k).map (Ue e) ++ (t.drop (k + 1)).map (Ue e)) ++ H)) := by
      refine s.perm (List.Perm.cons _ ?_)
      conv => lhs; rw [ht]
      rw [List.map_append, List.map_cons, List.append_assoc, List.append_assoc]
      exact List.perm_middle (l₁ := (t.take k).map (Ue e)) (a := Ue e t[k]) (l₂ := (t.drop (k + 1)).map (Ue e) ++ H)
    rw [List.length_map]
    exact St.under2 s2 fun h hh => let ⟨g1, g2, d, e, h1, h2⟩ := Gt.1 hh; ⟨g1, g2, d, e, h1, h2⟩
theorem freezeEnt {w : World} {e : TypeId} : ∀ {t : List (Value × List Int)} {M : Hp} {H : List Qr}, (∀ x ∈ t, x.2.length ≤ 1000000000000) → St w M ((t.map (Ue e)) ++ H) → ∃ M', Hp.le M M' ∧ (∀ x ∈ t, Qy M' x.1 x.2) ∧ St w M' H
  | [], M, H, _, s => ⟨M, lerf, fun x hx => (by cases hx), s⟩
  | a :: t, M, H, hb, s => by
    have s1 : St w M (Jg e a.1 a.2 :: ((t.map (Ue e)) ++ H)) := s
    obtain ⟨M1, h1, r1, s2⟩ := s1.freezeI (by have := hb a (List.mem_cons_self ..); omega)
    obtain ⟨M2, h2, r2, s3⟩ := freezeEnt (t := t) (fun x hx => hb x (List.mem_cons_of_mem _ hx)) s2
    refine ⟨M2, h1.trans h2, fun x hx => ?_, s3⟩
    rcases List.mem_cons.1 hx with hx | hx
    · subst hx; exact r1.le h2
    · exact r2 x hx
theorem frzLL {w : World} {M : Hp} {H : List Qr} {e2 e : TypeId} {v : Value} {q : List (List Int)} (s : St w M (VA e2 e v q :: H)) (hb : ∀ l ∈ q, l.length ≤ 1000000000000) (hl : q.length ≤ 1000000000000) :
    ∃ M' : Hp, Hp.le M M' ∧ Zf M' v q ∧ St w M' H := by
  obtain ⟨t, hq, s0⟩ := yz s
  subst hq; clear s; have s := s0; clear s0
  obtain ⟨M1, h1, r1, s⟩ := freezeEnt (H := Zk e2 1 v t.length (t.map Prod.fst) :: H) (fun x hx => hb x.2 (List.mem_map_of_mem hx)) (s.perm (List.perm_middle (l₁ := t.map (Ue e)) (a := Zk e2 1 v t.length (t.map Prod.fst)) (l₂ := H)).symm)
  rw [← List.length_map (f := Prod.snd)] at s
  have hr : Zx (Vf 1 QB) 1 M1 (t.map Prod.snd) (t.map Prod.fst) := by
    refine ⟨by simp, fun u hu => ?_, fun i x hx => ?_⟩
    · obtain ⟨x, hx, rfl⟩ := List.mem_map.1 hu
      exact Qy.one (r1 x hx)
    · rw [List.getElem?_map] at hx
      cases ht : t[i]? with
      | none => rw [ht] at hx; cases hx
      | some y =>
        rw [ht] at hx
        have e1 : y.2 = x := by simpa using hx
        rw [Nat.mul_one, List.take_one, List.head?_drop, List.getElem?_map, ht]
        exact ⟨y.1, Y, e1 ▸ r1 y (List.mem_of_getElem? ht)⟩
  obtain ⟨M2, h2, r2, s⟩ := s.freezeR hr (JE Jp) (by omega)
  exact ⟨M2, h1.trans h2, r2, s⟩
section
variable {r : Option Nat} {P : Program} {Q : Exit → Act → World → Prop} {a : Act} {w : World}
  {n : Nat} {ds : List Deferred} {l : List (Nat × Value)} {d : Nat} {ty t el : TypeId} {pos : String} {af : Array Edge} {gd : Option (Nat × Bool)} {x y : Operand}
  {next : Act → World → Prop} {M : Hp} {H : List Qr} {v : Value} {by_ : Nat} {zv : Value}
theorem vE {e' e : TypeId} {q : List (List Int)} {sv hdr : Value} {xs : List Int} (E : Env a n ds l) (S : St w M (Zk e' 1 sv 1 [hdr] :: Jg e hdr xs :: VA el e v q :: H)) (hd : Nat.blt d n = true) (hx : Jq l x = some v) (hy : Jq l y = some sv) (T : qp P t el 1 by_ zv)
    (hb : (q.length + 1) * by_ ≤ 140737488355328) (h63 : q.length + 1 ≤ 2 ^ 44)
    (kk : ∀ a w' v', Env a n ds ((d, v') :: l) → St w' M (VA el e v' (q ++ [xs]) :: H) → next a w') : (⟨some d, .call ⟨.builtin .append, #[x, y], #[t, t]⟩, ty, pos, af, gd⟩ : Oper).wpIn (Fw r) 0 P a w next Q := by
  have s1 : St w M (VA el e v q :: Jg e hdr xs :: Zk e' 1 sv 1 [hdr] :: H) := S.perm (by
    refine List.Perm.trans (List.Perm.swap ..) ?_
    refine List.Perm.trans (List.Perm.cons _ (List.Perm.swap ..)) ?_
    exact List.Perm.swap ..)
  obtain ⟨t0, rfl, s2⟩ := yz s1
  have h1 : hdr.oneCell' = true := by
    have := S.drop.oneC; exact this
  have s3 : St w M (Zk el 1 v t0.length (t0.map Prod.fst) :: ((t0.map (Ue e)) ++ (Jg e hdr xs :: H))) := by
    have := s2.perm (H' := Zk e' 1 sv 1 [hdr] :: Zk el 1 v t0.length (t0.map Prod.fst) :: ((t0.map (Ue e)) ++ (Jg e hdr xs :: H))) (by
      refine List.Perm.trans (List.Perm.cons _ (List.Perm.append_left _ (List.Perm.swap ..))) ?_
      refine List.Perm.trans (List.Perm.cons _ List.perm_middle) ?_
      exact List.Perm.swap ..)
    exact this.drop
  rw [List.length_map] at hb h63
  refine Gh E s3 hd hx hy T (Src.own S) (by simp) (by intro u hu; simp at hu; rw [hu]; exact h1) hb h63 fun a w' v' E S => kk a w' v' E ?_
  have s4 : St w' M (Zk el 1 v' (t0 ++ [(hdr, xs)]).length ((t0 ++ [(hdr, xs)]).map Prod.fst) :: (((t0 ++ [(hdr, xs)]).map (Ue e)) ++ H)) := by
    rw [List.length_append, List.map_append, List.map_append, List.append_assoc]; exact S
  have s5 := closeLL s4
  rw [List.map_append] at s5; exact s5
end
theorem lenLL {w : World} {M : Hp} {H : List Qr} {e2 e : TypeId} {v : Value} {q : List (List Int)} (s : St w M (VA e2 e v q :: H)) : LenV v q.length := by
  obtain ⟨t, hq, s0⟩ := yz s
  subst hq; rw [List.length_map]; exact s0.lenC
theorem oneLL {w : World} {M : Hp} {H : List Qr} {e2 e : TypeId} {v : Value} {q : List (List Int)} (s : St w M (VA e2 e v q :: H)) : v.oneCell' = true := by
  obtain ⟨t, hq, s0⟩ := yz s
  exact s0.oneC
def JS (f : Int → Int) (p : List Int) : List (Int × Int) := (Zm f p).1.zipIdx.map fun z => (z.1, (z.2 : Int))
def JG (f : Int → Int) (p : List Int) : List (List Int) := (Zm f p).1.map fun key => p.filter fun x => decide (f x = key)
theorem Ws (f : Int → Int) (p : List Int) : (JG f p).length ≤ p.length := by unfold JG; rw [List.length_map]; exact (Wm f p).2
theorem qI {f : Int → Int} {p y : List Int} (h : y ∈ JG f p) : y.length ≤ p.length := by
  obtain ⟨key, _, rfl⟩ := List.mem_map.1 h; exact List.length_filter_le ..
theorem zipI_keys : ∀ (K : List Int) (n : Nat), ((K.zipIdx n).map fun z : Int × Nat => (z.1, (z.2 : Int))).map Prod.fst = K
  | [], _ => rfl
  | a :: K, n => by simp only [List.zipIdx_cons, List.map_cons, zipI_keys K (n + 1)]
theorem GW (f : Int → Int) (p : List Int) : (JS f p).map Prod.fst = (Zm f p).1 := zipI_keys _ 0
theorem zipI_get : ∀ (K : List Int) (n : Nat) (key : Int), key ∈ K → ∃ j : Nat, Zo 0 ((K.zipIdx n).map fun z : Int × Nat => (z.1, (z.2 : Int))) key = ((n + j : Nat) : Int) ∧ K[j]? = some key
  | [], _, key, h => by cases h
  | a :: K, n, key, h => by
    simp only [List.zipIdx_cons, List.map_cons, Zo]
    by_cases e : a = key
    · exact ⟨0, by rw [if_pos e]; rfl, by simp [e]⟩
    · rw [if_neg e]
      obtain ⟨j, h1, h2⟩ := zipI_get K (n + 1) key (by rcases List.mem_cons.1 h with h | h; exact absurd h.symm e; exact h)
      exact ⟨j + 1, by rw [h1]; congr 1; omega, by simpa using h2⟩
theorem seen_at {f : Int → Int} {p : List Int} {key : Int} (h : ZA (JS f p) key = true) : ∃ j : Nat, Zo 0 (JS f p) key = (j : Int) ∧ j < (JG f p).length ∧ (Zm f p).1[j]? = some key := by
  unfold ZA at h
  rw [GW] at h
  obtain ⟨j, h1, h2⟩ := zipI_get (Zm f p).1 0 key (of_decide_eq_true h)
  refine ⟨j, by rw [Nat.zero_add] at h1; exact h1, ?_, h2⟩
  unfold JG; rw [List.length_map]; exact (List.getElem?_eq_some_iff.1 h2).1
theorem seen_no {f : Int → Int} {p : List Int} {key : Int} (h : ZA (JS f p) key = false) : key ∉ (Zm f p).1 := by
  unfold ZA at h
  rw [GW] at h
  exact of_decide_eq_false h
theorem putK_app {q : List (Int × Int)} {k v : Int} (h : k ∉ q.map Prod.fst) : Zj q k v = q ++ [(k, v)] := by
  induction q with
  | nil => rfl
  | cons a q ih =>
    simp only [List.map_cons, List.mem_cons, not_or] at h
    simp only [Zj]
    rw [if_neg (fun e => h.1 e.symm), ih h.2, List.cons_append]
theorem VL {f : Int → Int} {p : List Int} {x : Int} (h : ZA (JS f p) (f x) = false) : Zj (JS f p) (f x) ((JG f p).length : Int) = JS f (p ++ [x]) := by
  have hk := seen_no h
  rw [putK_app (by rw [GW]; exact hk)]
  unfold JS JG
  rw [qs hk]
  simp only []
  rw [List.zipIdx_append, List.map_append, List.length_map]
  simp
theorem VK {f : Int → Int} {p : List Int} {x : Int} {j : Nat} (h : (Zm f p).1[j]? = some (f x)) : JS f p = JS f (p ++ [x]) := by
  unfold JS; rw [yi (List.mem_of_getElem? h)]
theorem VN {f : Int → Int} {p : List Int} {x : Int} (h : ZA (JS f p) (f x) = false) : JG f p ++ [[x]] = JG f (p ++ [x]) := by
  have hk := seen_no h
  unfold JG
  rw [qs hk]
  simp only []
  rw [List.map_append, List.map_singleton]
  have hno : p.filter (fun y => decide (f y = f x)) = [] := List.filter_eq_nil_iff.2 fun y hy e => hk (((uq_keys f p).1 _).2 (of_decide_eq_true e ▸ List.mem_map_of_mem hy))
  congr 1
  · exact List.map_congr_left fun key hkey => by
      have hne : ¬ f x = key := fun e => hk (e ▸ hkey)
      rw [List.filter_append, List.filter_cons_of_neg (by simpa using hne)]; simp
  · rw [List.filter_append, hno, List.filter_cons_of_pos (by simp)]; rfl
theorem VM {f : Int → Int} {p l' : List Int} {x : Int} {j : Nat} (hk : (Zm f p).1[j]? = some (f x)) (hl : (JG f p)[j]? = some l') : (JG f p).set j (l' ++ [x]) = JG f (p ++ [x]) := by
  have hK : (Zm f (p ++ [x])).1 = (Zm f p).1 := by rw [yi (List.mem_of_getElem? hk)]
  have hnd := (uq_keys f p).2.2
  refine List.ext_getElem? fun i => ?_
  rw [List.getElem?_set]
  have e1 : (JG f (p ++ [x]))[i]? = (Zm f p).1[i]?.map fun key => (p ++ [x]).filter fun y => decide (f y = key) := by unfold JG; rw [hK, List.getElem?_map]
  have e0 : ∀ i : Nat, (JG f p)[i]? = (Zm f p).1[i]?.map fun key => p.filter fun y => decide (f y = key) := fun i => by unfold JG; rw [List.getElem?_map]
  rw [e1]
  by_cases hij : j = i
  · subst hij
    have hlt : j < (JG f p).length := (List.getElem?_eq_some_iff.1 hl).1
    rw [if_pos rfl, if_pos hlt, hk]
    rw [e0, hk] at hl
    have hl2 : p.filter (fun y => decide (f y = f x)) = l' := by simpa using hl
    simp only [Option.map_some]
    rw [List.filter_append, hl2, List.filter_cons_of_pos (by simp)]; rfl
  · rw [if_neg hij, e0]
    cases hi : (Zm f p).1[i]? with
    | none => rfl
    | some key =>
      have hne : ¬ f x = key := fun e => hij (by
        subst e
        obtain ⟨h1, h2⟩ := List.getElem?_eq_some_iff.1 hk
        obtain ⟨h3, h4⟩ := List.getElem?_eq_some_iff.1 hi
        exact (List.getElem_inj hnd).1 (h2.trans h4.symm))
      simp only [Option.map_some]
      rw [List.filter_append, List.filter_cons_of_neg (by simpa using hne)]; simp
theorem UP {f : Int → Int} {l : List Int} {k : Nat} {x : Int} (h : l[k]? = some x) (e : ZA (JS f (l.take k)) (f x) = false) : Zj (JS f (l.take k)) (f x) ((JG f (l.take k)).length : Int) = JS f (l.take (k + 1)) := by rw [JV h, VL e]
theorem UO {f : Int → Int} {l : List Int} {k j : Nat} {x : Int} (h : l[k]? = some x) (hk : (Zm f (l.take k)).1[j]? = some (f x)) : JS f (l.take k) = JS f (l.take (k + 1)) := by rw [JV h]; exact VK hk
theorem US {f : Int → Int} {l : List Int} {k : Nat} {x : Int} (h : l[k]? = some x) (e : ZA (JS f (l.take k)) (f x) = false) : JG f (l.take k) ++ [[x]] = JG f (l.take (k + 1)) := by rw [JV h]; exact VN e
theorem UR {f : Int → Int} {l l' : List Int} {k j : Nat} {x : Int} (h : l[k]? = some x) (hk : (Zm f (l.take k)).1[j]? = some (f x)) (hl : (JG f (l.take k))[j]? = some l') : (JG f (l.take k)).set j (l' ++ [x]) = JG f (l.take (k + 1)) := by rw [JV h]; exact VM hk hl
section
variable {P : Program}
def CallP (P : Program) (fv : Value) (args : List Value) (w : World) (R : Value → World → Prop) : Prop :=
  ∀ (r : Option Nat) (o : Oper) (c : Call) (f : Operand) (a : Act) (next : Act → World → Prop) (Q : Exit → Act → World → Prop), o.op = .call c → c.callee = .value f → a.eval f = fv →
    c.args.toList.map a.eval = args → (∀ t u w', R (.iface t u) w' → Q (.panic [{ v := .iface t u, recovered := false }]) a w') → o.wpIn (Fw r) 0 P a w next Q
def PEnd (R : Value → World → Prop) : Ending → World → Prop := fun e w' => ∃ t u, e = .panicked [{ v := .iface t u, recovered := false }] ∧ R (.iface t u) w'
theorem CallP.func {g : FuncId} {first cap : Array Value} {args : List Value} {w : World} {R : Value → World → Prop}
    (hc : ∀ args w, (callFunc g args).run P w = .ok (.enter g args) w)
    (h : Calls P g (first.toList ++ args ++ cap.toList).toArray w (PEnd R)) : CallP P (.func (.func g) first cap) args w R := by
  intro r o c f a next Q h1 h2 h3 h4 h5
  refine ⟨fun _ _ => trivial, ?_⟩
  rw [Zz (by rw [h1]; rfl)]
  have e4 : c.args.map a.eval = args.toArray := by rw [← h4, ← Array.toList_map, Array.toArray_toList]
  have : (execOp a.eval o).run P w = .ok (.enter g (first ++ args.toArray ++ cap)) w := by
    simp only [execOp, h1, resolve, h2, h3, e4, Deferred.ofValue]
    simp [invoke, hc]
  rw [this]
  refine ⟨fun h => by simp [Gm] at h, ?_⟩
  rw [Uz, show first ++ args.toArray ++ cap = (first.toList ++ args ++ cap.toList).toArray by simp]
  exact h.mono fun e w' ⟨t, u, he, hR⟩ => by subst he; exact h5 t u w' hR
def PuP (P : Program) (fv : Value) (M : Hp) (args : List Value) : Prop :=
  ∀ w M1 H, Hp.le M M1 → St w M1 H → CallP P fv args w (fun _ w' => ∃ M2, Hp.le M1 M2 ∧ St w' M2 H)
theorem PuP.le {fv : Value} {M M' : Hp} {args : List Value} (h : PuP P fv M args) (hM : Hp.le M M') : PuP P fv M' args := fun w M1 H h1 => h w M1 H (hM.trans h1)
theorem GI {g : FuncId} {fn : Func} {c : Code} {first cap : Array Value} {args : List Value} {M : Hp}
    (hf : P.funcs[g]? = some fn) (hb : fn.body = some c) {m : Nat} (hm : fn.ntmps = m) (hl : Nat.ble (first.toList ++ args ++ cap.toList).length m = true)
    (hc : ∀ args w, (callFunc g args).run P w = .ok (.enter g args) w)
    (h : ∀ a w M1 H, Hp.le M M1 → St w M1 H → Env a m [] (Gc (first.toList ++ args ++ cap.toList) 0) →
      WP none P c (Yu P fn (PEnd fun _ w' => ∃ M2, Hp.le M1 M2 ∧ St w' M2 H)) a w) : PuP P (.func (.func g) first cap) M args :=
  fun w M1 H hM S => CallP.func hc (Vo hf hb hm hl fun a E => h a w M1 H hM S E)
def PF0P (P : Program) (fv : Value) (M : Hp) : Prop := fv.oneCell' = true ∧ PuP P fv M []
theorem PF0P.le {fv : Value} {M M' : Hp} (h : PF0P P fv M) (hM : Hp.le M M') : PF0P P fv M' := ⟨h.1, h.2.le hM⟩
variable {Q : Exit → Act → World → Prop} {a : Act} {w : World} {n : Nat} {ds : List Deferred} {l : List (Nat × Value)} {fn : Func} {R : Ending → World → Prop} {M : Hp} {H : List Qr} {next : Act → World → Prop} {r : Option Nat}
theorem F_panic {ch : List PanicEntry} (E : Env a n [] l) (h : R (.panicked ch) w) : Yu P fn R (.panic ch) a w := by
  show LeavesInM _ _ _ _ _ _ a.defers _ w
  rw [E.dfr]; exact h
theorem F_panic0 {ch : List PanicEntry} {t : Array Value} (h : R (.panicked ch) w) : Yu P fn R (.panic ch) { tmps := t, defers := [] } w := h
theorem X_panic {dst : Option Nat} {x : Operand} {ty : TypeId} {pos : String} {af : Array Edge} {gd : Option (Nat × Bool)} {t : TypeId} {u : Value} (E : Env a n ds l) (hx : Jq l x = some (.iface t u)) (h : Q (.panic [{ v := .iface t u, recovered := false }]) a w) :
    (⟨dst, .panic x, ty, pos, af, gd⟩ : Oper).wpIn (Fw r) 0 P a w next Q := by
  refine ⟨fun _ _ => trivial, ?_⟩
  rw [Zz rfl]
  have : (execOp a.eval ⟨dst, .panic x, ty, pos, af, gd⟩).run P w = .halt (.panic (.iface t u)) w := by simp [execOp, E.eval hx, Instr.panic, Result.andThen]
  rw [this]; exact h
theorem X_puP {dst : Option Nat} {ty : TypeId} {ats : Array TypeId} {pos : String} {af : Array Edge} {gd : Option (Nat × Bool)} {f : Operand} {aa : Array Operand} {fv : Value} {args : List Value} {M0 : Hp}
    (E : Env a n ds l) (S : St w M H) (hf : Jq l f = some fv) (ha : Wt l aa.toList = some args) (C : PuP P fv M0 args) (hM : Hp.le M0 M)
    (k : ∀ t u w' M', Hp.le M M' → St w' M' H → Q (.panic [{ v := .iface t u, recovered := false }]) a w') : (⟨dst, .call ⟨.value f, aa, ats⟩, ty, pos, af, gd⟩ : Oper).wpIn (Fw r) 0 P a w next Q :=
  C w M H hM S r _ _ f a _ Q rfl rfl (E.eval hf) (E.evals ha) fun t u w' ⟨M', h1, h2⟩ => k t u w' M' h1 h2
def PanQ (Q : Exit → Act → World → Prop) : Exit → Act → World → Prop
  | .panic c, a, w => a.defers = [] ∧ ∀ t, Q (.panic c) { tmps := t, defers := [] } w
  | e, a, w => Q e a w
theorem PanQ_p {c : List PanicEntry} (E : Env a n [] l) (h : ∀ t, Q (.panic c) { tmps := t, defers := [] } w) : PanQ Q (.panic c) a w := ⟨E.dfr, h⟩
theorem WP_drawnP {C : Nat → World → Prop} {bf : Nat → List Nat} {id : Nat} {L : List Oper} (q R : List Nat) (hm : P.follows .mixedOrders = true) (hB : drawB L.toArray q R bf = true) (hC : ∀ x, q.contains x = true → C x w.drew)
    (h : WO r P L.toArray (PanQ Q) C bf q R a w.drew) : WP r P (.region id L.toArray true) Q a w :=
  wpIn_mono (WP_draw q R hm hB (fun _ d _ _ _ h => by cases d <;> exact h) hC h) fun e a w h => by
    cases e <;> first | exact h | (obtain ⟨h1, h2⟩ := h; have h3 := h2 a.tmps; rw [← h1] at h3; exact h3)
theorem R_ifaceS {d : Nat} {x : Operand} {t : TypeId} {ty : TypeId} {pos : String} {af : Array Edge} {gd : Option (Nat × Bool)} {v : Value} (E : Env a n ds l) (hx : Jq l x = some v) (hu : P.underlying t = some .string) :
    (execOp a.eval ⟨some d, .makeInterface t x, ty, pos, af, gd⟩).run P w = .ok (.value (.iface t v)) w := by
  simp [execOp, E.eval hx, Instr.makeInterface, run_underlying hu]
theorem F_panicDC2 {g : FuncId} {t t' : Tmp} {ty ty' e e' : TypeId} {b b' : Nat} {v v' u1 u2 u : Value} {T : TypeId} (E : Env a n [⟨.fn (.func g) #[.pointer (some ⟨b, 0, none⟩), .pointer (some ⟨b', 0, none⟩)], #[]⟩] l) (S : St w M (Jk b (.cells #[v] e) :: Jk b' (.cells #[v'] e') :: H)) (h : fn.results = #[.cell t ty, .cell t' ty'])
    (hp : Sl.look l t = some (.pointer (some ⟨b, 0, none⟩))) (hp' : Sl.look l t' = some (.pointer (some ⟨b', 0, none⟩))) (hg : ∀ w, (isAgg ty).run P w = .ok false w) (hg' : ∀ w, (isAgg ty').run P w = .ok false w)
    (hc : ∀ args w, (callFunc g args).run P w = .ok (.enter g args) w)
    (hD : ∀ w, w.heap[b]? = some (.cells #[v] e) → (w.setCell ⟨b, 0, none⟩ u1).heap[b']? = some (.cells #[v'] e') → CallsDIn (Fw none) 0 P g #[.pointer (some ⟨b, 0, none⟩), .pointer (some ⟨b', 0, none⟩)] (.panicking [{ v := .iface T u, recovered := false }]) w
      (fun e u' w' => e = .returned (.tuple #[]) ∧ u' = .panicking [{ v := .iface T u, recovered := true }] ∧ w' = (w.setCell ⟨b, 0, none⟩ u1).setCell ⟨b', 0, none⟩ u2))
    (hR : ∀ w', St w' M (Jk b (.cells #[u1] e) :: Jk b' (.cells #[u2] e') :: H) → R (.returned (.tuple #[u1, u2])) w') : Yu P fn R (.panic [{ v := .iface T u, recovered := false }]) a w := by
  show LeavesInM _ _ _ _ _ _ a.defers _ w
  rw [E.dfr]
  have hgb := S.get
  have S1 : St (w.setCell ⟨b, 0, none⟩ u1) M (Jk b (.cells #[u1] e) :: Jk b' (.cells #[v'] e') :: H) := by
    refine S.set ?_ fun c hc x hx => ?_
    · simp only [World.setCell]; rw [Array.getElem?_modify, if_pos rfl, hgb]; rfl
    · simp only [World.setCell]; rw [Array.getElem?_modify, if_neg (Ne.symm hc)]; exact hx
  have hgb' := S1.swap.get
  have S2 : St ((w.setCell ⟨b, 0, none⟩ u1).setCell ⟨b', 0, none⟩ u2) M (Jk b (.cells #[u1] e) :: Jk b' (.cells #[u2] e') :: H) := by
    refine St.swap (S1.swap.set ?_ fun c hc x hx => ?_)
    · simp only [World.setCell]; rw [Array.getElem?_modify, if_pos rfl, show (w.heap.modify b _)[b']? = _ from hgb']; rfl
    · simp only [World.setCell]; rw [Array.getElem?_modify, if_neg (Ne.symm hc)]; exact hx
  refine ⟨by simp, .inr ⟨by simp [Fw, Fence.wide], .func g, _, g, _, Y, by simp [invoke, hc], fun _ _ => trivial, (hD w hgb hgb').mono ?_⟩⟩
  rintro _ _ _ ⟨rfl, rfl, rfl⟩
  show LeavesInM _ _ _ _ _ _ [] (settle _) _
  refine ⟨.tuple #[u1, u2], ?_, hR _ S2⟩
  have h1 := E.eval (o := .tmp t) hp
  have h2 := E.eval (o := .tmp t') hp'
  simp only [Act.eval, Array.getD_eq_getD_getElem?] at h1 h2
  simp [results, h, h1, h2, asAddr, UD hg S2.get, UD hg' S2.swap.get]
end
def NilV (v : Value) (l : List Int) : Prop := (l = [] → v = .slice none 0 0) ∧ (l ≠ [] → ∃ a m c, v = .slice (some a) m c)
theorem nilV {w : World} {M : Hp} {H : List Qr} {e : TypeId} {v : Value} {l : List Int} (S : St w M (Jg e v l :: H)) (h : l = [] → v = .slice none 0 0) : NilV v l := by
  refine ⟨h, fun hne => ?_⟩
  obtain ⟨_, hc⟩ := S.ownCases
  rcases hc with ⟨rfl, hm, _⟩ | ⟨g, cap, cur, rfl, _⟩
  · exact absurd (List.eq_nil_of_length_eq_zero hm) hne
  · exact ⟨_, _, _, Y⟩
section
variable {P : Program} {a : Act} {w : World} {n : Nat} {ds : List Deferred} {l : List (Nat × Value)} {d : Nat} {ty t t' el : TypeId} {pos : String} {af : Array Edge} {gd : Option (Nat × Bool)} {x y : Operand} {v : Value} {l' : List Int}
theorem eq_nilS (hu : P.underlying t = some (.slice el)) (h : NilV v l') (w : World) : (Op.equal t v (.slice none 0 0)).run P w = .ok (decide (l' = [])) w := by
  have e : ∀ m u, (Op.equalIn (m + 1) t (.slice u 0 0) (.slice none 0 0)).run P w = (Op.equalIn (m + 1) t (.slice u 0 0) (.slice none 0 0)).run P w := fun _ _ => rfl
  by_cases c : l' = []
  · rw [h.1 c, decide_eq_true c]
    have h' : ∀ m, (Op.equalIn (m + 1) t (.slice none 0 0) (.slice none 0 0)).run P w = .ok true w := fun m => by simp [Op.equalIn, underlying, hu]
    exact h' 9999
  · obtain ⟨b, m, c', e⟩ := h.2 c
    rw [e, decide_eq_false c]
    have h' : ∀ k, (Op.equalIn (k + 1) t (.slice (some b) m c') (.slice none 0 0)).run P w = .ok false w := fun k => by simp [Op.equalIn, underlying, hu]
    exact h' 9999
theorem R_eqlN (E : Env a n ds l) (hx : Jq l x = some v) (hy : Jq l y = some (.slice none 0 0)) (hu : P.underlying t = some (.slice el)) (h : NilV v l') :
    (execOp a.eval ⟨some d, .binOp .eql t x y t', ty, pos, af, gd⟩).run P w = .ok (.value (.bool (decide (l' = [])))) w := by
  have h1 := eq_nilS hu h w
  simp only [execOp, E.eval hx, E.eval hy]
  by_cases c : l' = []
  · rw [h.1 c] at h1 ⊢; simp [eqGuard, binOp, h1]
  · obtain ⟨b, m, c', e⟩ := h.2 c
    rw [e] at h1 ⊢; simp [eqGuard, binOp, h1]
theorem R_neqN (E : Env a n ds l) (hx : Jq l x = some v) (hy : Jq l y = some (.slice none 0 0)) (hu : P.underlying t = some (.slice el)) (h : NilV v l') :
    (execOp a.eval ⟨some d, .binOp .neq t x y t', ty, pos, af, gd⟩).run P w = .ok (.value (.bool (!decide (l' = [])))) w := by
  have h1 := eq_nilS hu h w
  simp only [execOp, E.eval hx, E.eval hy]
  by_cases c : l' = []
  · rw [h.1 c] at h1 ⊢; simp [eqGuard, binOp, h1]
  · obtain ⟨b, m, c', e⟩ := h.2 c
    rw [e] at h1 ⊢; simp [eqGuard, binOp, h1]
end
def chF (n : Nat) (s : List (List Int) × List Int) (x : Int) : List (List Int) × List Int := if (s.2 ++ [x]).length = n then (s.1 ++ [s.2 ++ [x]], []) else (s.1, s.2 ++ [x])
def ZT (n : Nat) (p : List Int) : List (List Int) × List Int := p.foldl (chF n) ([], [])
theorem chS_app (n : Nat) (p : List Int) (x : Int) : ZT n (p ++ [x]) = chF n (ZT n p) x := by simp [ZT]
theorem Vz {n : Nat} {p : List Int} {x : Int} (h : ((ZT n p).2 ++ [x]).length = n) : ZT n (p ++ [x]) = ((ZT n p).1 ++ [(ZT n p).2 ++ [x]], []) := by rw [chS_app]; exact if_pos h
theorem YY {n : Nat} {p : List Int} {x : Int} (h : ¬ ((ZT n p).2 ++ [x]).length = n) : ZT n (p ++ [x]) = ((ZT n p).1, (ZT n p).2 ++ [x]) := by rw [chS_app]; exact if_neg h
def chL (n : Nat) (l : List Int) : List (List Int) := (ZT n l).1 ++ (if (ZT n l).2 = [] then [] else [(ZT n l).2])
theorem Uh {n : Nat} {l : List Int} (h : (ZT n l).2 ≠ []) : chL n l = (ZT n l).1 ++ [(ZT n l).2] := by unfold chL; rw [if_neg h]
theorem zl {n : Nat} {l : List Int} (h : (ZT n l).2 = []) : chL n l = (ZT n l).1 := by unfold chL; rw [if_pos h, List.append_nil]
theorem ch_lt {n : Nat} (hn : 0 < n) (p : List Int) : (ZT n p).2.length < n := by
  induction p using qB with
  | h0 => exact hn
  | h1 p x ih =>
    by_cases c : ((ZT n p).2 ++ [x]).length = n
    · rw [Vz c]; exact hn
    · rw [YY c]; simp at c ⊢; omega
theorem ch_flat (n : Nat) (p : List Int) : (ZT n p).1.flatten ++ (ZT n p).2 = p := by
  induction p using qB with
  | h0 => rfl
  | h1 p x ih =>
    by_cases c : ((ZT n p).2 ++ [x]).length = n
    · rw [Vz c]; simp only [List.flatten_append, List.flatten_cons, List.flatten_nil, List.append_nil]; rw [← List.append_assoc, ih]
    · rw [YY c]; simp only []; rw [← List.append_assoc, ih]
theorem ch_all (n : Nat) (p : List Int) : ∀ c ∈ (ZT n p).1, c.length = n := by
  induction p using qB with
  | h0 => intro c h; cases h
  | h1 p x ih =>
    by_cases c : ((ZT n p).2 ++ [x]).length = n
    · rw [Vz c]; intro d hd
      rcases List.mem_append.1 hd with h | h
      · exact ih d h
      · simp at h; rw [h]; exact c
    · rw [YY c]; exact ih
theorem ch_lens {n : Nat} (hn : 0 < n) (p : List Int) : (ZT n p).1.length ≤ p.length ∧ (ZT n p).2.length ≤ p.length := by
  induction p using qB with
  | h0 => exact ⟨Nat.le_refl _, Nat.le_refl _⟩
  | h1 p x ih =>
    by_cases c : ((ZT n p).2 ++ [x]).length = n
    · rw [Vz c]; simp; omega
    · rw [YY c]; simp; omega
theorem ch_pre1 (n : Nat) (p : List Int) (x : Int) : (ZT n p).1 <+: (ZT n (p ++ [x])).1 := by
  by_cases c : ((ZT n p).2 ++ [x]).length = n
  · rw [Vz c]; exact List.prefix_append _ _
  · rw [YY c]; exact List.prefix_refl _
theorem ch_pre2 (n : Nat) : ∀ (t p : List Int), (ZT n p).1 <+: (ZT n (p ++ t)).1
  | [], p => by rw [List.append_nil]; exact List.prefix_refl _
  | x :: t, p => by
    have := ch_pre2 n t (p ++ [x])
    rw [List.append_assoc, List.singleton_append] at this
    exact List.IsPrefix.trans (ch_pre1 n p x) this
theorem ch_pre {n : Nat} {p l : List Int} (h : p <+: l) : (ZT n p).1 <+: chL n l := by
  obtain ⟨t, rfl⟩ := h
  exact List.IsPrefix.trans (ch_pre2 n t p) (List.prefix_append _ _)
theorem zk {n : Nat} {p l : List Int} {x : Int} (h : p ++ [x] <+: l) (c : ((ZT n p).2 ++ [x]).length = n) : (ZT n p).1 ++ [(ZT n p).2 ++ [x]] <+: chL n l := by
  have := ch_pre (n := n) h
  rw [Vz c] at this; exact this
theorem chL_flat (n : Nat) (l : List Int) : (chL n l).flatten = l := by
  by_cases c : (ZT n l).2 = []
  · rw [zl c]; have := ch_flat n l; rw [c, List.append_nil] at this; exact this
  · rw [Uh c, List.flatten_append]; simp only [List.flatten_cons, List.flatten_nil, List.append_nil]; exact ch_flat n l
theorem chL_len {n : Nat} (hn : 0 < n) (l : List Int) : (chL n l).length ≤ l.length := by
  by_cases c : (ZT n l).2 = []
  · rw [zl c]; exact (ch_lens hn l).1
  · have h1 := congrArg List.length (ch_flat n l)
    rw [Uh c]
    have h2 : (ZT n l).1.length ≤ (ZT n l).1.flatten.length := by
      have ha := ch_all n l
      generalize (ZT n l).1 = A at ha
      induction A with
      | nil => exact Nat.le_refl _
      | cons a A ih =>
        have h3 := ha a (List.mem_cons_self ..)
        have h4 := ih fun c hc => ha c (List.mem_cons_of_mem _ hc)
        rw [List.flatten_cons, List.length_append, List.length_cons]; omega
    have h3 : 0 < (ZT n l).2.length := List.length_pos_iff.2 c
    rw [List.length_append] at h1
    rw [List.length_append, List.length_singleton]; omega
theorem vx {n : Nat} : ∀ (c p : List Int), (ZT n p).2 ++ c = (ZT n p).2 ++ c → (ZT n p).2.length + c.length < n → ZT n (p ++ c) = ((ZT n p).1, (ZT n p).2 ++ c)
  | [], p, _, _ => by rw [List.append_nil, List.append_nil]
  | x :: c, p, _, h => by
    have h1 : ¬ ((ZT n p).2 ++ [x]).length = n := by simp at h ⊢; omega
    have h2 := vx c (p ++ [x]) rfl (by rw [YY h1]; simp at h ⊢; omega)
    rw [List.append_assoc, List.singleton_append] at h2
    rw [h2, YY h1]; simp
theorem ch_next {n : Nat} (hn : 0 < n) {p c : List Int} (h : (ZT n p).2 = []) (hc : c.length = n) : ZT n (p ++ c) = ((ZT n p).1 ++ [c], []) := by
  have hne : c ≠ [] := by intro e; subst e; simp at hc; omega
  have e : c = c.dropLast ++ [c.getLast hne] := (List.dropLast_concat_getLast hne).symm
  have hl : c.dropLast.length = n - 1 := by rw [List.length_dropLast, hc]
  have h1 := vx (n := n) c.dropLast p rfl (by rw [h]; simp; omega)
  have h2 : ZT n (p ++ c) = ZT n ((p ++ c.dropLast) ++ [c.getLast hne]) := by rw [List.append_assoc, ← e]
  rw [h2, Vz (by rw [h1, h]; simp; omega), h1, h]
  simp only [List.nil_append]
  rw [← e]
theorem ch_win {n : Nat} (hn : 0 < n) (l : List Int) : ∀ k, k * n ≤ l.length → ZT n (l.take (k * n)) = (ZQ n n l k, [])
  | 0, _ => by simp [ZT, ZQ]
  | k + 1, h => by
    rw [Nat.succ_mul] at h ⊢
    have ih := ch_win hn l k (by omega)
    have e : l.take (k * n + n) = l.take (k * n) ++ (l.drop (k * n)).take n := by rw [List.take_add]
    rw [e, ch_next hn (by rw [ih]) (by rw [List.length_take, List.length_drop]; omega), ih]
    simp only []
    rw [YI]
theorem ch_end {n k : Nat} (hn : 0 < n) {l : List Int} (h1 : k * n ≤ l.length) (h2 : l.length < k * n + n) : ZT n l = (ZQ n n l k, l.drop (k * n)) := by
  have hw := ch_win hn l k h1
  have h3 := vx (n := n) (l.drop (k * n)) (l.take (k * n)) rfl (by rw [hw]; simp; omega)
  rw [List.take_append_drop, hw] at h3
  simpa using h3
theorem win_chL {n k : Nat} (hn : 0 < n) {l : List Int} (h : l.length ≤ k * n) (h2 : k = 0 ∨ (k - 1) * n < l.length) : ZQ n n l k = chL n l := by
  rcases h2 with rfl | h2
  · have : l = [] := List.eq_nil_of_length_eq_zero (by omega)
    subst this; rfl
  · obtain ⟨m, rfl⟩ : ∃ m, k = m + 1 := ⟨k - 1, by cases k with
      | zero => simp only [Nat.zero_sub, Nat.zero_mul] at h h2; omega
      | succ m => omega⟩
    simp only [Nat.add_sub_cancel] at h2
    rw [Nat.succ_mul] at h
    by_cases hf : l.length = m * n + n
    · have hw := ch_win hn l (m + 1) (by rw [Nat.succ_mul]; omega)
      rw [List.take_of_length_le (by rw [Nat.succ_mul]; omega)] at hw
      rw [zl (by rw [hw]), hw]
    · have hw := ch_end hn (by omega) (show l.length < m * n + n by omega)
      rw [Uh (by rw [hw]; intro e; have := congrArg List.length e; simp at this; omega), hw]
      simp only []
      rw [← YI, List.take_of_length_le (by simp; omega)]
theorem ceil_ok {n m : Nat} (hn : 0 < n) (h : m % n ≠ 0) : m ≤ (m / n + 1) * n ∧ m / n * n < m := by
  have h1 := Nat.div_add_mod m n
  have h2 := Nat.mod_lt m hn
  rw [Nat.mul_comm] at h1
  rw [Nat.succ_mul]; omega
theorem ceil_ok0 {n m : Nat} (hn : 0 < n) (h : m % n = 0) : m ≤ m / n * n ∧ (m / n = 0 ∨ (m / n - 1) * n < m) := by
  have h1 := Nat.div_add_mod m n
  rw [Nat.mul_comm] at h1
  refine ⟨by omega, ?_⟩
  rcases Nat.eq_zero_or_pos (m / n) with e | e
  · exact .inl e
  · refine .inr ?_
    obtain ⟨k, hk⟩ : ∃ k, m / n = k + 1 := ⟨m / n - 1, by omega⟩
    rw [hk] at h1 ⊢
    rw [Nat.succ_mul] at h1
    simp only [Nat.add_sub_cancel]; omega
def zX (n : Nat) (l : List Int) : List (List Int) := if 0 < n then chL n l else []
theorem qn {n : Nat} (h : 0 < n) (l : List Int) : zX n l = chL n l := if_pos h
theorem zj {n : Nat} {s : List Int} (h : s.length = n) : s.take (List.replicate n (0 : Int)).length ++ (List.replicate n (0 : Int)).drop s.length = s := by
  rw [List.length_replicate, List.take_of_length_le (by omega), List.drop_eq_nil_of_le (by simp; omega), List.append_nil]
theorem ck_cut {n k : Nat} {l : List Int} (h : (k + 1) * n ≤ l.length) : (l.take ((k + 1) * n)).drop (k * n) = (l.drop (k * n)).take n := by rw [Nat.succ_mul]; exact sub_win
theorem ck_cutL {n k : Nat} {l : List Int} (h : l.length < (k + 1) * n) : (l.take l.length).drop (k * n) = (l.drop (k * n)).take n := by
  rw [List.take_length, List.take_of_length_le]; rw [List.length_drop]; rw [Nat.succ_mul] at h; omega
def bs (l : List UInt8) : ByteArray := ⟨l.toArray⟩
def RTx : Hp → List Value → List UInt8 → Prop := fun _ cs x => cs = [.string (bs x)]
theorem RdTx.at {M : Hp} {v : Value} {l : List (List UInt8)} {k : Nat} {e : List UInt8} (h : QX 1 RTx M v l) (he : l[k]? = some e) : ∃ p, ZX v k 1 p ∧ ZU M p = some (.string (bs e)) := by
  obtain ⟨p, cs, h1, h2, h3, h4⟩ := QX.at h he
  have h5 : cs = [.string (bs e)] := h3
  subst h5
  exact ⟨p, h1, h4 0 _ Y⟩
section
variable {r : Option Nat} {P : Program} {Q : Exit → Act → World → Prop} {a : Act} {w : World}
  {n : Nat} {ds : List Deferred} {l : List (Nat × Value)} {d : Nat} {ty t : TypeId} {pos : String} {af : Array Edge} {gd : Option (Nat × Bool)} {x : Operand}
  {next : Act → World → Prop} {M : Hp} {H : List Qr} {s : List UInt8}
end
def RdSU (T : TypeId) (M : Hp) (v : Value) (c : List Int) : Prop := ∃ b m q, v = .pointer (some ⟨b, 0, none⟩) ∧ M b = some (.cells #[m] T) ∧ ye M m (Sl.encS q) ∧ q.Nodup ∧ ∀ x, x ∈ q ↔ x ∈ c
theorem RdSU.le {T : TypeId} {M M' : Hp} {v : Value} {c : List Int} (h : RdSU T M v c) (hM : Hp.le M M') : RdSU T M' v c := by
  obtain ⟨b, m, q, e, hb, hm, hn, hq⟩ := h
  exact ⟨b, m, q, e, hM.2 _ _ hb, hm.le hM, hn, hq⟩
theorem RdSU.eq {T : TypeId} {M : Hp} {v : Value} {c c' : List Int} (h : RdSU T M v c) (e : ∀ x, x ∈ c ↔ x ∈ c') : RdSU T M v c' := by
  obtain ⟨b, m, q, e1, hb, hm, hn, hq⟩ := h
  exact ⟨b, m, q, e1, hb, hm, hn, fun x => (hq x).trans (e x)⟩
abbrev TSt := Int × Int × Int × Int × Int × List Int × Int × Int × List Int
def i64 (x : Int) : Prop := -9223372036854775808 ≤ x ∧ x ≤ 9223372036854775807
def RTS : Hp → List Value → TSt → Prop := fun M cs x => ∃ w v, cs = [.int .i64 x.1, .int .i64 x.2.1, .int .i64 x.2.2.1, .int .i64 x.2.2.2.1, .int .i64 x.2.2.2.2.1, w, .int .i64 x.2.2.2.2.2.2.1, .int .i64 x.2.2.2.2.2.2.2.1, v] ∧ Qy M w x.2.2.2.2.2.1 ∧ Qy M v x.2.2.2.2.2.2.2.2 ∧ i64 x.1 ∧ i64 x.2.1 ∧ i64 x.2.2.1 ∧ i64 x.2.2.2.2.1 ∧ i64 x.2.2.2.2.2.2.2.1 ∧ ∀ y ∈ x.2.2.2.2.2.2.2.2, -9223372036854775808 ≤ y ∧ y ≤ 9223372036854775807
theorem Zq : zr RTS := fun _ _ _ _ hM ⟨w, v, e, h1, h2, h⟩ => ⟨w, v, e, h1.le hM, h2.le hM, h⟩
theorem RdTS.at {M : Hp} {v : Value} {l : List TSt} {k : Nat} {e : TSt} (h : QX 9 RTS M v l) (he : l[k]? = some e) : ∃ p w u, ZX v k 9 p ∧ qo M p [.int .i64 e.1, .int .i64 e.2.1, .int .i64 e.2.2.1, .int .i64 e.2.2.2.1, .int .i64 e.2.2.2.2.1, w, .int .i64 e.2.2.2.2.2.2.1, .int .i64 e.2.2.2.2.2.2.2.1, u] ∧ Qy M w e.2.2.2.2.2.1 ∧ Qy M u e.2.2.2.2.2.2.2.2 ∧
    (-9223372036854775808 ≤ e.1 ∧ e.1 ≤ 9223372036854775807) ∧ (-9223372036854775808 ≤ e.2.1 ∧ e.2.1 ≤ 9223372036854775807) ∧ (-9223372036854775808 ≤ e.2.2.1 ∧ e.2.2.1 ≤ 9223372036854775807) ∧ (-9223372036854775808 ≤ e.2.2.2.2.1 ∧ e.2.2.2.2.1 ≤ 9223372036854775807) ∧ (-9223372036854775808 ≤ e.2.2.2.2.2.2.2.1 ∧ e.2.2.2.2.2.2.2.1 ≤ 9223372036854775807) ∧ ∀ y ∈ e.2.2.2.2.2.2.2.2, -9223372036854775808 ≤ y ∧ y ≤ 9223372036854775807 := by
  obtain ⟨p, cs, h1, h2, ⟨w, u, h3, h5, h6, h7⟩, h4⟩ := QX.at h he
  subst h3; exact ⟨p, w, u, h1, h4, h5, h6, h7⟩
theorem stW {M : Hp} {v : Value} {l : List (Int × Int × Int × (Int × Int × List Int) × (Int × Int) × List Int)}
    (h : QX 9 (fun M cs (x : Int × Int × Int × (Int × Int × List Int) × (Int × Int) × List Int) => cs.length = 9 ∧ Gi M ((cs.drop 0).take 1) x.1 ∧ Gi M ((cs.drop 1).take 1) x.2.1 ∧ Gi M ((cs.drop 2).take 1) x.2.2.1 ∧ RS3 Gi Gi (Vf 1 Gi) M ((cs.drop 3).take 3) x.2.2.2.1 ∧ RS2 Gi Gi M ((cs.drop 6).take 2) x.2.2.2.2.1 ∧ Vf 1 Gi M ((cs.drop 8).take 1) x.2.2.2.2.2) M v l) :
    ∃ l', QX 9 RTS M v l' ∧ ∀ y ∈ l', True := by
  refine h.rel (R' := RTS) (fun _ => True) fun cs x ⟨hl, h0, h1, h2, h3, h4, h5⟩ => ?_
  match cs, hl with
  | [a0, a1, a2, a3, a4, a5, a6, a7, a8], _ =>
  obtain ⟨u, hu, h5⟩ := h5
  obtain ⟨l', h6, h6r⟩ := h5.intW
  simp only [List.drop_succ_cons, List.drop_zero, List.take_succ_cons, List.take_zero] at h0 h1 h2 h3 h4 hu
  obtain ⟨e0, g0⟩ := h0
  obtain ⟨e1, g1⟩ := h1
  obtain ⟨e2, g2⟩ := h2
  obtain ⟨b0, b1, b2, e3, r3, r4, r5⟩ := h3
  obtain ⟨c0, c1, e6, r6, r7⟩ := h4
  obtain ⟨w, hw, r5⟩ := r5
  obtain ⟨pl, h7, _⟩ := r5.intW
  obtain ⟨e8, g8⟩ := r3
  obtain ⟨e9, g9⟩ := r4
  obtain ⟨e10, g10⟩ := r6
  obtain ⟨e11, g11⟩ := r7
  simp only [List.cons.injEq, and_true] at e0 e1 e2 e3 e6 e8 e9 e10 e11 hu hw
  refine ⟨(x.1, x.2.1, x.2.2.1, x.2.2.2.1.1, x.2.2.2.1.2.1, pl, x.2.2.2.2.1.1, x.2.2.2.2.1.2, l'), ⟨w, u, ?_, h7, h6, g0, g1, g2, g9, g11, h6r⟩, trivial⟩
  rw [e0, e1, e2, e3.1, e3.2.1, e3.2.2, e6.1, e6.2, e8, e9, e10, e11, hu, hw]
theorem tkA {α : Type} {Q : α → Prop} {l : List α} {k : Nat} {x : α} (h : l[k]? = some x) (hp : ∀ s ∈ l.take k, Q s) (hx : Q x) : ∀ s ∈ l.take (k + 1), Q s := fun s hs => by
  rw [List.take_add_one, h] at hs
  rcases List.mem_append.1 hs with h1 | h1
  · exact hp s h1
  · simp at h1; rw [h1]; exact hx
theorem tkE {α : Type} {Q : α → Prop} {l : List α} {k : Nat} (hp : ∀ s ∈ l.take k, Q s) (hk : l.length ≤ k) : ∀ s ∈ l, Q s := by rwa [List.take_of_length_le hk] at hp
theorem nd {p : Prop} [Decidable p] (h : (!decide p) = false) : p := by simpa using h
theorem QX.eqL {α : Type} {sz : Nat} {R : Hp → List Value → α → Prop} {M : Hp} {v : Value} {l l' : List α} (h : QX sz R M v l) (e : l' = l) : QX sz R M v l' := e ▸ h
def YL (s : TSt) : Prop := s.2.2.2.2.2.2.2.2.length ≤ 50 ∧ (-1099511627776 < s.2.2.2.2.1 ∧ s.2.2.2.2.1 < 1099511627776) ∧ s.2.2.2.2.2.1.length ≤ 300 ∧ (-1099511627776 < s.2.2.2.2.2.2.2.1 ∧ s.2.2.2.2.2.2.2.1 < 1099511627776) ∧ (29 ≤ s.1 % 47 ∧ s.1 % 47 ≤ 32 → s.2.2.2.2.2.2.2.2.length ≠ 0) ∧ (s.1 % 47 = 46 → s.2.2.2.2.2.2.2.2.length ≠ 0)
instance : DecidablePred YL := fun s => by unfold YL; infer_instance
theorem GU (l c : List Int) : total [l, c] = l.length + c.length := by simp [total]
theorem totL_le {B : Nat} : ∀ {ll : List (List Int)}, (∀ x ∈ ll, x.length ≤ B) → total ll ≤ ll.length * B
  | [], _ => by simp [total]
  | x :: ll, h => by
    have h1 := h x (List.mem_cons_self ..)
    have h2 := totL_le (ll := ll) fun y hy => h y (List.mem_cons_of_mem _ hy)
    simp only [total, List.map_cons, List.sum_cons, List.length_cons, Nat.succ_mul] at h2 ⊢
    omega
theorem Zl (n : Nat) (l : List Int) : total (zX n l) ≤ l.length := by
  rcases Nat.eq_zero_or_pos n with h | h
  · subst h; simp [zX, total]
  · rw [qn h, ← Yr, chL_flat]; exact Nat.le_refl _
theorem Zw {f : Int → Int} {l : List Int} (h : l.length ≤ 10000) : total (JG f l) ≤ 1000000000 := by
  have h1 := totL_le (B := l.length) fun x (hx : x ∈ JG f l) => qI hx
  have h2 := Ws f l
  have h3 : (JG f l).length * l.length ≤ 10000 * 10000 := Nat.mul_le_mul (by omega) h
  omega
theorem ZR {n s : Nat} {l : List Int} (h : l.length ≤ 10000) (hn : 0 < n) (hn2 : n ≤ 100) (hs : 0 < s) : total (Vb n s l) ≤ 1000000000 := by
  have h1 := totL_le (B := n) (ll := Vb n s l) fun x hx => by
    unfold Vb ZQ at hx
    obtain ⟨i, _, rfl⟩ := List.mem_map.1 hx
    rw [List.length_take]; omega
  have h2 := qD (l := l) hs hn
  have h3 : (Vb n s l).length * n ≤ 10000 * 100 := Nat.mul_le_mul (by omega) hn2
  omega
theorem meet2_len {l c : List Int} (h : l.length ≤ 10000) (h2 : c.length ≤ 10000) : (Ub (fun x => x) [l, c]).length ≤ 1000000000000 :=
  Nat.le_trans (yD (T := 10000) _ fun x hx => by simp at hx; rcases hx with rfl | rfl <;> assumption) (by omega)
theorem cut2_len {l c : List Int} (h : l.length ≤ 10000) : (Ur l c).1.length + (Ur l c).2.1.length ≤ 1000000000000 := by
  have := cut_len (l := l) (b := c); omega
def Un (d a b : Nat) (n m pk pn : Int) (pl : List Int) (kk kn : Int) (c l : List Int) : List Int :=
  match d with
  | 0 => QT (Jv pk pn pl) 0 l
  | 1 => QT (fun x i => !(Jv pk pn pl) x i) 0 l
  | 2 => Yk (JL kk kn) 0 l
  | 3 => Zt (fun x i => (JL kk kn x i, Jv pk pn pl x i)) 0 l
  | 4 => Zu (fun x i => [x, JL kk kn x i]) 0 l
  | 5 => Qw l
  | 6 => (Zm (fun x => JL kk kn x 0) l).2
  | 7 => (l).filter (fun x => !Zo false (QC (fun x => x) l) ((fun x => x) x))
  | 8 => (VH (fun x => x) (QC (fun x => x) l) l).2
  | 9 => (l).filter (fun x => !Zo false (QC (fun x => JL kk kn x 0) l) ((fun x => JL kk kn x 0) x))
  | 10 => (VH (fun x => JL kk kn x 0) (QC (fun x => JL kk kn x 0) l) l).2
  | 11 => (l).reverse
  | 12 => (l).take (((a : Nat) : Int) : Int).toNat
  | 13 => (l).drop (((a : Nat) : Int) : Int).toNat
  | 14 => (l).take ((l).length - (((a : Nat) : Int) : Int).toNat)
  | 15 => (l).takeWhile (fun x => Jv pk pn pl x 0)
  | 16 => (l).dropWhile (fun x => Jv pk pn pl x 0)
  | 17 => VE (fun x => Jv pk pn pl x 0) l
  | 18 => (QT (Jv pk pn pl) 0 l).take (((a : Nat) : Int) : Int).toNat
  | 19 => VG l [((a : Nat) : Int), ((b : Nat) : Int)]
  | 20 => Va l ((a : Nat) : Int) ((b : Nat) : Int)
  | 21 => Yv l ((a : Nat) : Int) ((b : Nat) : Int)
  | 22 => Zn (ZD n m) (Zi n) ((b : Nat) : Int) l
  | 23 => Zn (ZD n m) (Zi n) (-1) l
  | 24 => (l).filter (fun x => decide (x ≠ 0))
  | 25 => VS l ((min a l.length : Nat) : Int) c
  | 26 => (l).dropWhile (fun x => decide (x ∈ c))
  | 27 => VE (fun x => decide (x ∈ c)) l
  | 28 => VE (fun x => decide (x ∈ c)) ((l).dropWhile (fun x => decide (x ∈ c)))
  | 29 => Yc c l
  | 30 => trimS c l
  | 31 => zi l c
  | 32 => Gg l c
  | 33 => (l).filter (fun x => !decide (x ∈ c))
  | 34 => (l).filter (fun x => !decide (JL kk kn x 0 ∈ c))
  | 35 => Qw ([l, c]).flatten
  | 36 => (l).filter (fun x => !decide (x ∈ c))
  | 37 => (c).filter (fun x => !decide (x ∈ l))
  | 38 => yU [l, c]
  | 39 => if decide (0 < a) = true then (zX a l).flatten else [-7777]
  | 40 => (JG (fun x => JL kk kn x 0) l).flatten
  | 41 => (Vb (a + 1) 1 l).flatten
  | 42 => (Vb (a + 1) (b + 1) l).flatten
  | 43 => Wq (Qw l)
  | 44 => ([l, c]).flatten
  | 45 => JW (Ub (fun x => x) [l, c])
  | _ => if (Ur l c).2.2 = true then (Ur l c).1 ++ (Ur l c).2.1 else (Ur l c).2.1 ++ (Ur l c).1
theorem splice_spF {l c : List Int} {a : Nat} : jj l c (((min a l.length : Nat) : Int)).toNat = VS l ((min a l.length : Nat) : Int) c := by
  unfold VS jj
  have h : ¬ (((min a l.length : Nat) : Int) < 0) := by omega
  rw [if_neg h, show min (((min a l.length : Nat) : Int)).toNat l.length = (((min a l.length : Nat) : Int)).toNat by omega]
theorem head_once {c : List Int} {x0 : Int} (h0 : c[0]? = some x0) (hn : (!decide (x0 ∈ c.drop 1)) = true) : ∀ j x, 0 < j → c[0]? = some x → ¬ c[j]? = some x := by
  intro j x hj h1 h2
  rw [h0] at h1; cases h1
  have hn : x0 ∉ c.drop 1 := by simpa using hn
  exact hn (List.mem_of_getElem? (i := j - 1) (by rw [List.getElem?_drop, show 1 + (j - 1) = j by omega]; exact h2))
section
variable {H : Type} {enc : TypeId × Value → H} {P : Program} {W : World} {α β γ δ ε ζ : Type}
theorem vN {t t0 t1 t2 t3 t4 t5 : TypeId} {o0 o1 o2 o3 o4 o5 n0 n1 n2 n3 n4 n5 N : Nat} {fs : Array Field} {R0 : Hp → List Value → α → Prop} {R1 : Hp → List Value → β → Prop} {R2 : Hp → List Value → γ → Prop} {R3 : Hp → List Value → δ → Prop} {R4 : Hp → List Value → ε → Prop} {R5 : Hp → List Value → ζ → Prop}
    (ht : P.underlying t = some (.struct fs)) (hfs : fs.toList.map (fun f => (f.type, f.offset)) = [(t0, o0), (t1, o1), (t2, o2), (t3, o3), (t4, o4), (t5, o5)])
    (h0 : P.cellsOf t0 = n0) (h1 : P.cellsOf t1 = n1) (h2 : P.cellsOf t2 = n2) (h3 : P.cellsOf t3 = n3) (h4 : P.cellsOf t4 = n4) (h5 : P.cellsOf t5 = n5) (hc : P.cellsOf t = N)
    (O0 : Zy enc P W t0 R0) (O1 : Zy enc P W t1 R1) (O2 : Zy enc P W t2 R2) (O3 : Zy enc P W t3 R3) (O4 : Zy enc P W t4 R4) (O5 : Zy enc P W t5 R5) :
    Zy enc P W t (fun M cs (x : α × β × γ × δ × ε × ζ) => cs.length = N ∧ R0 M ((cs.drop o0).take n0) x.1 ∧ R1 M ((cs.drop o1).take n1) x.2.1 ∧ R2 M ((cs.drop o2).take n2) x.2.2.1 ∧ R3 M ((cs.drop o3).take n3) x.2.2.2.1 ∧ R4 M ((cs.drop o4).take n4) x.2.2.2.2.1 ∧ R5 M ((cs.drop o5).take n5) x.2.2.2.2.2) := by
  intro n cs x h hw
  obtain ⟨xs, n, rfl, rfl, hl, hxl, hi⟩ := DataW.trod_struct ht h
  have hl3 : fs.toList.length = 6 := by simpa using congrArg List.length hfs
  obtain ⟨f0, f1, f2, f3, f4, f5, hf⟩ : ∃ f0 f1 f2 f3 f4 f5, fs = #[f0, f1, f2, f3, f4, f5] := by
    match fs, hl3 with
    | ⟨[f0, f1, f2, f3, f4, f5]⟩, _ => exact ⟨f0, f1, f2, f3, f4, f5, rfl⟩
  subst hf
  simp at hfs
  obtain ⟨⟨rfl, e0⟩, ⟨rfl, e1⟩, ⟨rfl, e2⟩, ⟨rfl, e3⟩, ⟨rfl, e4⟩, rfl, e5⟩ := hfs
  rw [hc] at hl
  match xs, hxl with
  | [x0, x1, x2, x3, x4, x5], _ =>
  have g0 := hi 0 f0 rfl
  have g1 := hi 1 f1 rfl
  have g2 := hi 2 f2 rfl
  have g3 := hi 3 f3 rfl
  have g4 := hi 4 f4 rfl
  have g5 := hi 5 f5 rfl
  rw [e0, h0] at g0; rw [e1, h1] at g1; rw [e2, h2] at g2; rw [e3, h3] at g3; rw [e4, h4] at g4; rw [e5, h5] at g5
  simp only [DataW.weights, ht] at hw
  obtain ⟨y0, r0⟩ := O0 n _ x0 g0 fun k hk => hw k (DataW.weights_mem_each (j := 0) rfl rfl k hk)
  obtain ⟨y1, r1⟩ := O1 n _ x1 g1 fun k hk => hw k (DataW.weights_mem_each (j := 1) rfl rfl k hk)
  obtain ⟨y2, r2⟩ := O2 n _ x2 g2 fun k hk => hw k (DataW.weights_mem_each (j := 2) rfl rfl k hk)
  obtain ⟨y3, r3⟩ := O3 n _ x3 g3 fun k hk => hw k (DataW.weights_mem_each (j := 3) rfl rfl k hk)
  obtain ⟨y4, r4⟩ := O4 n _ x4 g4 fun k hk => hw k (DataW.weights_mem_each (j := 4) rfl rfl k hk)
  obtain ⟨y5, r5⟩ := O5 n _ x5 g5 fun k hk => hw k (DataW.weights_mem_each (j := 5) rfl rfl k hk)
  exact ⟨(y0, y1, y2, y3, y4, y5), hl, r0, r1, r2, r3, r4, r5⟩
end
theorem lit {l0 : List Int} {l1 : List TSt} (h : (!decide ((l0.length ≤ 200 ∧ l1.length ≤ 40) ∧ ∀ s ∈ l1, YL s)) = false) : l0.length ≤ 200 ∧ ∀ s ∈ l1, s.2.2.2.2.2.2.2.2.length ≤ 50 ∧ s.2.2.2.2.2.1.length ≤ 300 := by
  have h := nd h
  exact ⟨h.1.1, fun s hs => ⟨(h.2 s hs).1, (h.2 s hs).2.2.1⟩⟩
end Go.Proofs.YtgceicmfefpngaaGreat.wFnScriptOwn
