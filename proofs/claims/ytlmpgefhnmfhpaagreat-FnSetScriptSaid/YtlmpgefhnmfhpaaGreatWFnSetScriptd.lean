import Derived.Test.YtlmpgefhnmfhpaaGreatWFnSetScriptc
set_option linter.unusedVariables false
set_option linter.unusedSimpArgs false
namespace Go.Proofs.YtlmpgefhnmfhpaaGreat.wFnSetScript
open Go Go.Sl
set_option maxRecDepth 100000
set_option maxHeartbeats 4000000
variable {M : Hp} {v0 v1 v2 v3 v4 v5 v6 v7 : Value} {l0 l1 l2 l3 l4 l5 l6 l7 : List Int} {n0 n1 n2 n3 n4 n5 n6 n7 : Nat} {x0 x1 x2 x3 x4 x5 x6 x7 : Int}
theorem YR {M : Hp} {v0 : Value} {l0 : List Int} (h0 : Zh M v0 l0) (hb : l0.length ≤ 1000000000000) :
  Pu Tryz.prog (.func (.func 65) #[] #[]) M [v0] (fun r M' => Zh M' r (Qw l0)) := by
 refine Jt Tryz.func65 Y Tryz.ntmps65 Y Tryz.call65 ?_
 intro a w M1 H hM1 S E
 replace h0 := h0.le hM1
 have b0 := h0.bound
 refine QF (Qx E Y fun _ B => QZ (Qx B Y fun _ D => VM (Qq D Y fun _ F => Jl F Y JE h0.len fun _ G => Qq G Y ?_)))
 clear E a B D F G; intro a E
 refine VJ ?_
 replace S := (S.ownNil (e := 3) (sz := 1)).made0
 replace S := S.re1 (l' := Qw (l0.take 0)) (by first | (simp [Qw]; done) | (rw [QE (by assumption), ← JZ (j := j) hsu.1 (by intro y hy; have h9 := a1 y hy; rw [show l0[k]? = some _ by assumption] at h9; exact h9) (by (first | (left; omega) | (right; exact ⟨_, by assumption, by assumption, by assumption⟩)))]; done) | (rw [QE (by assumption), ← JZ (j := j) hsu.1 (by intro y hy; have h9 := a1 y hy; rw [show l0[k]? = some _ by assumption] at h9; exact h9) (by (first | (left; omega) | (right; exact ⟨_, by assumption, by assumption, by assumption⟩)))]; simp; done) | (exfalso; omega) | (rw [QE (by assumption), ZO (by assumption) (by assumption)]))
 refine Jb (γ := Nat) (fun (k : Nat) a w => ∃ (c1 : Hp) (u3 : Value), Hp.le M1 c1 ∧ St w c1 (Zi 3 u3 (Qw (l0.take k)) :: H) ∧ Env a 53 [] [(3, u3), (7, v0), (8, .int .i64 (((l0).length : Nat) : Int)), (9, .int .i64 ((k : Nat) : Int))] ∧ (k ≤ (l0).length)) (fun k => ((l0).length) - k) 0 ⟨M1, _, lerf, S, E.keep ⟨Y, Y, Y, Y, trivial⟩, by ((try clear S); (try clear E); first | assumption | omega | rfl | (simp; done) | (simp_all; done) | (simp [List.take_add_one, *]; done) | grind [List.take_add_one])⟩ ?_
 try clear E
 try clear S
 try clear a
 try clear w
 rintro k a w ⟨c1, u3, a3, S, E, n5⟩
 replace h0 := h0.le a3
 have hsu := Zu (l0.take k); have hsl := hsu.2.2; simp only [List.length_take] at hsl
 refine QF (ZG E Y Y ?_)
 clear E a; intro a E
 refine ZB ?_
 refine QJ E Y (fun h4 => ?_) (fun h4 => ?_)
 ·refine zC ?_
  obtain ⟨a0, h5⟩ : ∃ x, (l0)[k]? = some x := ⟨_, List.getElem?_eq_getElem (by first | omega | (simp; done) | (simp; omega) | (simp_all; omega))⟩
  obtain ⟨n6, h6, h7⟩ := h0.at h5
  refine Yh E Y Y JE h6 Y fun _ B => Qz B Y Tryz.isAgg3 S.imm h7 fun _ D => Qx D Y fun _ F => QZ (Qx F Y ?_)
  clear E a B D F; intro a E
  refine ZB (Jw ?_)
  refine Jb (γ := Nat) (fun (j : Nat) a w => ∃ (a2 : Hp), Hp.le c1 a2 ∧ St w a2 (Zi 3 u3 (Qw (l0.take k)) :: H) ∧ Env a 53 [] [(3, u3), (5, .int .i64 a0), (6, .int .i64 ((j : Nat) : Int)), (7, v0), (8, .int .i64 (((l0).length : Nat) : Int)), (9, .int .i64 ((k : Nat) : Int))] ∧ (j ≤ (Qw (l0.take k)).length) ∧ (∀ y ∈ (Qw (l0.take k)).take j, y < (l0[k]?.getD 0))) (fun j => (Qw (l0.take k)).length - j) 0 ⟨c1, lerf, S, E.keep ⟨Y, Y, Y, Y, Y, Y, trivial⟩, (by omega), (by simp)⟩ ?_
  try clear E
  try clear S
  try clear a
  try clear w
  rintro j a w ⟨a2, a4, S, E, n7, a1⟩
  refine J_p (JR 2 E Y fun _ B => Jl B Y JE S.lenC fun _ D => ZG D Y Y fun _ F => Qq F Y ?_)
  clear E a B D F; intro a E
  refine QO (decide (((j : Nat) : Int) < (((Qw (l0.take k)).length : Nat) : Int))) (fun a5 => ?_) (fun a5 => ?_)
  ·replace E := E.val (t := 16) Y a5
   replace E := E.val (t := 17) Y a5
   replace a5 := of_decide_eq_true a5
   refine Qc E Y Y (Qq E Y fun _ B => Qc B Y Y (Qq B Y ?_))
   clear E a B; intro a E
   obtain ⟨n8, c2⟩ := S.ptrC (k := j) (by first | omega | (simp; done) | (simp; omega) | (simp_all; omega))
   refine Qc E Y Y (Yh E Y Y JE c2 Y ?_)
   clear E a; intro a E
   obtain ⟨n9, h2⟩ : ∃ x, (Qw (l0.take k))[j]? = some x := ⟨_, List.getElem?_eq_getElem (by first | omega | (simp; done) | (simp; omega) | (simp_all; omega))⟩
   refine Qc E Y Y (JD E Y (Tryz.isAgg3 _) (S.cellI c2 h2) fun _ B => Qc B Y Y (Qq B Y fun _ D => Qc D Y Y (ZG D Y Y fun _ F => JI F Y Y ?_)))
   clear E a B D F; intro a E
   refine Jx ?_
   refine QJ E Y (fun h8 => ?_) (fun h8 => ?_)
   ·refine Ja (JG (Jw (Qr (Qq E Y fun _ B => QY (m := ((j + 1 : Nat) : Int)) B Y Y fun _ D => Qx D Y ?_))))
    clear E a B D; intro a E
    refine QQ (ZN (JG ?_))
    exact ⟨j + 1, ⟨a2, a4, S, E.keep ⟨Y, Y, Y, Y, Y, Y, trivial⟩, (by omega), (by exact take_all (P := fun y => y < (l0[k]?.getD 0)) a1 (by assumption) (by rw [show l0[k]? = some _ by assumption]; assumption))⟩, by omega⟩
   ·refine Um (JR 2 E Y fun _ B => Jl B Y JE S.lenC fun _ D => Jh D Y Y fun _ F => Qq F Y ?_)
    clear E a B D F; intro a E
    refine QO (decide (((j : Nat) : Int) = (((Qw (l0.take k)).length : Nat) : Int))) (fun a6 => ?_) (fun a6 => ?_)
    ·replace E := E.val (t := 30) Y a6
     replace E := E.val (t := 31) Y a6
     replace a6 := of_decide_eq_true a6
     refine Qd E Y Y Y Y fun _ B => Qd B Y Y Y Y fun _ D => Qd D Y Y Y Y fun _ F => Qd F Y Y Y Y fun _ G => Qd G Y Y Y Y fun _ I => Qd I Y Y Y Y fun _ J => JI J Y Y ?_
     clear E a B D F G I J; intro a E
     refine Jx ?_
     refine Jj E Y Y ?_
     refine UT Tryz.mixed ?_
     refine Vk 0 6 (by decide) (by kernel_rfl) ?_ ?_
     ·refine Vk 4 6 (by decide) (by kernel_rfl) ?_ ?_
      ·replace S := S.mono_heap (w' := World.drew _) rfl
       refine YN (C := fun x w => agree a2 w) (bf := (fun i => [])) [1, 2, 3, 5, 8, 9, 10, 12] [1, 2, 3, 5, 8, 9, 10, 0, 4, 6, 7, 11, 12] (by kernel_rfl) (fun x hq => S.imm) ?_
       refine Qo E Y (fun w hC => (Qi E Y)) fun _ B => Qo B Y (fun w hC => (Qi B Y)) ?_
       clear E a B; intro a E
       have S0 := S; clear S
       obtain ⟨e7, a8, e8, S⟩ := S0.freezeI (by (first | omega | (simp; omega) | (simp; done) | (simp_all; omega) | grind))
       clear S0
       obtain ⟨i0, i1, c3⟩ := e8.subv 0 j (by first | omega | (simp; done) | (simp; omega) | (simp_all; omega)) (by first | omega | (simp; done) | (simp; omega) | (simp_all; omega))
       simp only [List.drop_zero] at c3
       replace c3 : Zh e7 i0 ((Qw (l0.take k)).take j) := c3
       refine Qo E Y (fun w hC => (ZW E Y Y JE i1 (by omega))) fun _ B => Qo B Y (fun w hC => (Qi B Y)) fun _ D => Qo D Y (fun w hC => (Qi D Y)) fun _ F => Qo F Y (fun w hC => (Qi F Y)) ?_
       clear E a B D F; intro a E
       obtain ⟨i2, i3, c4⟩ := e8.subv j ((Qw (l0.take k)).length) (by first | omega | (simp; done) | (simp; omega) | (simp_all; omega)) (by first | omega | (simp; done) | (simp; omega) | (simp_all; omega))
       simp only [List.take_length] at c4
       replace c4 : Zh e7 i2 ((Qw (l0.take k)).drop j) := c4
       refine Qo E Y (fun w hC => (ZV E Y Y JE e8.len i3 (by omega))) ?_
       clear E a; intro a E
       refine Zd Y Y Y (Jf (ys := []) E S Y JE Y Y Y ?_)
       clear E a S; rintro a w o0 E S
       refine ⟨fun x hq hb => (Qg a8 S.imm), ?_⟩
       refine Zd Y Y Y (Jp (xs := ([] : List Int)) E S Y Y Y JE c3 (by first | omega | (simp; done) | (simp; omega) | (simp_all; omega)) ?_)
       clear E a S; rintro a w o1 E S
       refine ⟨fun x hq hb => (Qg a8 S.imm), ?_⟩
       refine Zd Y Y Y (Jf (ys := [a0]) E S Y JE Y Y Y ?_)
       clear E a S; rintro a w o2 E S
       refine ⟨fun x hq hb => (Qg a8 S.imm), ?_⟩
       replace S := S.front1.front1
       refine Zd Y Y Y (JS (xs := [] ++ ((Qw (l0.take k)).take j)) (ys := [a0]) E S Y Y Y JE (by first | omega | (simp; done) | (simp; omega) | (simp_all; omega)) ?_)
       clear E a S; rintro a w o3 E S
       refine ⟨fun x hq hb => (Qg a8 S.imm), ?_⟩
       refine Zd Y Y Y (Jp (xs := ([] ++ ((Qw (l0.take k)).take j)) ++ [a0]) E S Y Y Y JE c4 (by first | omega | (simp; done) | (simp; omega) | (simp_all; omega)) ?_)
       clear E a S; rintro a w o4 E S
       refine ⟨fun x hq hb => (Qg a8 S.imm), ?_⟩
       refine Qo E Y (fun w hC => (Qy E Y)) ?_
       clear E a; intro a E
       refine Jv (Ju ?_)
       refine yY (QY (m := ((k + 1 : Nat) : Int)) E Y Y fun _ B => Qq B Y ?_)
       clear E a B; intro a E
       refine Jx ?_
       replace S := S.re1 (l' := Qw (l0.take (k + 1))) (by first | (simp [Qw]; done) | (rw [QE (by assumption), ← JZ (j := j) hsu.1 (by intro y hy; have h9 := a1 y hy; rw [show l0[k]? = some _ by assumption] at h9; exact h9) (by (first | (left; omega) | (right; exact ⟨_, by assumption, by assumption, by assumption⟩)))]; done) | (rw [QE (by assumption), ← JZ (j := j) hsu.1 (by intro y hy; have h9 := a1 y hy; rw [show l0[k]? = some _ by assumption] at h9; exact h9) (by (first | (left; omega) | (right; exact ⟨_, by assumption, by assumption, by assumption⟩)))]; simp; done) | (exfalso; omega) | (rw [QE (by assumption), ZO (by assumption) (by assumption)]))
       exact ⟨k + 1, ⟨e7, _, (a3.trans (a4.trans a8)), S, E.keep ⟨Y, Y, Y, Y, trivial⟩, by ((try clear S); (try clear E); first | assumption | omega | rfl | (simp; done) | (simp_all; done) | (simp [List.take_add_one, *]; done) | grind [List.take_add_one])⟩, by omega⟩
      ·replace S := S.mono_heap (w' := World.drew _) rfl
       refine YN (C := fun x w => agree a2 w) (bf := (fun i => [])) [1, 2, 3, 5, 8, 9, 10, 12] [1, 2, 3, 5, 8, 9, 10, 0, 6, 4, 7, 11, 12] (by kernel_rfl) (fun x hq => S.imm) ?_
       refine Qo E Y (fun w hC => (Qi E Y)) fun _ B => Qo B Y (fun w hC => (Qi B Y)) ?_
       clear E a B; intro a E
       have S0 := S; clear S
       obtain ⟨e9, a9, f0, S⟩ := S0.freezeI (by (first | omega | (simp; omega) | (simp; done) | (simp_all; omega) | grind))
       clear S0
       obtain ⟨i4, i5, c5⟩ := f0.subv 0 j (by first | omega | (simp; done) | (simp; omega) | (simp_all; omega)) (by first | omega | (simp; done) | (simp; omega) | (simp_all; omega))
       simp only [List.drop_zero] at c5
       replace c5 : Zh e9 i4 ((Qw (l0.take k)).take j) := c5
       refine Qo E Y (fun w hC => (ZW E Y Y JE i5 (by omega))) fun _ B => Qo B Y (fun w hC => (Qi B Y)) fun _ D => Qo D Y (fun w hC => (Qi D Y)) fun _ F => Qo F Y (fun w hC => (Qi F Y)) ?_
       clear E a B D F; intro a E
       obtain ⟨i6, i7, c6⟩ := f0.subv j ((Qw (l0.take k)).length) (by first | omega | (simp; done) | (simp; omega) | (simp_all; omega)) (by first | omega | (simp; done) | (simp; omega) | (simp_all; omega))
       simp only [List.take_length] at c6
       replace c6 : Zh e9 i6 ((Qw (l0.take k)).drop j) := c6
       refine Qo E Y (fun w hC => (ZV E Y Y JE f0.len i7 (by omega))) ?_
       clear E a; intro a E
       refine Zd Y Y Y (Jf (ys := []) E S Y JE Y Y Y ?_)
       clear E a S; rintro a w o5 E S
       refine ⟨fun x hq hb => (Qg a9 S.imm), ?_⟩
       refine Zd Y Y Y (Jf (ys := [a0]) E S Y JE Y Y Y ?_)
       clear E a S; rintro a w o6 E S
       refine ⟨fun x hq hb => (Qg a9 S.imm), ?_⟩
       replace S := S.front1
       refine Zd Y Y Y (Jp (xs := ([] : List Int)) E S Y Y Y JE c5 (by first | omega | (simp; done) | (simp; omega) | (simp_all; omega)) ?_)
       clear E a S; rintro a w o7 E S
       refine ⟨fun x hq hb => (Qg a9 S.imm), ?_⟩
       replace S := S.front1
       refine Zd Y Y Y (JS (xs := [] ++ ((Qw (l0.take k)).take j)) (ys := [a0]) E S Y Y Y JE (by first | omega | (simp; done) | (simp; omega) | (simp_all; omega)) ?_)
       clear E a S; rintro a w o8 E S
       refine ⟨fun x hq hb => (Qg a9 S.imm), ?_⟩
       refine Zd Y Y Y (Jp (xs := ([] ++ ((Qw (l0.take k)).take j)) ++ [a0]) E S Y Y Y JE c6 (by first | omega | (simp; done) | (simp; omega) | (simp_all; omega)) ?_)
       clear E a S; rintro a w o9 E S
       refine ⟨fun x hq hb => (Qg a9 S.imm), ?_⟩
       refine Qo E Y (fun w hC => (Qy E Y)) ?_
       clear E a; intro a E
       refine Jv (Ju ?_)
       refine yY (QY (m := ((k + 1 : Nat) : Int)) E Y Y fun _ B => Qq B Y ?_)
       clear E a B; intro a E
       refine Jx ?_
       replace S := S.re1 (l' := Qw (l0.take (k + 1))) (by first | (simp [Qw]; done) | (rw [QE (by assumption), ← JZ (j := j) hsu.1 (by intro y hy; have h9 := a1 y hy; rw [show l0[k]? = some _ by assumption] at h9; exact h9) (by (first | (left; omega) | (right; exact ⟨_, by assumption, by assumption, by assumption⟩)))]; done) | (rw [QE (by assumption), ← JZ (j := j) hsu.1 (by intro y hy; have h9 := a1 y hy; rw [show l0[k]? = some _ by assumption] at h9; exact h9) (by (first | (left; omega) | (right; exact ⟨_, by assumption, by assumption, by assumption⟩)))]; simp; done) | (exfalso; omega) | (rw [QE (by assumption), ZO (by assumption) (by assumption)]))
       exact ⟨k + 1, ⟨e9, _, (a3.trans (a4.trans a9)), S, E.keep ⟨Y, Y, Y, Y, trivial⟩, by ((try clear S); (try clear E); first | assumption | omega | rfl | (simp; done) | (simp_all; done) | (simp [List.take_add_one, *]; done) | grind [List.take_add_one])⟩, by omega⟩
     ·replace S := S.mono_heap (w' := World.drew _) rfl
      refine YN (C := fun x w => agree a2 w) (bf := (fun i => [])) [1, 2, 3, 5, 8, 9, 10, 12] [1, 2, 3, 5, 8, 9, 10, 6, 0, 4, 7, 11, 12] (by kernel_rfl) (fun x hq => S.imm) ?_
      refine Qo E Y (fun w hC => (Qi E Y)) fun _ B => Qo B Y (fun w hC => (Qi B Y)) ?_
      clear E a B; intro a E
      have S0 := S; clear S
      obtain ⟨f1, b1, f2, S⟩ := S0.freezeI (by (first | omega | (simp; omega) | (simp; done) | (simp_all; omega) | grind))
      clear S0
      obtain ⟨i8, i9, c7⟩ := f2.subv 0 j (by first | omega | (simp; done) | (simp; omega) | (simp_all; omega)) (by first | omega | (simp; done) | (simp; omega) | (simp_all; omega))
      simp only [List.drop_zero] at c7
      replace c7 : Zh f1 i8 ((Qw (l0.take k)).take j) := c7
      refine Qo E Y (fun w hC => (ZW E Y Y JE i9 (by omega))) fun _ B => Qo B Y (fun w hC => (Qi B Y)) fun _ D => Qo D Y (fun w hC => (Qi D Y)) fun _ F => Qo F Y (fun w hC => (Qi F Y)) ?_
      clear E a B D F; intro a E
      obtain ⟨j0, j1, c8⟩ := f2.subv j ((Qw (l0.take k)).length) (by first | omega | (simp; done) | (simp; omega) | (simp_all; omega)) (by first | omega | (simp; done) | (simp; omega) | (simp_all; omega))
      simp only [List.take_length] at c8
      replace c8 : Zh f1 j0 ((Qw (l0.take k)).drop j) := c8
      refine Qo E Y (fun w hC => (ZV E Y Y JE f2.len j1 (by omega))) ?_
      clear E a; intro a E
      refine Zd Y Y Y (Jf (ys := [a0]) E S Y JE Y Y Y ?_)
      clear E a S; rintro a w p0 E S
      refine ⟨fun x hq hb => (Qg b1 S.imm), ?_⟩
      refine Zd Y Y Y (Jf (ys := []) E S Y JE Y Y Y ?_)
      clear E a S; rintro a w p1 E S
      refine ⟨fun x hq hb => (Qg b1 S.imm), ?_⟩
      refine Zd Y Y Y (Jp (xs := ([] : List Int)) E S Y Y Y JE c7 (by first | omega | (simp; done) | (simp; omega) | (simp_all; omega)) ?_)
      clear E a S; rintro a w p2 E S
      refine ⟨fun x hq hb => (Qg b1 S.imm), ?_⟩
      replace S := S.front1
      refine Zd Y Y Y (JS (xs := [] ++ ((Qw (l0.take k)).take j)) (ys := [a0]) E S Y Y Y JE (by first | omega | (simp; done) | (simp; omega) | (simp_all; omega)) ?_)
      clear E a S; rintro a w p3 E S
      refine ⟨fun x hq hb => (Qg b1 S.imm), ?_⟩
      refine Zd Y Y Y (Jp (xs := ([] ++ ((Qw (l0.take k)).take j)) ++ [a0]) E S Y Y Y JE c8 (by first | omega | (simp; done) | (simp; omega) | (simp_all; omega)) ?_)
      clear E a S; rintro a w p4 E S
      refine ⟨fun x hq hb => (Qg b1 S.imm), ?_⟩
      refine Qo E Y (fun w hC => (Qy E Y)) ?_
      clear E a; intro a E
      refine Jv (Ju ?_)
      refine yY (QY (m := ((k + 1 : Nat) : Int)) E Y Y fun _ B => Qq B Y ?_)
      clear E a B; intro a E
      refine Jx ?_
      replace S := S.re1 (l' := Qw (l0.take (k + 1))) (by first | (simp [Qw]; done) | (rw [QE (by assumption), ← JZ (j := j) hsu.1 (by intro y hy; have h9 := a1 y hy; rw [show l0[k]? = some _ by assumption] at h9; exact h9) (by (first | (left; omega) | (right; exact ⟨_, by assumption, by assumption, by assumption⟩)))]; done) | (rw [QE (by assumption), ← JZ (j := j) hsu.1 (by intro y hy; have h9 := a1 y hy; rw [show l0[k]? = some _ by assumption] at h9; exact h9) (by (first | (left; omega) | (right; exact ⟨_, by assumption, by assumption, by assumption⟩)))]; simp; done) | (exfalso; omega) | (rw [QE (by assumption), ZO (by assumption) (by assumption)]))
      exact ⟨k + 1, ⟨f1, _, (a3.trans (a4.trans b1)), S, E.keep ⟨Y, Y, Y, Y, trivial⟩, by ((try clear S); (try clear E); first | assumption | omega | rfl | (simp; done) | (simp_all; done) | (simp [List.take_add_one, *]; done) | grind [List.take_add_one])⟩, by omega⟩
    ·replace E := E.val (t := 30) Y a6
     replace E := E.val (t := 31) Y a6
     replace a6 := of_decide_eq_false a6
     refine Qc E Y Y (Qq E Y fun _ B => Qc B Y Y (Qq B Y fun _ D => Qc D Y Y (Yh D Y Y JE c2 Y fun _ F => Qc F Y Y (JD F Y (Tryz.isAgg3 _) (S.cellI c2 h2) fun _ G => Qc G Y Y (Qq G Y fun _ I => Qc I Y Y (WZ I Y Y fun _ J => QU J Y Y ?_))))))
     clear E a B D F G I J; intro a E
     refine Jx ?_
     refine QJ E Y (fun j2 => ?_) (fun j2 => ?_)
     ·refine UT Tryz.mixed ?_
      refine Vk 0 6 (by decide) (by kernel_rfl) ?_ ?_
      ·refine Vk 4 6 (by decide) (by kernel_rfl) ?_ ?_
       ·replace S := S.mono_heap (w' := World.drew _) rfl
        refine YN (C := fun x w => agree a2 w) (bf := (fun i => [])) [1, 2, 3, 5, 8, 9, 10, 12] [1, 2, 3, 5, 8, 9, 10, 0, 4, 6, 7, 11, 12] (by kernel_rfl) (fun x hq => S.imm) ?_
        refine Qo E Y (fun w hC => (Qi E Y)) fun _ B => Qo B Y (fun w hC => (Qi B Y)) ?_
        clear E a B; intro a E
        have S0 := S; clear S
        obtain ⟨f3, b2, f4, S⟩ := S0.freezeI (by (first | omega | (simp; omega) | (simp; done) | (simp_all; omega) | grind))
        clear S0
        obtain ⟨j3, j4, c9⟩ := f4.subv 0 j (by first | omega | (simp; done) | (simp; omega) | (simp_all; omega)) (by first | omega | (simp; done) | (simp; omega) | (simp_all; omega))
        simp only [List.drop_zero] at c9
        replace c9 : Zh f3 j3 ((Qw (l0.take k)).take j) := c9
        refine Qo E Y (fun w hC => (ZW E Y Y JE j4 (by omega))) fun _ B => Qo B Y (fun w hC => (Qi B Y)) fun _ D => Qo D Y (fun w hC => (Qi D Y)) fun _ F => Qo F Y (fun w hC => (Qi F Y)) ?_
        clear E a B D F; intro a E
        obtain ⟨j5, j6, d0⟩ := f4.subv j ((Qw (l0.take k)).length) (by first | omega | (simp; done) | (simp; omega) | (simp_all; omega)) (by first | omega | (simp; done) | (simp; omega) | (simp_all; omega))
        simp only [List.take_length] at d0
        replace d0 : Zh f3 j5 ((Qw (l0.take k)).drop j) := d0
        refine Qo E Y (fun w hC => (ZV E Y Y JE f4.len j6 (by omega))) ?_
        clear E a; intro a E
        refine Zd Y Y Y (Jf (ys := []) E S Y JE Y Y Y ?_)
        clear E a S; rintro a w p5 E S
        refine ⟨fun x hq hb => (Qg b2 S.imm), ?_⟩
        refine Zd Y Y Y (Jp (xs := ([] : List Int)) E S Y Y Y JE c9 (by first | omega | (simp; done) | (simp; omega) | (simp_all; omega)) ?_)
        clear E a S; rintro a w p6 E S
        refine ⟨fun x hq hb => (Qg b2 S.imm), ?_⟩
        refine Zd Y Y Y (Jf (ys := [a0]) E S Y JE Y Y Y ?_)
        clear E a S; rintro a w p7 E S
        refine ⟨fun x hq hb => (Qg b2 S.imm), ?_⟩
        replace S := S.front1.front1
        refine Zd Y Y Y (JS (xs := [] ++ ((Qw (l0.take k)).take j)) (ys := [a0]) E S Y Y Y JE (by first | omega | (simp; done) | (simp; omega) | (simp_all; omega)) ?_)
        clear E a S; rintro a w p8 E S
        refine ⟨fun x hq hb => (Qg b2 S.imm), ?_⟩
        refine Zd Y Y Y (Jp (xs := ([] ++ ((Qw (l0.take k)).take j)) ++ [a0]) E S Y Y Y JE d0 (by first | omega | (simp; done) | (simp; omega) | (simp_all; omega)) ?_)
        clear E a S; rintro a w p9 E S
        refine ⟨fun x hq hb => (Qg b2 S.imm), ?_⟩
        refine Qo E Y (fun w hC => (Qy E Y)) ?_
        clear E a; intro a E
        refine Jv (Ju ?_)
        refine yY (QY (m := ((k + 1 : Nat) : Int)) E Y Y fun _ B => Qq B Y ?_)
        clear E a B; intro a E
        refine Jx ?_
        replace S := S.re1 (l' := Qw (l0.take (k + 1))) (by first | (simp [Qw]; done) | (rw [QE (by assumption), ← JZ (j := j) hsu.1 (by intro y hy; have h9 := a1 y hy; rw [show l0[k]? = some _ by assumption] at h9; exact h9) (by (first | (left; omega) | (right; exact ⟨_, by assumption, by assumption, by assumption⟩)))]; done) | (rw [QE (by assumption), ← JZ (j := j) hsu.1 (by intro y hy; have h9 := a1 y hy; rw [show l0[k]? = some _ by assumption] at h9; exact h9) (by (first | (left; omega) | (right; exact ⟨_, by assumption, by assumption, by assumption⟩)))]; simp; done) | (exfalso; omega) | (rw [QE (by assumption), ZO (by assumption) (by assumption)]))
        exact ⟨k + 1, ⟨f3, _, (a3.trans (a4.trans b2)), S, E.keep ⟨Y, Y, Y, Y, trivial⟩, by ((try clear S); (try clear E); first | assumption | omega | rfl | (simp; done) | (simp_all; done) | (simp [List.take_add_one, *]; done) | grind [List.take_add_one])⟩, by omega⟩
       ·replace S := S.mono_heap (w' := World.drew _) rfl
        refine YN (C := fun x w => agree a2 w) (bf := (fun i => [])) [1, 2, 3, 5, 8, 9, 10, 12] [1, 2, 3, 5, 8, 9, 10, 0, 6, 4, 7, 11, 12] (by kernel_rfl) (fun x hq => S.imm) ?_
        refine Qo E Y (fun w hC => (Qi E Y)) fun _ B => Qo B Y (fun w hC => (Qi B Y)) ?_
        clear E a B; intro a E
        have S0 := S; clear S
        obtain ⟨f5, b3, f6, S⟩ := S0.freezeI (by (first | omega | (simp; omega) | (simp; done) | (simp_all; omega) | grind))
        clear S0
        obtain ⟨j7, j8, d1⟩ := f6.subv 0 j (by first | omega | (simp; done) | (simp; omega) | (simp_all; omega)) (by first | omega | (simp; done) | (simp; omega) | (simp_all; omega))
        simp only [List.drop_zero] at d1
        replace d1 : Zh f5 j7 ((Qw (l0.take k)).take j) := d1
        refine Qo E Y (fun w hC => (ZW E Y Y JE j8 (by omega))) fun _ B => Qo B Y (fun w hC => (Qi B Y)) fun _ D => Qo D Y (fun w hC => (Qi D Y)) fun _ F => Qo F Y (fun w hC => (Qi F Y)) ?_
        clear E a B D F; intro a E
        obtain ⟨j9, k0, d2⟩ := f6.subv j ((Qw (l0.take k)).length) (by first | omega | (simp; done) | (simp; omega) | (simp_all; omega)) (by first | omega | (simp; done) | (simp; omega) | (simp_all; omega))
        simp only [List.take_length] at d2
        replace d2 : Zh f5 j9 ((Qw (l0.take k)).drop j) := d2
        refine Qo E Y (fun w hC => (ZV E Y Y JE f6.len k0 (by omega))) ?_
        clear E a; intro a E
        refine Zd Y Y Y (Jf (ys := []) E S Y JE Y Y Y ?_)
        clear E a S; rintro a w q0 E S
        refine ⟨fun x hq hb => (Qg b3 S.imm), ?_⟩
        refine Zd Y Y Y (Jf (ys := [a0]) E S Y JE Y Y Y ?_)
        clear E a S; rintro a w q1 E S
        refine ⟨fun x hq hb => (Qg b3 S.imm), ?_⟩
        replace S := S.front1
        refine Zd Y Y Y (Jp (xs := ([] : List Int)) E S Y Y Y JE d1 (by first | omega | (simp; done) | (simp; omega) | (simp_all; omega)) ?_)
        clear E a S; rintro a w q2 E S
        refine ⟨fun x hq hb => (Qg b3 S.imm), ?_⟩
        replace S := S.front1
        refine Zd Y Y Y (JS (xs := [] ++ ((Qw (l0.take k)).take j)) (ys := [a0]) E S Y Y Y JE (by first | omega | (simp; done) | (simp; omega) | (simp_all; omega)) ?_)
        clear E a S; rintro a w q3 E S
        refine ⟨fun x hq hb => (Qg b3 S.imm), ?_⟩
        refine Zd Y Y Y (Jp (xs := ([] ++ ((Qw (l0.take k)).take j)) ++ [a0]) E S Y Y Y JE d2 (by first | omega | (simp; done) | (simp; omega) | (simp_all; omega)) ?_)
        clear E a S; rintro a w q4 E S
        refine ⟨fun x hq hb => (Qg b3 S.imm), ?_⟩
        refine Qo E Y (fun w hC => (Qy E Y)) ?_
        clear E a; intro a E
        refine Jv (Ju ?_)
        refine yY (QY (m := ((k + 1 : Nat) : Int)) E Y Y fun _ B => Qq B Y ?_)
        clear E a B; intro a E
        refine Jx ?_
        replace S := S.re1 (l' := Qw (l0.take (k + 1))) (by first | (simp [Qw]; done) | (rw [QE (by assumption), ← JZ (j := j) hsu.1 (by intro y hy; have h9 := a1 y hy; rw [show l0[k]? = some _ by assumption] at h9; exact h9) (by (first | (left; omega) | (right; exact ⟨_, by assumption, by assumption, by assumption⟩)))]; done) | (rw [QE (by assumption), ← JZ (j := j) hsu.1 (by intro y hy; have h9 := a1 y hy; rw [show l0[k]? = some _ by assumption] at h9; exact h9) (by (first | (left; omega) | (right; exact ⟨_, by assumption, by assumption, by assumption⟩)))]; simp; done) | (exfalso; omega) | (rw [QE (by assumption), ZO (by assumption) (by assumption)]))
        exact ⟨k + 1, ⟨f5, _, (a3.trans (a4.trans b3)), S, E.keep ⟨Y, Y, Y, Y, trivial⟩, by ((try clear S); (try clear E); first | assumption | omega | rfl | (simp; done) | (simp_all; done) | (simp [List.take_add_one, *]; done) | grind [List.take_add_one])⟩, by omega⟩
      ·replace S := S.mono_heap (w' := World.drew _) rfl
       refine YN (C := fun x w => agree a2 w) (bf := (fun i => [])) [1, 2, 3, 5, 8, 9, 10, 12] [1, 2, 3, 5, 8, 9, 10, 6, 0, 4, 7, 11, 12] (by kernel_rfl) (fun x hq => S.imm) ?_
       refine Qo E Y (fun w hC => (Qi E Y)) fun _ B => Qo B Y (fun w hC => (Qi B Y)) ?_
       clear E a B; intro a E
       have S0 := S; clear S
       obtain ⟨f7, b4, f8, S⟩ := S0.freezeI (by (first | omega | (simp; omega) | (simp; done) | (simp_all; omega) | grind))
       clear S0
       obtain ⟨k1, k2, d3⟩ := f8.subv 0 j (by first | omega | (simp; done) | (simp; omega) | (simp_all; omega)) (by first | omega | (simp; done) | (simp; omega) | (simp_all; omega))
       simp only [List.drop_zero] at d3
       replace d3 : Zh f7 k1 ((Qw (l0.take k)).take j) := d3
       refine Qo E Y (fun w hC => (ZW E Y Y JE k2 (by omega))) fun _ B => Qo B Y (fun w hC => (Qi B Y)) fun _ D => Qo D Y (fun w hC => (Qi D Y)) fun _ F => Qo F Y (fun w hC => (Qi F Y)) ?_
       clear E a B D F; intro a E
       obtain ⟨k3, k4, d4⟩ := f8.subv j ((Qw (l0.take k)).length) (by first | omega | (simp; done) | (simp; omega) | (simp_all; omega)) (by first | omega | (simp; done) | (simp; omega) | (simp_all; omega))
       simp only [List.take_length] at d4
       replace d4 : Zh f7 k3 ((Qw (l0.take k)).drop j) := d4
       refine Qo E Y (fun w hC => (ZV E Y Y JE f8.len k4 (by omega))) ?_
       clear E a; intro a E
       refine Zd Y Y Y (Jf (ys := [a0]) E S Y JE Y Y Y ?_)
       clear E a S; rintro a w q5 E S
       refine ⟨fun x hq hb => (Qg b4 S.imm), ?_⟩
       refine Zd Y Y Y (Jf (ys := []) E S Y JE Y Y Y ?_)
       clear E a S; rintro a w q6 E S
       refine ⟨fun x hq hb => (Qg b4 S.imm), ?_⟩
       refine Zd Y Y Y (Jp (xs := ([] : List Int)) E S Y Y Y JE d3 (by first | omega | (simp; done) | (simp; omega) | (simp_all; omega)) ?_)
       clear E a S; rintro a w q7 E S
       refine ⟨fun x hq hb => (Qg b4 S.imm), ?_⟩
       replace S := S.front1
       refine Zd Y Y Y (JS (xs := [] ++ ((Qw (l0.take k)).take j)) (ys := [a0]) E S Y Y Y JE (by first | omega | (simp; done) | (simp; omega) | (simp_all; omega)) ?_)
       clear E a S; rintro a w q8 E S
       refine ⟨fun x hq hb => (Qg b4 S.imm), ?_⟩
       refine Zd Y Y Y (Jp (xs := ([] ++ ((Qw (l0.take k)).take j)) ++ [a0]) E S Y Y Y JE d4 (by first | omega | (simp; done) | (simp; omega) | (simp_all; omega)) ?_)
       clear E a S; rintro a w q9 E S
       refine ⟨fun x hq hb => (Qg b4 S.imm), ?_⟩
       refine Qo E Y (fun w hC => (Qy E Y)) ?_
       clear E a; intro a E
       refine Jv (Ju ?_)
       refine yY (QY (m := ((k + 1 : Nat) : Int)) E Y Y fun _ B => Qq B Y ?_)
       clear E a B; intro a E
       refine Jx ?_
       replace S := S.re1 (l' := Qw (l0.take (k + 1))) (by first | (simp [Qw]; done) | (rw [QE (by assumption), ← JZ (j := j) hsu.1 (by intro y hy; have h9 := a1 y hy; rw [show l0[k]? = some _ by assumption] at h9; exact h9) (by (first | (left; omega) | (right; exact ⟨_, by assumption, by assumption, by assumption⟩)))]; done) | (rw [QE (by assumption), ← JZ (j := j) hsu.1 (by intro y hy; have h9 := a1 y hy; rw [show l0[k]? = some _ by assumption] at h9; exact h9) (by (first | (left; omega) | (right; exact ⟨_, by assumption, by assumption, by assumption⟩)))]; simp; done) | (exfalso; omega) | (rw [QE (by assumption), ZO (by assumption) (by assumption)]))
       exact ⟨k + 1, ⟨f7, _, (a3.trans (a4.trans b4)), S, E.keep ⟨Y, Y, Y, Y, trivial⟩, by ((try clear S); (try clear E); first | assumption | omega | rfl | (simp; done) | (simp_all; done) | (simp [List.take_add_one, *]; done) | grind [List.take_add_one])⟩, by omega⟩
     ·refine qc (QY (m := ((k + 1 : Nat) : Int)) E Y Y fun _ B => Qq B Y ?_)
      clear E a B; intro a E
      refine Jx ?_
      replace S := S.re1 (l' := Qw (l0.take (k + 1))) (by first | (simp [Qw]; done) | (rw [QE (by assumption), ← JZ (j := j) hsu.1 (by intro y hy; have h9 := a1 y hy; rw [show l0[k]? = some _ by assumption] at h9; exact h9) (by (first | (left; omega) | (right; exact ⟨_, by assumption, by assumption, by assumption⟩)))]; done) | (rw [QE (by assumption), ← JZ (j := j) hsu.1 (by intro y hy; have h9 := a1 y hy; rw [show l0[k]? = some _ by assumption] at h9; exact h9) (by (first | (left; omega) | (right; exact ⟨_, by assumption, by assumption, by assumption⟩)))]; simp; done) | (exfalso; omega) | (rw [QE (by assumption), ZO (by assumption) (by assumption)]))
      exact ⟨k + 1, ⟨a2, _, (a3.trans a4), S, E.keep ⟨Y, Y, Y, Y, trivial⟩, by ((try clear S); (try clear E); first | assumption | omega | rfl | (simp; done) | (simp_all; done) | (simp [List.take_add_one, *]; done) | grind [List.take_add_one])⟩, by omega⟩
  ·replace E := E.val (t := 16) Y a5
   replace E := E.val (t := 17) Y a5
   replace a5 := of_decide_eq_false a5
   refine Qd E Y Y Y Y fun _ B => Qd B Y Y Y Y fun _ D => Qd D Y Y Y Y fun _ F => Qd F Y Y Y Y fun _ G => Qd G Y Y Y Y fun _ I => Qd I Y Y Y Y fun _ J => QU J Y Y ?_
   clear E a B D F G I J; intro a E
   refine Jx ?_
   refine QL E Y Y ?_
   refine Um (JR 2 E Y fun _ B => Jl B Y JE S.lenC fun _ D => Jh D Y Y fun _ F => Qq F Y ?_)
   clear E a B D F; intro a E
   refine QO (decide (((j : Nat) : Int) = (((Qw (l0.take k)).length : Nat) : Int))) (fun a7 => ?_) (fun a7 => ?_)
   ·replace E := E.val (t := 30) Y a7
    replace E := E.val (t := 31) Y a7
    replace a7 := of_decide_eq_true a7
    refine Qd E Y Y Y Y fun _ B => Qd B Y Y Y Y fun _ D => Qd D Y Y Y Y fun _ F => Qd F Y Y Y Y fun _ G => Qd G Y Y Y Y fun _ I => Qd I Y Y Y Y fun _ J => JI J Y Y ?_
    clear E a B D F G I J; intro a E
    refine Jx ?_
    refine Jj E Y Y ?_
    refine UT Tryz.mixed ?_
    refine Vk 0 6 (by decide) (by kernel_rfl) ?_ ?_
    ·refine Vk 4 6 (by decide) (by kernel_rfl) ?_ ?_
     ·replace S := S.mono_heap (w' := World.drew _) rfl
      refine YN (C := fun x w => agree a2 w) (bf := (fun i => [])) [1, 2, 3, 5, 8, 9, 10, 12] [1, 2, 3, 5, 8, 9, 10, 0, 4, 6, 7, 11, 12] (by kernel_rfl) (fun x hq => S.imm) ?_
      refine Qo E Y (fun w hC => (Qi E Y)) fun _ B => Qo B Y (fun w hC => (Qi B Y)) ?_
      clear E a B; intro a E
      have S0 := S; clear S
      obtain ⟨f9, b5, g0, S⟩ := S0.freezeI (by (first | omega | (simp; omega) | (simp; done) | (simp_all; omega) | grind))
      clear S0
      obtain ⟨k5, k6, d5⟩ := g0.subv 0 j (by first | omega | (simp; done) | (simp; omega) | (simp_all; omega)) (by first | omega | (simp; done) | (simp; omega) | (simp_all; omega))
      simp only [List.drop_zero] at d5
      replace d5 : Zh f9 k5 ((Qw (l0.take k)).take j) := d5
      refine Qo E Y (fun w hC => (ZW E Y Y JE k6 (by omega))) fun _ B => Qo B Y (fun w hC => (Qi B Y)) fun _ D => Qo D Y (fun w hC => (Qi D Y)) fun _ F => Qo F Y (fun w hC => (Qi F Y)) ?_
      clear E a B D F; intro a E
      obtain ⟨k7, k8, d6⟩ := g0.subv j ((Qw (l0.take k)).length) (by first | omega | (simp; done) | (simp; omega) | (simp_all; omega)) (by first | omega | (simp; done) | (simp; omega) | (simp_all; omega))
      simp only [List.take_length] at d6
      replace d6 : Zh f9 k7 ((Qw (l0.take k)).drop j) := d6
      refine Qo E Y (fun w hC => (ZV E Y Y JE g0.len k8 (by omega))) ?_
      clear E a; intro a E
      refine Zd Y Y Y (Jf (ys := []) E S Y JE Y Y Y ?_)
      clear E a S; rintro a w r0 E S
      refine ⟨fun x hq hb => (Qg b5 S.imm), ?_⟩
      refine Zd Y Y Y (Jp (xs := ([] : List Int)) E S Y Y Y JE d5 (by first | omega | (simp; done) | (simp; omega) | (simp_all; omega)) ?_)
      clear E a S; rintro a w r1 E S
      refine ⟨fun x hq hb => (Qg b5 S.imm), ?_⟩
      refine Zd Y Y Y (Jf (ys := [a0]) E S Y JE Y Y Y ?_)
      clear E a S; rintro a w r2 E S
      refine ⟨fun x hq hb => (Qg b5 S.imm), ?_⟩
      replace S := S.front1.front1
      refine Zd Y Y Y (JS (xs := [] ++ ((Qw (l0.take k)).take j)) (ys := [a0]) E S Y Y Y JE (by first | omega | (simp; done) | (simp; omega) | (simp_all; omega)) ?_)
      clear E a S; rintro a w r3 E S
      refine ⟨fun x hq hb => (Qg b5 S.imm), ?_⟩
      refine Zd Y Y Y (Jp (xs := ([] ++ ((Qw (l0.take k)).take j)) ++ [a0]) E S Y Y Y JE d6 (by first | omega | (simp; done) | (simp; omega) | (simp_all; omega)) ?_)
      clear E a S; rintro a w r4 E S
      refine ⟨fun x hq hb => (Qg b5 S.imm), ?_⟩
      refine Qo E Y (fun w hC => (Qy E Y)) ?_
      clear E a; intro a E
      refine Jv (Ju ?_)
      refine yY (QY (m := ((k + 1 : Nat) : Int)) E Y Y fun _ B => Qq B Y ?_)
      clear E a B; intro a E
      refine Jx ?_
      replace S := S.re1 (l' := Qw (l0.take (k + 1))) (by first | (simp [Qw]; done) | (rw [QE (by assumption), ← JZ (j := j) hsu.1 (by intro y hy; have h9 := a1 y hy; rw [show l0[k]? = some _ by assumption] at h9; exact h9) (by (first | (left; omega) | (right; exact ⟨_, by assumption, by assumption, by assumption⟩)))]; done) | (rw [QE (by assumption), ← JZ (j := j) hsu.1 (by intro y hy; have h9 := a1 y hy; rw [show l0[k]? = some _ by assumption] at h9; exact h9) (by (first | (left; omega) | (right; exact ⟨_, by assumption, by assumption, by assumption⟩)))]; simp; done) | (exfalso; omega) | (rw [QE (by assumption), ZO (by assumption) (by assumption)]))
      exact ⟨k + 1, ⟨f9, _, (a3.trans (a4.trans b5)), S, E.keep ⟨Y, Y, Y, Y, trivial⟩, by ((try clear S); (try clear E); first | assumption | omega | rfl | (simp; done) | (simp_all; done) | (simp [List.take_add_one, *]; done) | grind [List.take_add_one])⟩, by omega⟩
     ·replace S := S.mono_heap (w' := World.drew _) rfl
      refine YN (C := fun x w => agree a2 w) (bf := (fun i => [])) [1, 2, 3, 5, 8, 9, 10, 12] [1, 2, 3, 5, 8, 9, 10, 0, 6, 4, 7, 11, 12] (by kernel_rfl) (fun x hq => S.imm) ?_
      refine Qo E Y (fun w hC => (Qi E Y)) fun _ B => Qo B Y (fun w hC => (Qi B Y)) ?_
      clear E a B; intro a E
      have S0 := S; clear S
      obtain ⟨g1, b6, g2, S⟩ := S0.freezeI (by (first | omega | (simp; omega) | (simp; done) | (simp_all; omega) | grind))
      clear S0
      obtain ⟨k9, l1, d7⟩ := g2.subv 0 j (by first | omega | (simp; done) | (simp; omega) | (simp_all; omega)) (by first | omega | (simp; done) | (simp; omega) | (simp_all; omega))
      simp only [List.drop_zero] at d7
      replace d7 : Zh g1 k9 ((Qw (l0.take k)).take j) := d7
      refine Qo E Y (fun w hC => (ZW E Y Y JE l1 (by omega))) fun _ B => Qo B Y (fun w hC => (Qi B Y)) fun _ D => Qo D Y (fun w hC => (Qi D Y)) fun _ F => Qo F Y (fun w hC => (Qi F Y)) ?_
      clear E a B D F; intro a E
      obtain ⟨l2, l3, d8⟩ := g2.subv j ((Qw (l0.take k)).length) (by first | omega | (simp; done) | (simp; omega) | (simp_all; omega)) (by first | omega | (simp; done) | (simp; omega) | (simp_all; omega))
      simp only [List.take_length] at d8
      replace d8 : Zh g1 l2 ((Qw (l0.take k)).drop j) := d8
      refine Qo E Y (fun w hC => (ZV E Y Y JE g2.len l3 (by omega))) ?_
      clear E a; intro a E
      refine Zd Y Y Y (Jf (ys := []) E S Y JE Y Y Y ?_)
      clear E a S; rintro a w r5 E S
      refine ⟨fun x hq hb => (Qg b6 S.imm), ?_⟩
      refine Zd Y Y Y (Jf (ys := [a0]) E S Y JE Y Y Y ?_)
      clear E a S; rintro a w r6 E S
      refine ⟨fun x hq hb => (Qg b6 S.imm), ?_⟩
      replace S := S.front1
      refine Zd Y Y Y (Jp (xs := ([] : List Int)) E S Y Y Y JE d7 (by first | omega | (simp; done) | (simp; omega) | (simp_all; omega)) ?_)
      clear E a S; rintro a w r7 E S
      refine ⟨fun x hq hb => (Qg b6 S.imm), ?_⟩
      replace S := S.front1
      refine Zd Y Y Y (JS (xs := [] ++ ((Qw (l0.take k)).take j)) (ys := [a0]) E S Y Y Y JE (by first | omega | (simp; done) | (simp; omega) | (simp_all; omega)) ?_)
      clear E a S; rintro a w r8 E S
      refine ⟨fun x hq hb => (Qg b6 S.imm), ?_⟩
      refine Zd Y Y Y (Jp (xs := ([] ++ ((Qw (l0.take k)).take j)) ++ [a0]) E S Y Y Y JE d8 (by first | omega | (simp; done) | (simp; omega) | (simp_all; omega)) ?_)
      clear E a S; rintro a w r9 E S
      refine ⟨fun x hq hb => (Qg b6 S.imm), ?_⟩
      refine Qo E Y (fun w hC => (Qy E Y)) ?_
      clear E a; intro a E
      refine Jv (Ju ?_)
      refine yY (QY (m := ((k + 1 : Nat) : Int)) E Y Y fun _ B => Qq B Y ?_)
      clear E a B; intro a E
      refine Jx ?_
      replace S := S.re1 (l' := Qw (l0.take (k + 1))) (by first | (simp [Qw]; done) | (rw [QE (by assumption), ← JZ (j := j) hsu.1 (by intro y hy; have h9 := a1 y hy; rw [show l0[k]? = some _ by assumption] at h9; exact h9) (by (first | (left; omega) | (right; exact ⟨_, by assumption, by assumption, by assumption⟩)))]; done) | (rw [QE (by assumption), ← JZ (j := j) hsu.1 (by intro y hy; have h9 := a1 y hy; rw [show l0[k]? = some _ by assumption] at h9; exact h9) (by (first | (left; omega) | (right; exact ⟨_, by assumption, by assumption, by assumption⟩)))]; simp; done) | (exfalso; omega) | (rw [QE (by assumption), ZO (by assumption) (by assumption)]))
      exact ⟨k + 1, ⟨g1, _, (a3.trans (a4.trans b6)), S, E.keep ⟨Y, Y, Y, Y, trivial⟩, by ((try clear S); (try clear E); first | assumption | omega | rfl | (simp; done) | (simp_all; done) | (simp [List.take_add_one, *]; done) | grind [List.take_add_one])⟩, by omega⟩
    ·replace S := S.mono_heap (w' := World.drew _) rfl
     refine YN (C := fun x w => agree a2 w) (bf := (fun i => [])) [1, 2, 3, 5, 8, 9, 10, 12] [1, 2, 3, 5, 8, 9, 10, 6, 0, 4, 7, 11, 12] (by kernel_rfl) (fun x hq => S.imm) ?_
     refine Qo E Y (fun w hC => (Qi E Y)) fun _ B => Qo B Y (fun w hC => (Qi B Y)) ?_
     clear E a B; intro a E
     have S0 := S; clear S
     obtain ⟨g3, b7, g4, S⟩ := S0.freezeI (by (first | omega | (simp; omega) | (simp; done) | (simp_all; omega) | grind))
     clear S0
     obtain ⟨l4, l5, d9⟩ := g4.subv 0 j (by first | omega | (simp; done) | (simp; omega) | (simp_all; omega)) (by first | omega | (simp; done) | (simp; omega) | (simp_all; omega))
     simp only [List.drop_zero] at d9
     replace d9 : Zh g3 l4 ((Qw (l0.take k)).take j) := d9
     refine Qo E Y (fun w hC => (ZW E Y Y JE l5 (by omega))) fun _ B => Qo B Y (fun w hC => (Qi B Y)) fun _ D => Qo D Y (fun w hC => (Qi D Y)) fun _ F => Qo F Y (fun w hC => (Qi F Y)) ?_
     clear E a B D F; intro a E
     obtain ⟨l6, l7, e0⟩ := g4.subv j ((Qw (l0.take k)).length) (by first | omega | (simp; done) | (simp; omega) | (simp_all; omega)) (by first | omega | (simp; done) | (simp; omega) | (simp_all; omega))
     simp only [List.take_length] at e0
     replace e0 : Zh g3 l6 ((Qw (l0.take k)).drop j) := e0
     refine Qo E Y (fun w hC => (ZV E Y Y JE g4.len l7 (by omega))) ?_
     clear E a; intro a E
     refine Zd Y Y Y (Jf (ys := [a0]) E S Y JE Y Y Y ?_)
     clear E a S; rintro a w s0 E S
     refine ⟨fun x hq hb => (Qg b7 S.imm), ?_⟩
     refine Zd Y Y Y (Jf (ys := []) E S Y JE Y Y Y ?_)
     clear E a S; rintro a w s1 E S
     refine ⟨fun x hq hb => (Qg b7 S.imm), ?_⟩
     refine Zd Y Y Y (Jp (xs := ([] : List Int)) E S Y Y Y JE d9 (by first | omega | (simp; done) | (simp; omega) | (simp_all; omega)) ?_)
     clear E a S; rintro a w s2 E S
     refine ⟨fun x hq hb => (Qg b7 S.imm), ?_⟩
     replace S := S.front1
     refine Zd Y Y Y (JS (xs := [] ++ ((Qw (l0.take k)).take j)) (ys := [a0]) E S Y Y Y JE (by first | omega | (simp; done) | (simp; omega) | (simp_all; omega)) ?_)
     clear E a S; rintro a w s3 E S
     refine ⟨fun x hq hb => (Qg b7 S.imm), ?_⟩
     refine Zd Y Y Y (Jp (xs := ([] ++ ((Qw (l0.take k)).take j)) ++ [a0]) E S Y Y Y JE e0 (by first | omega | (simp; done) | (simp; omega) | (simp_all; omega)) ?_)
     clear E a S; rintro a w s4 E S
     refine ⟨fun x hq hb => (Qg b7 S.imm), ?_⟩
     refine Qo E Y (fun w hC => (Qy E Y)) ?_
     clear E a; intro a E
     refine Jv (Ju ?_)
     refine yY (QY (m := ((k + 1 : Nat) : Int)) E Y Y fun _ B => Qq B Y ?_)
     clear E a B; intro a E
     refine Jx ?_
     replace S := S.re1 (l' := Qw (l0.take (k + 1))) (by first | (simp [Qw]; done) | (rw [QE (by assumption), ← JZ (j := j) hsu.1 (by intro y hy; have h9 := a1 y hy; rw [show l0[k]? = some _ by assumption] at h9; exact h9) (by (first | (left; omega) | (right; exact ⟨_, by assumption, by assumption, by assumption⟩)))]; done) | (rw [QE (by assumption), ← JZ (j := j) hsu.1 (by intro y hy; have h9 := a1 y hy; rw [show l0[k]? = some _ by assumption] at h9; exact h9) (by (first | (left; omega) | (right; exact ⟨_, by assumption, by assumption, by assumption⟩)))]; simp; done) | (exfalso; omega) | (rw [QE (by assumption), ZO (by assumption) (by assumption)]))
     exact ⟨k + 1, ⟨g3, _, (a3.trans (a4.trans b7)), S, E.keep ⟨Y, Y, Y, Y, trivial⟩, by ((try clear S); (try clear E); first | assumption | omega | rfl | (simp; done) | (simp_all; done) | (simp [List.take_add_one, *]; done) | grind [List.take_add_one])⟩, by omega⟩
   ·replace E := E.val (t := 30) Y a7
    replace E := E.val (t := 31) Y a7
    replace a7 := of_decide_eq_false a7
    refine Qc E Y Y (Qq E Y fun _ B => Qc B Y Y (Qq B Y ?_))
    clear E a B; intro a E
    obtain ⟨s5, h3⟩ := S.ptrC (k := j) (by first | omega | (simp; done) | (simp; omega) | (simp_all; omega))
    refine Qc E Y Y (Yh E Y Y JE h3 Y ?_)
    clear E a; intro a E
    obtain ⟨s6, l8⟩ : ∃ x, (Qw (l0.take k))[j]? = some x := ⟨_, List.getElem?_eq_getElem (by first | omega | (simp; done) | (simp; omega) | (simp_all; omega))⟩
    refine Qc E Y Y (JD E Y (Tryz.isAgg3 _) (S.cellI h3 l8) fun _ B => Qc B Y Y (Qq B Y fun _ D => Qc D Y Y (WZ D Y Y fun _ F => QU F Y Y ?_)))
    clear E a B D F; intro a E
    refine Jx ?_
    refine QJ E Y (fun l9 => ?_) (fun l9 => ?_)
    ·refine UT Tryz.mixed ?_
     refine Vk 0 6 (by decide) (by kernel_rfl) ?_ ?_
     ·refine Vk 4 6 (by decide) (by kernel_rfl) ?_ ?_
      ·replace S := S.mono_heap (w' := World.drew _) rfl
       refine YN (C := fun x w => agree a2 w) (bf := (fun i => [])) [1, 2, 3, 5, 8, 9, 10, 12] [1, 2, 3, 5, 8, 9, 10, 0, 4, 6, 7, 11, 12] (by kernel_rfl) (fun x hq => S.imm) ?_
       refine Qo E Y (fun w hC => (Qi E Y)) fun _ B => Qo B Y (fun w hC => (Qi B Y)) ?_
       clear E a B; intro a E
       have S0 := S; clear S
       obtain ⟨g5, b8, g6, S⟩ := S0.freezeI (by (first | omega | (simp; omega) | (simp; done) | (simp_all; omega) | grind))
       clear S0
       obtain ⟨m0, m1, e1⟩ := g6.subv 0 j (by first | omega | (simp; done) | (simp; omega) | (simp_all; omega)) (by first | omega | (simp; done) | (simp; omega) | (simp_all; omega))
       simp only [List.drop_zero] at e1
       replace e1 : Zh g5 m0 ((Qw (l0.take k)).take j) := e1
       refine Qo E Y (fun w hC => (ZW E Y Y JE m1 (by omega))) fun _ B => Qo B Y (fun w hC => (Qi B Y)) fun _ D => Qo D Y (fun w hC => (Qi D Y)) fun _ F => Qo F Y (fun w hC => (Qi F Y)) ?_
       clear E a B D F; intro a E
       obtain ⟨m2, m3, e2⟩ := g6.subv j ((Qw (l0.take k)).length) (by first | omega | (simp; done) | (simp; omega) | (simp_all; omega)) (by first | omega | (simp; done) | (simp; omega) | (simp_all; omega))
       simp only [List.take_length] at e2
       replace e2 : Zh g5 m2 ((Qw (l0.take k)).drop j) := e2
       refine Qo E Y (fun w hC => (ZV E Y Y JE g6.len m3 (by omega))) ?_
       clear E a; intro a E
       refine Zd Y Y Y (Jf (ys := []) E S Y JE Y Y Y ?_)
       clear E a S; rintro a w s7 E S
       refine ⟨fun x hq hb => (Qg b8 S.imm), ?_⟩
       refine Zd Y Y Y (Jp (xs := ([] : List Int)) E S Y Y Y JE e1 (by first | omega | (simp; done) | (simp; omega) | (simp_all; omega)) ?_)
       clear E a S; rintro a w s8 E S
       refine ⟨fun x hq hb => (Qg b8 S.imm), ?_⟩
       refine Zd Y Y Y (Jf (ys := [a0]) E S Y JE Y Y Y ?_)
       clear E a S; rintro a w s9 E S
       refine ⟨fun x hq hb => (Qg b8 S.imm), ?_⟩
       replace S := S.front1.front1
       refine Zd Y Y Y (JS (xs := [] ++ ((Qw (l0.take k)).take j)) (ys := [a0]) E S Y Y Y JE (by first | omega | (simp; done) | (simp; omega) | (simp_all; omega)) ?_)
       clear E a S; rintro a w t0 E S
       refine ⟨fun x hq hb => (Qg b8 S.imm), ?_⟩
       refine Zd Y Y Y (Jp (xs := ([] ++ ((Qw (l0.take k)).take j)) ++ [a0]) E S Y Y Y JE e2 (by first | omega | (simp; done) | (simp; omega) | (simp_all; omega)) ?_)
       clear E a S; rintro a w t1 E S
       refine ⟨fun x hq hb => (Qg b8 S.imm), ?_⟩
       refine Qo E Y (fun w hC => (Qy E Y)) ?_
       clear E a; intro a E
       refine Jv (Ju ?_)
       refine yY (QY (m := ((k + 1 : Nat) : Int)) E Y Y fun _ B => Qq B Y ?_)
       clear E a B; intro a E
       refine Jx ?_
       replace S := S.re1 (l' := Qw (l0.take (k + 1))) (by first | (simp [Qw]; done) | (rw [QE (by assumption), ← JZ (j := j) hsu.1 (by intro y hy; have h9 := a1 y hy; rw [show l0[k]? = some _ by assumption] at h9; exact h9) (by (first | (left; omega) | (right; exact ⟨_, by assumption, by assumption, by assumption⟩)))]; done) | (rw [QE (by assumption), ← JZ (j := j) hsu.1 (by intro y hy; have h9 := a1 y hy; rw [show l0[k]? = some _ by assumption] at h9; exact h9) (by (first | (left; omega) | (right; exact ⟨_, by assumption, by assumption, by assumption⟩)))]; simp; done) | (exfalso; omega) | (rw [QE (by assumption), ZO (by assumption) (by assumption)]))
       exact ⟨k + 1, ⟨g5, _, (a3.trans (a4.trans b8)), S, E.keep ⟨Y, Y, Y, Y, trivial⟩, by ((try clear S); (try clear E); first | assumption | omega | rfl | (simp; done) | (simp_all; done) | (simp [List.take_add_one, *]; done) | grind [List.take_add_one])⟩, by omega⟩
      ·replace S := S.mono_heap (w' := World.drew _) rfl
       refine YN (C := fun x w => agree a2 w) (bf := (fun i => [])) [1, 2, 3, 5, 8, 9, 10, 12] [1, 2, 3, 5, 8, 9, 10, 0, 6, 4, 7, 11, 12] (by kernel_rfl) (fun x hq => S.imm) ?_
       refine Qo E Y (fun w hC => (Qi E Y)) fun _ B => Qo B Y (fun w hC => (Qi B Y)) ?_
       clear E a B; intro a E
       have S0 := S; clear S
       obtain ⟨g7, b9, g8, S⟩ := S0.freezeI (by (first | omega | (simp; omega) | (simp; done) | (simp_all; omega) | grind))
       clear S0
       obtain ⟨m4, m5, e3⟩ := g8.subv 0 j (by first | omega | (simp; done) | (simp; omega) | (simp_all; omega)) (by first | omega | (simp; done) | (simp; omega) | (simp_all; omega))
       simp only [List.drop_zero] at e3
       replace e3 : Zh g7 m4 ((Qw (l0.take k)).take j) := e3
       refine Qo E Y (fun w hC => (ZW E Y Y JE m5 (by omega))) fun _ B => Qo B Y (fun w hC => (Qi B Y)) fun _ D => Qo D Y (fun w hC => (Qi D Y)) fun _ F => Qo F Y (fun w hC => (Qi F Y)) ?_
       clear E a B D F; intro a E
       obtain ⟨m6, m7, e4⟩ := g8.subv j ((Qw (l0.take k)).length) (by first | omega | (simp; done) | (simp; omega) | (simp_all; omega)) (by first | omega | (simp; done) | (simp; omega) | (simp_all; omega))
       simp only [List.take_length] at e4
       replace e4 : Zh g7 m6 ((Qw (l0.take k)).drop j) := e4
       refine Qo E Y (fun w hC => (ZV E Y Y JE g8.len m7 (by omega))) ?_
       clear E a; intro a E
       refine Zd Y Y Y (Jf (ys := []) E S Y JE Y Y Y ?_)
       clear E a S; rintro a w t2 E S
       refine ⟨fun x hq hb => (Qg b9 S.imm), ?_⟩
       refine Zd Y Y Y (Jf (ys := [a0]) E S Y JE Y Y Y ?_)
       clear E a S; rintro a w t3 E S
       refine ⟨fun x hq hb => (Qg b9 S.imm), ?_⟩
       replace S := S.front1
       refine Zd Y Y Y (Jp (xs := ([] : List Int)) E S Y Y Y JE e3 (by first | omega | (simp; done) | (simp; omega) | (simp_all; omega)) ?_)
       clear E a S; rintro a w t4 E S
       refine ⟨fun x hq hb => (Qg b9 S.imm), ?_⟩
       replace S := S.front1
       refine Zd Y Y Y (JS (xs := [] ++ ((Qw (l0.take k)).take j)) (ys := [a0]) E S Y Y Y JE (by first | omega | (simp; done) | (simp; omega) | (simp_all; omega)) ?_)
       clear E a S; rintro a w t5 E S
       refine ⟨fun x hq hb => (Qg b9 S.imm), ?_⟩
       refine Zd Y Y Y (Jp (xs := ([] ++ ((Qw (l0.take k)).take j)) ++ [a0]) E S Y Y Y JE e4 (by first | omega | (simp; done) | (simp; omega) | (simp_all; omega)) ?_)
       clear E a S; rintro a w t6 E S
       refine ⟨fun x hq hb => (Qg b9 S.imm), ?_⟩
       refine Qo E Y (fun w hC => (Qy E Y)) ?_
       clear E a; intro a E
       refine Jv (Ju ?_)
       refine yY (QY (m := ((k + 1 : Nat) : Int)) E Y Y fun _ B => Qq B Y ?_)
       clear E a B; intro a E
       refine Jx ?_
       replace S := S.re1 (l' := Qw (l0.take (k + 1))) (by first | (simp [Qw]; done) | (rw [QE (by assumption), ← JZ (j := j) hsu.1 (by intro y hy; have h9 := a1 y hy; rw [show l0[k]? = some _ by assumption] at h9; exact h9) (by (first | (left; omega) | (right; exact ⟨_, by assumption, by assumption, by assumption⟩)))]; done) | (rw [QE (by assumption), ← JZ (j := j) hsu.1 (by intro y hy; have h9 := a1 y hy; rw [show l0[k]? = some _ by assumption] at h9; exact h9) (by (first | (left; omega) | (right; exact ⟨_, by assumption, by assumption, by assumption⟩)))]; simp; done) | (exfalso; omega) | (rw [QE (by assumption), ZO (by assumption) (by assumption)]))
       exact ⟨k + 1, ⟨g7, _, (a3.trans (a4.trans b9)), S, E.keep ⟨Y, Y, Y, Y, trivial⟩, by ((try clear S); (try clear E); first | assumption | omega | rfl | (simp; done) | (simp_all; done) | (simp [List.take_add_one, *]; done) | grind [List.take_add_one])⟩, by omega⟩
     ·replace S := S.mono_heap (w' := World.drew _) rfl
      refine YN (C := fun x w => agree a2 w) (bf := (fun i => [])) [1, 2, 3, 5, 8, 9, 10, 12] [1, 2, 3, 5, 8, 9, 10, 6, 0, 4, 7, 11, 12] (by kernel_rfl) (fun x hq => S.imm) ?_
      refine Qo E Y (fun w hC => (Qi E Y)) fun _ B => Qo B Y (fun w hC => (Qi B Y)) ?_
      clear E a B; intro a E
      have S0 := S; clear S
      obtain ⟨g9, c0, h1, S⟩ := S0.freezeI (by (first | omega | (simp; omega) | (simp; done) | (simp_all; omega) | grind))
      clear S0
      obtain ⟨m8, m9, e5⟩ := h1.subv 0 j (by first | omega | (simp; done) | (simp; omega) | (simp_all; omega)) (by first | omega | (simp; done) | (simp; omega) | (simp_all; omega))
      simp only [List.drop_zero] at e5
      replace e5 : Zh g9 m8 ((Qw (l0.take k)).take j) := e5
      refine Qo E Y (fun w hC => (ZW E Y Y JE m9 (by omega))) fun _ B => Qo B Y (fun w hC => (Qi B Y)) fun _ D => Qo D Y (fun w hC => (Qi D Y)) fun _ F => Qo F Y (fun w hC => (Qi F Y)) ?_
      clear E a B D F; intro a E
      obtain ⟨n0, n1, e6⟩ := h1.subv j ((Qw (l0.take k)).length) (by first | omega | (simp; done) | (simp; omega) | (simp_all; omega)) (by first | omega | (simp; done) | (simp; omega) | (simp_all; omega))
      simp only [List.take_length] at e6
      replace e6 : Zh g9 n0 ((Qw (l0.take k)).drop j) := e6
      refine Qo E Y (fun w hC => (ZV E Y Y JE h1.len n1 (by omega))) ?_
      clear E a; intro a E
      refine Zd Y Y Y (Jf (ys := [a0]) E S Y JE Y Y Y ?_)
      clear E a S; rintro a w t7 E S
      refine ⟨fun x hq hb => (Qg c0 S.imm), ?_⟩
      refine Zd Y Y Y (Jf (ys := []) E S Y JE Y Y Y ?_)
      clear E a S; rintro a w t8 E S
      refine ⟨fun x hq hb => (Qg c0 S.imm), ?_⟩
      refine Zd Y Y Y (Jp (xs := ([] : List Int)) E S Y Y Y JE e5 (by first | omega | (simp; done) | (simp; omega) | (simp_all; omega)) ?_)
      clear E a S; rintro a w t9 E S
      refine ⟨fun x hq hb => (Qg c0 S.imm), ?_⟩
      replace S := S.front1
      refine Zd Y Y Y (JS (xs := [] ++ ((Qw (l0.take k)).take j)) (ys := [a0]) E S Y Y Y JE (by first | omega | (simp; done) | (simp; omega) | (simp_all; omega)) ?_)
      clear E a S; rintro a w u0 E S
      refine ⟨fun x hq hb => (Qg c0 S.imm), ?_⟩
      refine Zd Y Y Y (Jp (xs := ([] ++ ((Qw (l0.take k)).take j)) ++ [a0]) E S Y Y Y JE e6 (by first | omega | (simp; done) | (simp; omega) | (simp_all; omega)) ?_)
      clear E a S; rintro a w u1 E S
      refine ⟨fun x hq hb => (Qg c0 S.imm), ?_⟩
      refine Qo E Y (fun w hC => (Qy E Y)) ?_
      clear E a; intro a E
      refine Jv (Ju ?_)
      refine yY (QY (m := ((k + 1 : Nat) : Int)) E Y Y fun _ B => Qq B Y ?_)
      clear E a B; intro a E
      refine Jx ?_
      replace S := S.re1 (l' := Qw (l0.take (k + 1))) (by first | (simp [Qw]; done) | (rw [QE (by assumption), ← JZ (j := j) hsu.1 (by intro y hy; have h9 := a1 y hy; rw [show l0[k]? = some _ by assumption] at h9; exact h9) (by (first | (left; omega) | (right; exact ⟨_, by assumption, by assumption, by assumption⟩)))]; done) | (rw [QE (by assumption), ← JZ (j := j) hsu.1 (by intro y hy; have h9 := a1 y hy; rw [show l0[k]? = some _ by assumption] at h9; exact h9) (by (first | (left; omega) | (right; exact ⟨_, by assumption, by assumption, by assumption⟩)))]; simp; done) | (exfalso; omega) | (rw [QE (by assumption), ZO (by assumption) (by assumption)]))
      exact ⟨k + 1, ⟨g9, _, (a3.trans (a4.trans c0)), S, E.keep ⟨Y, Y, Y, Y, trivial⟩, by ((try clear S); (try clear E); first | assumption | omega | rfl | (simp; done) | (simp_all; done) | (simp [List.take_add_one, *]; done) | grind [List.take_add_one])⟩, by omega⟩
    ·refine qc (QY (m := ((k + 1 : Nat) : Int)) E Y Y fun _ B => Qq B Y ?_)
     clear E a B; intro a E
     refine Jx ?_
     replace S := S.re1 (l' := Qw (l0.take (k + 1))) (by first | (simp [Qw]; done) | (rw [QE (by assumption), ← JZ (j := j) hsu.1 (by intro y hy; have h9 := a1 y hy; rw [show l0[k]? = some _ by assumption] at h9; exact h9) (by (first | (left; omega) | (right; exact ⟨_, by assumption, by assumption, by assumption⟩)))]; done) | (rw [QE (by assumption), ← JZ (j := j) hsu.1 (by intro y hy; have h9 := a1 y hy; rw [show l0[k]? = some _ by assumption] at h9; exact h9) (by (first | (left; omega) | (right; exact ⟨_, by assumption, by assumption, by assumption⟩)))]; simp; done) | (exfalso; omega) | (rw [QE (by assumption), ZO (by assumption) (by assumption)]))
     exact ⟨k + 1, ⟨a2, _, (a3.trans a4), S, E.keep ⟨Y, Y, Y, Y, trivial⟩, by ((try clear S); (try clear E); first | assumption | omega | rfl | (simp; done) | (simp_all; done) | (simp [List.take_add_one, *]; done) | grind [List.take_add_one])⟩, by omega⟩
 ·refine Um (JR 2 E Y ?_)
  clear E a; intro a E
  refine JQ ?_
  have S0 := S; clear S
  obtain ⟨n2, n3, n4, S⟩ := S0.freezeI (by (first | omega | (simp; omega) | (simp; done) | (simp_all; omega) | grind))
  clear S0
  exact Qk E Tryz.results65 Y ⟨_, Y, n2, (a3.trans n3), (JN.eqL n4 (by (rw [List.take_of_length_le (by omega)]))), S⟩
theorem Va {M : Hp} {v0 v1 : Value} {l0 l1 : List Int} (h0 : Zh M v0 l0) (h1 : Zh M v1 l1)(hb : l0.length + l1.length ≤ 1000000000)  :
  Pu Tryz.prog (.func (.func 66) #[] #[]) M [v0, v1] (fun r M' => Zh M' r (Qw (l0 ++ l1))) := by
 refine Jt Tryz.func66 Y Tryz.ntmps66 Y Tryz.call66 ?_
 intro a w M1 H hM1 S E
 replace h0 := h0.le hM1
 replace h1 := h1.le hM1
 have b0 := h0.bound
 have b1 := h1.bound
 refine QF (Qx E Y ?_)
 clear E a; intro a E
 refine QZ ?_
 refine QB (Jf (ys := []) E S Y JE Y Y Y ?_)
 clear E a S; rintro a w a5 E S
 refine Qq E Y ?_
 clear E a; intro a E
 refine QB (Jp (xs := ([] : List Int)) E S Y Y Y JE h0 (by (first | omega | (simp only [List.length_append, List.length_cons, List.length_nil]; omega) | (simp; omega))) ?_)
 clear E a S; rintro a w a6 E S
 refine Qq E Y ?_
 clear E a; intro a E
 refine QB (Jp (xs := [] ++ l0) E S Y Y Y JE h1 (by (first | omega | (simp only [List.length_append, List.length_cons, List.length_nil]; omega) | (simp; omega))) ?_)
 clear E a S; rintro a w a7 E S
 have S0 := S; clear S
 obtain ⟨a8, a0, a1, S⟩ := S0.freezeI (by (first | omega | (simp only [List.length_append, List.length_cons, List.length_nil]; omega) | (simp; omega)))
 clear S0
 refine QB (Jm E S Y Y Y (YR a1 (by first | omega | (simp; omega) | (simp only [List.length_append, List.length_cons, List.length_nil]; omega))) lerf ?_)
 clear E a S; rintro a a9 w a2 a3 a4 S E
 refine Qx E Y ?_
 clear E a; intro a E
 refine JQ ?_
 exact Qk E Tryz.results66 Y ⟨_, Y, a2, (a0.trans a3), (JN.eqL a4 (by ((try clear S); (try clear E); first | rfl | (simp; done) | (simp_all; done) | grind [List.take_add_one]))), S⟩
theorem WM {M : Hp} {v0 : Value} {l0 : List Int} (h0 : Zh M v0 l0){x1 : Int} :
  Pu Tryz.prog (.func (.func 67) #[] #[]) M [v0, .int .i64 x1] (fun r M' => r = .bool (decide (x1 ∈ l0))) := by
 refine Jt Tryz.func67 Y Tryz.ntmps67 Y Tryz.call67 ?_
 intro a w M1 H hM1 S E
 replace h0 := h0.le hM1
 have b0 := h0.bound
 refine QF (Qx E Y fun _ B => VM (Qq B Y fun _ C => Jl C Y JE h0.len fun _ D => Qq D Y ?_))
 clear E a B C D; intro a E
 refine VJ ?_
 refine Jb (γ := Nat) (fun (k : Nat) a w => ∃ (a0 : Hp), Hp.le M1 a0 ∧ St w a0 (H) ∧ Env a 18 [] [(0, v0), (1, .int .i64 x1), (7, .int .i64 (((l0).length : Nat) : Int)), (8, .int .i64 ((k : Nat) : Int))] ∧ (k ≤ (l0).length) ∧ (x1 ∉ l0.take k)) (fun k => ((l0).length) - k) 0 ⟨M1, lerf, S, E.keep ⟨Y, Y, Y, Y, trivial⟩, by ((try clear S); (try clear E); first | assumption | omega | rfl | (simp; done) | (simp_all; done) | (simp [List.take_add_one, *]; done) | grind [List.take_add_one]), by ((try clear S); (try clear E); first | assumption | omega | rfl | (simp; done) | (simp_all; done) | (simp [List.take_add_one, *]; done) | grind [List.take_add_one])⟩ ?_
 try clear E
 try clear S
 try clear a
 try clear w
 rintro k a w ⟨a0, a1, S, E, a8, a2⟩
 replace h0 := h0.le a1
 refine QF (ZG E Y Y ?_)
 clear E a; intro a E
 refine ZB ?_
 refine QJ E Y (fun a3 => ?_) (fun a3 => ?_)
 ·refine zC (JR 2 E Y fun _ B => QZ (JR 2 B Y ?_))
  clear E a B; intro a E
  obtain ⟨a9, a4⟩ : ∃ x, (l0)[k]? = some x := ⟨_, List.getElem?_eq_getElem (by first | omega | (simp; done) | (simp; omega) | (simp_all; omega))⟩
  obtain ⟨b1, a5, a6⟩ := h0.at a4
  refine Yh E Y Y JE a5 Y fun _ B => Qz B Y Tryz.isAgg3 S.imm a6 fun _ C => Qq C Y fun _ D => Jh D Y Y ?_
  clear E a B C D; intro a E
  refine Jx ?_
  refine QJ E Y (fun a7 => ?_) (fun a7 => ?_)
  ·refine QF (Qx E Y ?_)
   clear E a; intro a E
   refine J_s (jd (qW ?_))
   exact Qk E Tryz.results67 Y ⟨_, Y, a0, a1, (bT (by (refine List.mem_of_getElem? (i := k) ?_; simp_all))), S⟩
  ·refine qc (QY (m := ((k + 1 : Nat) : Int)) E Y Y fun _ B => Qq B Y ?_)
   clear E a B; intro a E
   refine Jx ?_
   exact ⟨k + 1, ⟨a0, a1, S, E.keep ⟨Y, Y, Y, Y, trivial⟩, by ((try clear S); (try clear E); first | assumption | omega | rfl | (simp; done) | (simp_all; done) | (simp [List.take_add_one, *]; done) | grind [List.take_add_one]), by ((try clear S); (try clear E); first | assumption | omega | rfl | (simp; done) | (simp_all; done) | (simp [List.take_add_one, *]; done) | grind [List.take_add_one])⟩, by omega⟩
 ·refine Um (Qx E Y ?_)
  clear E a; intro a E
  refine JQ ?_
  exact Qk E Tryz.results67 Y ⟨_, Y, a0, a1, (bF (by (rw [List.take_of_length_le (by omega)] at a2; exact a2))), S⟩
theorem Jr {M : Hp} {v0 v1 : Value} {l0 l1 : List Int} (h0 : Zh M v0 l0) (h1 : Zh M v1 l1)(hb : l0.length ≤ 1000000000)  :
  Pu Tryz.prog (.func (.func 68) #[] #[]) M [v0, v1] (fun r M' => Zh M' r (Ji l0 l1)) := by
 refine Jt Tryz.func68 Y Tryz.ntmps68 Y Tryz.call68 ?_
 intro a w M1 H hM1 S E
 replace h0 := h0.le hM1
 replace h1 := h1.le hM1
 have b0 := h0.bound
 have b1 := h1.bound
 have hsl0 := (Zu l0).2.2
 refine QF (Qx E Y fun _ B => QZ (Qx B Y fun _ C => VM (Qq C Y ?_)))
 clear E a B C; intro a E
 refine QB (Jm E S Y Y Y (YR h0 (by first | omega | (simp; omega) | (simp only [List.length_append, List.length_cons, List.length_nil]; omega))) lerf ?_)
 clear E a S; rintro a a8 w a3 a4 a1 S E
 replace h1 := h1.le a4
 refine Jl E Y JE a1.len fun _ B => Qq B Y ?_
 clear E a B; intro a E
 refine VJ ?_
 replace S := (S.ownNil (e := 3) (sz := 1)).made0
 replace S := S.re1 (l' := ((Qw l0).take 0).filter (fun z => decide (z ∉ l1))) (by first | rfl | (simp; done) | (rw [Vx (by assumption)]; simp [*]; done) | (rw [Vx (by assumption)]; simp_all; done))
 refine Jb (γ := Nat) (fun (k : Nat) a w => ∃ (a2 : Hp) (u5 : Value), Hp.le a3 a2 ∧ St w a2 (Zi 3 u5 (((Qw l0).take k).filter (fun z => decide (z ∉ l1))) :: H) ∧ Env a 25 [] [(1, v1), (5, u5), (9, a8), (10, .int .i64 (((Qw l0).length : Nat) : Int)), (11, .int .i64 ((k : Nat) : Int))] ∧ (k ≤ (Qw l0).length)) (fun k => ((Qw l0).length) - k) 0 ⟨a3, _, lerf, S, E.keep ⟨Y, Y, Y, Y, Y, trivial⟩, by ((try clear S); (try clear E); first | assumption | omega | rfl | (simp; done) | (simp_all; done) | (simp [List.take_add_one, *]; done) | grind [List.take_add_one])⟩ ?_
 try clear E
 try clear S
 try clear a
 try clear w
 rintro k a w ⟨a2, u5, a0, S, E, b9⟩
 replace h1 := h1.le a0
 replace a1 := a1.le a0
 have hfl := List.length_filter_le (fun z => decide (z ∉ l1)) ((Qw l0).take k); simp only [List.length_take] at hfl
 refine QF (ZG E Y Y ?_)
 clear E a; intro a E
 refine ZB ?_
 refine QJ E Y (fun a9 => ?_) (fun a9 => ?_)
 ·refine zC ?_
  obtain ⟨a5, b2⟩ : ∃ x, (Qw l0)[k]? = some x := ⟨_, List.getElem?_eq_getElem (by first | omega | (simp; done) | (simp; omega) | (simp_all; omega))⟩
  obtain ⟨c0, b3, b4⟩ := a1.at b2
  refine Yh E Y Y JE b3 Y fun _ B => Qz B Y Tryz.isAgg3 S.imm b4 fun _ C => Qx C Y fun _ D => QZ (JR 2 D Y ?_)
  clear E a B C D; intro a E
  refine QB (Jm E S Y Y Y (WM h1) lerf ?_)
  clear E a S; rintro a _ w a6 a7 rfl S E
  refine Zk E Y ?_
  clear E a; intro a E
  refine Jx ?_
  refine Yl E Y (fun b5 => ?_) (fun b5 => ?_)
  ·refine Qr ?_
   refine JR 2 E Y ?_
   clear E a; intro a E
   refine QB (Jf (ys := [a5]) E S Y JE Y Y Y ?_)
   clear E a S; rintro a w c1 E S
   replace S := S.front1.front1
   refine QB (JS (xs := ((Qw l0).take k).filter (fun z => decide (z ∉ l1))) (ys := [a5]) E S Y Y Y JE (by (first | omega | (simp only [List.length_append, List.length_cons, List.length_nil]; omega) | (simp; omega))) ?_)
   clear E a S; rintro a w c2 E S
   refine Qx E Y fun _ B => J_k (QY (m := ((k + 1 : Nat) : Int)) B Y Y fun _ C => Qq C Y ?_)
   clear E a B C; intro a E
   refine Jx ?_
   replace S := S.re1 (l' := ((Qw l0).take (k + 1)).filter (fun z => decide (z ∉ l1))) (by first | rfl | (simp; done) | (rw [Vx (by assumption)]; simp [*]; done) | (rw [Vx (by assumption)]; simp_all; done))
   exact ⟨k + 1, ⟨a6, _, (a0.trans a7), S, E.keep ⟨Y, Y, Y, Y, Y, trivial⟩, by ((try clear S); (try clear E); first | assumption | omega | rfl | (simp; done) | (simp_all; done) | (simp [List.take_add_one, *]; done) | grind [List.take_add_one])⟩, by omega⟩
  ·refine Ja ?_
   refine yY (QY (m := ((k + 1 : Nat) : Int)) E Y Y fun _ B => Qq B Y ?_)
   clear E a B; intro a E
   refine Jx ?_
   replace S := S.re1 (l' := ((Qw l0).take (k + 1)).filter (fun z => decide (z ∉ l1))) (by first | rfl | (simp; done) | (rw [Vx (by assumption)]; simp [*]; done) | (rw [Vx (by assumption)]; simp_all; done))
   exact ⟨k + 1, ⟨a6, _, (a0.trans a7), S, E.keep ⟨Y, Y, Y, Y, Y, trivial⟩, by ((try clear S); (try clear E); first | assumption | omega | rfl | (simp; done) | (simp_all; done) | (simp [List.take_add_one, *]; done) | grind [List.take_add_one])⟩, by omega⟩
 ·refine Um (JR 2 E Y ?_)
  clear E a; intro a E
  refine JQ ?_
  have S0 := S; clear S
  obtain ⟨b6, b7, b8, S⟩ := S0.freezeI (by (first | omega | (simp only [List.length_append, List.length_cons, List.length_nil]; omega) | (simp; omega)))
  clear S0
  exact Qk E Tryz.results68 Y ⟨_, Y, b6, (a4.trans (a0.trans b7)), (JN.eqL b8 (by (rw [List.take_of_length_le (by omega)]; rfl))), S⟩
theorem Zo {M : Hp} {v0 v1 : Value} {l0 l1 : List Int} (h0 : Zh M v0 l0) (h1 : Zh M v1 l1)(hb : l0.length ≤ 1000000000)  :
  Pu Tryz.prog (.func (.func 69) #[] #[]) M [v0, v1] (fun r M' => Zh M' r (ZD l0 l1)) := by
 refine Jt Tryz.func69 Y Tryz.ntmps69 Y Tryz.call69 ?_
 intro a w M1 H hM1 S E
 replace h0 := h0.le hM1
 replace h1 := h1.le hM1
 have b0 := h0.bound
 have b1 := h1.bound
 refine QF (Qx E Y fun _ B => QZ (JR 3 B Y ?_))
 clear E a B; intro a E
 refine QB (Jm E S Y Y Y (Jr h0 h1 (by first | omega | (simp; omega) | (simp only [List.length_append, List.length_cons, List.length_nil]; omega))) lerf ?_)
 clear E a S; rintro a a5 w a6 a0 a1 S E
 replace h0 := h0.le a0
 refine QB (Jm E S Y Y Y (Jr h0 a1 (by first | omega | (simp; omega) | (simp only [List.length_append, List.length_cons, List.length_nil]; omega))) lerf ?_)
 clear E a S; rintro a a7 w a2 a3 a4 S E
 refine Qx E Y ?_
 clear E a; intro a E
 refine JQ ?_
 exact Qk E Tryz.results69 Y ⟨_, Y, a2, (a0.trans a3), (JN.eqL a4 (by (rfl))), S⟩
theorem WJ {M : Hp} {v0 v1 : Value} {l0 l1 : List Int} (h0 : Zh M v0 l0) (h1 : Zh M v1 l1)(hb : l0.length + l1.length ≤ 1000000000)  :
  Pu Tryz.prog (.func (.func 70) #[] #[]) M [v0, v1] (fun r M' => Zh M' r (Ur l0 l1)) := by
 refine Jt Tryz.func70 Y Tryz.ntmps70 Y Tryz.call70 ?_
 intro a w M1 H hM1 S E
 replace h0 := h0.le hM1
 replace h1 := h1.le hM1
 have b0 := h0.bound
 have b1 := h1.bound
 have hd01 : (Ji l0 l1).length ≤ l0.length := Nat.le_trans (List.length_filter_le _ _) (Zu l0).2.2
 have hd10 : (Ji l1 l0).length ≤ l1.length := Nat.le_trans (List.length_filter_le _ _) (Zu l1).2.2
 refine QF (Qx E Y fun _ B => QZ (JR 2 B Y ?_))
 clear E a B; intro a E
 refine QB (Jm E S Y Y Y (Jr h0 h1 (by first | omega | (simp; omega) | (simp only [List.length_append, List.length_cons, List.length_nil]; omega))) lerf ?_)
 clear E a S; rintro a a7 w a8 a0 a1 S E
 replace h0 := h0.le a0
 replace h1 := h1.le a0
 refine JR 2 E Y ?_
 clear E a; intro a E
 refine QB (Jm E S Y Y Y (Jr h1 h0 (by first | omega | (simp; omega) | (simp only [List.length_append, List.length_cons, List.length_nil]; omega))) lerf ?_)
 clear E a S; rintro a a9 w b2 a2 a3 S E
 replace a1 := a1.le a2
 refine QB (Jm E S Y Y Y (Va a1 a3 (by first | omega | (simp; omega) | (simp only [List.length_append, List.length_cons, List.length_nil]; omega))) lerf ?_)
 clear E a S; rintro a b3 w a4 a5 a6 S E
 refine Qx E Y ?_
 clear E a; intro a E
 refine JQ ?_
 exact Qk E Tryz.results70 Y ⟨_, Y, a4, (a0.trans (a2.trans a5)), (JN.eqL a6 (by (rfl))), S⟩
theorem VX {M : Hp} {b9 : Nat} {xs9 : List Value} {t9 t8 : LLst} (hr9 : JX RLi 1 M t9 xs9) {sd sa sb st sx : Int} {v0 : Value} {l0 : List Int} (h0 : Zh M v0 l0){ai : Bool} {an : Int} {v1 : Value} {l1 : List Int} (h1 : Zh M v1 l1)(hS : QM sd (sa % 8).toNat (st % 8).toNat sx l0 (t9.getD (sa % 8).toNat []) (t9.getD (sb % 8).toNat []) t9 t8 ai an l1) (hl9 : t9.length = 8) (hc9 : ∀ c ∈ t9, Qw c = c ∧ c.length ≤ 100000) (hb0 : l0.length ≤ 100000) (hd : (0 ≤ sd ∧ sd ≤ 10) ∨ sd = 26)  :
  Sp Tryz.prog (.func (.func 43) #[] #[]) M [.pointer (some ⟨b9, 0, none⟩), .agg #[.int .i64 sd, .int .i64 sa, .int .i64 sb, .int .i64 st, .int .i64 sx, v0], .agg #[.bool ai, .int .i64 an, v1]] [Jk 66 1 (.slice (some ⟨b9, 0, none⟩) 8 8) t9.length xs9] (fun r M' C' => ∃ xs_, C' = [Jk 66 1 (.slice (some ⟨b9, 0, none⟩) 8 8) t8.length xs_] ∧ r = .bool true ∧ (JX RLi 1 M' t8 xs_)) := by
 refine Qu Tryz.func43 Y Tryz.ntmps43 Y Tryz.call43 ?_
 intro a w M1 H hM1 S E
 replace S : St w M1 (Jk 66 1 (.slice (some ⟨b9, 0, none⟩) 8 8) t9.length xs9 :: _) := S
 replace h0 := h0.le hM1
 replace h1 := h1.le hM1
 replace hr9 := hr9.le (QH QA) hM1
 have b0 := h0.bound
 have b1 := h1.bound
 have hca := zY hc9 (k := (sa % 8).toNat) (by omega)
 obtain ⟨hca1, hca2⟩ := hca
 have hcb := zY hc9 (k := (sb % 8).toNat) (by omega)
 obtain ⟨hcb1, hcb2⟩ := hcb
 refine QF ?_
 refine QB (Yz (cs := #[.int .i64 sd, .int .i64 sa, .int .i64 sb, .int .i64 st, .int .i64 sx, v0]) E S Y Y Y ?_)
 clear E a S; rintro a w k1 E S
 obtain ⟨k2, a9, a2, S⟩ := S.freezeB
 replace h0 := h0.le a9
 replace hr9 := hr9.le (QH QA) a9
 refine QB (Yz (cs := #[.bool ai, .int .i64 an, v1]) E S Y Y Y ?_)
 clear E a S; rintro a w k3 E S
 obtain ⟨f8, a8, a3, S⟩ := S.freezeB
 replace h0 := h0.le a8
 replace hr9 := hr9.le (QH QA) a8
 replace a2 := a8.2 _ _ a2
 refine Qx E Y ?_
 clear E a; intro a E
 refine ZB ?_
 have hb_1k4 := a2
 have hb_3k4 := a3
 replace S := S.mono_heap (w' := World.drew _) rfl
 have hk_5 : ((sa % 8).toNat) < 8 := by omega
 obtain ⟨f9, c9, a0⟩ := Ud hr9 (k := (sa % 8).toNat) (by (first | omega | (simp only [List.length_set]; omega)))
 have k4 := a0.bound
 have hk_8 : ((sb % 8).toNat) < 8 := by omega
 obtain ⟨g0, d0, a1⟩ := Ud hr9 (k := (sb % 8).toNat) (by (first | omega | (simp only [List.length_set]; omega)))
 have k5 := a1.bound
 refine QN (C := fun x w => agree f8 w ∧ (x = 6 → w.cell? (Addr.add ⟨b9, 0, none⟩ (((sa % 8).toNat) * 1)) = some f9) ∧ (x = 13 → w.cell? (Addr.add ⟨b9, 0, none⟩ (((sb % 8).toNat) * 1)) = some g0)) (bf := (fun i => bif Nat.beq i 3 then [] else bif Nat.beq i 10 then [] else [])) [0, 1, 2, 4, 5, 6, 7, 8, 9, 11, 12, 13, 14, 15] [0, 1, 2, 4, 7, 8, 9, 11, 3, 5, 6, 10, 12, 13, 14, 15] Tryz.mixed (by kernel_rfl) (fun x hq => ⟨S.imm, fun _ => S.cellC (JK hk_5) c9, fun _ => S.cellC (JK hk_8) d0⟩) ?_
 refine Qo E Y (fun w hC => (Qi E Y)) fun _ B => Qo B Y (fun w hC => (Ql B Y (WD _))) fun _ D => Qo D Y (fun w hC => (QG D Y Tryz.isAgg3 hC.1 (Qf hb_1k4 Y))) fun _ F => Qo F Y (fun w hC => (Qb F Y Y)) fun _ G => Qo G Y (fun w hC => (Qi G Y)) fun _ I => Qo I Y (fun w hC => (Ql I Y (FA67_2 _))) fun _ J => Qo J Y (fun w hC => (QG J Y Tryz.isAgg3 hC.1 (Qf hb_1k4 Y))) fun _ K => Qo K Y (fun w hC => (Qb K Y Y)) ?_
 clear E a B D F G I J K; intro a E
 refine Zd Y Y Y (Jm E S Y Y Y (Zb ) lerf ?_)
 clear E a S; rintro a _ w k6 a4 rfl S E
 replace h0 := h0.le a4
 replace hr9 := hr9.le (QH QA) a4
 replace a2 := a4.2 _ _ a2
 replace a3 := a4.2 _ _ a3
 replace a0 := a0.le a4
 replace a1 := a1.le a4
 refine ⟨fun x hq hb => ⟨(Qg a4 S.imm), (fun _ => S.cellC (JK hk_5) c9), (fun _ => S.cellC (JK hk_8) d0)⟩, ?_⟩
 have hk_12 : ((sa % 8).toNat) < 8 := by omega
 refine Qo E Y (fun w hC => (VF (k := (sa % 8).toNat) (m := 8) E Y Y Tryz.underlying66 (Tryz.sizeOf22 _) hk_12 (by omega))) fun _ B => Qo B Y (fun w hC => (Jz B Y (Tryz.isAgg22 _) (hC.2.1 Y))) ?_
 clear E a B; intro a E
 refine Zd Y Y Y (Jm E S Y Y Y (Zb ) lerf ?_)
 clear E a S; rintro a _ w g1 a6 rfl S E
 replace h0 := h0.le a6
 replace hr9 := hr9.le (QH QA) a6
 replace a2 := a6.2 _ _ a2
 replace a3 := a6.2 _ _ a3
 replace a0 := a0.le a6
 replace a1 := a1.le a6
 refine ⟨fun x hq hb => ⟨(Qg (a4.trans a6) S.imm), (fun _ => S.cellC (JK hk_5) c9), (fun _ => S.cellC (JK hk_8) d0)⟩, ?_⟩
 have hk_14 : ((sb % 8).toNat) < 8 := by omega
 refine Qo E Y (fun w hC => (VF (k := (sb % 8).toNat) (m := 8) E Y Y Tryz.underlying66 (Tryz.sizeOf22 _) hk_14 (by omega))) fun _ B => Qo B Y (fun w hC => (Jz B Y (Tryz.isAgg22 _) (hC.2.2 Y))) fun _ D => Qo D Y (fun w hC => (Qy D Y)) fun _ F => Qo F Y (fun w hC => (Qy F Y)) ?_
 clear E a B D F; intro a E
 refine Jv (Ju ?_)
 refine JG (Za ?_)
 have hb_1k14 := a2
 have hb_3k14 := a3
 replace S := S.mono_heap (w' := World.drew _) rfl
 refine QN (C := fun x w => agree g1 w) (bf := (fun i => [])) [0, 1, 2, 4, 5, 6, 7, 8, 10, 11, 12, 13] [0, 1, 2, 4, 6, 7, 8, 10, 3, 5, 9, 11, 12, 13] Tryz.mixed (by kernel_rfl) (fun x hq => S.imm) ?_
 refine Qo E Y (fun w hC => (Qi E Y)) fun _ B => Qo B Y (fun w hC => (Ql B Y (FA67_3 _))) fun _ D => Qo D Y (fun w hC => (QG D Y Tryz.isAgg3 hC (Qf hb_1k14 Y))) fun _ F => Qo F Y (fun w hC => (Qb F Y Y)) fun _ G => Qo G Y (fun w hC => (Qi G Y)) fun _ I => Qo I Y (fun w hC => (Ql I Y (WD _))) fun _ J => Qo J Y (fun w hC => (QG J Y Tryz.isAgg3 hC (Qf hb_1k14 Y))) fun _ K => Qo K Y (fun w hC => (Qb K Y Y)) ?_
 clear E a B D F G I J K; intro a E
 refine Zd Y Y Y (Jm E S Y Y Y (Zb ) lerf ?_)
 clear E a S; rintro a _ w k7 a5 rfl S E
 replace h0 := h0.le a5
 replace hr9 := hr9.le (QH QA) a5
 replace a2 := a5.2 _ _ a2
 replace a3 := a5.2 _ _ a3
 replace a0 := a0.le a5
 replace a1 := a1.le a5
 refine ⟨fun x hq hb => (Qg a5 S.imm), ?_⟩
 have hk_16 : ((st % 8).toNat) < 8 := by omega
 refine Qo E Y (fun w hC => (VF (k := (st % 8).toNat) (m := 8) E Y Y Tryz.underlying66 (Tryz.sizeOf22 _) hk_16 (by omega))) ?_
 clear E a; intro a E
 refine Zd Y Y Y (Jm E S Y Y Y (Zb ) lerf ?_)
 clear E a S; rintro a _ w g2 a7 rfl S E
 replace h0 := h0.le a7
 replace hr9 := hr9.le (QH QA) a7
 replace a2 := a7.2 _ _ a2
 replace a3 := a7.2 _ _ a3
 replace a0 := a0.le a7
 replace a1 := a1.le a7
 refine ⟨fun x hq hb => (Qg (a5.trans a7) S.imm), ?_⟩
 have hk_18 : ((sa % 8).toNat) < 8 := by omega
 refine Qo E Y (fun w hC => (VF (k := (sa % 8).toNat) (m := 8) E Y Y Tryz.underlying66 (Tryz.sizeOf22 _) hk_18 (by omega))) fun _ B => Qo B Y (fun w hC => (Qy B Y)) fun _ D => Qo D Y (fun w hC => (Qy D Y)) ?_
 clear E a B D; intro a E
 refine Jv (Ju ?_)
 refine JG (J_p (Qa E Y (Zq _) fun _ B => Qz B Y Tryz.isAgg3 S.imm (Qf a2 Y) fun _ D => VJ (J_p (Jh D Y Y fun _ F => Qx F Y ?_))))
 clear E a B D F; intro a E
 refine Jx ?_
 refine Yl E Y (fun b2 => ?_) (fun b2 => ?_)
 ·replace E := E.val (t := 40) Y b2
  replace E := E.val (t := 39) Y b2
  replace b2 := of_decide_eq_true b2
  refine Ja (JG ?_)
  refine Jj E Y Y ?_
  refine Qr (Qq E Y fun _ B => Qa B Y (GH _) fun _ D => Qz D Y Tryz.isAgg22 S.imm (Qf a2 Y) ?_)
  clear E a B D; intro a E
  refine QB (Jm E S Y Y Y (YR h0 (by first | omega | (simp; omega) | (simp only [List.length_append, List.length_cons, List.length_nil]; omega))) lerf ?_)
  clear E a S; rintro a g3 w g4 b5 d2 S E
  replace h0 := h0.le b5
  replace hr9 := hr9.le (QH QA) b5
  replace a2 := b5.2 _ _ a2
  replace a3 := b5.2 _ _ a3
  replace a0 := a0.le b5
  replace a1 := a1.le b5
  refine QS E (Qb E Y Y) ?_
  clear E a; intro a E
  have e8 : t8 = t9.set (st % 8).toNat (Qw l0) := by first | exact chg_0 hS (by omega) | exact chg_26 hS (by omega)
  subst e8
  refine Jq (Zs E S Y Y (Tryz.sizeOf22 _) (JN.one' d2) (JK hk_16) ?_)
  clear E a S; rintro a w E S
  have d3 := RowsRL.set (k := (st % 8).toNat) hr9 d2
  obtain ⟨k8, hxs_⟩ : ∃ z, z = (xs9).set ((st % 8).toNat) g3 := ⟨_, rfl⟩
  rw [← hxs_] at S d3
  clear hxs_
  replace S := S.reLen (m' := ((t9).set ((st % 8).toNat) (Qw l0)).length) (by rw [List.length_set])
  refine QQ (ZN (JG (QF (Qx E Y ?_))))
  clear E a; intro a E
  refine JQ ?_
  exact Qk E Tryz.results43 Y ⟨_, Y, g4, _, (a9.trans (a8.trans (a4.trans (a6.trans (a5.trans (a7.trans b5)))))), ⟨_, Y, Y, (by exact d3)⟩, S⟩
 ·replace E := E.val (t := 40) Y b2
  replace E := E.val (t := 39) Y b2
  replace b2 := of_decide_eq_false b2
  refine Qr (Jh E Y Y fun _ B => Qx B Y ?_)
  clear E a B; intro a E
  refine Jx ?_
  refine Yl E Y (fun b3 => ?_) (fun b3 => ?_)
  ·replace E := E.val (t := 39) Y b3
   replace E := E.val (t := 41) Y b3
   replace b3 := of_decide_eq_true b3
   refine Qr (Qq E Y fun _ B => Qa B Y (GH _) fun _ D => Qz D Y Tryz.isAgg22 S.imm (Qf a2 Y) ?_)
   clear E a B D; intro a E
   refine QB (Jm E S Y Y Y (YR h0 (by first | omega | (simp; omega) | (simp only [List.length_append, List.length_cons, List.length_nil]; omega))) lerf ?_)
   clear E a S; rintro a g5 w g6 b6 d4 S E
   replace h0 := h0.le b6
   replace hr9 := hr9.le (QH QA) b6
   replace a2 := b6.2 _ _ a2
   replace a3 := b6.2 _ _ a3
   replace a0 := a0.le b6
   replace a1 := a1.le b6
   refine QS E (Qb E Y Y) ?_
   clear E a; intro a E
   have e8 : t8 = t9.set (st % 8).toNat (Qw l0) := by first | exact chg_0 hS (by omega) | exact chg_26 hS (by omega)
   subst e8
   refine Jq (Zs E S Y Y (Tryz.sizeOf22 _) (JN.one' d4) (JK hk_16) ?_)
   clear E a S; rintro a w E S
   have d5 := RowsRL.set (k := (st % 8).toNat) hr9 d4
   obtain ⟨k9, hxs_⟩ : ∃ z, z = (xs9).set ((st % 8).toNat) g5 := ⟨_, rfl⟩
   rw [← hxs_] at S d5
   clear hxs_
   replace S := S.reLen (m' := ((t9).set ((st % 8).toNat) (Qw l0)).length) (by rw [List.length_set])
   refine QQ (ZN (JG (QF (Qx E Y ?_))))
   clear E a; intro a E
   refine JQ ?_
   exact Qk E Tryz.results43 Y ⟨_, Y, g6, _, (a9.trans (a8.trans (a4.trans (a6.trans (a5.trans (a7.trans b6)))))), ⟨_, Y, Y, (by exact d5)⟩, S⟩
  ·replace E := E.val (t := 39) Y b3
   replace E := E.val (t := 41) Y b3
   replace b3 := of_decide_eq_false b3
   refine QF (Jh E Y Y fun _ B => Qx B Y ?_)
   clear E a B; intro a E
   refine Jx ?_
   refine QJ E Y (fun g7 => ?_) (fun g7 => ?_)
   ·refine QF (JR 2 E Y fun _ B => Qa B Y (ze _) fun _ D => Qz D Y Tryz.isAgg3 S.imm (Qf a2 Y) ?_)
    clear E a B D; intro a E
    refine QB (Jf (ys := [sx]) E S Y JE Y Y Y ?_)
    clear E a S; rintro a w l2 E S
    have S0 := S; clear S
    obtain ⟨l3, b7, g8, S⟩ := S0.freezeI (by (first | omega | (simp only [List.length_append, List.length_cons, List.length_nil]; omega) | (simp; omega)))
    clear S0
    replace h0 := h0.le b7
    replace hr9 := hr9.le (QH QA) b7
    replace a2 := b7.2 _ _ a2
    replace a3 := b7.2 _ _ a3
    replace a0 := a0.le b7
    replace a1 := a1.le b7
    refine QB (Jm E S Y Y Y (Va a0 g8 (by first | omega | (simp; omega) | (simp only [List.length_append, List.length_cons, List.length_nil]; omega))) lerf ?_)
    clear E a S; rintro a g9 w h2 b8 d6 S E
    replace h0 := h0.le b8
    replace hr9 := hr9.le (QH QA) b8
    replace a2 := b8.2 _ _ a2
    replace a3 := b8.2 _ _ a3
    replace a0 := a0.le b8
    replace a1 := a1.le b8
    refine QS E (Qb E Y Y) ?_
    clear E a; intro a E
    obtain ⟨e8, e9⟩ := chg_1 hS (by omega)
    subst e8
    refine Jq (Zs E S Y Y (Tryz.sizeOf22 _) (JN.one' d6) (JK hk_18) ?_)
    clear E a S; rintro a w E S
    have c3 := RowsRL.set (k := (sa % 8).toNat) hr9 d6
    obtain ⟨l4, hxs_⟩ : ∃ z, z = (xs9).set ((sa % 8).toNat) g9 := ⟨_, rfl⟩
    rw [← hxs_] at S c3
    clear hxs_
    replace S := S.reLen (m' := ((t9).set ((sa % 8).toNat) (Qw ((t9).getD ((sa % 8).toNat) [] ++ [sx]))).length) (by rw [List.length_set])
    refine ZB ?_
    have hb_1k39 := a2
    have hb_3k39 := a3
    replace S := S.mono_heap (w' := World.drew _) rfl
    refine QN (C := fun x w => agree h2 w) (bf := (fun i => [])) [0, 1, 2, 3, 4, 6, 7, 8] [0, 1, 2, 3, 4, 5, 6, 7, 8] Tryz.mixed (by kernel_rfl) (fun x hq => S.imm) ?_
    refine Qo E Y (fun w hC => (Ql E Y (Vo _))) fun _ B => Qo B Y (fun w hC => (QG B Y Tryz.isAgg4 hC (Qf hb_3k39 Y))) fun _ D => Qo D Y (fun w hC => (Qi D Y)) fun _ F => Qo F Y (fun w hC => (Ql F Y (ze _))) fun _ G => Qo G Y (fun w hC => (QG G Y Tryz.isAgg3 hC (Qf hb_1k39 Y))) ?_
    clear E a B D F G; intro a E
    refine Zd Y Y Y (Jm E S Y Y Y (WM a0) lerf ?_)
    clear E a S; rintro a _ w h3 b4 rfl S E
    replace h0 := h0.le b4
    replace a2 := b4.2 _ _ a2
    replace a3 := b4.2 _ _ a3
    replace a0 := a0.le b4
    replace a1 := a1.le b4
    replace c3 := c3.le (QH QA) b4
    refine ⟨fun x hq hb => (Qg b4 S.imm), ?_⟩
    refine Qo E Y (fun w hC => (R_not E Y)) fun _ B => Qo B Y (fun w hC => (GE B Y Y Tryz.underlying4)) fun _ D => Qo D Y (fun w hC => (Qy D Y)) ?_
    clear E a B D; intro a E
    refine Jv (Ju ?_)
    refine JG (Yr (jd (qW ?_)))
    exact Qk E Tryz.results43 Y ⟨_, Y, h3, _, (a9.trans (a8.trans (a4.trans (a6.trans (a5.trans (a7.trans (b7.trans (b8.trans b4)))))))), ⟨_, Y, (cgB (by rw [e9]; simp)), (by exact c3)⟩, S⟩
   ·refine QF (Jh E Y Y fun _ B => Qx B Y ?_)
    clear E a B; intro a E
    refine Jx ?_
    refine QJ E Y (fun h4 => ?_) (fun h4 => ?_)
    ·refine QF (JR 2 E Y fun _ B => Qa B Y (GH _) fun _ D => Qz D Y Tryz.isAgg22 S.imm (Qf a2 Y) ?_)
     clear E a B D; intro a E
     refine QB (Jm E S Y Y Y (Va a0 h0 (by first | omega | (simp; omega) | (simp only [List.length_append, List.length_cons, List.length_nil]; omega))) lerf ?_)
     clear E a S; rintro a h5 w d7 c0 d8 S E
     replace h0 := h0.le c0
     replace hr9 := hr9.le (QH QA) c0
     replace a2 := c0.2 _ _ a2
     replace a3 := c0.2 _ _ a3
     replace a0 := a0.le c0
     replace a1 := a1.le c0
     refine QS E (Qb E Y Y) ?_
     clear E a; intro a E
     obtain ⟨e8, e9⟩ := chg_2 hS (by omega) hca1
     subst e8
     refine Jq (Zs E S Y Y (Tryz.sizeOf22 _) (JN.one' d8) (JK hk_18) ?_)
     clear E a S; rintro a w E S
     have d1 := RowsRL.set (k := (sa % 8).toNat) hr9 d8
     obtain ⟨l5, hxs_⟩ : ∃ z, z = (xs9).set ((sa % 8).toNat) h5 := ⟨_, rfl⟩
     rw [← hxs_] at S d1
     clear hxs_
     replace S := S.reLen (m' := ((t9).set ((sa % 8).toNat) (Qw ((t9).getD ((sa % 8).toNat) [] ++ l0))).length) (by rw [List.length_set])
     refine ZB ?_
     have hb_1k46 := a2
     have hb_3k46 := a3
     replace S := S.mono_heap (w' := World.drew _) rfl
     obtain ⟨h6, h7, d9⟩ := Ud d1 (k := (sa % 8).toNat) (by (first | omega | (simp only [List.length_set]; omega)))
     have l6 := d9.bound
     refine QN (C := fun x w => agree d7 w ∧ (x = 4 → w.cell? (Addr.add ⟨b9, 0, none⟩ (((sa % 8).toNat) * 1)) = some h6)) (bf := (fun i => [])) [0, 1, 2, 3, 4, 5, 6, 7, 8, 9, 10] [0, 1, 2, 3, 4, 5, 6, 7, 8, 9, 10] Tryz.mixed (by kernel_rfl) (fun x hq => ⟨S.imm, fun _ => S.cellC (JK hk_18) h7⟩) ?_
     refine Qo E Y (fun w hC => (Ql E Y (VH _))) fun _ B => Qo B Y (fun w hC => (QG B Y Tryz.isAgg3 hC.1 (Qf hb_3k46 Y))) fun _ D => Qo D Y (fun w hC => (Qi D Y)) fun _ F => Qo F Y (fun w hC => (Qb F Y Y)) fun _ G => Qo G Y (fun w hC => (Jz G Y (Tryz.isAgg22 _) (hC.2 Y))) fun _ I => Qo I Y (fun w hC => (za I Y JE d9.len)) fun _ J => Qo J Y (fun w hC => (Qi J Y)) fun _ K => Qo K Y (fun w hC => (za K Y JE a0.len)) fun _ L => Qo L Y (fun w hC => (yU (m := (((((t9).set ((sa % 8).toNat) (Qw ((t9).getD ((sa % 8).toNat) [] ++ l0))).getD ((sa % 8).toNat) []).length : Nat) : Int) - ((((t9).getD ((sa % 8).toNat) []).length : Nat) : Int)) L Y Y (by omega) (by omega))) fun _ N => Qo N Y (fun w hC => (vu N Y Y)) fun _ O => Qo O Y (fun w hC => (Qy O Y)) ?_
     clear E a B D F G I J K L N O; intro a E
     refine Jv (Ju ?_)
     refine JG (Yr (jd (qW ?_)))
     exact Qk E Tryz.results43 Y ⟨_, Y, d7, _, (a9.trans (a8.trans (a4.trans (a6.trans (a5.trans (a7.trans c0)))))), ⟨_, Y, (cgB (by rw [e9, arr_same (by omega)]; simp)), (by exact d1)⟩, S⟩
    ·refine QF (Jh E Y Y fun _ B => Qx B Y ?_)
     clear E a B; intro a E
     refine Jx ?_
     refine QJ E Y (fun h8 => ?_) (fun h8 => ?_)
     ·refine Qr (JR 2 E Y fun _ B => Qa B Y (ze _) fun _ D => Qz D Y Tryz.isAgg3 S.imm (Qf a2 Y) ?_)
      clear E a B D; intro a E
      refine QB (Jf (ys := [sx]) E S Y JE Y Y Y ?_)
      clear E a S; rintro a w l7 E S
      have S0 := S; clear S
      obtain ⟨l8, c1, h9, S⟩ := S0.freezeI (by (first | omega | (simp only [List.length_append, List.length_cons, List.length_nil]; omega) | (simp; omega)))
      clear S0
      replace h0 := h0.le c1
      replace hr9 := hr9.le (QH QA) c1
      replace a2 := c1.2 _ _ a2
      replace a0 := a0.le c1
      replace a1 := a1.le c1
      refine QB (Jm E S Y Y Y (Jr a0 h9 (by first | omega | (simp; omega) | (simp only [List.length_append, List.length_cons, List.length_nil]; omega))) lerf ?_)
      clear E a S; rintro a i0 w i1 c2 e0 S E
      replace h0 := h0.le c2
      replace hr9 := hr9.le (QH QA) c2
      replace a2 := c2.2 _ _ a2
      replace a0 := a0.le c2
      replace a1 := a1.le c2
      refine QS E (Qb E Y Y) ?_
      clear E a; intro a E
      have e8 := chg_3 hS (by omega)
      subst e8
      refine Jq (Zs E S Y Y (Tryz.sizeOf22 _) (JN.one' e0) (JK hk_18) ?_)
      clear E a S; rintro a w E S
      have e1 := RowsRL.set (k := (sa % 8).toNat) hr9 e0
      obtain ⟨l9, hxs_⟩ : ∃ z, z = (xs9).set ((sa % 8).toNat) i0 := ⟨_, rfl⟩
      rw [← hxs_] at S e1
      clear hxs_
      replace S := S.reLen (m' := ((t9).set ((sa % 8).toNat) (Ji ((t9).getD ((sa % 8).toNat) []) [sx])).length) (by rw [List.length_set])
      refine QQ (ZN (JG (QF (Qx E Y ?_))))
      clear E a; intro a E
      refine JQ ?_
      exact Qk E Tryz.results43 Y ⟨_, Y, i1, _, (a9.trans (a8.trans (a4.trans (a6.trans (a5.trans (a7.trans (c1.trans c2))))))), ⟨_, Y, Y, (by exact e1)⟩, S⟩
     ·refine QF (Jh E Y Y fun _ B => Qx B Y ?_)
      clear E a B; intro a E
      refine Jx ?_
      refine QJ E Y (fun i2 => ?_) (fun i2 => ?_)
      ·refine Qr (JR 2 E Y fun _ B => Qa B Y (GH _) fun _ D => Qz D Y Tryz.isAgg22 S.imm (Qf a2 Y) ?_)
       clear E a B D; intro a E
       refine QB (Jm E S Y Y Y (Jr a0 h0 (by first | omega | (simp; omega) | (simp only [List.length_append, List.length_cons, List.length_nil]; omega))) lerf ?_)
       clear E a S; rintro a i3 w i4 c4 e2 S E
       replace hr9 := hr9.le (QH QA) c4
       replace a0 := a0.le c4
       replace a1 := a1.le c4
       refine QS E (Qb E Y Y) ?_
       clear E a; intro a E
       have e8 := chg_4 hS (by omega)
       subst e8
       refine Jq (Zs E S Y Y (Tryz.sizeOf22 _) (JN.one' e2) (JK hk_18) ?_)
       clear E a S; rintro a w E S
       have e3 := RowsRL.set (k := (sa % 8).toNat) hr9 e2
       obtain ⟨m0, hxs_⟩ : ∃ z, z = (xs9).set ((sa % 8).toNat) i3 := ⟨_, rfl⟩
       rw [← hxs_] at S e3
       clear hxs_
       replace S := S.reLen (m' := ((t9).set ((sa % 8).toNat) (Ji ((t9).getD ((sa % 8).toNat) []) l0)).length) (by rw [List.length_set])
       refine QQ (ZN (JG (QF (Qx E Y ?_))))
       clear E a; intro a E
       refine JQ ?_
       exact Qk E Tryz.results43 Y ⟨_, Y, i4, _, (a9.trans (a8.trans (a4.trans (a6.trans (a5.trans (a7.trans c4)))))), ⟨_, Y, Y, (by exact e3)⟩, S⟩
      ·refine QF (Jh E Y Y fun _ B => Qx B Y ?_)
       clear E a B; intro a E
       refine Jx ?_
       refine QJ E Y (fun i5 => ?_) (fun i5 => ?_)
       ·refine Qr (Qq E Y fun _ B => QS B (Qb B Y Y) ?_)
        clear E a B; intro a E
        have e8 := chg_5 hS (by omega)
        subst e8
        refine Jq (Zs E S Y Y (Tryz.sizeOf22 _) Y (JK hk_18) ?_)
        clear E a S; rintro a w E S
        have e4 := RowsRL.set (k := (sa % 8).toNat) hr9 (JN.nil _)
        obtain ⟨m1, hxs_⟩ : ∃ z, z = (xs9).set ((sa % 8).toNat) (.slice none 0 0) := ⟨_, rfl⟩
        rw [← hxs_] at S e4
        clear hxs_
        replace S := S.reLen (m' := ((t9).set ((sa % 8).toNat) ([] : List Int)).length) (by rw [List.length_set])
        refine QQ (ZN (JG (QF (Qx E Y ?_))))
        clear E a; intro a E
        refine JQ ?_
        exact Qk E Tryz.results43 Y ⟨_, Y, g2, _, (a9.trans (a8.trans (a4.trans (a6.trans (a5.trans a7))))), ⟨_, Y, Y, (by exact e4)⟩, S⟩
       ·refine QF (Jh E Y Y fun _ B => Qx B Y ?_)
        clear E a B; intro a E
        refine Jx ?_
        refine QJ E Y (fun i6 => ?_) (fun i6 => ?_)
        ·refine Qr (JR 2 E Y ?_)
         clear E a; intro a E
         refine QB (Jm E S Y Y Y (YR a0 (by first | omega | (simp; omega) | (simp only [List.length_append, List.length_cons, List.length_nil]; omega))) lerf ?_)
         clear E a S; rintro a i7 w i8 c5 e5 S E
         replace hr9 := hr9.le (QH QA) c5
         replace a0 := a0.le c5
         replace a1 := a1.le c5
         refine QS E (Qb E Y Y) ?_
         clear E a; intro a E
         have e8 := chg_6 hS (by omega)
         subst e8
         refine Jq (Zs E S Y Y (Tryz.sizeOf22 _) (JN.one' e5) (JK hk_16) ?_)
         clear E a S; rintro a w E S
         have e6 := RowsRL.set (k := (st % 8).toNat) hr9 e5
         obtain ⟨m2, hxs_⟩ : ∃ z, z = (xs9).set ((st % 8).toNat) i7 := ⟨_, rfl⟩
         rw [← hxs_] at S e6
         clear hxs_
         replace S := S.reLen (m' := ((t9).set ((st % 8).toNat) (Qw ((t9).getD ((sa % 8).toNat) []))).length) (by rw [List.length_set])
         refine QQ (ZN (JG (QF (Qx E Y ?_))))
         clear E a; intro a E
         refine JQ ?_
         exact Qk E Tryz.results43 Y ⟨_, Y, i8, _, (a9.trans (a8.trans (a4.trans (a6.trans (a5.trans (a7.trans c5)))))), ⟨_, Y, Y, (by exact e6)⟩, S⟩
        ·refine QF (Jh E Y Y fun _ B => Qx B Y ?_)
         clear E a B; intro a E
         refine Jx ?_
         refine QJ E Y (fun i9 => ?_) (fun i9 => ?_)
         ·refine Qr (JR 3 E Y ?_)
          clear E a; intro a E
          refine QB (Jm E S Y Y Y (Va a0 a1 (by first | omega | (simp; omega) | (simp only [List.length_append, List.length_cons, List.length_nil]; omega))) lerf ?_)
          clear E a S; rintro a j0 w j1 c6 e7 S E
          replace hr9 := hr9.le (QH QA) c6
          replace a0 := a0.le c6
          replace a1 := a1.le c6
          refine QS E (Qb E Y Y) ?_
          clear E a; intro a E
          have e8 := chg_7 hS (by omega)
          subst e8
          refine Jq (Zs E S Y Y (Tryz.sizeOf22 _) (JN.one' e7) (JK hk_16) ?_)
          clear E a S; rintro a w E S
          have f0 := RowsRL.set (k := (st % 8).toNat) hr9 e7
          obtain ⟨m3, hxs_⟩ : ∃ z, z = (xs9).set ((st % 8).toNat) j0 := ⟨_, rfl⟩
          rw [← hxs_] at S f0
          clear hxs_
          replace S := S.reLen (m' := ((t9).set ((st % 8).toNat) (Qw ((t9).getD ((sa % 8).toNat) [] ++ (t9).getD ((sb % 8).toNat) []))).length) (by rw [List.length_set])
          refine QQ (ZN (JG (QF (Qx E Y ?_))))
          clear E a; intro a E
          refine JQ ?_
          exact Qk E Tryz.results43 Y ⟨_, Y, j1, _, (a9.trans (a8.trans (a4.trans (a6.trans (a5.trans (a7.trans c6)))))), ⟨_, Y, Y, (by exact f0)⟩, S⟩
         ·refine QF (Jh E Y Y fun _ B => Qx B Y ?_)
          clear E a B; intro a E
          refine Jx ?_
          refine QJ E Y (fun j2 => ?_) (fun j2 => ?_)
          ·refine Qr (JR 3 E Y ?_)
           clear E a; intro a E
           refine QB (Jm E S Y Y Y (Zo a0 a1 (by first | omega | (simp; omega) | (simp only [List.length_append, List.length_cons, List.length_nil]; omega))) lerf ?_)
           clear E a S; rintro a j3 w j4 c7 f1 S E
           replace hr9 := hr9.le (QH QA) c7
           replace a0 := a0.le c7
           replace a1 := a1.le c7
           refine QS E (Qb E Y Y) ?_
           clear E a; intro a E
           have e8 := chg_8 hS (by omega)
           subst e8
           refine Jq (Zs E S Y Y (Tryz.sizeOf22 _) (JN.one' f1) (JK hk_16) ?_)
           clear E a S; rintro a w E S
           have f2 := RowsRL.set (k := (st % 8).toNat) hr9 f1
           obtain ⟨m4, hxs_⟩ : ∃ z, z = (xs9).set ((st % 8).toNat) j3 := ⟨_, rfl⟩
           rw [← hxs_] at S f2
           clear hxs_
           replace S := S.reLen (m' := ((t9).set ((st % 8).toNat) (ZD ((t9).getD ((sa % 8).toNat) []) ((t9).getD ((sb % 8).toNat) []))).length) (by rw [List.length_set])
           refine QQ (ZN (JG (QF (Qx E Y ?_))))
           clear E a; intro a E
           refine JQ ?_
           exact Qk E Tryz.results43 Y ⟨_, Y, j4, _, (a9.trans (a8.trans (a4.trans (a6.trans (a5.trans (a7.trans c7)))))), ⟨_, Y, Y, (by exact f2)⟩, S⟩
          ·refine QF (Jh E Y Y fun _ B => Qx B Y ?_)
           clear E a B; intro a E
           refine Jx ?_
           refine QJ E Y (fun j5 => ?_) (fun j5 => ?_)
           ·refine Qr (JR 3 E Y ?_)
            clear E a; intro a E
            refine QB (Jm E S Y Y Y (Jr a0 a1 (by first | omega | (simp; omega) | (simp only [List.length_append, List.length_cons, List.length_nil]; omega))) lerf ?_)
            clear E a S; rintro a j6 w j7 c8 f3 S E
            replace hr9 := hr9.le (QH QA) c8
            replace a0 := a0.le c8
            replace a1 := a1.le c8
            refine QS E (Qb E Y Y) ?_
            clear E a; intro a E
            have e8 := chg_9 hS (by omega)
            subst e8
            refine Jq (Zs E S Y Y (Tryz.sizeOf22 _) (JN.one' f3) (JK hk_16) ?_)
            clear E a S; rintro a w E S
            have f4 := RowsRL.set (k := (st % 8).toNat) hr9 f3
            obtain ⟨m5, hxs_⟩ : ∃ z, z = (xs9).set ((st % 8).toNat) j6 := ⟨_, rfl⟩
            rw [← hxs_] at S f4
            clear hxs_
            replace S := S.reLen (m' := ((t9).set ((st % 8).toNat) (Ji ((t9).getD ((sa % 8).toNat) []) ((t9).getD ((sb % 8).toNat) []))).length) (by rw [List.length_set])
            refine QQ (ZN (JG (QF (Qx E Y ?_))))
            clear E a; intro a E
            refine JQ ?_
            exact Qk E Tryz.results43 Y ⟨_, Y, j7, _, (a9.trans (a8.trans (a4.trans (a6.trans (a5.trans (a7.trans c8)))))), ⟨_, Y, Y, (by exact f4)⟩, S⟩
           ·refine QF (Jh E Y Y fun _ B => Qx B Y ?_)
            clear E a B; intro a E
            refine Jx ?_
            have j8 : (decide (sd = 10)) = true := by (exact decide_eq_true (by omega))
            refine Jj E Y j8 ?_
            refine Qr (JR 3 E Y ?_)
            clear E a; intro a E
            refine QB (Jm E S Y Y Y (WJ a0 a1 (by first | omega | (simp; omega) | (simp only [List.length_append, List.length_cons, List.length_nil]; omega))) lerf ?_)
            clear E a S; rintro a j9 w k0 f5 f6 S E
            replace hr9 := hr9.le (QH QA) f5
            refine QS E (Qb E Y Y) ?_
            clear E a; intro a E
            have e8 := chg_10 hS (by omega)
            subst e8
            refine Jq (Zs E S Y Y (Tryz.sizeOf22 _) (JN.one' f6) (JK hk_16) ?_)
            clear E a S; rintro a w E S
            have f7 := RowsRL.set (k := (st % 8).toNat) hr9 f6
            obtain ⟨m6, hxs_⟩ : ∃ z, z = (xs9).set ((st % 8).toNat) j9 := ⟨_, rfl⟩
            rw [← hxs_] at S f7
            clear hxs_
            replace S := S.reLen (m' := ((t9).set ((st % 8).toNat) (Ur ((t9).getD ((sa % 8).toNat) []) ((t9).getD ((sb % 8).toNat) []))).length) (by rw [List.length_set])
            refine QQ (ZN (JG (QF (Qx E Y ?_))))
            clear E a; intro a E
            refine JQ ?_
            exact Qk E Tryz.results43 Y ⟨_, Y, k0, _, (a9.trans (a8.trans (a4.trans (a6.trans (a5.trans (a7.trans f5)))))), ⟨_, Y, Y, (by exact f7)⟩, S⟩
theorem YC {M : Hp} {v0 v1 : Value} {l0 l1 : List Int} (h0 : Zh M v0 l0) (h1 : Zh M v1 l1)(hb : l0.length ≤ 1000000000)  :
  Pu Tryz.prog (.func (.func 72) #[] #[]) M [v0, v1] (fun r M' => r = .bool (QT l0 l1)) := by
 refine Jt Tryz.func72 Y Tryz.ntmps72 Y Tryz.call72 ?_
 intro a w M1 H hM1 S E
 replace h0 := h0.le hM1
 replace h1 := h1.le hM1
 have b0 := h0.bound
 have b1 := h1.bound
 refine QF (Qx E Y fun _ B => QZ (JR 2 B Y ?_))
 clear E a B; intro a E
 refine QB (Jm E S Y Y Y (Jr h0 h1 (by first | omega | (simp; omega) | (simp only [List.length_append, List.length_cons, List.length_nil]; omega))) lerf ?_)
 clear E a S; rintro a a3 w a0 a1 a2 S E
 refine Jl E Y JE a2.len fun _ B => Jh B Y Y fun _ C => Qx C Y ?_
 clear E a B C; intro a E
 refine JQ ?_
 exact Qk E Tryz.results72 Y ⟨_, Y, a0, a1, (cgB (by (exact within _ _))), S⟩
theorem WK {M : Hp} {v0 v1 : Value} {l0 l1 : List Int} (h0 : Zh M v0 l0) (h1 : Zh M v1 l1)(hb : l0.length + l1.length ≤ 1000000000)  :
  Pu Tryz.prog (.func (.func 71) #[] #[]) M [v0, v1] (fun r M' => JN 1 Up M' r (zk l0 l1)) := by
 refine Jt Tryz.func71 Y Tryz.ntmps71 Y Tryz.call71 ?_
 intro a w M1 H hM1 S E
 replace h0 := h0.le hM1
 replace h1 := h1.le hM1
 have b0 := h0.bound
 have b1 := h1.bound
 refine QF (Qx E Y fun _ B => QZ (JR 2 B Y ?_))
 clear E a B; intro a E
 refine QB (Jm E S Y Y Y (YC h0 h1 (by first | omega | (simp; omega) | (simp only [List.length_append, List.length_cons, List.length_nil]; omega))) lerf ?_)
 clear E a S; rintro a _ w c7 a3 rfl S E
 replace h0 := h0.le a3
 replace h1 := h1.le a3
 refine JR 2 E Y ?_
 clear E a; intro a E
 refine QB (Jm E S Y Y Y (YC h1 h0 (by first | omega | (simp; omega) | (simp only [List.length_append, List.length_cons, List.length_nil]; omega))) lerf ?_)
 clear E a S; rintro a _ w c8 a4 rfl S E
 replace h0 := h0.le a4
 replace h1 := h1.le a4
 refine JR 2 E Y fun _ B => QZ (JR 2 B Y ?_)
 clear E a B; intro a E
 refine QO (QT l0 l1) (fun a2 => ?_) (fun a2 => ?_)
 ·replace E := E.val (t := 9) Y a2
  replace E := E.val (t := 5) Y a2
  replace E := E.val (t := 13) Y a2
  replace E := E.val (t := 14) Y a2
  refine Qc E Y Y (Qq E Y fun _ B => JI B Y Y fun _ C => JR 3 C Y fun _ D => Qc D Y Y (Qq D Y fun _ F => Qc F Y Y (Zk F Y fun _ G => JI G Y Y fun _ I => JR 3 I Y ?_)))
  clear E a B C D F G I; intro a E
  refine QO (QT l1 l0) (fun a0 => ?_) (fun a0 => ?_)
  ·replace E := E.val (t := 12) Y a0
   replace E := E.val (t := 6) Y a0
   replace E := E.val (t := 15) Y a0
   replace E := E.val (t := 16) Y a0
   replace E := E.val (t := 20) Y a0
   replace E := E.val (t := 23) Y a0
   replace E := E.val (t := 24) Y a0
   replace E := E.val (t := 25) Y a0
   refine Qc E Y Y (Qq E Y fun _ B => Qc B Y Y (Zk B Y fun _ C => JI C Y Y fun _ D => JR 2 D Y ?_))
   clear E a B C D; intro a E
   refine QB (Jm E S Y Y Y (Zo h0 h1 (by first | omega | (simp; omega) | (simp only [List.length_append, List.length_cons, List.length_nil]; omega))) lerf ?_)
   clear E a S; rintro a c9 w d0 a5 b3 S E
   replace h0 := h0.le a5
   replace h1 := h1.le a5
   refine Jl E Y JE b3.len fun _ B => Ws B Y Y ?_
   clear E a B; intro a E
   refine QB (UI (R := Up) (vs := [.bool true, .bool true, .bool (!(QT l1 l0)), .bool true, .bool (!true), .bool (decide (0 < (((ZD l0 l1).length : Nat) : Int)))]) (xs := [true, true, !(QT l1 l0), true, !true, decide (0 < (((ZD l0 l1).length : Nat) : Int))]) Gh E S Y T28 Y Y Y (by intro u hu; simp only [List.mem_cons, List.not_mem_nil, or_false] at hu; rcases hu with rfl | rfl | rfl | rfl | rfl | rfl <;> first | exact rfl | exact rfl | exact rfl | exact rfl | exact rfl | exact rfl) Y (ZR (R := Up) Y (ZR (R := Up) Y (ZR (R := Up) Y (ZR (R := Up) Y (ZR (R := Up) Y (ZR (R := Up) Y jP)))))) ?_)
   clear E a S; rintro a d1 w b4 a6 b5 S E
   replace h0 := h0.le a6
   replace h1 := h1.le a6
   refine Qx E Y ?_
   clear E a; intro a E
   refine JQ ?_
   exact Qk E Tryz.results71 Y ⟨_, Y, b4, (a3.trans (a4.trans (a5.trans a6))), (by rw [show (zk l0 l1) = [true, true, !(QT l1 l0), true, !true, decide (0 < (((ZD l0 l1).length : Nat) : Int))] from by (rw [relW, ← WX]; simp [*]; done)]; exact b5), S⟩
  ·replace E := E.val (t := 12) Y a0
   replace E := E.val (t := 6) Y a0
   replace E := E.val (t := 15) Y a0
   replace E := E.val (t := 16) Y a0
   replace E := E.val (t := 20) Y a0
   replace E := E.val (t := 23) Y a0
   replace E := E.val (t := 24) Y a0
   replace E := E.val (t := 25) Y a0
   refine Qd E Y Y Y Y fun _ B => Qd B Y Y Y Y fun _ C => QU C Y Y fun _ D => JR 2 D Y ?_
   clear E a B C D; intro a E
   refine QB (Jm E S Y Y Y (Zo h0 h1 (by first | omega | (simp; omega) | (simp only [List.length_append, List.length_cons, List.length_nil]; omega))) lerf ?_)
   clear E a S; rintro a d2 w d3 a7 b6 S E
   replace h0 := h0.le a7
   replace h1 := h1.le a7
   refine Jl E Y JE b6.len fun _ B => Ws B Y Y ?_
   clear E a B; intro a E
   refine QB (UI (R := Up) (vs := [.bool false, .bool true, .bool (!(QT l1 l0)), .bool false, .bool false, .bool (decide (0 < (((ZD l0 l1).length : Nat) : Int)))]) (xs := [false, true, !(QT l1 l0), false, false, decide (0 < (((ZD l0 l1).length : Nat) : Int))]) Gh E S Y T28 Y Y Y (by intro u hu; simp only [List.mem_cons, List.not_mem_nil, or_false] at hu; rcases hu with rfl | rfl | rfl | rfl | rfl | rfl <;> first | exact rfl | exact rfl | exact rfl | exact rfl | exact rfl | exact rfl) Y (ZR (R := Up) Y (ZR (R := Up) Y (ZR (R := Up) Y (ZR (R := Up) Y (ZR (R := Up) Y (ZR (R := Up) Y jP)))))) ?_)
   clear E a S; rintro a d4 w b7 a8 b8 S E
   replace h0 := h0.le a8
   replace h1 := h1.le a8
   refine Qx E Y ?_
   clear E a; intro a E
   refine JQ ?_
   exact Qk E Tryz.results71 Y ⟨_, Y, b7, (a3.trans (a4.trans (a7.trans a8))), (by rw [show (zk l0 l1) = [false, true, !(QT l1 l0), false, false, decide (0 < (((ZD l0 l1).length : Nat) : Int))] from by (rw [relW, ← WX]; simp [*]; done)]; exact b8), S⟩
 ·replace E := E.val (t := 9) Y a2
  replace E := E.val (t := 5) Y a2
  replace E := E.val (t := 13) Y a2
  replace E := E.val (t := 14) Y a2
  refine Qd E Y Y Y Y fun _ B => QU B Y Y fun _ C => JR 3 C Y fun _ D => Qd D Y Y Y Y fun _ F => Qd F Y Y Y Y fun _ G => QU G Y Y fun _ I => JR 3 I Y ?_
  clear E a B C D F G I; intro a E
  refine QO (QT l1 l0) (fun a1 => ?_) (fun a1 => ?_)
  ·replace E := E.val (t := 12) Y a1
   replace E := E.val (t := 6) Y a1
   replace E := E.val (t := 23) Y a1
   replace E := E.val (t := 24) Y a1
   replace E := E.val (t := 25) Y a1
   refine Qc E Y Y (Qq E Y fun _ B => Qc B Y Y (Zk B Y fun _ C => JI C Y Y fun _ D => JR 2 D Y ?_))
   clear E a B C D; intro a E
   refine QB (Jm E S Y Y Y (Zo h0 h1 (by first | omega | (simp; omega) | (simp only [List.length_append, List.length_cons, List.length_nil]; omega))) lerf ?_)
   clear E a S; rintro a d5 w d6 a9 b9 S E
   replace h0 := h0.le a9
   replace h1 := h1.le a9
   refine Jl E Y JE b9.len fun _ B => Ws B Y Y ?_
   clear E a B; intro a E
   refine QB (UI (R := Up) (vs := [.bool false, .bool false, .bool false, .bool true, .bool (!false), .bool (decide (0 < (((ZD l0 l1).length : Nat) : Int)))]) (xs := [false, false, false, true, !false, decide (0 < (((ZD l0 l1).length : Nat) : Int))]) Gh E S Y T28 Y Y Y (by intro u hu; simp only [List.mem_cons, List.not_mem_nil, or_false] at hu; rcases hu with rfl | rfl | rfl | rfl | rfl | rfl <;> first | exact rfl | exact rfl | exact rfl | exact rfl | exact rfl | exact rfl) Y (ZR (R := Up) Y (ZR (R := Up) Y (ZR (R := Up) Y (ZR (R := Up) Y (ZR (R := Up) Y (ZR (R := Up) Y jP)))))) ?_)
   clear E a S; rintro a d7 w c0 b2 c1 S E
   replace h0 := h0.le b2
   replace h1 := h1.le b2
   refine Qx E Y ?_
   clear E a; intro a E
   refine JQ ?_
   exact Qk E Tryz.results71 Y ⟨_, Y, c0, (a3.trans (a4.trans (a9.trans b2))), (by rw [show (zk l0 l1) = [false, false, false, true, !false, decide (0 < (((ZD l0 l1).length : Nat) : Int))] from by (rw [relW, ← WX]; simp [*]; done)]; exact c1), S⟩
  ·replace E := E.val (t := 12) Y a1
   replace E := E.val (t := 6) Y a1
   replace E := E.val (t := 23) Y a1
   replace E := E.val (t := 24) Y a1
   replace E := E.val (t := 25) Y a1
   refine Qd E Y Y Y Y fun _ B => Qd B Y Y Y Y fun _ C => QU C Y Y fun _ D => JR 2 D Y ?_
   clear E a B C D; intro a E
   refine QB (Jm E S Y Y Y (Zo h0 h1 (by first | omega | (simp; omega) | (simp only [List.length_append, List.length_cons, List.length_nil]; omega))) lerf ?_)
   clear E a S; rintro a d8 w d9 c2 c3 S E
   refine Jl E Y JE c3.len fun _ B => Ws B Y Y ?_
   clear E a B; intro a E
   refine QB (UI (R := Up) (vs := [.bool false, .bool false, .bool false, .bool false, .bool false, .bool (decide (0 < (((ZD l0 l1).length : Nat) : Int)))]) (xs := [false, false, false, false, false, decide (0 < (((ZD l0 l1).length : Nat) : Int))]) Gh E S Y T28 Y Y Y (by intro u hu; simp only [List.mem_cons, List.not_mem_nil, or_false] at hu; rcases hu with rfl | rfl | rfl | rfl | rfl | rfl <;> first | exact rfl | exact rfl | exact rfl | exact rfl | exact rfl | exact rfl) Y (ZR (R := Up) Y (ZR (R := Up) Y (ZR (R := Up) Y (ZR (R := Up) Y (ZR (R := Up) Y (ZR (R := Up) Y jP)))))) ?_)
   clear E a S; rintro a e0 w c4 c5 c6 S E
   refine Qx E Y ?_
   clear E a; intro a E
   refine JQ ?_
   exact Qk E Tryz.results71 Y ⟨_, Y, c4, (a3.trans (a4.trans (c2.trans c5))), (by rw [show (zk l0 l1) = [false, false, false, false, false, decide (0 < (((ZD l0 l1).length : Nat) : Int))] from by (rw [relW, ← WX]; simp [*]; done)]; exact c6), S⟩
theorem Gn {M : Hp} {v0 v1 : Value} {l0 l1 : List Int} (h0 : Zh M v0 l0) (h1 : Zh M v1 l1) :
  Pu Tryz.prog (.func (.func 46) #[] #[]) M [v0, v1] (fun r M' => r = .bool (decide (l0 = l1))) := by
 refine Jt Tryz.func46 Y Tryz.ntmps46 Y Tryz.call46 ?_
 intro a w M1 H hM1 S E
 replace h0 := h0.le hM1
 replace h1 := h1.le hM1
 have b0 := h0.bound
 have b1 := h1.bound
 refine QF (Qx E Y fun _ B => VM (Qq B Y fun _ D => Jl D Y JE h0.len fun _ F => Qq F Y fun _ G => Jl G Y JE h1.len fun _ I => WZ I Y Y ?_))
 clear E a B D F G I; intro a E
 refine Jx ?_
 refine QJ E Y (fun a2 => ?_) (fun a2 => ?_)
 ·refine QF (Qx E Y ?_)
  clear E a; intro a E
  refine WF ?_
  exact Qk E Tryz.results46 Y ⟨_, Y, M1, lerf, (bF (by ((try clear S); (try clear E); first | assumption | omega | rfl | (simp; done) | (simp_all; done) | (simp [List.take_add_one, *]; done) | grind [List.take_add_one]))), S⟩
 ·refine J_q (Qq E Y fun _ B => Jl B Y JE h0.len fun _ D => Qq D Y ?_)
  clear E a B D; intro a E
  refine VJ ?_
  refine Jb (γ := Nat) (fun (k : Nat) a w => ∃ (a0 : Hp), Hp.le M1 a0 ∧ St w a0 (H) ∧ Env a 26 [] [(0, v0), (1, v1), (12, .int .i64 (((l0).length : Nat) : Int)), (13, .int .i64 ((k : Nat) : Int))] ∧ (k ≤ (l0).length) ∧ (l0.length = l1.length) ∧ (l0.take k = l1.take k)) (fun k => ((l0).length) - k) 0 ⟨M1, lerf, S, E.keep ⟨Y, Y, Y, Y, trivial⟩, by ((try clear S); (try clear E); first | assumption | omega | rfl | (simp; done) | (simp_all; done) | (simp [List.take_add_one, *]; done) | grind [List.take_add_one]), by ((try clear S); (try clear E); first | assumption | omega | rfl | (simp; done) | (simp_all; done) | (simp [List.take_add_one, *]; done) | grind [List.take_add_one]), by ((try clear S); (try clear E); first | assumption | omega | rfl | (simp; done) | (simp_all; done) | (simp [List.take_add_one, *]; done) | grind [List.take_add_one])⟩ ?_
  try clear E
  try clear S
  try clear a
  try clear w
  rintro k a w ⟨a0, a1, S, E, b3, b4, b5⟩
  replace h0 := h0.le a1
  replace h1 := h1.le a1
  refine QF (ZG E Y Y ?_)
  clear E a; intro a E
  refine ZB ?_
  refine QJ E Y (fun a3 => ?_) (fun a3 => ?_)
  ·refine zC (JR 2 E Y ?_)
   clear E a; intro a E
   refine ZB ?_
   replace S := S.mono_heap (w' := World.drew _) rfl
   refine QN (C := fun x w => agree a0 w) (bf := (fun i => [])) [0, 1, 2, 3, 4, 5, 6, 7, 8] [0, 1, 2, 3, 4, 5, 6, 7, 8] Tryz.mixed (by kernel_rfl) (fun x hq => S.imm) ?_
   refine Qo E Y (fun w hC => (Qi E Y)) fun _ B => Qo B Y (fun w hC => (Qi B Y)) ?_
   clear E a B; intro a E
   obtain ⟨b6, a4⟩ : ∃ x, (l0)[k]? = some x := ⟨_, List.getElem?_eq_getElem (by first | omega | (simp; done) | (simp; omega) | (simp_all; omega))⟩
   obtain ⟨b7, a5, a6⟩ := h0.at a4
   refine Qo E Y (fun w hC => (Yj E Y Y JE a5 Y)) fun _ B => Qo B Y (fun w hC => (QG B Y Tryz.isAgg3 hC a6)) fun _ D => Qo D Y (fun w hC => (Qi D Y)) fun _ F => Qo F Y (fun w hC => (Qi F Y)) ?_
   clear E a B D F; intro a E
   obtain ⟨b8, a7⟩ : ∃ x, (l1)[k]? = some x := ⟨_, List.getElem?_eq_getElem (by first | omega | (simp; done) | (simp; omega) | (simp_all; omega))⟩
   obtain ⟨b9, a8, a9⟩ := h1.at a7
   refine Qo E Y (fun w hC => (Yj E Y Y JE a8 Y)) fun _ B => Qo B Y (fun w hC => (QG B Y Tryz.isAgg3 hC a9)) fun _ D => Qo D Y (fun w hC => (R_neq D Y Y)) ?_
   clear E a B D; intro a E
   refine Jv (Ju ?_)
   refine JG ?_
   refine QJ E Y (fun b2 => ?_) (fun b2 => ?_)
   ·refine QF (Qx E Y ?_)
    clear E a; intro a E
    refine J_s (jd (qW ?_))
    exact Qk E Tryz.results46 Y ⟨_, Y, a0, a1, (bF (by ((try clear S); (try clear E); first | assumption | omega | rfl | (simp; done) | (simp_all; done) | (simp [List.take_add_one, *]; done) | grind [List.take_add_one]))), S⟩
   ·refine qc (QY (m := ((k + 1 : Nat) : Int)) E Y Y fun _ B => Qq B Y ?_)
    clear E a B; intro a E
    refine Jx ?_
    exact ⟨k + 1, ⟨a0, a1, S, E.keep ⟨Y, Y, Y, Y, trivial⟩, by ((try clear S); (try clear E); first | assumption | omega | rfl | (simp; done) | (simp_all; done) | (simp [List.take_add_one, *]; done) | grind [List.take_add_one]), by ((try clear S); (try clear E); first | assumption | omega | rfl | (simp; done) | (simp_all; done) | (simp [List.take_add_one, *]; done) | grind [List.take_add_one]), by ((try clear S); (try clear E); first | assumption | omega | rfl | (simp; done) | (simp_all; done) | (simp [List.take_add_one, *]; done) | grind [List.take_add_one])⟩, by omega⟩
  ·refine Um (Qx E Y ?_)
   clear E a; intro a E
   refine JQ ?_
   exact Qk E Tryz.results46 Y ⟨_, Y, a0, a1, (bT (by ((try clear S); (try clear E); first | assumption | omega | rfl | (simp; done) | (simp_all; done) | (simp [List.take_add_one, *]; done) | grind [List.take_add_one]))), S⟩
theorem zK {M : Hp} {b9 : Nat} {xs9 : List Value} {t9 t8 : LLst} (hr9 : JX RLi 1 M t9 xs9) {sd sa sb st sx : Int} {v0 : Value} {l0 : List Int} (h0 : Zh M v0 l0){ai : Bool} {an : Int} {v1 : Value} {l1 : List Int} (h1 : Zh M v1 l1)(hS : QM sd (sa % 8).toNat (st % 8).toNat sx l0 (t9.getD (sa % 8).toNat []) (t9.getD (sb % 8).toNat []) t9 t8 ai an l1) (hl9 : t9.length = 8) (hc9 : ∀ c ∈ t9, Qw c = c ∧ c.length ≤ 100000) (hb0 : l0.length ≤ 100000) (hd : 11 ≤ sd ∧ sd ≤ 23)  :
  Sp Tryz.prog (.func (.func 44) #[] #[]) M [.pointer (some ⟨b9, 0, none⟩), .agg #[.int .i64 sd, .int .i64 sa, .int .i64 sb, .int .i64 st, .int .i64 sx, v0], .agg #[.bool ai, .int .i64 an, v1]] [Jk 66 1 (.slice (some ⟨b9, 0, none⟩) 8 8) t9.length xs9] (fun r M' C' => C' = [Jk 66 1 (.slice (some ⟨b9, 0, none⟩) 8 8) t9.length xs9] ∧ r = .bool true) := by
 refine Qu Tryz.func44 Y Tryz.ntmps44 Y Tryz.call44 ?_
 intro a w M1 H hM1 S E
 replace S : St w M1 (Jk 66 1 (.slice (some ⟨b9, 0, none⟩) 8 8) t9.length xs9 :: _) := S
 replace h0 := h0.le hM1
 replace h1 := h1.le hM1
 replace hr9 := hr9.le (QH QA) hM1
 have b0 := h0.bound
 have b1 := h1.bound
 have hca := zY hc9 (k := (sa % 8).toNat) (by omega)
 obtain ⟨hca1, hca2⟩ := hca
 have hcb := zY hc9 (k := (sb % 8).toNat) (by omega)
 obtain ⟨hcb1, hcb2⟩ := hcb
 refine QF ?_
 refine QB (Yz (cs := #[.int .i64 sd, .int .i64 sa, .int .i64 sb, .int .i64 st, .int .i64 sx, v0]) E S Y Y Y ?_)
 clear E a S; rintro a w d8 E S
 obtain ⟨d9, a6, a0, S⟩ := S.freezeB
 replace h0 := h0.le a6
 replace h1 := h1.le a6
 replace hr9 := hr9.le (QH QA) a6
 refine QB (Yz (cs := #[.bool ai, .int .i64 an, v1]) E S Y Y Y ?_)
 clear E a S; rintro a w e0 E S
 obtain ⟨b7, a5, a2, S⟩ := S.freezeB
 replace h0 := h0.le a5
 replace h1 := h1.le a5
 replace hr9 := hr9.le (QH QA) a5
 replace a0 := a5.2 _ _ a0
 refine Qx E Y ?_
 clear E a; intro a E
 refine ZB ?_
 have hb_1k4 := a0
 have hb_3k4 := a2
 replace S := S.mono_heap (w' := World.drew _) rfl
 have hk_5 : ((sa % 8).toNat) < 8 := by omega
 obtain ⟨b8, b5, a1⟩ := Ud hr9 (k := (sa % 8).toNat) (by (first | omega | (simp only [List.length_set]; omega)))
 have e1 := a1.bound
 have hk_8 : ((sb % 8).toNat) < 8 := by omega
 obtain ⟨c0, b6, a8⟩ := Ud hr9 (k := (sb % 8).toNat) (by (first | omega | (simp only [List.length_set]; omega)))
 have e2 := a8.bound
 refine QN (C := fun x w => agree b7 w ∧ (x = 6 → w.cell? (Addr.add ⟨b9, 0, none⟩ (((sa % 8).toNat) * 1)) = some b8) ∧ (x = 13 → w.cell? (Addr.add ⟨b9, 0, none⟩ (((sb % 8).toNat) * 1)) = some c0)) (bf := (fun i => bif Nat.beq i 3 then [] else bif Nat.beq i 10 then [] else [])) [0, 1, 2, 4, 5, 6, 7, 8, 9, 11, 12, 13, 14, 15] [0, 1, 2, 4, 7, 8, 9, 11, 3, 5, 6, 10, 12, 13, 14, 15] Tryz.mixed (by kernel_rfl) (fun x hq => ⟨S.imm, fun _ => S.cellC (JK hk_5) b5, fun _ => S.cellC (JK hk_8) b6⟩) ?_
 refine Qo E Y (fun w hC => (Qi E Y)) fun _ B => Qo B Y (fun w hC => (Ql B Y (WD _))) fun _ D => Qo D Y (fun w hC => (QG D Y Tryz.isAgg3 hC.1 (Qf hb_1k4 Y))) fun _ F => Qo F Y (fun w hC => (Qb F Y Y)) fun _ G => Qo G Y (fun w hC => (Qi G Y)) fun _ I => Qo I Y (fun w hC => (Ql I Y (FA67_2 _))) fun _ J => Qo J Y (fun w hC => (QG J Y Tryz.isAgg3 hC.1 (Qf hb_1k4 Y))) fun _ K => Qo K Y (fun w hC => (Qb K Y Y)) ?_
 clear E a B D F G I J K; intro a E
 refine Zd Y Y Y (Jm E S Y Y Y (Zb ) lerf ?_)
 clear E a S; rintro a _ w e3 a3 rfl S E
 replace h0 := h0.le a3
 replace h1 := h1.le a3
 replace a0 := a3.2 _ _ a0
 replace a2 := a3.2 _ _ a2
 replace a1 := a1.le a3
 replace a8 := a8.le a3
 refine ⟨fun x hq hb => ⟨(Qg a3 S.imm), (fun _ => S.cellC (JK hk_5) b5), (fun _ => S.cellC (JK hk_8) b6)⟩, ?_⟩
 have hk_12 : ((sa % 8).toNat) < 8 := by omega
 refine Qo E Y (fun w hC => (VF (k := (sa % 8).toNat) (m := 8) E Y Y Tryz.underlying66 (Tryz.sizeOf22 _) hk_12 (by omega))) fun _ B => Qo B Y (fun w hC => (Jz B Y (Tryz.isAgg22 _) (hC.2.1 Y))) ?_
 clear E a B; intro a E
 refine Zd Y Y Y (Jm E S Y Y Y (Zb ) lerf ?_)
 clear E a S; rintro a _ w b2 a4 rfl S E
 replace h0 := h0.le a4
 replace h1 := h1.le a4
 replace a0 := a4.2 _ _ a0
 replace a2 := a4.2 _ _ a2
 replace a1 := a1.le a4
 replace a8 := a8.le a4
 refine ⟨fun x hq hb => ⟨(Qg (a3.trans a4) S.imm), (fun _ => S.cellC (JK hk_5) b5), (fun _ => S.cellC (JK hk_8) b6)⟩, ?_⟩
 have hk_14 : ((sb % 8).toNat) < 8 := by omega
 refine Qo E Y (fun w hC => (VF (k := (sb % 8).toNat) (m := 8) E Y Y Tryz.underlying66 (Tryz.sizeOf22 _) hk_14 (by omega))) fun _ B => Qo B Y (fun w hC => (Jz B Y (Tryz.isAgg22 _) (hC.2.2 Y))) fun _ D => Qo D Y (fun w hC => (Qy D Y)) fun _ F => Qo F Y (fun w hC => (Qy F Y)) ?_
 clear E a B D F; intro a E
 refine Jv (Ju ?_)
 refine JG (Za (Jw (QF (Qa E Y (Zq _) fun _ B => Qz B Y Tryz.isAgg3 S.imm (Qf a0 Y) fun _ D => zV D Y Y fun _ F => Qx F Y ?_))))
 clear E a B D F; intro a E
 refine Jx ?_
 refine QJ E Y (fun c1 => ?_) (fun c1 => ?_)
 ·obtain ⟨e8, e9⟩ := vo hS hd.1 (by omega)
  refine Za ?_
  have hb_1k15 := a0
  have hb_3k15 := a2
  have hu_6k15 := a1
  have hu_9k15 := a8
  replace S := S.mono_heap (w' := World.drew _) rfl
  refine QN (C := fun x w => agree b2 w) (bf := (fun i => [])) [0, 1, 2, 3, 5, 6, 7, 8, 10, 11] [0, 1, 2, 3, 5, 6, 7, 4, 8, 9, 10, 11] Tryz.mixed (by kernel_rfl) (fun x hq => S.imm) ?_
  refine Qo E Y (fun w hC => (Ql E Y (Vo _))) fun _ B => Qo B Y (fun w hC => (QG B Y Tryz.isAgg4 hC (Qf hb_3k15 Y))) fun _ D => Qo D Y (fun w hC => (Qi D Y)) fun _ F => Qo F Y (fun w hC => (Qi F Y)) fun _ G => Qo G Y (fun w hC => (Ql G Y (Zq _))) fun _ I => Qo I Y (fun w hC => (QG I Y Tryz.isAgg3 hC (Qf hb_1k15 Y))) fun _ J => Qo J Y (fun w hC => (yU (m := sd - 11) J Y Y (by omega) (by omega))) ?_
  clear E a B D F G I J; intro a E
  refine Zd Y Y Y (Jm E S Y Y Y (WK a1 a8 (by first | omega | (simp; omega) | (simp only [List.length_append, List.length_cons, List.length_nil]; omega))) lerf ?_)
  clear E a S; rintro a e4 w c2 a7 c3 S E
  replace h0 := h0.le a7
  replace h1 := h1.le a7
  replace a0 := a7.2 _ _ a0
  replace a2 := a7.2 _ _ a2
  replace a1 := a1.le a7
  refine ⟨fun x hq hb => (Qg a7 S.imm), ?_⟩
  obtain ⟨e5, c4⟩ : ∃ x, (zk ((t9).getD ((sa % 8).toNat) []) ((t9).getD ((sb % 8).toNat) []))[(sd - 11).toNat]? = some x := ⟨_, List.getElem?_eq_getElem (by (rw [relL_len]; omega))⟩
  obtain ⟨e6, c5, c6⟩ := RdB.at c3 c4
  refine Qo E Y (fun w hC => (Yj E Y Y T28 c5 (by omega))) ?_
  clear E a; intro a E
  refine Zd Y Y Y (Vf E Y Y (QG E Y Tryz.isAgg4 S.imm c6) fun a E => ⟨fun x hq hb => (Qg a7 S.imm), ?_⟩)
  refine Qo E Y (fun w hC => (GE E Y Y Tryz.underlying4)) fun _ B => Qo B Y (fun w hC => (Qy B Y)) ?_
  clear E a B; intro a E
  refine Jv (Ju ?_)
  refine JG (Yr (jd (qW ?_)))
  exact Qk E Tryz.results44 Y ⟨_, Y, c2, _, (a6.trans (a5.trans (a3.trans (a4.trans a7)))), ⟨Y, (cgB (by have e7 := Option.some.inj (e9.symm.trans (by assumption)); subst e7; simp))⟩, S⟩
 ·refine QF (Qa E Y (Zq _) fun _ B => Qz B Y Tryz.isAgg3 S.imm (Qf a0 Y) fun _ D => Jh D Y Y fun _ F => Qx F Y ?_)
  clear E a B D F; intro a E
  refine Jx ?_
  refine QJ E Y (fun c7 => ?_) (fun c7 => ?_)
  ·obtain ⟨e8, e9⟩ := ask_17 hS (by omega)
   refine Za ?_
   have hb_1k20 := a0
   have hb_3k20 := a2
   replace S := S.mono_heap (w' := World.drew _) rfl
   refine QN (C := fun x w => agree b2 w) (bf := (fun i => [])) [0, 1, 2, 3, 4, 6, 7] [0, 1, 2, 3, 4, 5, 6, 7] Tryz.mixed (by kernel_rfl) (fun x hq => S.imm) ?_
   refine Qo E Y (fun w hC => (Ql E Y (Vo _))) fun _ B => Qo B Y (fun w hC => (QG B Y Tryz.isAgg4 hC (Qf hb_3k20 Y))) fun _ D => Qo D Y (fun w hC => (Ql D Y (GH _))) fun _ F => Qo F Y (fun w hC => (QG F Y Tryz.isAgg22 hC (Qf hb_1k20 Y))) fun _ G => Qo G Y (fun w hC => (Qi G Y)) ?_
   clear E a B D F G; intro a E
   refine Zd Y Y Y (Jm E S Y Y Y (YC h0 a1 (by first | omega | (simp; omega) | (simp only [List.length_append, List.length_cons, List.length_nil]; omega))) lerf ?_)
   clear E a S; rintro a _ w c8 a9 rfl S E
   replace h0 := h0.le a9
   replace h1 := h1.le a9
   replace a0 := a9.2 _ _ a0
   replace a2 := a9.2 _ _ a2
   replace a1 := a1.le a9
   refine ⟨fun x hq hb => (Qg a9 S.imm), ?_⟩
   refine Qo E Y (fun w hC => (GE E Y Y Tryz.underlying4)) fun _ B => Qo B Y (fun w hC => (Qy B Y)) ?_
   clear E a B; intro a E
   refine Jv (Ju ?_)
   refine JG (Yr (jd (qW ?_)))
   exact Qk E Tryz.results44 Y ⟨_, Y, c8, _, (a6.trans (a5.trans (a3.trans (a4.trans a9)))), ⟨Y, (cgB (by rw [e9]; simp))⟩, S⟩
  ·refine QF (Qa E Y (Zq _) fun _ B => Qz B Y Tryz.isAgg3 S.imm (Qf a0 Y) fun _ D => Jh D Y Y fun _ F => Qx F Y ?_)
   clear E a B D F; intro a E
   refine Jx ?_
   refine QJ E Y (fun c9 => ?_) (fun c9 => ?_)
   ·obtain ⟨e8, e9⟩ := ask_18 hS (by omega)
    refine Za ?_
    have hb_1k22 := a0
    have hb_3k22 := a2
    replace S := S.mono_heap (w' := World.drew _) rfl
    refine QN (C := fun x w => agree b2 w) (bf := (fun i => [])) [0, 1, 2, 3, 4, 6, 7, 8, 9] [0, 1, 2, 3, 4, 5, 6, 7, 8, 9] Tryz.mixed (by kernel_rfl) (fun x hq => S.imm) ?_
    refine Qo E Y (fun w hC => (Ql E Y (Vo _))) fun _ B => Qo B Y (fun w hC => (QG B Y Tryz.isAgg4 hC (Qf hb_3k22 Y))) fun _ D => Qo D Y (fun w hC => (Ql D Y (GH _))) fun _ F => Qo F Y (fun w hC => (QG F Y Tryz.isAgg22 hC (Qf hb_1k22 Y))) fun _ G => Qo G Y (fun w hC => (Qi G Y)) ?_
    clear E a B D F G; intro a E
    refine Zd Y Y Y (Jm E S Y Y Y (Zo h0 a1 (by first | omega | (simp; omega) | (simp only [List.length_append, List.length_cons, List.length_nil]; omega))) lerf ?_)
    clear E a S; rintro a f0 w d0 b3 d1 S E
    replace h1 := h1.le b3
    replace a0 := b3.2 _ _ a0
    replace a2 := b3.2 _ _ a2
    replace a1 := a1.le b3
    refine ⟨fun x hq hb => (Qg b3 S.imm), ?_⟩
    refine Qo E Y (fun w hC => (za E Y JE d1.len)) fun _ B => Qo B Y (fun w hC => (R_gtr B Y Y)) fun _ D => Qo D Y (fun w hC => (GE D Y Y Tryz.underlying4)) fun _ F => Qo F Y (fun w hC => (Qy F Y)) ?_
    clear E a B D F; intro a E
    refine Jv (Ju ?_)
    refine JG (Yr (jd (qW ?_)))
    exact Qk E Tryz.results44 Y ⟨_, Y, d0, _, (a6.trans (a5.trans (a3.trans (a4.trans b3)))), ⟨Y, (cgB (by rw [e9, WX]; simp))⟩, S⟩
   ·refine QF (Qa E Y (Zq _) fun _ B => Qz B Y Tryz.isAgg3 S.imm (Qf a0 Y) fun _ D => Jh D Y Y fun _ F => Qx F Y ?_)
    clear E a B D F; intro a E
    refine Jx ?_
    refine QJ E Y (fun d2 => ?_) (fun d2 => ?_)
    ·obtain ⟨e8, e9⟩ := ask_19 hS (by omega)
     refine Za ?_
     have hb_1k25 := a0
     have hb_3k25 := a2
     replace S := S.mono_heap (w' := World.drew _) rfl
     refine QN (C := fun x w => agree b2 w) (bf := (fun i => [])) [0, 1, 2, 3, 4, 6, 7] [0, 1, 2, 3, 4, 5, 6, 7] Tryz.mixed (by kernel_rfl) (fun x hq => S.imm) ?_
     refine Qo E Y (fun w hC => (Ql E Y (Vo _))) fun _ B => Qo B Y (fun w hC => (QG B Y Tryz.isAgg4 hC (Qf hb_3k25 Y))) fun _ D => Qo D Y (fun w hC => (Qi D Y)) fun _ F => Qo F Y (fun w hC => (Ql F Y (ze _))) fun _ G => Qo G Y (fun w hC => (QG G Y Tryz.isAgg3 hC (Qf hb_1k25 Y))) ?_
     clear E a B D F G; intro a E
     refine Zd Y Y Y (Jm E S Y Y Y (WM a1) lerf ?_)
     clear E a S; rintro a _ w d3 b4 rfl S E
     replace h1 := h1.le b4
     replace a0 := b4.2 _ _ a0
     replace a2 := b4.2 _ _ a2
     replace a1 := a1.le b4
     refine ⟨fun x hq hb => (Qg b4 S.imm), ?_⟩
     refine Qo E Y (fun w hC => (GE E Y Y Tryz.underlying4)) fun _ B => Qo B Y (fun w hC => (Qy B Y)) ?_
     clear E a B; intro a E
     refine Jv (Ju ?_)
     refine JG (Yr (jd (qW ?_)))
     exact Qk E Tryz.results44 Y ⟨_, Y, d3, _, (a6.trans (a5.trans (a3.trans (a4.trans b4)))), ⟨Y, (cgB (by rw [e9]; simp))⟩, S⟩
    ·refine QF (Qa E Y (Zq _) fun _ B => Qz B Y Tryz.isAgg3 S.imm (Qf a0 Y) fun _ D => Jh D Y Y fun _ F => Qx F Y ?_)
     clear E a B D F; intro a E
     refine Jx ?_
     refine QJ E Y (fun d4 => ?_) (fun d4 => ?_)
     ·obtain ⟨e8, e9⟩ := ask_20 hS (by omega) hca1
      refine QF (Qa E Y (VH _) fun _ B => Qz B Y Tryz.isAgg3 S.imm (Qf a2 Y) fun _ D => Qq D Y fun _ F => Jl F Y JE a1.len fun _ G => Jh G Y Y fun _ I => Qx I Y ?_)
      clear E a B D F G I; intro a E
      refine J_r ?_
      exact Qk E Tryz.results44 Y ⟨_, Y, b2, _, (a6.trans (a5.trans (a3.trans a4))), ⟨Y, (cgB (by rw [e9]; simp))⟩, S⟩
     ·refine QF (Qa E Y (Zq _) fun _ B => Qz B Y Tryz.isAgg3 S.imm (Qf a0 Y) fun _ D => Jh D Y Y fun _ F => Qx F Y ?_)
      clear E a B D F; intro a E
      refine Jx ?_
      refine QJ E Y (fun d5 => ?_) (fun d5 => ?_)
      ·obtain ⟨e8, e9⟩ := ask_21 hS (by omega) hca1
       refine QF (Qa E Y (Vo _) fun _ B => Qz B Y Tryz.isAgg4 S.imm (Qf a2 Y) fun _ D => Qq D Y fun _ F => Jl F Y JE a1.len fun _ G => Jh G Y Y fun _ I => e_eqlB I Y Y Tryz.underlying4 fun _ J => Qx J Y ?_)
       clear E a B D F G I J; intro a E
       refine J_r ?_
       exact Qk E Tryz.results44 Y ⟨_, Y, b2, _, (a6.trans (a5.trans (a3.trans a4))), ⟨Y, (cgB (by rw [e9]; simp))⟩, S⟩
      ·obtain ⟨e8, e9⟩ := ask_22 hS (by omega) (by omega) hca1
       refine J_y (Qa E Y (GG _) fun _ B => Qz B Y Tryz.isAgg22 S.imm (Qf a2 Y) fun _ D => Qq D Y ?_)
       clear E a B D; intro a E
       refine QB (Jm E S Y Y Y (Gn h1 a1) lerf ?_)
       clear E a S; rintro a _ w d6 d7 rfl S E
       refine Qx E Y ?_
       clear E a; intro a E
       refine JQ ?_
       exact Qk E Tryz.results44 Y ⟨_, Y, d6, _, (a6.trans (a5.trans (a3.trans (a4.trans d7)))), ⟨Y, (cgB (by rw [e9]; simp))⟩, S⟩
theorem Yw {M : Hp} {b9 : Nat} {xs9 : List Value} {t9 t8 : LLst} (hr9 : JX RLi 1 M t9 xs9) {sd sa sb st sx : Int} {v0 : Value} {l0 : List Int} (h0 : Zh M v0 l0){ai : Bool} {an : Int} {v1 : Value} {l1 : List Int} (h1 : Zh M v1 l1)(hS : QM sd (sa % 8).toNat (st % 8).toNat sx l0 (t9.getD (sa % 8).toNat []) (t9.getD (sb % 8).toNat []) t9 t8 ai an l1) (hl9 : t9.length = 8) (hc9 : ∀ c ∈ t9, Qw c = c ∧ c.length ≤ 100000) (hb0 : l0.length ≤ 100000) (hd : sd = 24 ∨ sd = 25)  :
  Sp Tryz.prog (.func (.func 45) #[] #[]) M [.pointer (some ⟨b9, 0, none⟩), .agg #[.int .i64 sd, .int .i64 sa, .int .i64 sb, .int .i64 st, .int .i64 sx, v0], .agg #[.bool ai, .int .i64 an, v1]] [Jk 66 1 (.slice (some ⟨b9, 0, none⟩) 8 8) t9.length xs9] (fun r M' C' => ∃ xs_, C' = [Jk 66 1 (.slice (some ⟨b9, 0, none⟩) 8 8) t8.length xs_] ∧ r = .bool true ∧ (JX RLi 1 M' t8 xs_)) := by
 refine Qu Tryz.func45 Y Tryz.ntmps45 Y Tryz.call45 ?_
 intro a w M1 H hM1 S E
 replace S : St w M1 (Jk 66 1 (.slice (some ⟨b9, 0, none⟩) 8 8) t9.length xs9 :: _) := S
 replace h0 := h0.le hM1
 replace h1 := h1.le hM1
 replace hr9 := hr9.le (QH QA) hM1
 have b0 := h0.bound
 have b1 := h1.bound
 have hca := zY hc9 (k := (sa % 8).toNat) (by omega)
 obtain ⟨hca1, hca2⟩ := hca
 have hcb := zY hc9 (k := (sb % 8).toNat) (by omega)
 obtain ⟨hcb1, hcb2⟩ := hcb
 refine QF ?_
 refine QB (Yz (cs := #[.int .i64 sd, .int .i64 sa, .int .i64 sb, .int .i64 st, .int .i64 sx, v0]) E S Y Y Y ?_)
 clear E a S; rintro a w g2 E S
 obtain ⟨g3, a5, a2, S⟩ := S.freezeB
 replace h1 := h1.le a5
 replace hr9 := hr9.le (QH QA) a5
 refine QB (Yz (cs := #[.bool ai, .int .i64 an, v1]) E S Y Y Y ?_)
 clear E a S; rintro a w g4 E S
 obtain ⟨f1, a4, a0, S⟩ := S.freezeB
 replace h1 := h1.le a4
 replace hr9 := hr9.le (QH QA) a4
 replace a2 := a4.2 _ _ a2
 refine Qx E Y ?_
 clear E a; intro a E
 refine ZB ?_
 have hb_1k4 := a2
 have hb_3k4 := a0
 replace S := S.mono_heap (w' := World.drew _) rfl
 refine QN (C := fun x w => agree f1 w) (bf := (fun i => [])) [0, 1, 2, 4, 5, 7] [0, 1, 2, 4, 3, 5, 6, 7] Tryz.mixed (by kernel_rfl) (fun x hq => S.imm) ?_
 refine Qo E Y (fun w hC => (Qi E Y)) fun _ B => Qo B Y (fun w hC => (Ql B Y (WD _))) fun _ D => Qo D Y (fun w hC => (QG D Y Tryz.isAgg3 hC (Qf hb_1k4 Y))) fun _ F => Qo F Y (fun w hC => (Qb F Y Y)) ?_
 clear E a B D F; intro a E
 refine Zd Y Y Y (Jm E S Y Y Y (Zb ) lerf ?_)
 clear E a S; rintro a _ w e1 a3 rfl S E
 replace h1 := h1.le a3
 replace hr9 := hr9.le (QH QA) a3
 replace a2 := a3.2 _ _ a2
 replace a0 := a3.2 _ _ a0
 refine ⟨fun x hq hb => (Qg a3 S.imm), ?_⟩
 have hk_6 : ((sa % 8).toNat) < 8 := by omega
 refine Qo E Y (fun w hC => (VF (k := (sa % 8).toNat) (m := 8) E Y Y Tryz.underlying66 (Tryz.sizeOf22 _) hk_6 (by omega))) ?_
 clear E a; intro a E
 obtain ⟨g5, f2, a1⟩ := Ud hr9 (k := (sa % 8).toNat) (by (first | omega | (simp only [List.length_set]; omega)))
 have g6 := a1.bound
 refine Zd Y Y Y (Vf E Y Y (Jz E Y (Tryz.isAgg22 _) (S.cellC (JK hk_6) f2)) fun a E => ⟨fun x hq hb => (Qg a3 S.imm), ?_⟩)
 refine Qo E Y (fun w hC => (Qy E Y)) ?_
 clear E a; intro a E
 refine Jv (Ju ?_)
 refine JG (J_p (Qa E Y (Zq _) fun _ B => Qz B Y Tryz.isAgg3 S.imm (Qf a2 Y) fun _ D => Jh D Y Y ?_))
 clear E a B D; intro a E
 refine Jx ?_
 refine QJ E Y (fun f3 => ?_) (fun f3 => ?_)
 ·obtain ⟨e8, e9, e10⟩ := pop_24 hS (by omega)
  subst e8
  refine Za ?_
  refine UT Tryz.mixed ?_
  refine DG_split2 3 7 (by decide) (by kernel_rfl) ?_ ?_
  ·have hb_1k9 := a2
   have hb_3k9 := a0
   have hu_7k9 := a1
   replace S := S.mono_heap (w' := World.drew _) rfl
   refine YN (C := fun x w => agree e1 w) (bf := (fun i => [])) [0, 1, 2, 4, 5, 6, 9, 10] [0, 1, 2, 4, 5, 6, 9, 3, 7, 8, 10, 11] (by kernel_rfl) (fun x hq => S.imm) ?_
   refine Qo E Y (fun w hC => (Qi E Y)) fun _ B => Qo B Y (fun w hC => (Ql B Y (WD _))) fun _ D => Qo D Y (fun w hC => (QG D Y Tryz.isAgg3 hC (Qf hb_1k9 Y))) fun _ F => Qo F Y (fun w hC => (Qi F Y)) fun _ G => Qo G Y (fun w hC => (Ql G Y (VH _))) fun _ I => Qo I Y (fun w hC => (QG I Y Tryz.isAgg3 hC (Qf hb_3k9 Y))) fun _ J => Qo J Y (fun w hC => (Qb J Y Y)) ?_
   clear E a B D F G I J; intro a E
   refine Zd Y Y Y (Jm E S Y Y Y (Zb ) lerf ?_)
   clear E a S; rintro a _ w g7 a6 rfl S E
   replace h1 := h1.le a6
   replace hr9 := hr9.le (QH QA) a6
   replace a2 := a6.2 _ _ a2
   replace a0 := a6.2 _ _ a0
   replace a1 := a1.le a6
   refine ⟨fun x hq hb => (Qg a6 S.imm), ?_⟩
   refine Zd Y Y Y (Jf (ys := [an]) E S Y JE Y Y Y ?_)
   clear E a S; rintro a w g8 E S
   refine ⟨fun x hq hb => (Qg a6 S.imm), ?_⟩
   have S0 := S; clear S
   obtain ⟨g9, a8, f4, S⟩ := S0.freezeI (by (first | omega | (simp only [List.length_append, List.length_cons, List.length_nil]; omega) | (simp; omega)))
   clear S0
   replace h1 := h1.le a8
   replace hr9 := hr9.le (QH QA) a8
   replace a2 := a8.2 _ _ a2
   replace a0 := a8.2 _ _ a0
   replace a1 := a1.le a8
   refine Zd Y Y Y (Jm E S Y Y Y (Jr a1 f4 (by first | omega | (simp; omega) | (simp only [List.length_append, List.length_cons, List.length_nil]; omega))) lerf ?_)
   clear E a S; rintro a f5 w e2 a9 e6 S E
   replace h1 := h1.le a9
   replace hr9 := hr9.le (QH QA) a9
   replace a2 := a9.2 _ _ a2
   replace a0 := a9.2 _ _ a0
   replace a1 := a1.le a9
   refine ⟨fun x hq hb => (Qg (a6.trans (a8.trans a9)) S.imm), ?_⟩
   have hk_16 : ((sa % 8).toNat) < 8 := by omega
   refine Qo E Y (fun w hC => (VF (k := (sa % 8).toNat) (m := 8) E Y Y Tryz.underlying66 (Tryz.sizeOf22 _) hk_16 (by omega))) ?_
   clear E a; intro a E
   refine Zd Y Y Y (Zs E S Y Y (Tryz.sizeOf22 _) (JN.one' e6) (JK hk_16) ?_)
   clear E a S; rintro a w E S
   have c6 := RowsRL.set (k := (sa % 8).toNat) hr9 e6
   obtain ⟨h2, hxs_⟩ : ∃ z, z = (xs9).set ((sa % 8).toNat) f5 := ⟨_, rfl⟩
   rw [← hxs_] at S c6
   clear hxs_
   replace S := S.reLen (m' := ((t9).set ((sa % 8).toNat) (Ji ((t9).getD ((sa % 8).toNat) []) [an])).length) (by rw [List.length_set])
   refine ⟨fun x hq hb => (Qg (a6.trans (a8.trans a9)) S.imm), ?_⟩
   refine Jv (Ju ?_)
   refine JG (QF (Qa E Y (Vo _) fun _ B => Qz B Y Tryz.isAgg4 S.imm (Qf a0 Y) fun _ D => Qq D Y ?_))
   clear E a B D; intro a E
   refine QO ai (fun d3 => ?_) (fun d3 => ?_)
   ·replace E := E.val (t := 31) Y d3
    replace E := E.val (t := 32) Y d3
    refine Qc E Y Y (Qq E Y fun _ B => Qc B Y Y (Qa B Y (VH _) fun _ D => Qc D Y Y (Qz D Y Tryz.isAgg3 S.imm (Qf a0 Y) ?_)))
    clear E a B D; intro a E
    refine Qc E Y Y ?_
    refine QB (Jm E S Y Y Y (WM a1) lerf ?_)
    clear E a S; rintro a _ w d9 c8 rfl S E
    replace h1 := h1.le c8
    replace a2 := c8.2 _ _ a2
    replace a0 := c8.2 _ _ a0
    replace a1 := a1.le c8
    replace c6 := c6.le (QH QA) c8
    refine JI E Y Y fun _ B => Qq B Y ?_
    clear E a B; intro a E
    refine QO (decide (an ∈ ((t9).getD ((sa % 8).toNat) []))) (fun b5 => ?_) (fun b5 => ?_)
    ·replace E := E.val (t := 36) Y b5
     replace E := E.val (t := 37) Y b5
     replace E := E.val (t := 38) Y b5
     replace b5 := of_decide_eq_true b5
     refine Qd E Y Y Y Y fun _ B => Qd B Y Y Y Y fun _ D => Qd D Y Y Y Y fun _ F => Qd F Y Y Y Y ?_
     clear E a B D F; intro a E
     refine Ze E Y Y Y fun a E => ?_
     refine Ze E Y Y Y fun a E => ?_
     refine Ze E Y Y Y fun a E => ?_
     refine Qd E Y Y Y Y fun _ B => Qd B Y Y Y Y ?_
     clear E a B; intro a E
     refine Ze E Y Y Y fun a E => ?_
     refine Ze E Y Y Y fun a E => ?_
     refine Ze E Y Y Y fun a E => ?_
     refine Qd E Y Y Y Y fun _ B => JI B Y Y fun _ D => Qx D Y ?_
     clear E a B D; intro a E
     refine WF ?_
     exact Qk E Tryz.results45 Y ⟨_, Y, d9, _, (a5.trans (a4.trans (a3.trans (a6.trans (a8.trans (a9.trans c8)))))), ⟨_, Y, (cgB (by clear S E; first | rfl | (exfalso; omega) | exact e12 | exact absurd e11.symm (by assumption) | exact absurd (e9 (by assumption)) (by assumption) | (rw [(e10 (by assumption)).2]; rfl) | exact absurd (e10 (by assumption)).1 (by assumption) | (have h8 : (!ai) = false := (by assumption); rw [show ai = false by assumption] at h8; exact absurd h8 (by decide)))), (by exact c6)⟩, S⟩
    ·replace E := E.val (t := 36) Y b5
     replace E := E.val (t := 37) Y b5
     replace E := E.val (t := 38) Y b5
     replace b5 := of_decide_eq_false b5
     refine Qc E Y Y (Qa E Y (Vo _) fun _ B => Qc B Y Y (Qz B Y Tryz.isAgg4 S.imm (Qf a0 Y) fun _ D => Qc D Y Y (Zk D Y fun _ F => Qc F Y Y (Qq F Y ?_))))
     clear E a B D F; intro a E
     refine QO (!ai) (fun d4 => ?_) (fun d4 => ?_)
     ·replace E := E.val (t := 41) Y d4
      replace E := E.val (t := 42) Y d4
      refine Qc E Y Y (Qa E Y (VH _) fun _ B => Qc B Y Y (Qz B Y Tryz.isAgg3 S.imm (Qf a0 Y) fun _ D => Qc D Y Y (Jh D Y Y fun _ F => Qc F Y Y (JI F Y Y fun _ G => Qc G Y Y (Qq G Y ?_)))))
      clear E a B D F G; intro a E
      refine QO (decide (an = 0)) (fun b6 => ?_) (fun b6 => ?_)
      ·replace E := E.val (t := 45) Y b6
       replace E := E.val (t := 46) Y b6
       replace E := E.val (t := 47) Y b6
       replace b6 := of_decide_eq_true b6
       refine Qc E Y Y (Qq E Y fun _ B => Qc B Y Y (Jl B Y JE a1.len fun _ D => Qc D Y Y (Jh D Y Y fun _ F => Qc F Y Y (JI F Y Y fun _ G => QU G Y Y fun _ I => Qx I Y ?_))))
       clear E a B D F G I; intro a E
       refine WF ?_
       exact Qk E Tryz.results45 Y ⟨_, Y, d9, _, (a5.trans (a4.trans (a3.trans (a6.trans (a8.trans (a9.trans c8)))))), ⟨_, Y, (cgB (by clear S E; first | rfl | (exfalso; omega) | exact e12 | exact absurd e11.symm (by assumption) | exact absurd (e9 (by assumption)) (by assumption) | (rw [(e10 (by assumption)).2]; rfl) | exact absurd (e10 (by assumption)).1 (by assumption) | (have h8 : (!ai) = false := (by assumption); rw [show ai = false by assumption] at h8; exact absurd h8 (by decide)))), (by exact c6)⟩, S⟩
      ·replace E := E.val (t := 45) Y b6
       replace E := E.val (t := 46) Y b6
       replace E := E.val (t := 47) Y b6
       replace b6 := of_decide_eq_false b6
       refine Qd E Y Y Y Y fun _ B => Qd B Y Y Y Y fun _ D => Qd D Y Y Y Y fun _ F => Qc F Y Y (QU F Y Y fun _ G => QU G Y Y fun _ I => Qx I Y ?_)
       clear E a B D F G I; intro a E
       refine WF ?_
       exact Qk E Tryz.results45 Y ⟨_, Y, d9, _, (a5.trans (a4.trans (a3.trans (a6.trans (a8.trans (a9.trans c8)))))), ⟨_, Y, (cgB (by clear S E; first | rfl | (exfalso; omega) | exact e12 | exact absurd e11.symm (by assumption) | exact absurd (e9 (by assumption)) (by assumption) | (rw [(e10 (by assumption)).2]; rfl) | exact absurd (e10 (by assumption)).1 (by assumption) | (have h8 : (!ai) = false := (by assumption); rw [show ai = false by assumption] at h8; exact absurd h8 (by decide)))), (by exact c6)⟩, S⟩
     ·replace E := E.val (t := 41) Y d4
      replace E := E.val (t := 42) Y d4
      refine Qd E Y Y Y Y fun _ B => Qd B Y Y Y Y fun _ D => Qd D Y Y Y Y fun _ F => Qc F Y Y (QU F Y Y fun _ G => Qc G Y Y (Qq G Y fun _ I => Qd I Y Y Y Y fun _ J => Qd J Y Y Y Y fun _ K => Qd K Y Y Y Y fun _ L => Qc L Y Y (QU L Y Y fun _ N => QU N Y Y fun _ O => Qx O Y ?_)))
      clear E a B D F G I J K L N O; intro a E
      refine WF ?_
      exact Qk E Tryz.results45 Y ⟨_, Y, d9, _, (a5.trans (a4.trans (a3.trans (a6.trans (a8.trans (a9.trans c8)))))), ⟨_, Y, (cgB (by clear S E; first | rfl | (exfalso; omega) | exact e12 | exact absurd e11.symm (by assumption) | exact absurd (e9 (by assumption)) (by assumption) | (rw [(e10 (by assumption)).2]; rfl) | exact absurd (e10 (by assumption)).1 (by assumption) | (have h8 : (!ai) = false := (by assumption); rw [show ai = false by assumption] at h8; exact absurd h8 (by decide)))), (by exact c6)⟩, S⟩
   ·replace E := E.val (t := 31) Y d3
    replace E := E.val (t := 32) Y d3
    refine Qd E Y Y Y Y fun _ B => Qd B Y Y Y Y fun _ D => Qd D Y Y Y Y fun _ F => Qd F Y Y Y Y fun _ G => QU G Y Y fun _ I => Qq I Y fun _ J => Qc J Y Y (Qa J Y (Vo _) fun _ K => Qc K Y Y (Qz K Y Tryz.isAgg4 S.imm (Qf a0 Y) fun _ L => Qc L Y Y (Zk L Y fun _ N => Qc N Y Y (Qq N Y ?_))))
    clear E a B D F G I J K L N; intro a E
    refine QO (!ai) (fun d5 => ?_) (fun d5 => ?_)
    ·replace E := E.val (t := 41) Y d5
     replace E := E.val (t := 42) Y d5
     refine Qc E Y Y (Qa E Y (VH _) fun _ B => Qc B Y Y (Qz B Y Tryz.isAgg3 S.imm (Qf a0 Y) fun _ D => Qc D Y Y (Jh D Y Y fun _ F => Qc F Y Y (JI F Y Y fun _ G => Qc G Y Y (Qq G Y ?_)))))
     clear E a B D F G; intro a E
     refine QO (decide (an = 0)) (fun b7 => ?_) (fun b7 => ?_)
     ·replace E := E.val (t := 45) Y b7
      replace E := E.val (t := 46) Y b7
      replace E := E.val (t := 47) Y b7
      replace b7 := of_decide_eq_true b7
      refine Qc E Y Y (Qq E Y fun _ B => Qc B Y Y (Jl B Y JE a1.len fun _ D => Qc D Y Y (Jh D Y Y fun _ F => Qc F Y Y (JI F Y Y fun _ G => QU G Y Y fun _ I => Qx I Y ?_))))
      clear E a B D F G I; intro a E
      refine WF ?_
      exact Qk E Tryz.results45 Y ⟨_, Y, e2, _, (a5.trans (a4.trans (a3.trans (a6.trans (a8.trans a9))))), ⟨_, Y, (cgB (by clear S E; first | rfl | (exfalso; omega) | exact e12 | exact absurd e11.symm (by assumption) | exact absurd (e9 (by assumption)) (by assumption) | (rw [(e10 (by assumption)).2]; rfl) | exact absurd (e10 (by assumption)).1 (by assumption) | (have h8 : (!ai) = false := (by assumption); rw [show ai = false by assumption] at h8; exact absurd h8 (by decide)))), (by exact c6)⟩, S⟩
     ·replace E := E.val (t := 45) Y b7
      replace E := E.val (t := 46) Y b7
      replace E := E.val (t := 47) Y b7
      replace b7 := of_decide_eq_false b7
      refine Qd E Y Y Y Y fun _ B => Qd B Y Y Y Y fun _ D => Qd D Y Y Y Y fun _ F => Qc F Y Y (QU F Y Y fun _ G => QU G Y Y fun _ I => Qx I Y ?_)
      clear E a B D F G I; intro a E
      refine WF ?_
      exact Qk E Tryz.results45 Y ⟨_, Y, e2, _, (a5.trans (a4.trans (a3.trans (a6.trans (a8.trans a9))))), ⟨_, Y, (cgB (by clear S E; first | rfl | (exfalso; omega) | exact e12 | exact absurd e11.symm (by assumption) | exact absurd (e9 (by assumption)) (by assumption) | (rw [(e10 (by assumption)).2]; rfl) | exact absurd (e10 (by assumption)).1 (by assumption) | (have h8 : (!ai) = false := (by assumption); rw [show ai = false by assumption] at h8; exact absurd h8 (by decide)))), (by exact c6)⟩, S⟩
    ·replace E := E.val (t := 41) Y d5
     replace E := E.val (t := 42) Y d5
     refine Qd E Y Y Y Y fun _ B => Qd B Y Y Y Y fun _ D => Qd D Y Y Y Y fun _ F => Qc F Y Y (QU F Y Y fun _ G => Qc G Y Y (Qq G Y fun _ I => Qd I Y Y Y Y fun _ J => Qd J Y Y Y Y fun _ K => Qd K Y Y Y Y fun _ L => Qc L Y Y (QU L Y Y fun _ N => QU N Y Y fun _ O => Qx O Y ?_)))
     clear E a B D F G I J K L N O; intro a E
     refine WF ?_
     exact Qk E Tryz.results45 Y ⟨_, Y, e2, _, (a5.trans (a4.trans (a3.trans (a6.trans (a8.trans a9))))), ⟨_, Y, (cgB (by clear S E; first | rfl | (exfalso; omega) | exact e12 | exact absurd e11.symm (by assumption) | exact absurd (e9 (by assumption)) (by assumption) | (rw [(e10 (by assumption)).2]; rfl) | exact absurd (e10 (by assumption)).1 (by assumption) | (have h8 : (!ai) = false := (by assumption); rw [show ai = false by assumption] at h8; exact absurd h8 (by decide)))), (by exact c6)⟩, S⟩
  ·have hb_1k26 := a2
   have hb_3k26 := a0
   have hu_7k26 := a1
   replace S := S.mono_heap (w' := World.drew _) rfl
   refine YN (C := fun x w => agree e1 w) (bf := (fun i => [])) [0, 1, 2, 4, 5, 6, 9, 10] [0, 1, 2, 4, 5, 6, 9, 7, 3, 8, 10, 11] (by kernel_rfl) (fun x hq => S.imm) ?_
   refine Qo E Y (fun w hC => (Qi E Y)) fun _ B => Qo B Y (fun w hC => (Ql B Y (WD _))) fun _ D => Qo D Y (fun w hC => (QG D Y Tryz.isAgg3 hC (Qf hb_1k26 Y))) fun _ F => Qo F Y (fun w hC => (Qi F Y)) fun _ G => Qo G Y (fun w hC => (Ql G Y (VH _))) fun _ I => Qo I Y (fun w hC => (QG I Y Tryz.isAgg3 hC (Qf hb_3k26 Y))) fun _ J => Qo J Y (fun w hC => (Qb J Y Y)) ?_
   clear E a B D F G I J; intro a E
   refine Zd Y Y Y (Jf (ys := [an]) E S Y JE Y Y Y ?_)
   clear E a S; rintro a w h3 E S
   refine ⟨fun x hq hb => (Qg lerf S.imm), ?_⟩
   refine Zd Y Y Y (Jm E S Y Y Y (Zb ) lerf ?_)
   clear E a S; rintro a _ w h4 a7 rfl S E
   replace h1 := h1.le a7
   replace hr9 := hr9.le (QH QA) a7
   replace a2 := a7.2 _ _ a2
   replace a0 := a7.2 _ _ a0
   replace a1 := a1.le a7
   refine ⟨fun x hq hb => (Qg a7 S.imm), ?_⟩
   have S0 := S; clear S
   obtain ⟨h5, b2, f6, S⟩ := S0.freezeI (by (first | omega | (simp only [List.length_append, List.length_cons, List.length_nil]; omega) | (simp; omega)))
   clear S0
   replace h1 := h1.le b2
   replace hr9 := hr9.le (QH QA) b2
   replace a2 := b2.2 _ _ a2
   replace a0 := b2.2 _ _ a0
   replace a1 := a1.le b2
   refine Zd Y Y Y (Jm E S Y Y Y (Jr a1 f6 (by first | omega | (simp; omega) | (simp only [List.length_append, List.length_cons, List.length_nil]; omega))) lerf ?_)
   clear E a S; rintro a f7 w e3 b3 e7 S E
   replace h1 := h1.le b3
   replace hr9 := hr9.le (QH QA) b3
   replace a2 := b3.2 _ _ a2
   replace a0 := b3.2 _ _ a0
   replace a1 := a1.le b3
   refine ⟨fun x hq hb => (Qg (a7.trans (b2.trans b3)) S.imm), ?_⟩
   have hk_33 : ((sa % 8).toNat) < 8 := by omega
   refine Qo E Y (fun w hC => (VF (k := (sa % 8).toNat) (m := 8) E Y Y Tryz.underlying66 (Tryz.sizeOf22 _) hk_33 (by omega))) ?_
   clear E a; intro a E
   refine Zd Y Y Y (Zs E S Y Y (Tryz.sizeOf22 _) (JN.one' e7) (JK hk_33) ?_)
   clear E a S; rintro a w E S
   have c7 := RowsRL.set (k := (sa % 8).toNat) hr9 e7
   obtain ⟨h6, hxs_⟩ : ∃ z, z = (xs9).set ((sa % 8).toNat) f7 := ⟨_, rfl⟩
   rw [← hxs_] at S c7
   clear hxs_
   replace S := S.reLen (m' := ((t9).set ((sa % 8).toNat) (Ji ((t9).getD ((sa % 8).toNat) []) [an])).length) (by rw [List.length_set])
   refine ⟨fun x hq hb => (Qg (a7.trans (b2.trans b3)) S.imm), ?_⟩
   refine Jv (Ju ?_)
   refine JG (QF (Qa E Y (Vo _) fun _ B => Qz B Y Tryz.isAgg4 S.imm (Qf a0 Y) fun _ D => Qq D Y ?_))
   clear E a B D; intro a E
   refine QO ai (fun d6 => ?_) (fun d6 => ?_)
   ·replace E := E.val (t := 31) Y d6
    replace E := E.val (t := 32) Y d6
    refine Qc E Y Y (Qq E Y fun _ B => Qc B Y Y (Qa B Y (VH _) fun _ D => Qc D Y Y (Qz D Y Tryz.isAgg3 S.imm (Qf a0 Y) ?_)))
    clear E a B D; intro a E
    refine Qc E Y Y ?_
    refine QB (Jm E S Y Y Y (WM a1) lerf ?_)
    clear E a S; rintro a _ w e0 c9 rfl S E
    replace h1 := h1.le c9
    replace a2 := c9.2 _ _ a2
    replace a0 := c9.2 _ _ a0
    replace a1 := a1.le c9
    replace c7 := c7.le (QH QA) c9
    refine JI E Y Y fun _ B => Qq B Y ?_
    clear E a B; intro a E
    refine QO (decide (an ∈ ((t9).getD ((sa % 8).toNat) []))) (fun b8 => ?_) (fun b8 => ?_)
    ·replace E := E.val (t := 36) Y b8
     replace E := E.val (t := 37) Y b8
     replace E := E.val (t := 38) Y b8
     replace b8 := of_decide_eq_true b8
     refine Qd E Y Y Y Y fun _ B => Qd B Y Y Y Y fun _ D => Qd D Y Y Y Y fun _ F => Qd F Y Y Y Y ?_
     clear E a B D F; intro a E
     refine Ze E Y Y Y fun a E => ?_
     refine Ze E Y Y Y fun a E => ?_
     refine Ze E Y Y Y fun a E => ?_
     refine Qd E Y Y Y Y fun _ B => Qd B Y Y Y Y ?_
     clear E a B; intro a E
     refine Ze E Y Y Y fun a E => ?_
     refine Ze E Y Y Y fun a E => ?_
     refine Ze E Y Y Y fun a E => ?_
     refine Qd E Y Y Y Y fun _ B => JI B Y Y fun _ D => Qx D Y ?_
     clear E a B D; intro a E
     refine WF ?_
     exact Qk E Tryz.results45 Y ⟨_, Y, e0, _, (a5.trans (a4.trans (a3.trans (a7.trans (b2.trans (b3.trans c9)))))), ⟨_, Y, (cgB (by clear S E; first | rfl | (exfalso; omega) | exact e12 | exact absurd e11.symm (by assumption) | exact absurd (e9 (by assumption)) (by assumption) | (rw [(e10 (by assumption)).2]; rfl) | exact absurd (e10 (by assumption)).1 (by assumption) | (have h8 : (!ai) = false := (by assumption); rw [show ai = false by assumption] at h8; exact absurd h8 (by decide)))), (by exact c7)⟩, S⟩
    ·replace E := E.val (t := 36) Y b8
     replace E := E.val (t := 37) Y b8
     replace E := E.val (t := 38) Y b8
     replace b8 := of_decide_eq_false b8
     refine Qc E Y Y (Qa E Y (Vo _) fun _ B => Qc B Y Y (Qz B Y Tryz.isAgg4 S.imm (Qf a0 Y) fun _ D => Qc D Y Y (Zk D Y fun _ F => Qc F Y Y (Qq F Y ?_))))
     clear E a B D F; intro a E
     refine QO (!ai) (fun d7 => ?_) (fun d7 => ?_)
     ·replace E := E.val (t := 41) Y d7
      replace E := E.val (t := 42) Y d7
      refine Qc E Y Y (Qa E Y (VH _) fun _ B => Qc B Y Y (Qz B Y Tryz.isAgg3 S.imm (Qf a0 Y) fun _ D => Qc D Y Y (Jh D Y Y fun _ F => Qc F Y Y (JI F Y Y fun _ G => Qc G Y Y (Qq G Y ?_)))))
      clear E a B D F G; intro a E
      refine QO (decide (an = 0)) (fun c0 => ?_) (fun c0 => ?_)
      ·replace E := E.val (t := 45) Y c0
       replace E := E.val (t := 46) Y c0
       replace E := E.val (t := 47) Y c0
       replace c0 := of_decide_eq_true c0
       refine Qc E Y Y (Qq E Y fun _ B => Qc B Y Y (Jl B Y JE a1.len fun _ D => Qc D Y Y (Jh D Y Y fun _ F => Qc F Y Y (JI F Y Y fun _ G => QU G Y Y fun _ I => Qx I Y ?_))))
       clear E a B D F G I; intro a E
       refine WF ?_
       exact Qk E Tryz.results45 Y ⟨_, Y, e0, _, (a5.trans (a4.trans (a3.trans (a7.trans (b2.trans (b3.trans c9)))))), ⟨_, Y, (cgB (by clear S E; first | rfl | (exfalso; omega) | exact e12 | exact absurd e11.symm (by assumption) | exact absurd (e9 (by assumption)) (by assumption) | (rw [(e10 (by assumption)).2]; rfl) | exact absurd (e10 (by assumption)).1 (by assumption) | (have h8 : (!ai) = false := (by assumption); rw [show ai = false by assumption] at h8; exact absurd h8 (by decide)))), (by exact c7)⟩, S⟩
      ·replace E := E.val (t := 45) Y c0
       replace E := E.val (t := 46) Y c0
       replace E := E.val (t := 47) Y c0
       replace c0 := of_decide_eq_false c0
       refine Qd E Y Y Y Y fun _ B => Qd B Y Y Y Y fun _ D => Qd D Y Y Y Y fun _ F => Qc F Y Y (QU F Y Y fun _ G => QU G Y Y fun _ I => Qx I Y ?_)
       clear E a B D F G I; intro a E
       refine WF ?_
       exact Qk E Tryz.results45 Y ⟨_, Y, e0, _, (a5.trans (a4.trans (a3.trans (a7.trans (b2.trans (b3.trans c9)))))), ⟨_, Y, (cgB (by clear S E; first | rfl | (exfalso; omega) | exact e12 | exact absurd e11.symm (by assumption) | exact absurd (e9 (by assumption)) (by assumption) | (rw [(e10 (by assumption)).2]; rfl) | exact absurd (e10 (by assumption)).1 (by assumption) | (have h8 : (!ai) = false := (by assumption); rw [show ai = false by assumption] at h8; exact absurd h8 (by decide)))), (by exact c7)⟩, S⟩
     ·replace E := E.val (t := 41) Y d7
      replace E := E.val (t := 42) Y d7
      refine Qd E Y Y Y Y fun _ B => Qd B Y Y Y Y fun _ D => Qd D Y Y Y Y fun _ F => Qc F Y Y (QU F Y Y fun _ G => Qc G Y Y (Qq G Y fun _ I => Qd I Y Y Y Y fun _ J => Qd J Y Y Y Y fun _ K => Qd K Y Y Y Y fun _ L => Qc L Y Y (QU L Y Y fun _ N => QU N Y Y fun _ O => Qx O Y ?_)))
      clear E a B D F G I J K L N O; intro a E
      refine WF ?_
      exact Qk E Tryz.results45 Y ⟨_, Y, e0, _, (a5.trans (a4.trans (a3.trans (a7.trans (b2.trans (b3.trans c9)))))), ⟨_, Y, (cgB (by clear S E; first | rfl | (exfalso; omega) | exact e12 | exact absurd e11.symm (by assumption) | exact absurd (e9 (by assumption)) (by assumption) | (rw [(e10 (by assumption)).2]; rfl) | exact absurd (e10 (by assumption)).1 (by assumption) | (have h8 : (!ai) = false := (by assumption); rw [show ai = false by assumption] at h8; exact absurd h8 (by decide)))), (by exact c7)⟩, S⟩
   ·replace E := E.val (t := 31) Y d6
    replace E := E.val (t := 32) Y d6
    refine Qd E Y Y Y Y fun _ B => Qd B Y Y Y Y fun _ D => Qd D Y Y Y Y fun _ F => Qd F Y Y Y Y fun _ G => QU G Y Y fun _ I => Qq I Y fun _ J => Qc J Y Y (Qa J Y (Vo _) fun _ K => Qc K Y Y (Qz K Y Tryz.isAgg4 S.imm (Qf a0 Y) fun _ L => Qc L Y Y (Zk L Y fun _ N => Qc N Y Y (Qq N Y ?_))))
    clear E a B D F G I J K L N; intro a E
    refine QO (!ai) (fun d8 => ?_) (fun d8 => ?_)
    ·replace E := E.val (t := 41) Y d8
     replace E := E.val (t := 42) Y d8
     refine Qc E Y Y (Qa E Y (VH _) fun _ B => Qc B Y Y (Qz B Y Tryz.isAgg3 S.imm (Qf a0 Y) fun _ D => Qc D Y Y (Jh D Y Y fun _ F => Qc F Y Y (JI F Y Y fun _ G => Qc G Y Y (Qq G Y ?_)))))
     clear E a B D F G; intro a E
     refine QO (decide (an = 0)) (fun c1 => ?_) (fun c1 => ?_)
     ·replace E := E.val (t := 45) Y c1
      replace E := E.val (t := 46) Y c1
      replace E := E.val (t := 47) Y c1
      replace c1 := of_decide_eq_true c1
      refine Qc E Y Y (Qq E Y fun _ B => Qc B Y Y (Jl B Y JE a1.len fun _ D => Qc D Y Y (Jh D Y Y fun _ F => Qc F Y Y (JI F Y Y fun _ G => QU G Y Y fun _ I => Qx I Y ?_))))
      clear E a B D F G I; intro a E
      refine WF ?_
      exact Qk E Tryz.results45 Y ⟨_, Y, e3, _, (a5.trans (a4.trans (a3.trans (a7.trans (b2.trans b3))))), ⟨_, Y, (cgB (by clear S E; first | rfl | (exfalso; omega) | exact e12 | exact absurd e11.symm (by assumption) | exact absurd (e9 (by assumption)) (by assumption) | (rw [(e10 (by assumption)).2]; rfl) | exact absurd (e10 (by assumption)).1 (by assumption) | (have h8 : (!ai) = false := (by assumption); rw [show ai = false by assumption] at h8; exact absurd h8 (by decide)))), (by exact c7)⟩, S⟩
     ·replace E := E.val (t := 45) Y c1
      replace E := E.val (t := 46) Y c1
      replace E := E.val (t := 47) Y c1
      replace c1 := of_decide_eq_false c1
      refine Qd E Y Y Y Y fun _ B => Qd B Y Y Y Y fun _ D => Qd D Y Y Y Y fun _ F => Qc F Y Y (QU F Y Y fun _ G => QU G Y Y fun _ I => Qx I Y ?_)
      clear E a B D F G I; intro a E
      refine WF ?_
      exact Qk E Tryz.results45 Y ⟨_, Y, e3, _, (a5.trans (a4.trans (a3.trans (a7.trans (b2.trans b3))))), ⟨_, Y, (cgB (by clear S E; first | rfl | (exfalso; omega) | exact e12 | exact absurd e11.symm (by assumption) | exact absurd (e9 (by assumption)) (by assumption) | (rw [(e10 (by assumption)).2]; rfl) | exact absurd (e10 (by assumption)).1 (by assumption) | (have h8 : (!ai) = false := (by assumption); rw [show ai = false by assumption] at h8; exact absurd h8 (by decide)))), (by exact c7)⟩, S⟩
    ·replace E := E.val (t := 41) Y d8
     replace E := E.val (t := 42) Y d8
     refine Qd E Y Y Y Y fun _ B => Qd B Y Y Y Y fun _ D => Qd D Y Y Y Y fun _ F => Qc F Y Y (QU F Y Y fun _ G => Qc G Y Y (Qq G Y fun _ I => Qd I Y Y Y Y fun _ J => Qd J Y Y Y Y fun _ K => Qd K Y Y Y Y fun _ L => Qc L Y Y (QU L Y Y fun _ N => QU N Y Y fun _ O => Qx O Y ?_)))
     clear E a B D F G I J K L N O; intro a E
     refine WF ?_
     exact Qk E Tryz.results45 Y ⟨_, Y, e3, _, (a5.trans (a4.trans (a3.trans (a7.trans (b2.trans b3))))), ⟨_, Y, (cgB (by clear S E; first | rfl | (exfalso; omega) | exact e12 | exact absurd e11.symm (by assumption) | exact absurd (e9 (by assumption)) (by assumption) | (rw [(e10 (by assumption)).2]; rfl) | exact absurd (e10 (by assumption)).1 (by assumption) | (have h8 : (!ai) = false := (by assumption); rw [show ai = false by assumption] at h8; exact absurd h8 (by decide)))), (by exact c7)⟩, S⟩
 ·obtain ⟨e8, e9, e10, e11, e12⟩ := pop_25 hS (by omega) hca1
  subst e8
  refine J_l (Qa E Y (ze _) fun _ B => Qz B Y Tryz.isAgg3 S.imm (Qf a2 Y) fun _ D => e_max (m := max sx 0) D Y Y (by omega) fun _ F => Qq F Y fun _ G => Jl G Y JE a1.len fun _ I => e_min (m := min (max sx 0) ((((t9).getD ((sa % 8).toNat) []).length : Nat) : Int)) I Y Y (by omega) fun _ J => Qx J Y ?_)
  clear E a B D F G I J; intro a E
  refine ZB ?_
  have hb_1k43 := a2
  have hb_3k43 := a0
  have hu_7k43 := a1
  replace S := S.mono_heap (w' := World.drew _) rfl
  refine QN (C := fun x w => agree e1 w) (bf := (fun i => [])) [0, 1, 2, 4, 5, 6, 8, 9] [0, 1, 2, 4, 5, 6, 8, 3, 7, 9, 10] Tryz.mixed (by kernel_rfl) (fun x hq => S.imm) ?_
  refine Qo E Y (fun w hC => (Qi E Y)) fun _ B => Qo B Y (fun w hC => (Ql B Y (WD _))) fun _ D => Qo D Y (fun w hC => (QG D Y Tryz.isAgg3 hC (Qf hb_1k43 Y))) fun _ F => Qo F Y (fun w hC => (Qi F Y)) fun _ G => Qo G Y (fun w hC => (Ql G Y (GG _))) fun _ I => Qo I Y (fun w hC => (QG I Y Tryz.isAgg22 hC (Qf hb_3k43 Y))) fun _ J => Qo J Y (fun w hC => (Qb J Y Y)) ?_
  clear E a B D F G I J; intro a E
  refine Zd Y Y Y (Jm E S Y Y Y (Zb ) lerf ?_)
  clear E a S; rintro a _ w h7 b4 rfl S E
  replace h1 := h1.le b4
  replace hr9 := hr9.le (QH QA) b4
  replace a2 := b4.2 _ _ a2
  replace a0 := b4.2 _ _ a0
  replace a1 := a1.le b4
  refine ⟨fun x hq hb => (Qg b4 S.imm), ?_⟩
  refine Zd Y Y Y (Jm E S Y Y Y (Jr a1 h1 (by first | omega | (simp; omega) | (simp only [List.length_append, List.length_cons, List.length_nil]; omega))) lerf ?_)
  clear E a S; rintro a f8 w e4 c2 f0 S E
  replace h1 := h1.le c2
  replace hr9 := hr9.le (QH QA) c2
  replace a2 := c2.2 _ _ a2
  replace a0 := c2.2 _ _ a0
  replace a1 := a1.le c2
  refine ⟨fun x hq hb => (Qg (b4.trans c2) S.imm), ?_⟩
  have hk_47 : ((sa % 8).toNat) < 8 := by omega
  refine Qo E Y (fun w hC => (VF (k := (sa % 8).toNat) (m := 8) E Y Y Tryz.underlying66 (Tryz.sizeOf22 _) hk_47 (by omega))) ?_
  clear E a; intro a E
  refine Zd Y Y Y (Zs E S Y Y (Tryz.sizeOf22 _) (JN.one' f0) (JK hk_47) ?_)
  clear E a S; rintro a w E S
  have c3 := RowsRL.set (k := (sa % 8).toNat) hr9 f0
  obtain ⟨h9, hxs_⟩ : ∃ z, z = (xs9).set ((sa % 8).toNat) f8 := ⟨_, rfl⟩
  rw [← hxs_] at S c3
  clear hxs_
  replace S := S.reLen (m' := ((t9).set ((sa % 8).toNat) (Ji ((t9).getD ((sa % 8).toNat) []) l1)).length) (by rw [List.length_set])
  refine ⟨fun x hq hb => (Qg (b4.trans c2) S.imm), ?_⟩
  refine Jv (Ju ?_)
  refine JG (Za ?_)
  have hb_1k50 := a2
  have hb_3k50 := a0
  replace S := S.mono_heap (w' := World.drew _) rfl
  refine QN (C := fun x w => agree e4 w) (bf := (fun i => [])) [0, 1, 2, 3, 4, 5, 6, 7, 8, 9, 10, 11, 12, 13, 14, 15, 18, 19, 20, 21, 22, 24, 25] [0, 1, 2, 3, 4, 5, 6, 7, 8, 9, 10, 11, 12, 13, 14, 15, 16, 17, 18, 19, 20, 21, 22, 23, 24, 25] Tryz.mixed (by kernel_rfl) (fun x hq => S.imm) ?_
  refine Qo E Y (fun w hC => (Ql E Y (VH _))) fun _ B => Qo B Y (fun w hC => (QG B Y Tryz.isAgg3 hC (Qf hb_3k50 Y))) fun _ D => Qo D Y (fun w hC => (Qi D Y)) fun _ F => Qo F Y (fun w hC => (vu F Y Y)) fun _ G => Qo G Y (fun w hC => (Qi G Y)) ?_
  clear E a B D F G; intro a E
  refine QO (decide (an = min (max sx 0) ((((t9).getD ((sa % 8).toNat) []).length : Nat) : Int))) (fun d0 => ?_) (fun d0 => ?_)
  ·replace E := E.val (t := 72) Y d0
   replace E := E.val (t := 73) Y d0
   replace d0 := of_decide_eq_true d0
   refine Vp E Y Y Y Y Y (fun w hC => (Ql E Y (GG _))) fun _ B => Vp B Y Y Y Y Y (fun w hC => (QG B Y Tryz.isAgg22 hC (Qf hb_3k50 Y))) fun _ D => Vp D Y Y Y Y Y (fun w hC => (za D Y JE h1.len)) fun _ F => Vp F Y Y Y Y Y (fun w hC => (Qi F Y)) fun _ G => Vp G Y Y Y Y Y (fun w hC => (vu G Y Y)) fun _ I => Qo I Y (fun w hC => (ql I Y Y)) fun _ J => Qo J Y (fun w hC => (Qi J Y)) ?_
   clear E a B D F G I J; intro a E
   refine QO (decide ((((l1).length : Nat) : Int) = min (max sx 0) ((((t9).getD ((sa % 8).toNat) []).length : Nat) : Int))) (fun c4 => ?_) (fun c4 => ?_)
   ·replace E := E.val (t := 78) Y c4
    replace E := E.val (t := 79) Y c4
    replace E := E.val (t := 80) Y c4
    replace c4 := of_decide_eq_true c4
    refine Vp E Y Y Y Y Y (fun w hC => (Ql E Y (GG _))) fun _ B => Vp B Y Y Y Y Y (fun w hC => (QG B Y Tryz.isAgg22 hC (Qf hb_3k50 Y))) fun _ D => Vp D Y Y Y Y Y (fun w hC => (Ql D Y (GG _))) fun _ F => Vp F Y Y Y Y Y (fun w hC => (QG F Y Tryz.isAgg22 hC (Qf hb_3k50 Y))) ?_
    clear E a B D F; intro a E
    refine D_yes E Y Y Y Y (Jm E S Y Y Y (YR h1 (by first | omega | (simp; omega) | (simp only [List.length_append, List.length_cons, List.length_nil]; omega))) lerf ?_)
    clear E a S; rintro a i0 w i1 d1 f9 S E
    replace h1 := h1.le d1
    replace a1 := a1.le d1
    replace c3 := c3.le (QH QA) d1
    refine ⟨fun x hq hb => (Qg d1 S.imm), ?_⟩
    refine D_yes E Y Y Y Y (Jm E S Y Y Y (Gn h1 f9) lerf ?_)
    clear E a S; rintro a _ w g0 d2 rfl S E
    replace h1 := h1.le d2
    replace a1 := a1.le d2
    replace c3 := c3.le (QH QA) d2
    refine ⟨fun x hq hb => (Qg (d1.trans d2) S.imm), ?_⟩
    refine Qo E Y (fun w hC => (ql E Y Y)) fun _ B => Qo B Y (fun w hC => (Qi B Y)) ?_
    clear E a B; intro a E
    refine QO (decide (l1 = Qw l1)) (fun c5 => ?_) (fun c5 => ?_)
    ·replace E := E.val (t := 86) Y c5
     replace E := E.val (t := 87) Y c5
     replace E := E.val (t := 88) Y c5
     replace c5 := of_decide_eq_true c5
     refine Vp E Y Y Y Y Y (fun w hC => (Ql E Y (GG _))) fun _ B => Vp B Y Y Y Y Y (fun w hC => (QG B Y Tryz.isAgg22 hC (Qf hb_3k50 Y))) fun _ D => Vp D Y Y Y Y Y (fun w hC => (Qi D Y)) ?_
     clear E a B D; intro a E
     refine D_yes E Y Y Y Y (Jm E S Y Y Y (YC h1 a1 (by first | omega | (simp; omega) | (simp only [List.length_append, List.length_cons, List.length_nil]; omega))) lerf ?_)
     clear E a S; rintro a _ w g1 e5 rfl S E
     replace c3 := c3.le (QH QA) e5
     refine ⟨fun x hq hb => (Qg (d1.trans (d2.trans e5)) S.imm), ?_⟩
     refine Qo E Y (fun w hC => (ql E Y Y)) fun _ B => Qo B Y (fun w hC => (Qy B Y)) ?_
     clear E a B; intro a E
     refine Jv (Ju ?_)
     refine JG (Yr ?_)
     exact Qk E Tryz.results45 Y ⟨_, Y, g1, _, (a5.trans (a4.trans (a3.trans (b4.trans (c2.trans (d1.trans (d2.trans e5))))))), ⟨_, Y, (cgB (by clear S E; first | rfl | (exfalso; omega) | exact e12 | exact absurd e11.symm (by assumption) | exact absurd (e9 (by assumption)) (by assumption) | (rw [(e10 (by assumption)).2]; rfl) | exact absurd (e10 (by assumption)).1 (by assumption) | (have h8 : (!ai) = false := (by assumption); rw [show ai = false by assumption] at h8; exact absurd h8 (by decide)))), (by exact c3)⟩, S⟩
    ·replace E := E.val (t := 86) Y c5
     replace E := E.val (t := 87) Y c5
     replace E := E.val (t := 88) Y c5
     replace c5 := of_decide_eq_false c5
     refine YM E Y Y Y Y Y fun a E => ?_
     refine YM E Y Y Y Y Y fun a E => ?_
     refine YM E Y Y Y Y Y fun a E => ?_
     refine YM E Y Y Y Y Y fun a E => ?_
     refine Qo E Y (fun w hC => (Uf E Y Y)) fun _ B => Qo B Y (fun w hC => (Qy B Y)) ?_
     clear E a B; intro a E
     refine Jv (Ju ?_)
     refine JG (Yr ?_)
     exact Qk E Tryz.results45 Y ⟨_, Y, g0, _, (a5.trans (a4.trans (a3.trans (b4.trans (c2.trans (d1.trans d2)))))), ⟨_, Y, (cgB (by clear S E; first | rfl | (exfalso; omega) | exact e12 | exact absurd e11.symm (by assumption) | exact absurd (e9 (by assumption)) (by assumption) | (rw [(e10 (by assumption)).2]; rfl) | exact absurd (e10 (by assumption)).1 (by assumption) | (have h8 : (!ai) = false := (by assumption); rw [show ai = false by assumption] at h8; exact absurd h8 (by decide)))), (by exact c3)⟩, S⟩
   ·replace E := E.val (t := 78) Y c4
    replace E := E.val (t := 79) Y c4
    replace E := E.val (t := 80) Y c4
    replace c4 := of_decide_eq_false c4
    refine YM E Y Y Y Y Y fun a E => ?_
    refine YM E Y Y Y Y Y fun a E => ?_
    refine YM E Y Y Y Y Y fun a E => ?_
    refine YM E Y Y Y Y Y fun a E => ?_
    refine YM E Y Y Y Y Y fun a E => ?_
    refine YM E Y Y Y Y Y fun a E => ?_
    refine Qo E Y (fun w hC => (Uf E Y Y)) fun _ B => Qo B Y (fun w hC => (Qi B Y)) ?_
    clear E a B; intro a E
    refine YM E Y Y Y Y Y fun a E => ?_
    refine YM E Y Y Y Y Y fun a E => ?_
    refine YM E Y Y Y Y Y fun a E => ?_
    refine YM E Y Y Y Y Y fun a E => ?_
    refine Qo E Y (fun w hC => (Uf E Y Y)) fun _ B => Qo B Y (fun w hC => (Qy B Y)) ?_
    clear E a B; intro a E
    refine Jv (Ju ?_)
    refine JG (Yr ?_)
    exact Qk E Tryz.results45 Y ⟨_, Y, e4, _, (a5.trans (a4.trans (a3.trans (b4.trans c2)))), ⟨_, Y, (cgB (by clear S E; first | rfl | (exfalso; omega) | exact e12 | exact absurd e11.symm (by assumption) | exact absurd (e9 (by assumption)) (by assumption) | (rw [(e10 (by assumption)).2]; rfl) | exact absurd (e10 (by assumption)).1 (by assumption) | (have h8 : (!ai) = false := (by assumption); rw [show ai = false by assumption] at h8; exact absurd h8 (by decide)))), (by exact c3)⟩, S⟩
  ·replace E := E.val (t := 72) Y d0
   replace E := E.val (t := 73) Y d0
   replace d0 := of_decide_eq_false d0
   refine YM E Y Y Y Y Y fun a E => ?_
   refine YM E Y Y Y Y Y fun a E => ?_
   refine YM E Y Y Y Y Y fun a E => ?_
   refine YM E Y Y Y Y Y fun a E => ?_
   refine YM E Y Y Y Y Y fun a E => ?_
   refine Qo E Y (fun w hC => (Uf E Y Y)) fun _ B => Qo B Y (fun w hC => (Qi B Y)) ?_
   clear E a B; intro a E
   refine YM E Y Y Y Y Y fun a E => ?_
   refine YM E Y Y Y Y Y fun a E => ?_
   refine YM E Y Y Y Y Y fun a E => ?_
   refine YM E Y Y Y Y Y fun a E => ?_
   refine YM E Y Y Y Y Y fun a E => ?_
   refine YM E Y Y Y Y Y fun a E => ?_
   refine Qo E Y (fun w hC => (Uf E Y Y)) fun _ B => Qo B Y (fun w hC => (Qi B Y)) ?_
   clear E a B; intro a E
   refine YM E Y Y Y Y Y fun a E => ?_
   refine YM E Y Y Y Y Y fun a E => ?_
   refine YM E Y Y Y Y Y fun a E => ?_
   refine YM E Y Y Y Y Y fun a E => ?_
   refine Qo E Y (fun w hC => (Uf E Y Y)) fun _ B => Qo B Y (fun w hC => (Qy B Y)) ?_
   clear E a B; intro a E
   refine Jv (Ju ?_)
   refine JG (Yr ?_)
   exact Qk E Tryz.results45 Y ⟨_, Y, e4, _, (a5.trans (a4.trans (a3.trans (b4.trans c2)))), ⟨_, Y, (cgB (by clear S E; first | rfl | (exfalso; omega) | exact e12 | exact absurd e11.symm (by assumption) | exact absurd (e9 (by assumption)) (by assumption) | (rw [(e10 (by assumption)).2]; rfl) | exact absurd (e10 (by assumption)).1 (by assumption) | (have h8 : (!ai) = false := (by assumption); rw [show ai = false by assumption] at h8; exact absurd h8 (by decide)))), (by exact c3)⟩, S⟩
theorem zh {M : Hp} {v0 : Value} {l0 : List UK} (h0 : JN 6 yq M v0 l0) {v1 : Value} {an1 : List Gk} (h1 : JN 3 yX M v1 an1) {v2 : Value} {ls2 : LLst} (h2 : zz M v2 ls2) (hp : VG l0 an1 ls2) (hs1 : l0.length ≤ 200) (hs2 : ∀ s ∈ l0, s.2.2.2.2.2.length ≤ 100)  :
  Pu Tryz.prog (.func (.func 27) #[] #[]) M [v0, v1, v2] (fun r M' => r = .bool true) := by
 refine Jt Tryz.func27 Y Tryz.ntmps27 Y Tryz.call27 ?_
 intro a w M1 H hM1 S E
 replace h0 := h0.le JF hM1
 replace h1 := h1.le Js hM1
 replace h2 := h2.le hM1
 have b0 := h0.bound
 have b1 := h1.bound
 have b2 := h2.bound
 have hrun := jT hp
 obtain ⟨hcn, hl8, han⟩ := Yv hp
 have hul := yx hs1 hs2
 refine QF (Qx E Y ?_)
 clear E a; intro a E
 refine QZ ?_
 refine QB (ZL (cs := #[.slice none 0 0, .slice none 0 0, .slice none 0 0, .slice none 0 0, .slice none 0 0, .slice none 0 0, .slice none 0 0, .slice none 0 0]) E S Y Tryz.zeroValue66 Y ?_)
 clear E a S; rintro a w a2 E S
 have S0 := S; clear S
 obtain ⟨s5, i7, S⟩ := arr_new S0 (n := 8) (by decide) rfl
 clear S0
 refine VM (Qq E Y fun _ B => Jl B Y yw h1.len fun _ D => Qq D Y fun _ F => Jl F Y T45 h0.len fun _ G => WZ G Y Y fun _ I => Qq I Y ?_)
 clear E a B D F G I; intro a E
 refine QO (decide ((((an1).length : Nat) : Int) ≠ (((l0).length : Nat) : Int))) (fun b5 => ?_) (fun b5 => ?_)
 ·replace E := E.val (t := 16) Y b5
  replace E := E.val (t := 17) Y b5
  replace b5 := of_decide_eq_true b5
  refine Qd E Y Y Y Y fun _ B => Qd B Y Y Y Y fun _ D => Qd D Y Y Y Y fun _ F => JI F Y Y ?_
  clear E a B D F; intro a E
  refine Jx ?_
  refine Jj E Y Y ?_
  refine QF (Qx E Y ?_)
  clear E a; intro a E
  refine WF ?_
  exact Qk E Tryz.results27 Y ⟨_, Y, M1, lerf, (cgB (by ((try clear S); (try clear E); first | assumption | omega | rfl | (simp; done) | (simp_all; done) | (simp [List.take_add_one, *]; done) | grind [List.take_add_one]))), S.drop⟩
 ·replace E := E.val (t := 16) Y b5
  replace E := E.val (t := 17) Y b5
  replace b5 := of_decide_eq_false b5
  refine Qc E Y Y (Qq E Y fun _ B => Qc B Y Y (Jl B Y T36 h2.len fun _ D => Qc D Y Y (WZ D Y Y fun _ F => QU F Y Y ?_)))
  clear E a B D F; intro a E
  refine Jx ?_
  refine QJ E Y (fun i8 => ?_) (fun i8 => ?_)
  ·refine QF (Qx E Y ?_)
   clear E a; intro a E
   refine WF ?_
   exact Qk E Tryz.results27 Y ⟨_, Y, M1, lerf, (cgB (by ((try clear S); (try clear E); first | assumption | omega | rfl | (simp; done) | (simp_all; done) | (simp [List.take_add_one, *]; done) | grind [List.take_add_one]))), S.drop⟩
  ·refine J_q (Qq E Y fun _ B => Jl B Y T45 h0.len fun _ D => Qq D Y ?_)
   clear E a B D; intro a E
   refine VJ ?_
   refine Jb (γ := Nat) (fun (k : Nat) a w => ∃ (c3 : Hp) (t9 : LLst)  (xs7 : List Value), Hp.le M1 c3 ∧ St w c3 (Jk 66 1 (.slice (some ⟨a2, 0, none⟩) 8 8) t9.length xs7 :: H) ∧ Env a 95 [] [(1, v1), (2, v2), (7, .pointer (some ⟨a2, 0, none⟩)), (22, v0), (23, .int .i64 (((l0).length : Nat) : Int)), (24, .int .i64 ((k : Nat) : Int))] ∧ (k ≤ (l0).length) ∧ (zj (l0.drop k) t9 (an1.drop k) ls2) ∧ (t9.length = 8) ∧ (Canon (Wk l0) t9) ∧ JX (vv 1 Wn) 1 c3 t9 xs7) (fun k => ((l0).length) - k) 0 ⟨M1, (List.replicate 8 []), _, lerf, S, E.keep ⟨Y, Y, Y, Y, Y, Y, trivial⟩, by ((try clear S); (try clear E); first | assumption | omega | rfl | (simp; done) | (simp_all; done) | (simp [List.take_add_one, *]; done) | grind [List.take_add_one]), (by exact hrun), (by rfl), (by exact vN _), i7⟩ ?_
   try clear E
   try clear S
   try clear a
   try clear w
   rintro k a w ⟨c3, t9, xs7, a5, S, E, s6, a3, b3, a8, hr7⟩
   replace h0 := h0.le JF a5
   replace h1 := h1.le Js a5
   replace h2 := h2.le a5
   have hc9 := canon_c a8 hul
   refine QF (ZG E Y Y ?_)
   clear E a; intro a E
   refine ZB ?_
   refine QJ E Y (fun i9 => ?_) (fun i9 => ?_)
   ·refine zC (Qq E Y ?_)
    clear E a; intro a E
    obtain ⟨a4, j0⟩ : ∃ x, (l0)[k]? = some x := ⟨_, List.getElem?_eq_getElem (by omega)⟩
    obtain ⟨s7, d8, j1, a9, a1⟩ := RdSS.at h0 j0
    have s8 := a1.bound
    refine Yh E Y Y T45 j1 Y fun _ B => Wa (cs := [.int .i64 a4.1, .int .i64 a4.2.1, .int .i64 a4.2.2.1, .int .i64 a4.2.2.2.1, .int .i64 a4.2.2.2.2.1, d8]) B Y (Tryz.isAgg67 _) (Tryz.sizeOf67 _) S.imm a9 ?_
    clear E a B; intro a E
    refine QB (ZL (cs := #[.int .i64 0, .int .i64 0, .int .i64 0, .int .i64 0, .int .i64 0, .slice none 0 0]) E S Y Tryz.zeroValue67 Y ?_)
    clear E a S; rintro a w j2 E S
    refine Qx E Y ?_
    clear E a; intro a E
    refine Jq (Je (us := [.int .i64 a4.1, .int .i64 a4.2.1, .int .i64 a4.2.2.1, .int .i64 a4.2.2.2.1, .int .i64 a4.2.2.2.2.1, d8]) E S Y Y (Tryz.sizeOf67 _) Y (by intro u hu; simp only [List.mem_cons, List.not_mem_nil, or_false] at hu; rcases hu with rfl | rfl | rfl | rfl | rfl | rfl <;> first | exact rfl | exact rfl | exact rfl | exact rfl | exact rfl | exact (JN.one' a1)) ?_)
    clear E a S; rintro a w E S
    replace S : St w c3 (Qh j2 (.cells #[.int .i64 a4.1, .int .i64 a4.2.1, .int .i64 a4.2.2.1, .int .i64 a4.2.2.2.1, .int .i64 a4.2.2.2.2.1, d8] 67) :: _) := S
    have S0 := S; clear S
    obtain ⟨a7, a6, a0, S⟩ := S0.freezeB
    clear S0
    replace h1 := h1.le Js a6
    replace h2 := h2.le a6
    replace hr7 := hr7.le (QH QA) a6
    replace a1 := a1.le a6
    refine QZ (Qx E Y fun _ B => ZB (Jw (QF (Qa B Y (Zq _) fun _ D => Qz D Y Tryz.isAgg3 S.imm (Qf a0 Y) fun _ F => yi F Y Y fun _ G => Qq G Y ?_))))
    clear E a B D F G; intro a E
    refine QO (decide (0 ≤ a4.1)) (fun b6 => ?_) (fun b6 => ?_)
    ·replace E := E.val (t := 32) Y b6
     replace E := E.val (t := 33) Y b6
     replace b6 := of_decide_eq_true b6
     refine Qc E Y Y (Qa E Y (Zq _) fun _ B => Qc B Y Y (Qz B Y Tryz.isAgg3 S.imm (Qf a0 Y) fun _ D => Qc D Y Y (zV D Y Y fun _ F => JI F Y Y fun _ G => Qq G Y ?_)))
     clear E a B D F G; intro a E
     refine QO (decide (a4.1 ≤ 10)) (fun b4 => ?_) (fun b4 => ?_)
     ·replace E := E.val (t := 36) Y b4
      replace E := E.val (t := 37) Y b4
      replace E := E.val (t := 38) Y b4
      replace b4 := of_decide_eq_true b4
      refine Qd E Y Y Y Y fun _ B => Qd B Y Y Y Y fun _ D => Qd D Y Y Y Y fun _ F => JI F Y Y fun _ G => Qx G Y ?_
      clear E a B D F G; intro a E
      refine Jx ?_
      refine Jj E Y Y ?_
      have qp_9k15 := a9
      have hb_13k15 := a0
      have h1k15 := h1
      replace S := S.mono_heap (w' := World.drew _) rfl
      refine QN (C := fun x w => agree a7 w) (bf := (fun i => [])) [0, 1, 2, 3, 4, 6] [0, 1, 2, 3, 4, 5, 6] Tryz.mixed (by kernel_rfl) (fun x hq => S.imm) ?_
      refine Qo E Y (fun w hC => (ZI E Y (Tryz.isAgg67 _) (Tryz.sizeOf67 _) hC hb_13k15)) fun _ B => Qo B Y (fun w hC => (Qi B Y)) fun _ D => Qo D Y (fun w hC => (Qi D Y)) ?_
      clear E a B D; intro a E
      obtain ⟨e0, j3⟩ : ∃ x, (an1)[k]? = some x := ⟨_, List.getElem?_eq_getElem (by omega)⟩
      obtain ⟨s9, j4, j5, j6, e1⟩ := RdAN.at h1 j3
      have t0 := e1.bound
      refine Qo E Y (fun w hC => (Yj E Y Y yw j5 Y)) fun _ B => Qo B Y (fun w hC => (Yc (cs := [.bool e0.1, .int .i64 e0.2.1, j4]) B Y (Tryz.isAgg69 _) (Tryz.sizeOf69 _) hC j6)) ?_
      clear E a B; intro a E
      obtain ⟨t8, hS, hR⟩ := YD a3 (by assumption) (by assumption)
      have hl8n := (ZE hS).trans b3
      have hcnn := Zv a8 (by assumption) hS
      have hb9 : _ ≤ 100000 := Nat.le_trans (hs2 _ (List.mem_of_getElem? (by assumption : l0[k]? = some _))) (by decide)
      refine Zd Y Y Y (QI (p := [Jk 66 1 (.slice (some ⟨a2, 0, none⟩) 8 8) t9.length xs7]) E S Y Y Y (VX hr7 a1 e1 (by exact hS) (by omega) (by exact hc9) (by exact hb9) (by omega)) lerf ?_)
      clear E a S; rintro a _ w e2 _ c6 ⟨j7, rfl, rfl, j8⟩ S E
      replace S : St w e2 (Jk 66 1 (.slice (some ⟨a2, 0, none⟩) 8 8) t8.length j7 :: H) := S
      replace h1 := h1.le Js c6
      replace h2 := h2.le c6
      replace a1 := a1.le c6
      replace a0 := c6.2 _ _ a0
      refine ⟨fun x hq hb => (Qg c6 S.imm), ?_⟩
      refine Qo E Y (fun w hC => (Qy E Y)) ?_
      clear E a; intro a E
      refine Jv (Ju ?_)
      refine ZN (JG (QF (Qq E Y fun _ B => Zk B Y ?_)))
      clear E a B; intro a E
      refine Jx ?_
      refine QL E Y Y ?_
      refine qc (QY (m := ((k + 1 : Nat) : Int)) E Y Y fun _ B => Qq B Y ?_)
      clear E a B; intro a E
      refine Jx ?_
      exact ⟨k + 1, ⟨e2, _, _, (a5.trans (a6.trans c6)), S, E.keep ⟨Y, Y, Y, Y, Y, Y, trivial⟩, by ((try clear S); (try clear E); first | assumption | omega | rfl | (simp; done) | (simp_all; done) | (simp [List.take_add_one, *]; done) | grind [List.take_add_one]), (by first | exact hR | exact ZF a3 (by assumption) han (by omega)), (by first | exact hl8n | assumption), (by first | exact hcnn | assumption), j8⟩, by omega⟩
     ·replace E := E.val (t := 36) Y b4
      replace E := E.val (t := 37) Y b4
      replace E := E.val (t := 38) Y b4
      replace b4 := of_decide_eq_false b4
      refine Qc E Y Y (Qa E Y (Zq _) fun _ B => Qc B Y Y (Qz B Y Tryz.isAgg3 S.imm (Qf a0 Y) fun _ D => Qc D Y Y (Jh D Y Y fun _ F => QU F Y Y fun _ G => Qx G Y ?_)))
      clear E a B D F G; intro a E
      refine Jx ?_
      refine QJ E Y (fun j9 => ?_) (fun j9 => ?_)
      ·have qp_9k22 := a9
       have hb_13k22 := a0
       have h1k22 := h1
       replace S := S.mono_heap (w' := World.drew _) rfl
       refine QN (C := fun x w => agree a7 w) (bf := (fun i => [])) [0, 1, 2, 3, 4, 6] [0, 1, 2, 3, 4, 5, 6] Tryz.mixed (by kernel_rfl) (fun x hq => S.imm) ?_
       refine Qo E Y (fun w hC => (ZI E Y (Tryz.isAgg67 _) (Tryz.sizeOf67 _) hC hb_13k22)) fun _ B => Qo B Y (fun w hC => (Qi B Y)) fun _ D => Qo D Y (fun w hC => (Qi D Y)) ?_
       clear E a B D; intro a E
       obtain ⟨e3, k0⟩ : ∃ x, (an1)[k]? = some x := ⟨_, List.getElem?_eq_getElem (by omega)⟩
       obtain ⟨t1, k1, k2, k3, e4⟩ := RdAN.at h1 k0
       have t2 := e4.bound
       refine Qo E Y (fun w hC => (Yj E Y Y yw k2 Y)) fun _ B => Qo B Y (fun w hC => (Yc (cs := [.bool e3.1, .int .i64 e3.2.1, k1]) B Y (Tryz.isAgg69 _) (Tryz.sizeOf69 _) hC k3)) ?_
       clear E a B; intro a E
       obtain ⟨t8, hS, hR⟩ := YD a3 (by assumption) (by assumption)
       have hl8n := (ZE hS).trans b3
       have hcnn := Zv a8 (by assumption) hS
       have hb9 : _ ≤ 100000 := Nat.le_trans (hs2 _ (List.mem_of_getElem? (by assumption : l0[k]? = some _))) (by decide)
       refine Zd Y Y Y (QI (p := [Jk 66 1 (.slice (some ⟨a2, 0, none⟩) 8 8) t9.length xs7]) E S Y Y Y (VX hr7 a1 e4 (by exact hS) (by omega) (by exact hc9) (by exact hb9) (by omega)) lerf ?_)
       clear E a S; rintro a _ w e5 _ c7 ⟨k4, rfl, rfl, k5⟩ S E
       replace S : St w e5 (Jk 66 1 (.slice (some ⟨a2, 0, none⟩) 8 8) t8.length k4 :: H) := S
       replace h1 := h1.le Js c7
       replace h2 := h2.le c7
       replace a1 := a1.le c7
       replace a0 := c7.2 _ _ a0
       refine ⟨fun x hq hb => (Qg c7 S.imm), ?_⟩
       refine Qo E Y (fun w hC => (Qy E Y)) ?_
       clear E a; intro a E
       refine Jv (Ju ?_)
       refine ZN (JG (QF (Qq E Y fun _ B => Zk B Y ?_)))
       clear E a B; intro a E
       refine Jx ?_
       refine QL E Y Y ?_
       refine qc (QY (m := ((k + 1 : Nat) : Int)) E Y Y fun _ B => Qq B Y ?_)
       clear E a B; intro a E
       refine Jx ?_
       exact ⟨k + 1, ⟨e5, _, _, (a5.trans (a6.trans c7)), S, E.keep ⟨Y, Y, Y, Y, Y, Y, trivial⟩, by ((try clear S); (try clear E); first | assumption | omega | rfl | (simp; done) | (simp_all; done) | (simp [List.take_add_one, *]; done) | grind [List.take_add_one]), (by first | exact hR | exact ZF a3 (by assumption) han (by omega)), (by first | exact hl8n | assumption), (by first | exact hcnn | assumption), k5⟩, by omega⟩
      ·refine QF (Qa E Y (Zq _) fun _ B => Qz B Y Tryz.isAgg3 S.imm (Qf a0 Y) fun _ D => yi D Y Y fun _ F => Qq F Y ?_)
       clear E a B D F; intro a E
       refine QO (decide (11 ≤ a4.1)) (fun b7 => ?_) (fun b7 => ?_)
       ·replace E := E.val (t := 52) Y b7
        replace E := E.val (t := 53) Y b7
        replace b7 := of_decide_eq_true b7
        refine Qc E Y Y (Qa E Y (Zq _) fun _ B => Qc B Y Y (Qz B Y Tryz.isAgg3 S.imm (Qf a0 Y) fun _ D => Qc D Y Y (zV D Y Y fun _ F => JI F Y Y fun _ G => Qx G Y ?_)))
        clear E a B D F G; intro a E
        refine Jx ?_
        refine QJ E Y (fun k6 => ?_) (fun k6 => ?_)
        ·have qp_9k30 := a9
         have hb_13k30 := a0
         have h1k30 := h1
         replace S := S.mono_heap (w' := World.drew _) rfl
         refine QN (C := fun x w => agree a7 w) (bf := (fun i => [])) [0, 1, 2, 3, 4, 6] [0, 1, 2, 3, 4, 5, 6] Tryz.mixed (by kernel_rfl) (fun x hq => S.imm) ?_
         refine Qo E Y (fun w hC => (ZI E Y (Tryz.isAgg67 _) (Tryz.sizeOf67 _) hC hb_13k30)) fun _ B => Qo B Y (fun w hC => (Qi B Y)) fun _ D => Qo D Y (fun w hC => (Qi D Y)) ?_
         clear E a B D; intro a E
         obtain ⟨e6, k7⟩ : ∃ x, (an1)[k]? = some x := ⟨_, List.getElem?_eq_getElem (by omega)⟩
         obtain ⟨t3, k8, k9, l1, e7⟩ := RdAN.at h1 k7
         have t4 := e7.bound
         refine Qo E Y (fun w hC => (Yj E Y Y yw k9 Y)) fun _ B => Qo B Y (fun w hC => (Yc (cs := [.bool e6.1, .int .i64 e6.2.1, k8]) B Y (Tryz.isAgg69 _) (Tryz.sizeOf69 _) hC l1)) ?_
         clear E a B; intro a E
         obtain ⟨t8, hS, hR⟩ := YD a3 (by assumption) (by assumption)
         have hl8n := (ZE hS).trans b3
         have hcnn := Zv a8 (by assumption) hS
         have hb9 : _ ≤ 100000 := Nat.le_trans (hs2 _ (List.mem_of_getElem? (by assumption : l0[k]? = some _))) (by decide)
         have e8 := yk hS (by omega) (by omega)
         rw [e8] at hR hl8n hcnn
         refine Zd Y Y Y (QI (p := [Jk 66 1 (.slice (some ⟨a2, 0, none⟩) 8 8) t9.length xs7]) E S Y Y Y (zK hr7 a1 e7 (by exact hS) (by omega) (by exact hc9) (by exact hb9) (by omega)) lerf ?_)
         clear E a S; rintro a _ w e9 _ c4 ⟨rfl, rfl⟩ S E
         replace S : St w e9 (Jk 66 1 (.slice (some ⟨a2, 0, none⟩) 8 8) t9.length xs7 :: H) := S
         replace h1 := h1.le Js c4
         replace h2 := h2.le c4
         replace hr7 := hr7.le (QH QA) c4
         replace a1 := a1.le c4
         replace a0 := c4.2 _ _ a0
         refine ⟨fun x hq hb => (Qg c4 S.imm), ?_⟩
         refine Qo E Y (fun w hC => (Qy E Y)) ?_
         clear E a; intro a E
         refine Jv (Ju ?_)
         refine ZN (JG (QF (Qq E Y fun _ B => Zk B Y ?_)))
         clear E a B; intro a E
         refine Jx ?_
         refine QL E Y Y ?_
         refine qc (QY (m := ((k + 1 : Nat) : Int)) E Y Y fun _ B => Qq B Y ?_)
         clear E a B; intro a E
         refine Jx ?_
         exact ⟨k + 1, ⟨e9, _, _, (a5.trans (a6.trans c4)), S, E.keep ⟨Y, Y, Y, Y, Y, Y, trivial⟩, by ((try clear S); (try clear E); first | assumption | omega | rfl | (simp; done) | (simp_all; done) | (simp [List.take_add_one, *]; done) | grind [List.take_add_one]), (by first | exact hR | exact ZF a3 (by assumption) han (by omega)), (by first | exact hl8n | assumption), (by first | exact hcnn | assumption), hr7⟩, by omega⟩
        ·refine QF (Qa E Y (Zq _) fun _ B => Qz B Y Tryz.isAgg3 S.imm (Qf a0 Y) fun _ D => Jh D Y Y fun _ F => Qq F Y ?_)
         clear E a B D F; intro a E
         refine QO (decide (a4.1 = 24)) (fun b8 => ?_) (fun b8 => ?_)
         ·replace E := E.val (t := 67) Y b8
          replace E := E.val (t := 68) Y b8
          replace b8 := of_decide_eq_true b8
          refine Qd E Y Y Y Y fun _ B => Qd B Y Y Y Y fun _ D => Qd D Y Y Y Y fun _ F => JI F Y Y fun _ G => Qx G Y ?_
          clear E a B D F G; intro a E
          refine Jx ?_
          refine Jj E Y Y ?_
          have qp_9k35 := a9
          have hb_13k35 := a0
          have h1k35 := h1
          replace S := S.mono_heap (w' := World.drew _) rfl
          refine QN (C := fun x w => agree a7 w) (bf := (fun i => [])) [0, 1, 2, 3, 4, 6] [0, 1, 2, 3, 4, 5, 6] Tryz.mixed (by kernel_rfl) (fun x hq => S.imm) ?_
          refine Qo E Y (fun w hC => (ZI E Y (Tryz.isAgg67 _) (Tryz.sizeOf67 _) hC hb_13k35)) fun _ B => Qo B Y (fun w hC => (Qi B Y)) fun _ D => Qo D Y (fun w hC => (Qi D Y)) ?_
          clear E a B D; intro a E
          obtain ⟨f0, l2⟩ : ∃ x, (an1)[k]? = some x := ⟨_, List.getElem?_eq_getElem (by omega)⟩
          obtain ⟨t5, l3, l4, l5, f1⟩ := RdAN.at h1 l2
          have t6 := f1.bound
          refine Qo E Y (fun w hC => (Yj E Y Y yw l4 Y)) fun _ B => Qo B Y (fun w hC => (Yc (cs := [.bool f0.1, .int .i64 f0.2.1, l3]) B Y (Tryz.isAgg69 _) (Tryz.sizeOf69 _) hC l5)) ?_
          clear E a B; intro a E
          obtain ⟨t8, hS, hR⟩ := YD a3 (by assumption) (by assumption)
          have hl8n := (ZE hS).trans b3
          have hcnn := Zv a8 (by assumption) hS
          have hb9 : _ ≤ 100000 := Nat.le_trans (hs2 _ (List.mem_of_getElem? (by assumption : l0[k]? = some _))) (by decide)
          refine Zd Y Y Y (QI (p := [Jk 66 1 (.slice (some ⟨a2, 0, none⟩) 8 8) t9.length xs7]) E S Y Y Y (Yw hr7 a1 f1 (by exact hS) (by omega) (by exact hc9) (by exact hb9) (by omega)) lerf ?_)
          clear E a S; rintro a _ w f2 _ c8 ⟨l6, rfl, rfl, l7⟩ S E
          replace S : St w f2 (Jk 66 1 (.slice (some ⟨a2, 0, none⟩) 8 8) t8.length l6 :: H) := S
          replace h1 := h1.le Js c8
          replace h2 := h2.le c8
          replace a1 := a1.le c8
          replace a0 := c8.2 _ _ a0
          refine ⟨fun x hq hb => (Qg c8 S.imm), ?_⟩
          refine Qo E Y (fun w hC => (Qy E Y)) ?_
          clear E a; intro a E
          refine Jv (Ju ?_)
          refine ZN (JG (QF (Qq E Y fun _ B => Zk B Y ?_)))
          clear E a B; intro a E
          refine Jx ?_
          refine QL E Y Y ?_
          refine qc (QY (m := ((k + 1 : Nat) : Int)) E Y Y fun _ B => Qq B Y ?_)
          clear E a B; intro a E
          refine Jx ?_
          exact ⟨k + 1, ⟨f2, _, _, (a5.trans (a6.trans c8)), S, E.keep ⟨Y, Y, Y, Y, Y, Y, trivial⟩, by ((try clear S); (try clear E); first | assumption | omega | rfl | (simp; done) | (simp_all; done) | (simp [List.take_add_one, *]; done) | grind [List.take_add_one]), (by first | exact hR | exact ZF a3 (by assumption) han (by omega)), (by first | exact hl8n | assumption), (by first | exact hcnn | assumption), l7⟩, by omega⟩
         ·replace E := E.val (t := 67) Y b8
          replace E := E.val (t := 68) Y b8
          replace b8 := of_decide_eq_false b8
          refine Qc E Y Y (Qa E Y (Zq _) fun _ B => Qc B Y Y (Qz B Y Tryz.isAgg3 S.imm (Qf a0 Y) fun _ D => Qc D Y Y (Jh D Y Y fun _ F => QU F Y Y fun _ G => Qx G Y ?_)))
          clear E a B D F G; intro a E
          refine Jx ?_
          refine QJ E Y (fun l8 => ?_) (fun l8 => ?_)
          ·have qp_9k42 := a9
           have hb_13k42 := a0
           have h1k42 := h1
           replace S := S.mono_heap (w' := World.drew _) rfl
           refine QN (C := fun x w => agree a7 w) (bf := (fun i => [])) [0, 1, 2, 3, 4, 6] [0, 1, 2, 3, 4, 5, 6] Tryz.mixed (by kernel_rfl) (fun x hq => S.imm) ?_
           refine Qo E Y (fun w hC => (ZI E Y (Tryz.isAgg67 _) (Tryz.sizeOf67 _) hC hb_13k42)) fun _ B => Qo B Y (fun w hC => (Qi B Y)) fun _ D => Qo D Y (fun w hC => (Qi D Y)) ?_
           clear E a B D; intro a E
           obtain ⟨f3, l9⟩ : ∃ x, (an1)[k]? = some x := ⟨_, List.getElem?_eq_getElem (by omega)⟩
           obtain ⟨t7, m0, m1, m2, f4⟩ := RdAN.at h1 l9
           have u0 := f4.bound
           refine Qo E Y (fun w hC => (Yj E Y Y yw m1 Y)) fun _ B => Qo B Y (fun w hC => (Yc (cs := [.bool f3.1, .int .i64 f3.2.1, m0]) B Y (Tryz.isAgg69 _) (Tryz.sizeOf69 _) hC m2)) ?_
           clear E a B; intro a E
           obtain ⟨t8, hS, hR⟩ := YD a3 (by assumption) (by assumption)
           have hl8n := (ZE hS).trans b3
           have hcnn := Zv a8 (by assumption) hS
           have hb9 : _ ≤ 100000 := Nat.le_trans (hs2 _ (List.mem_of_getElem? (by assumption : l0[k]? = some _))) (by decide)
           refine Zd Y Y Y (QI (p := [Jk 66 1 (.slice (some ⟨a2, 0, none⟩) 8 8) t9.length xs7]) E S Y Y Y (Yw hr7 a1 f4 (by exact hS) (by omega) (by exact hc9) (by exact hb9) (by omega)) lerf ?_)
           clear E a S; rintro a _ w f5 _ c9 ⟨m3, rfl, rfl, m4⟩ S E
           replace S : St w f5 (Jk 66 1 (.slice (some ⟨a2, 0, none⟩) 8 8) t8.length m3 :: H) := S
           replace h1 := h1.le Js c9
           replace h2 := h2.le c9
           replace a1 := a1.le c9
           replace a0 := c9.2 _ _ a0
           refine ⟨fun x hq hb => (Qg c9 S.imm), ?_⟩
           refine Qo E Y (fun w hC => (Qy E Y)) ?_
           clear E a; intro a E
           refine Jv (Ju ?_)
           refine ZN (JG (QF (Qq E Y fun _ B => Zk B Y ?_)))
           clear E a B; intro a E
           refine Jx ?_
           refine QL E Y Y ?_
           refine qc (QY (m := ((k + 1 : Nat) : Int)) E Y Y fun _ B => Qq B Y ?_)
           clear E a B; intro a E
           refine Jx ?_
           exact ⟨k + 1, ⟨f5, _, _, (a5.trans (a6.trans c9)), S, E.keep ⟨Y, Y, Y, Y, Y, Y, trivial⟩, by ((try clear S); (try clear E); first | assumption | omega | rfl | (simp; done) | (simp_all; done) | (simp [List.take_add_one, *]; done) | grind [List.take_add_one]), (by first | exact hR | exact ZF a3 (by assumption) han (by omega)), (by first | exact hl8n | assumption), (by first | exact hcnn | assumption), m4⟩, by omega⟩
          ·refine J_y (Qq E Y fun _ B => Zk B Y ?_)
           clear E a B; intro a E
           refine Jx ?_
           refine QL E Y Y ?_
           refine qc (QY (m := ((k + 1 : Nat) : Int)) E Y Y fun _ B => Qq B Y ?_)
           clear E a B; intro a E
           refine Jx ?_
           exact ⟨k + 1, ⟨a7, _, _, (a5.trans a6), S, E.keep ⟨Y, Y, Y, Y, Y, Y, trivial⟩, by ((try clear S); (try clear E); first | assumption | omega | rfl | (simp; done) | (simp_all; done) | (simp [List.take_add_one, *]; done) | grind [List.take_add_one]), (by first | exact hR | exact ZF a3 (by assumption) han (by omega)), (by first | exact hl8n | assumption), (by first | exact hcnn | assumption), hr7⟩, by omega⟩
       ·replace E := E.val (t := 52) Y b7
        replace E := E.val (t := 53) Y b7
        replace b7 := of_decide_eq_false b7
        refine Qd E Y Y Y Y fun _ B => Qd B Y Y Y Y fun _ D => Qd D Y Y Y Y fun _ F => QU F Y Y fun _ G => Qx G Y ?_
        clear E a B D F G; intro a E
        refine Jx ?_
        refine QL E Y Y ?_
        refine QF (Qa E Y (Zq _) fun _ B => Qz B Y Tryz.isAgg3 S.imm (Qf a0 Y) fun _ D => Jh D Y Y fun _ F => Qq F Y ?_)
        clear E a B D F; intro a E
        refine QO (decide (a4.1 = 24)) (fun b9 => ?_) (fun b9 => ?_)
        ·replace E := E.val (t := 67) Y b9
         replace E := E.val (t := 68) Y b9
         replace b9 := of_decide_eq_true b9
         refine Qd E Y Y Y Y fun _ B => Qd B Y Y Y Y fun _ D => Qd D Y Y Y Y fun _ F => JI F Y Y fun _ G => Qx G Y ?_
         clear E a B D F G; intro a E
         refine Jx ?_
         refine Jj E Y Y ?_
         have qp_9k49 := a9
         have hb_13k49 := a0
         have h1k49 := h1
         replace S := S.mono_heap (w' := World.drew _) rfl
         refine QN (C := fun x w => agree a7 w) (bf := (fun i => [])) [0, 1, 2, 3, 4, 6] [0, 1, 2, 3, 4, 5, 6] Tryz.mixed (by kernel_rfl) (fun x hq => S.imm) ?_
         refine Qo E Y (fun w hC => (ZI E Y (Tryz.isAgg67 _) (Tryz.sizeOf67 _) hC hb_13k49)) fun _ B => Qo B Y (fun w hC => (Qi B Y)) fun _ D => Qo D Y (fun w hC => (Qi D Y)) ?_
         clear E a B D; intro a E
         obtain ⟨f6, m5⟩ : ∃ x, (an1)[k]? = some x := ⟨_, List.getElem?_eq_getElem (by omega)⟩
         obtain ⟨u1, m6, m7, m8, f7⟩ := RdAN.at h1 m5
         have u2 := f7.bound
         refine Qo E Y (fun w hC => (Yj E Y Y yw m7 Y)) fun _ B => Qo B Y (fun w hC => (Yc (cs := [.bool f6.1, .int .i64 f6.2.1, m6]) B Y (Tryz.isAgg69 _) (Tryz.sizeOf69 _) hC m8)) ?_
         clear E a B; intro a E
         obtain ⟨t8, hS, hR⟩ := YD a3 (by assumption) (by assumption)
         have hl8n := (ZE hS).trans b3
         have hcnn := Zv a8 (by assumption) hS
         have hb9 : _ ≤ 100000 := Nat.le_trans (hs2 _ (List.mem_of_getElem? (by assumption : l0[k]? = some _))) (by decide)
         refine Zd Y Y Y (QI (p := [Jk 66 1 (.slice (some ⟨a2, 0, none⟩) 8 8) t9.length xs7]) E S Y Y Y (Yw hr7 a1 f7 (by exact hS) (by omega) (by exact hc9) (by exact hb9) (by omega)) lerf ?_)
         clear E a S; rintro a _ w f8 _ d0 ⟨m9, rfl, rfl, n0⟩ S E
         replace S : St w f8 (Jk 66 1 (.slice (some ⟨a2, 0, none⟩) 8 8) t8.length m9 :: H) := S
         replace h1 := h1.le Js d0
         replace h2 := h2.le d0
         replace a1 := a1.le d0
         replace a0 := d0.2 _ _ a0
         refine ⟨fun x hq hb => (Qg d0 S.imm), ?_⟩
         refine Qo E Y (fun w hC => (Qy E Y)) ?_
         clear E a; intro a E
         refine Jv (Ju ?_)
         refine ZN (JG (QF (Qq E Y fun _ B => Zk B Y ?_)))
         clear E a B; intro a E
         refine Jx ?_
         refine QL E Y Y ?_
         refine qc (QY (m := ((k + 1 : Nat) : Int)) E Y Y fun _ B => Qq B Y ?_)
         clear E a B; intro a E
         refine Jx ?_
         exact ⟨k + 1, ⟨f8, _, _, (a5.trans (a6.trans d0)), S, E.keep ⟨Y, Y, Y, Y, Y, Y, trivial⟩, by ((try clear S); (try clear E); first | assumption | omega | rfl | (simp; done) | (simp_all; done) | (simp [List.take_add_one, *]; done) | grind [List.take_add_one]), (by first | exact hR | exact ZF a3 (by assumption) han (by omega)), (by first | exact hl8n | assumption), (by first | exact hcnn | assumption), n0⟩, by omega⟩
        ·replace E := E.val (t := 67) Y b9
         replace E := E.val (t := 68) Y b9
         replace b9 := of_decide_eq_false b9
         refine Qc E Y Y (Qa E Y (Zq _) fun _ B => Qc B Y Y (Qz B Y Tryz.isAgg3 S.imm (Qf a0 Y) fun _ D => Qc D Y Y (Jh D Y Y fun _ F => QU F Y Y fun _ G => Qx G Y ?_)))
         clear E a B D F G; intro a E
         refine Jx ?_
         refine QJ E Y (fun n1 => ?_) (fun n1 => ?_)
         ·have qp_9k56 := a9
          have hb_13k56 := a0
          have h1k56 := h1
          replace S := S.mono_heap (w' := World.drew _) rfl
          refine QN (C := fun x w => agree a7 w) (bf := (fun i => [])) [0, 1, 2, 3, 4, 6] [0, 1, 2, 3, 4, 5, 6] Tryz.mixed (by kernel_rfl) (fun x hq => S.imm) ?_
          refine Qo E Y (fun w hC => (ZI E Y (Tryz.isAgg67 _) (Tryz.sizeOf67 _) hC hb_13k56)) fun _ B => Qo B Y (fun w hC => (Qi B Y)) fun _ D => Qo D Y (fun w hC => (Qi D Y)) ?_
          clear E a B D; intro a E
          obtain ⟨f9, n2⟩ : ∃ x, (an1)[k]? = some x := ⟨_, List.getElem?_eq_getElem (by omega)⟩
          obtain ⟨u3, n3, n4, n5, g0⟩ := RdAN.at h1 n2
          have u4 := g0.bound
          refine Qo E Y (fun w hC => (Yj E Y Y yw n4 Y)) fun _ B => Qo B Y (fun w hC => (Yc (cs := [.bool f9.1, .int .i64 f9.2.1, n3]) B Y (Tryz.isAgg69 _) (Tryz.sizeOf69 _) hC n5)) ?_
          clear E a B; intro a E
          obtain ⟨t8, hS, hR⟩ := YD a3 (by assumption) (by assumption)
          have hl8n := (ZE hS).trans b3
          have hcnn := Zv a8 (by assumption) hS
          have hb9 : _ ≤ 100000 := Nat.le_trans (hs2 _ (List.mem_of_getElem? (by assumption : l0[k]? = some _))) (by decide)
          refine Zd Y Y Y (QI (p := [Jk 66 1 (.slice (some ⟨a2, 0, none⟩) 8 8) t9.length xs7]) E S Y Y Y (Yw hr7 a1 g0 (by exact hS) (by omega) (by exact hc9) (by exact hb9) (by omega)) lerf ?_)
          clear E a S; rintro a _ w g1 _ d1 ⟨n6, rfl, rfl, n7⟩ S E
          replace S : St w g1 (Jk 66 1 (.slice (some ⟨a2, 0, none⟩) 8 8) t8.length n6 :: H) := S
          replace h1 := h1.le Js d1
          replace h2 := h2.le d1
          replace a1 := a1.le d1
          replace a0 := d1.2 _ _ a0
          refine ⟨fun x hq hb => (Qg d1 S.imm), ?_⟩
          refine Qo E Y (fun w hC => (Qy E Y)) ?_
          clear E a; intro a E
          refine Jv (Ju ?_)
          refine ZN (JG (QF (Qq E Y fun _ B => Zk B Y ?_)))
          clear E a B; intro a E
          refine Jx ?_
          refine QL E Y Y ?_
          refine qc (QY (m := ((k + 1 : Nat) : Int)) E Y Y fun _ B => Qq B Y ?_)
          clear E a B; intro a E
          refine Jx ?_
          exact ⟨k + 1, ⟨g1, _, _, (a5.trans (a6.trans d1)), S, E.keep ⟨Y, Y, Y, Y, Y, Y, trivial⟩, by ((try clear S); (try clear E); first | assumption | omega | rfl | (simp; done) | (simp_all; done) | (simp [List.take_add_one, *]; done) | grind [List.take_add_one]), (by first | exact hR | exact ZF a3 (by assumption) han (by omega)), (by first | exact hl8n | assumption), (by first | exact hcnn | assumption), n7⟩, by omega⟩
         ·refine J_y (Qq E Y fun _ B => Zk B Y ?_)
          clear E a B; intro a E
          refine Jx ?_
          refine QL E Y Y ?_
          refine qc (QY (m := ((k + 1 : Nat) : Int)) E Y Y fun _ B => Qq B Y ?_)
          clear E a B; intro a E
          refine Jx ?_
          exact ⟨k + 1, ⟨a7, _, _, (a5.trans a6), S, E.keep ⟨Y, Y, Y, Y, Y, Y, trivial⟩, by ((try clear S); (try clear E); first | assumption | omega | rfl | (simp; done) | (simp_all; done) | (simp [List.take_add_one, *]; done) | grind [List.take_add_one]), (by first | exact hR | exact ZF a3 (by assumption) han (by omega)), (by first | exact hl8n | assumption), (by first | exact hcnn | assumption), hr7⟩, by omega⟩
    ·replace E := E.val (t := 32) Y b6
     replace E := E.val (t := 33) Y b6
     replace b6 := of_decide_eq_false b6
     refine Qd E Y Y Y Y fun _ B => Qd B Y Y Y Y fun _ D => Qd D Y Y Y Y fun _ F => QU F Y Y fun _ G => Qq G Y fun _ I => Qc I Y Y (Qa I Y (Zq _) fun _ J => Qc J Y Y (Qz J Y Tryz.isAgg3 S.imm (Qf a0 Y) fun _ K => Qc K Y Y (Jh K Y Y fun _ L => QU L Y Y fun _ N => Qx N Y ?_)))
     clear E a B D F G I J K L N; intro a E
     refine Jx ?_
     refine QJ E Y (fun n8 => ?_) (fun n8 => ?_)
     ·have qp_9k63 := a9
      have hb_13k63 := a0
      have h1k63 := h1
      replace S := S.mono_heap (w' := World.drew _) rfl
      refine QN (C := fun x w => agree a7 w) (bf := (fun i => [])) [0, 1, 2, 3, 4, 6] [0, 1, 2, 3, 4, 5, 6] Tryz.mixed (by kernel_rfl) (fun x hq => S.imm) ?_
      refine Qo E Y (fun w hC => (ZI E Y (Tryz.isAgg67 _) (Tryz.sizeOf67 _) hC hb_13k63)) fun _ B => Qo B Y (fun w hC => (Qi B Y)) fun _ D => Qo D Y (fun w hC => (Qi D Y)) ?_
      clear E a B D; intro a E
      obtain ⟨g2, n9⟩ : ∃ x, (an1)[k]? = some x := ⟨_, List.getElem?_eq_getElem (by omega)⟩
      obtain ⟨u5, o0, o1, o2, g3⟩ := RdAN.at h1 n9
      have u6 := g3.bound
      refine Qo E Y (fun w hC => (Yj E Y Y yw o1 Y)) fun _ B => Qo B Y (fun w hC => (Yc (cs := [.bool g2.1, .int .i64 g2.2.1, o0]) B Y (Tryz.isAgg69 _) (Tryz.sizeOf69 _) hC o2)) ?_
      clear E a B; intro a E
      obtain ⟨t8, hS, hR⟩ := YD a3 (by assumption) (by assumption)
      have hl8n := (ZE hS).trans b3
      have hcnn := Zv a8 (by assumption) hS
      have hb9 : _ ≤ 100000 := Nat.le_trans (hs2 _ (List.mem_of_getElem? (by assumption : l0[k]? = some _))) (by decide)
      refine Zd Y Y Y (QI (p := [Jk 66 1 (.slice (some ⟨a2, 0, none⟩) 8 8) t9.length xs7]) E S Y Y Y (VX hr7 a1 g3 (by exact hS) (by omega) (by exact hc9) (by exact hb9) (by omega)) lerf ?_)
      clear E a S; rintro a _ w g4 _ d2 ⟨o3, rfl, rfl, o4⟩ S E
      replace S : St w g4 (Jk 66 1 (.slice (some ⟨a2, 0, none⟩) 8 8) t8.length o3 :: H) := S
      replace h1 := h1.le Js d2
      replace h2 := h2.le d2
      replace a1 := a1.le d2
      replace a0 := d2.2 _ _ a0
      refine ⟨fun x hq hb => (Qg d2 S.imm), ?_⟩
      refine Qo E Y (fun w hC => (Qy E Y)) ?_
      clear E a; intro a E
      refine Jv (Ju ?_)
      refine ZN (JG (QF (Qq E Y fun _ B => Zk B Y ?_)))
      clear E a B; intro a E
      refine Jx ?_
      refine QL E Y Y ?_
      refine qc (QY (m := ((k + 1 : Nat) : Int)) E Y Y fun _ B => Qq B Y ?_)
      clear E a B; intro a E
      refine Jx ?_
      exact ⟨k + 1, ⟨g4, _, _, (a5.trans (a6.trans d2)), S, E.keep ⟨Y, Y, Y, Y, Y, Y, trivial⟩, by ((try clear S); (try clear E); first | assumption | omega | rfl | (simp; done) | (simp_all; done) | (simp [List.take_add_one, *]; done) | grind [List.take_add_one]), (by first | exact hR | exact ZF a3 (by assumption) han (by omega)), (by first | exact hl8n | assumption), (by first | exact hcnn | assumption), o4⟩, by omega⟩
     ·refine QF (Qa E Y (Zq _) fun _ B => Qz B Y Tryz.isAgg3 S.imm (Qf a0 Y) fun _ D => yi D Y Y fun _ F => Qq F Y ?_)
      clear E a B D F; intro a E
      refine QO (decide (11 ≤ a4.1)) (fun c0 => ?_) (fun c0 => ?_)
      ·replace E := E.val (t := 52) Y c0
       replace E := E.val (t := 53) Y c0
       replace c0 := of_decide_eq_true c0
       refine Qc E Y Y (Qa E Y (Zq _) fun _ B => Qc B Y Y (Qz B Y Tryz.isAgg3 S.imm (Qf a0 Y) fun _ D => Qc D Y Y (zV D Y Y fun _ F => JI F Y Y fun _ G => Qx G Y ?_)))
       clear E a B D F G; intro a E
       refine Jx ?_
       refine QJ E Y (fun o5 => ?_) (fun o5 => ?_)
       ·have qp_9k71 := a9
        have hb_13k71 := a0
        have h1k71 := h1
        replace S := S.mono_heap (w' := World.drew _) rfl
        refine QN (C := fun x w => agree a7 w) (bf := (fun i => [])) [0, 1, 2, 3, 4, 6] [0, 1, 2, 3, 4, 5, 6] Tryz.mixed (by kernel_rfl) (fun x hq => S.imm) ?_
        refine Qo E Y (fun w hC => (ZI E Y (Tryz.isAgg67 _) (Tryz.sizeOf67 _) hC hb_13k71)) fun _ B => Qo B Y (fun w hC => (Qi B Y)) fun _ D => Qo D Y (fun w hC => (Qi D Y)) ?_
        clear E a B D; intro a E
        obtain ⟨g5, o6⟩ : ∃ x, (an1)[k]? = some x := ⟨_, List.getElem?_eq_getElem (by omega)⟩
        obtain ⟨u7, o7, o8, o9, g6⟩ := RdAN.at h1 o6
        have u8 := g6.bound
        refine Qo E Y (fun w hC => (Yj E Y Y yw o8 Y)) fun _ B => Qo B Y (fun w hC => (Yc (cs := [.bool g5.1, .int .i64 g5.2.1, o7]) B Y (Tryz.isAgg69 _) (Tryz.sizeOf69 _) hC o9)) ?_
        clear E a B; intro a E
        obtain ⟨t8, hS, hR⟩ := YD a3 (by assumption) (by assumption)
        have hl8n := (ZE hS).trans b3
        have hcnn := Zv a8 (by assumption) hS
        have hb9 : _ ≤ 100000 := Nat.le_trans (hs2 _ (List.mem_of_getElem? (by assumption : l0[k]? = some _))) (by decide)
        have e8 := yk hS (by omega) (by omega)
        rw [e8] at hR hl8n hcnn
        refine Zd Y Y Y (QI (p := [Jk 66 1 (.slice (some ⟨a2, 0, none⟩) 8 8) t9.length xs7]) E S Y Y Y (zK hr7 a1 g6 (by exact hS) (by omega) (by exact hc9) (by exact hb9) (by omega)) lerf ?_)
        clear E a S; rintro a _ w g7 _ c5 ⟨rfl, rfl⟩ S E
        replace S : St w g7 (Jk 66 1 (.slice (some ⟨a2, 0, none⟩) 8 8) t9.length xs7 :: H) := S
        replace h1 := h1.le Js c5
        replace h2 := h2.le c5
        replace hr7 := hr7.le (QH QA) c5
        replace a1 := a1.le c5
        replace a0 := c5.2 _ _ a0
        refine ⟨fun x hq hb => (Qg c5 S.imm), ?_⟩
        refine Qo E Y (fun w hC => (Qy E Y)) ?_
        clear E a; intro a E
        refine Jv (Ju ?_)
        refine ZN (JG (QF (Qq E Y fun _ B => Zk B Y ?_)))
        clear E a B; intro a E
        refine Jx ?_
        refine QL E Y Y ?_
        refine qc (QY (m := ((k + 1 : Nat) : Int)) E Y Y fun _ B => Qq B Y ?_)
        clear E a B; intro a E
        refine Jx ?_
        exact ⟨k + 1, ⟨g7, _, _, (a5.trans (a6.trans c5)), S, E.keep ⟨Y, Y, Y, Y, Y, Y, trivial⟩, by ((try clear S); (try clear E); first | assumption | omega | rfl | (simp; done) | (simp_all; done) | (simp [List.take_add_one, *]; done) | grind [List.take_add_one]), (by first | exact hR | exact ZF a3 (by assumption) han (by omega)), (by first | exact hl8n | assumption), (by first | exact hcnn | assumption), hr7⟩, by omega⟩
       ·refine QF (Qa E Y (Zq _) fun _ B => Qz B Y Tryz.isAgg3 S.imm (Qf a0 Y) fun _ D => Jh D Y Y fun _ F => Qq F Y ?_)
        clear E a B D F; intro a E
        refine QO (decide (a4.1 = 24)) (fun c1 => ?_) (fun c1 => ?_)
        ·replace E := E.val (t := 67) Y c1
         replace E := E.val (t := 68) Y c1
         replace c1 := of_decide_eq_true c1
         refine Qd E Y Y Y Y fun _ B => Qd B Y Y Y Y fun _ D => Qd D Y Y Y Y fun _ F => JI F Y Y fun _ G => Qx G Y ?_
         clear E a B D F G; intro a E
         refine Jx ?_
         refine Jj E Y Y ?_
         have qp_9k76 := a9
         have hb_13k76 := a0
         have h1k76 := h1
         replace S := S.mono_heap (w' := World.drew _) rfl
         refine QN (C := fun x w => agree a7 w) (bf := (fun i => [])) [0, 1, 2, 3, 4, 6] [0, 1, 2, 3, 4, 5, 6] Tryz.mixed (by kernel_rfl) (fun x hq => S.imm) ?_
         refine Qo E Y (fun w hC => (ZI E Y (Tryz.isAgg67 _) (Tryz.sizeOf67 _) hC hb_13k76)) fun _ B => Qo B Y (fun w hC => (Qi B Y)) fun _ D => Qo D Y (fun w hC => (Qi D Y)) ?_
         clear E a B D; intro a E
         obtain ⟨g8, p0⟩ : ∃ x, (an1)[k]? = some x := ⟨_, List.getElem?_eq_getElem (by omega)⟩
         obtain ⟨u9, p1, p2, p3, g9⟩ := RdAN.at h1 p0
         have v3 := g9.bound
         refine Qo E Y (fun w hC => (Yj E Y Y yw p2 Y)) fun _ B => Qo B Y (fun w hC => (Yc (cs := [.bool g8.1, .int .i64 g8.2.1, p1]) B Y (Tryz.isAgg69 _) (Tryz.sizeOf69 _) hC p3)) ?_
         clear E a B; intro a E
         obtain ⟨t8, hS, hR⟩ := YD a3 (by assumption) (by assumption)
         have hl8n := (ZE hS).trans b3
         have hcnn := Zv a8 (by assumption) hS
         have hb9 : _ ≤ 100000 := Nat.le_trans (hs2 _ (List.mem_of_getElem? (by assumption : l0[k]? = some _))) (by decide)
         refine Zd Y Y Y (QI (p := [Jk 66 1 (.slice (some ⟨a2, 0, none⟩) 8 8) t9.length xs7]) E S Y Y Y (Yw hr7 a1 g9 (by exact hS) (by omega) (by exact hc9) (by exact hb9) (by omega)) lerf ?_)
         clear E a S; rintro a _ w h3 _ d3 ⟨p4, rfl, rfl, p5⟩ S E
         replace S : St w h3 (Jk 66 1 (.slice (some ⟨a2, 0, none⟩) 8 8) t8.length p4 :: H) := S
         replace h1 := h1.le Js d3
         replace h2 := h2.le d3
         replace a1 := a1.le d3
         replace a0 := d3.2 _ _ a0
         refine ⟨fun x hq hb => (Qg d3 S.imm), ?_⟩
         refine Qo E Y (fun w hC => (Qy E Y)) ?_
         clear E a; intro a E
         refine Jv (Ju ?_)
         refine ZN (JG (QF (Qq E Y fun _ B => Zk B Y ?_)))
         clear E a B; intro a E
         refine Jx ?_
         refine QL E Y Y ?_
         refine qc (QY (m := ((k + 1 : Nat) : Int)) E Y Y fun _ B => Qq B Y ?_)
         clear E a B; intro a E
         refine Jx ?_
         exact ⟨k + 1, ⟨h3, _, _, (a5.trans (a6.trans d3)), S, E.keep ⟨Y, Y, Y, Y, Y, Y, trivial⟩, by ((try clear S); (try clear E); first | assumption | omega | rfl | (simp; done) | (simp_all; done) | (simp [List.take_add_one, *]; done) | grind [List.take_add_one]), (by first | exact hR | exact ZF a3 (by assumption) han (by omega)), (by first | exact hl8n | assumption), (by first | exact hcnn | assumption), p5⟩, by omega⟩
        ·replace E := E.val (t := 67) Y c1
         replace E := E.val (t := 68) Y c1
         replace c1 := of_decide_eq_false c1
         refine Qc E Y Y (Qa E Y (Zq _) fun _ B => Qc B Y Y (Qz B Y Tryz.isAgg3 S.imm (Qf a0 Y) fun _ D => Qc D Y Y (Jh D Y Y fun _ F => QU F Y Y fun _ G => Qx G Y ?_)))
         clear E a B D F G; intro a E
         refine Jx ?_
         refine QJ E Y (fun p6 => ?_) (fun p6 => ?_)
         ·have qp_9k83 := a9
          have hb_13k83 := a0
          have h1k83 := h1
          replace S := S.mono_heap (w' := World.drew _) rfl
          refine QN (C := fun x w => agree a7 w) (bf := (fun i => [])) [0, 1, 2, 3, 4, 6] [0, 1, 2, 3, 4, 5, 6] Tryz.mixed (by kernel_rfl) (fun x hq => S.imm) ?_
          refine Qo E Y (fun w hC => (ZI E Y (Tryz.isAgg67 _) (Tryz.sizeOf67 _) hC hb_13k83)) fun _ B => Qo B Y (fun w hC => (Qi B Y)) fun _ D => Qo D Y (fun w hC => (Qi D Y)) ?_
          clear E a B D; intro a E
          obtain ⟨h4, p7⟩ : ∃ x, (an1)[k]? = some x := ⟨_, List.getElem?_eq_getElem (by omega)⟩
          obtain ⟨v4, p8, p9, q0, h5⟩ := RdAN.at h1 p7
          have v5 := h5.bound
          refine Qo E Y (fun w hC => (Yj E Y Y yw p9 Y)) fun _ B => Qo B Y (fun w hC => (Yc (cs := [.bool h4.1, .int .i64 h4.2.1, p8]) B Y (Tryz.isAgg69 _) (Tryz.sizeOf69 _) hC q0)) ?_
          clear E a B; intro a E
          obtain ⟨t8, hS, hR⟩ := YD a3 (by assumption) (by assumption)
          have hl8n := (ZE hS).trans b3
          have hcnn := Zv a8 (by assumption) hS
          have hb9 : _ ≤ 100000 := Nat.le_trans (hs2 _ (List.mem_of_getElem? (by assumption : l0[k]? = some _))) (by decide)
          refine Zd Y Y Y (QI (p := [Jk 66 1 (.slice (some ⟨a2, 0, none⟩) 8 8) t9.length xs7]) E S Y Y Y (Yw hr7 a1 h5 (by exact hS) (by omega) (by exact hc9) (by exact hb9) (by omega)) lerf ?_)
          clear E a S; rintro a _ w h6 _ d4 ⟨q1, rfl, rfl, q2⟩ S E
          replace S : St w h6 (Jk 66 1 (.slice (some ⟨a2, 0, none⟩) 8 8) t8.length q1 :: H) := S
          replace h1 := h1.le Js d4
          replace h2 := h2.le d4
          replace a1 := a1.le d4
          replace a0 := d4.2 _ _ a0
          refine ⟨fun x hq hb => (Qg d4 S.imm), ?_⟩
          refine Qo E Y (fun w hC => (Qy E Y)) ?_
          clear E a; intro a E
          refine Jv (Ju ?_)
          refine ZN (JG (QF (Qq E Y fun _ B => Zk B Y ?_)))
          clear E a B; intro a E
          refine Jx ?_
          refine QL E Y Y ?_
          refine qc (QY (m := ((k + 1 : Nat) : Int)) E Y Y fun _ B => Qq B Y ?_)
          clear E a B; intro a E
          refine Jx ?_
          exact ⟨k + 1, ⟨h6, _, _, (a5.trans (a6.trans d4)), S, E.keep ⟨Y, Y, Y, Y, Y, Y, trivial⟩, by ((try clear S); (try clear E); first | assumption | omega | rfl | (simp; done) | (simp_all; done) | (simp [List.take_add_one, *]; done) | grind [List.take_add_one]), (by first | exact hR | exact ZF a3 (by assumption) han (by omega)), (by first | exact hl8n | assumption), (by first | exact hcnn | assumption), q2⟩, by omega⟩
         ·refine J_y (Qq E Y fun _ B => Zk B Y ?_)
          clear E a B; intro a E
          refine Jx ?_
          refine QL E Y Y ?_
          refine qc (QY (m := ((k + 1 : Nat) : Int)) E Y Y fun _ B => Qq B Y ?_)
          clear E a B; intro a E
          refine Jx ?_
          exact ⟨k + 1, ⟨a7, _, _, (a5.trans a6), S, E.keep ⟨Y, Y, Y, Y, Y, Y, trivial⟩, by ((try clear S); (try clear E); first | assumption | omega | rfl | (simp; done) | (simp_all; done) | (simp [List.take_add_one, *]; done) | grind [List.take_add_one]), (by first | exact hR | exact ZF a3 (by assumption) han (by omega)), (by first | exact hl8n | assumption), (by first | exact hcnn | assumption), hr7⟩, by omega⟩
      ·replace E := E.val (t := 52) Y c0
       replace E := E.val (t := 53) Y c0
       replace c0 := of_decide_eq_false c0
       refine Qd E Y Y Y Y fun _ B => Qd B Y Y Y Y fun _ D => Qd D Y Y Y Y fun _ F => QU F Y Y fun _ G => Qx G Y ?_
       clear E a B D F G; intro a E
       refine Jx ?_
       refine QL E Y Y ?_
       refine QF (Qa E Y (Zq _) fun _ B => Qz B Y Tryz.isAgg3 S.imm (Qf a0 Y) fun _ D => Jh D Y Y fun _ F => Qq F Y ?_)
       clear E a B D F; intro a E
       refine QO (decide (a4.1 = 24)) (fun c2 => ?_) (fun c2 => ?_)
       ·replace E := E.val (t := 67) Y c2
        replace E := E.val (t := 68) Y c2
        replace c2 := of_decide_eq_true c2
        refine Qd E Y Y Y Y fun _ B => Qd B Y Y Y Y fun _ D => Qd D Y Y Y Y fun _ F => JI F Y Y fun _ G => Qx G Y ?_
        clear E a B D F G; intro a E
        refine Jx ?_
        refine Jj E Y Y ?_
        have qp_9k90 := a9
        have hb_13k90 := a0
        have h1k90 := h1
        replace S := S.mono_heap (w' := World.drew _) rfl
        refine QN (C := fun x w => agree a7 w) (bf := (fun i => [])) [0, 1, 2, 3, 4, 6] [0, 1, 2, 3, 4, 5, 6] Tryz.mixed (by kernel_rfl) (fun x hq => S.imm) ?_
        refine Qo E Y (fun w hC => (ZI E Y (Tryz.isAgg67 _) (Tryz.sizeOf67 _) hC hb_13k90)) fun _ B => Qo B Y (fun w hC => (Qi B Y)) fun _ D => Qo D Y (fun w hC => (Qi D Y)) ?_
        clear E a B D; intro a E
        obtain ⟨h7, q3⟩ : ∃ x, (an1)[k]? = some x := ⟨_, List.getElem?_eq_getElem (by omega)⟩
        obtain ⟨v6, q4, q5, q6, h8⟩ := RdAN.at h1 q3
        have v7 := h8.bound
        refine Qo E Y (fun w hC => (Yj E Y Y yw q5 Y)) fun _ B => Qo B Y (fun w hC => (Yc (cs := [.bool h7.1, .int .i64 h7.2.1, q4]) B Y (Tryz.isAgg69 _) (Tryz.sizeOf69 _) hC q6)) ?_
        clear E a B; intro a E
        obtain ⟨t8, hS, hR⟩ := YD a3 (by assumption) (by assumption)
        have hl8n := (ZE hS).trans b3
        have hcnn := Zv a8 (by assumption) hS
        have hb9 : _ ≤ 100000 := Nat.le_trans (hs2 _ (List.mem_of_getElem? (by assumption : l0[k]? = some _))) (by decide)
        refine Zd Y Y Y (QI (p := [Jk 66 1 (.slice (some ⟨a2, 0, none⟩) 8 8) t9.length xs7]) E S Y Y Y (Yw hr7 a1 h8 (by exact hS) (by omega) (by exact hc9) (by exact hb9) (by omega)) lerf ?_)
        clear E a S; rintro a _ w h9 _ d5 ⟨q7, rfl, rfl, q8⟩ S E
        replace S : St w h9 (Jk 66 1 (.slice (some ⟨a2, 0, none⟩) 8 8) t8.length q7 :: H) := S
        replace h1 := h1.le Js d5
        replace h2 := h2.le d5
        replace a1 := a1.le d5
        replace a0 := d5.2 _ _ a0
        refine ⟨fun x hq hb => (Qg d5 S.imm), ?_⟩
        refine Qo E Y (fun w hC => (Qy E Y)) ?_
        clear E a; intro a E
        refine Jv (Ju ?_)
        refine ZN (JG (QF (Qq E Y fun _ B => Zk B Y ?_)))
        clear E a B; intro a E
        refine Jx ?_
        refine QL E Y Y ?_
        refine qc (QY (m := ((k + 1 : Nat) : Int)) E Y Y fun _ B => Qq B Y ?_)
        clear E a B; intro a E
        refine Jx ?_
        exact ⟨k + 1, ⟨h9, _, _, (a5.trans (a6.trans d5)), S, E.keep ⟨Y, Y, Y, Y, Y, Y, trivial⟩, by ((try clear S); (try clear E); first | assumption | omega | rfl | (simp; done) | (simp_all; done) | (simp [List.take_add_one, *]; done) | grind [List.take_add_one]), (by first | exact hR | exact ZF a3 (by assumption) han (by omega)), (by first | exact hl8n | assumption), (by first | exact hcnn | assumption), q8⟩, by omega⟩
       ·replace E := E.val (t := 67) Y c2
        replace E := E.val (t := 68) Y c2
        replace c2 := of_decide_eq_false c2
        refine Qc E Y Y (Qa E Y (Zq _) fun _ B => Qc B Y Y (Qz B Y Tryz.isAgg3 S.imm (Qf a0 Y) fun _ D => Qc D Y Y (Jh D Y Y fun _ F => QU F Y Y fun _ G => Qx G Y ?_)))
        clear E a B D F G; intro a E
        refine Jx ?_
        refine QJ E Y (fun q9 => ?_) (fun q9 => ?_)
        ·have qp_9k97 := a9
         have hb_13k97 := a0
         have h1k97 := h1
         replace S := S.mono_heap (w' := World.drew _) rfl
         refine QN (C := fun x w => agree a7 w) (bf := (fun i => [])) [0, 1, 2, 3, 4, 6] [0, 1, 2, 3, 4, 5, 6] Tryz.mixed (by kernel_rfl) (fun x hq => S.imm) ?_
         refine Qo E Y (fun w hC => (ZI E Y (Tryz.isAgg67 _) (Tryz.sizeOf67 _) hC hb_13k97)) fun _ B => Qo B Y (fun w hC => (Qi B Y)) fun _ D => Qo D Y (fun w hC => (Qi D Y)) ?_
         clear E a B D; intro a E
         obtain ⟨i0, r0⟩ : ∃ x, (an1)[k]? = some x := ⟨_, List.getElem?_eq_getElem (by omega)⟩
         obtain ⟨v8, r1, r2, r3, i1⟩ := RdAN.at h1 r0
         have v9 := i1.bound
         refine Qo E Y (fun w hC => (Yj E Y Y yw r2 Y)) fun _ B => Qo B Y (fun w hC => (Yc (cs := [.bool i0.1, .int .i64 i0.2.1, r1]) B Y (Tryz.isAgg69 _) (Tryz.sizeOf69 _) hC r3)) ?_
         clear E a B; intro a E
         obtain ⟨t8, hS, hR⟩ := YD a3 (by assumption) (by assumption)
         have hl8n := (ZE hS).trans b3
         have hcnn := Zv a8 (by assumption) hS
         have hb9 : _ ≤ 100000 := Nat.le_trans (hs2 _ (List.mem_of_getElem? (by assumption : l0[k]? = some _))) (by decide)
         refine Zd Y Y Y (QI (p := [Jk 66 1 (.slice (some ⟨a2, 0, none⟩) 8 8) t9.length xs7]) E S Y Y Y (Yw hr7 a1 i1 (by exact hS) (by omega) (by exact hc9) (by exact hb9) (by omega)) lerf ?_)
         clear E a S; rintro a _ w i2 _ d9 ⟨r4, rfl, rfl, r5⟩ S E
         replace S : St w i2 (Jk 66 1 (.slice (some ⟨a2, 0, none⟩) 8 8) t8.length r4 :: H) := S
         replace h2 := h2.le d9
         refine ⟨fun x hq hb => (Qg d9 S.imm), ?_⟩
         refine Qo E Y (fun w hC => (Qy E Y)) ?_
         clear E a; intro a E
         refine Jv (Ju ?_)
         refine ZN (JG (QF (Qq E Y fun _ B => Zk B Y ?_)))
         clear E a B; intro a E
         refine Jx ?_
         refine QL E Y Y ?_
         refine qc (QY (m := ((k + 1 : Nat) : Int)) E Y Y fun _ B => Qq B Y ?_)
         clear E a B; intro a E
         refine Jx ?_
         exact ⟨k + 1, ⟨i2, _, _, (a5.trans (a6.trans d9)), S, E.keep ⟨Y, Y, Y, Y, Y, Y, trivial⟩, by ((try clear S); (try clear E); first | assumption | omega | rfl | (simp; done) | (simp_all; done) | (simp [List.take_add_one, *]; done) | grind [List.take_add_one]), (by first | exact hR | exact ZF a3 (by assumption) han (by omega)), (by first | exact hl8n | assumption), (by first | exact hcnn | assumption), r5⟩, by omega⟩
        ·refine J_y (Qq E Y fun _ B => Zk B Y ?_)
         clear E a B; intro a E
         refine Jx ?_
         refine QL E Y Y ?_
         refine qc (QY (m := ((k + 1 : Nat) : Int)) E Y Y fun _ B => Qq B Y ?_)
         clear E a B; intro a E
         refine Jx ?_
         exact ⟨k + 1, ⟨a7, _, _, (a5.trans a6), S, E.keep ⟨Y, Y, Y, Y, Y, Y, trivial⟩, by ((try clear S); (try clear E); first | assumption | omega | rfl | (simp; done) | (simp_all; done) | (simp [List.take_add_one, *]; done) | grind [List.take_add_one]), (by first | exact hR | exact ZF a3 (by assumption) han (by omega)), (by first | exact hl8n | assumption), (by first | exact hcnn | assumption), hr7⟩, by omega⟩
   ·refine Yu (qk (qk (B_x (JG (J_p (Qq E Y ?_))))))
    clear E a; intro a E
    refine VJ ?_
    refine Jb (γ := Nat) (fun (j : Nat) a w => ∃ (d6 : Hp), Hp.le c3 d6 ∧ St w d6 (Jk 66 1 (.slice (some ⟨a2, 0, none⟩) 8 8) t9.length xs7 :: H) ∧ Env a 95 [] [(2, v2), (7, .pointer (some ⟨a2, 0, none⟩)), (82, .int .i64 ((j : Nat) : Int))] ∧ (j ≤ 8)) (fun j => 8 - j) 0 ⟨c3, lerf, S, E.keep ⟨Y, Y, Y, trivial⟩, (by omega)⟩ ?_
    try clear E
    try clear S
    try clear a
    try clear w
    rintro j a w ⟨d6, d7, S, E, w0⟩
    replace h2 := h2.le d7
    replace hr7 := hr7.le (QH QA) d7
    refine QF (ZG E Y Y ?_)
    clear E a; intro a E
    refine ZB ?_
    refine QJ E Y (fun r6 => ?_) (fun r6 => ?_)
    ·refine zC (JR 2 E Y ?_)
     clear E a; intro a E
     refine ZB ?_
     have h2k105 := h2
     replace S := S.mono_heap (w' := World.drew _) rfl
     have hk_106 : j < 8 := by omega
     obtain ⟨r7, r8, i3⟩ := Ud hr7 (k := j) (by (first | omega | (simp only [List.length_set]; omega)))
     have w1 := i3.bound
     obtain ⟨r9, i4⟩ : ∃ x, (ls2)[j]? = some x := ⟨_, List.getElem?_eq_getElem (by omega)⟩
     obtain ⟨w2, w3, w4, w5, s0⟩ := h2.at i4
     have w6 := s0.bound
     refine QN (C := fun x w => agree d6 w ∧ (x = 2 → w.cell? (Addr.add ⟨a2, 0, none⟩ (j * 1)) = some r7)) (bf := (fun i => bif Nat.beq i 7 then [2] else [])) [0, 1, 2, 3, 4, 5, 6, 8] [0, 1, 2, 3, 4, 5, 6, 7, 8] Tryz.mixed (by kernel_rfl) (fun x hq => ⟨S.imm, fun _ => S.cellC (JK hk_106) r8⟩) ?_
     refine Qo E Y (fun w hC => (Qi E Y)) ?_
     clear E a; intro a E
     have hk_112 : j < 8 := by omega
     refine Qo E Y (fun w hC => (VF (k := j) (m := 8) E Y Y Tryz.underlying66 (Tryz.sizeOf22 _) hk_112 Y)) fun _ B => Qo B Y (fun w hC => (Jz B Y (Tryz.isAgg22 _) (hC.2 Y))) fun _ D => Qo D Y (fun w hC => (Qi D Y)) fun _ F => Qo F Y (fun w hC => (Qi F Y)) ?_
     clear E a B D F; intro a E
     obtain ⟨w7, w8, s1, s2, i5⟩ := h2.at i4
     have w9 := i5.bound
     refine Qo E Y (fun w hC => (Yj E Y Y T36 s1 Y)) fun _ B => Qo B Y (fun w hC => (QG B Y Tryz.isAgg22 hC.1 s2)) ?_
     clear E a B; intro a E
     refine Zd Y Y Y (Jm E S Y Y Y (Gn i3 i5) lerf ?_)
     clear E a S; rintro a _ w s3 i6 rfl S E
     refine ⟨fun x hq hb => ⟨(Qg i6 S.imm), (fun e => by subst e; exact absurd hb (by decide))⟩, ?_⟩
     refine Qo E Y (fun w hC => (R_not E Y)) ?_
     clear E a; intro a E
     refine Jv (Ju ?_)
     refine JG ?_
     have s4 : (!(decide ((t9).getD j [] = r9))) = false := by (have e := end_at (run_end a3 (by omega)) (show ls2[j]? = some _ by assumption); rw [e]; simp)
     refine QL E Y s4 ?_
     refine qc (QY (m := ((j + 1 : Nat) : Int)) E Y Y fun _ B => Qq B Y ?_)
     clear E a B; intro a E
     refine Jx ?_
     exact ⟨j + 1, ⟨s3, (d7.trans i6), S, E.keep ⟨Y, Y, Y, trivial⟩, (by omega)⟩, by omega⟩
    ·refine Um (Qx E Y ?_)
     clear E a; intro a E
     refine JQ ?_
     exact Qk E Tryz.results27 Y ⟨_, Y, d6, (a5.trans d7), Y, S.drop⟩
theorem Gz {M : Hp} {x0 : Bool} {v1 : Value} {l1 : List UK} (h1 : JN 6 yq M v1 l1)  :
  PuC Tryz.prog 6 M [.bool x0, v1] (fun r M' => r = .bool true) := by
 refine vX Tryz.func6 Y Tryz.ntmps6 Y ?_
 intro a w M1 H hM1 S E
 replace h1 := h1.le JF hM1
 have b1 := h1.bound
 refine QF (Qx E Y fun _ B => VM (Qq B Y ?_))
 clear E a B; intro a E
 refine QB (Jm E S Y Y Y (jq h1) lerf ?_)
 clear E a S; rintro a _ w c1 a3 rfl S E
 replace h1 := h1.le JF a3
 refine Zk E Y ?_
 clear E a; intro a E
 refine Jx ?_
 refine Yl E Y (fun c2 => ?_) (fun c2 => ?_)
 ·refine Za ?_
  refine Qr (Qx E Y ?_)
  clear E a; intro a E
  refine WF ?_
  exact Qk E Tryz.results6 Y ⟨_, Y, c1, a3, Y, S⟩
 ·refine Ja ?_
  refine JG (J_p (Qq E Y fun _ B => ZP (u := .agg #[.int .i64 1, .int .i64 0, .int .i64 0, .int .i64 0, .int .i64 5, .slice none 0 0]) (vs := [.int .i64 1, .int .i64 5]) B Y (fun w => yv 1 5 w) ?_))
  clear E a B; intro a E
  refine QB (Wh (R := yq) (cs := [.int .i64 1, .int .i64 0, .int .i64 0, .int .i64 0, .int .i64 5, (.slice none 0 0)]) (x0 := (1, 0, 0, 0, 5, ([] : List Int))) JF E S Y T33 Y Y Y ⟨_, Y, (JN.nil _)⟩ ?_)
  clear E a S; rintro a e0 w e3 a9 c3 S E
  replace h1 := h1.le JF a9
  refine QB (QI (p := []) E S Y Y Y (UG c3 (by first | assumption | (simp; done) | omega) (by first | assumption | (intro s hs; simp only [List.mem_cons, List.not_mem_nil, or_false] at hs; subst hs; simp; done) | (intro s hs; have h9 := (by assumption : ∀ s ∈ _, List.length (Prod.snd (Prod.snd (Prod.snd (Prod.snd (Prod.snd s))))) ≤ 100) s hs; omega))) lerf ?_)
  clear E a S; rintro a _ w c4 _ b0 ⟨e4, e5, an_8, ls_9, rfl, rfl, b7, b8, hp1⟩ S E
  replace S : St w c4 (H) := S
  replace h1 := h1.le JF b0
  refine Qq E Y fun _ B => Qj B Y Y fun _ C => Qj C Y Y fun _ D => JR 2 D Y fun _ F => QZ (Qq F Y fun _ G => Jl G Y T35 b7.len ?_)
  clear E a B C D F G; intro a E
  have hp1l := jU hp1
  refine Jh E Y Y fun _ B => Qq B Y ?_
  clear E a B; intro a E
  have b9 : (decide ((((an_8).length : Nat) : Int) = 0)) = false := by (clear S E; first | exact ji hp1l.1 (by assumption) | (obtain ⟨e1, e2⟩ := hp1l; subst e1; subst e2; simp_all; done))
  replace E := E.val (t := 21) Y b9
  replace E := E.val (t := 22) Y b9
  refine Qc E Y Y (Qq E Y ?_)
  clear E a; intro a E
  obtain ⟨c5, c6⟩ : ∃ x, (an_8)[0]? = some x := ⟨_, List.getElem?_eq_getElem (by (first | omega | (rw [hp1l.1]; decide) | (rw [hp1l.2]; decide)))⟩
  obtain ⟨e6, e7, c7, a0, c8⟩ := RdAN.at b7 c6
  have e8 := c8.bound
  refine Qc E Y Y (Yh E Y Y T35 c7 (by omega) ?_)
  clear E a; intro a E
  have qf_16 := a0 0 _ rfl
  refine Qc E Y Y (Qa E Y (YZ _) fun _ B => Qc B Y Y (Qz B Y Tryz.isAgg4 S.imm qf_16 fun _ C => Qc C Y Y (Zk C Y fun _ D => QU D Y Y fun _ F => Qq F Y ?_)))
  clear E a B C D F; intro a E
  have b2 : (!c5.1) = false := by (clear S E; first | exact ji hp1l.1 (by assumption) | (obtain ⟨e1, e2⟩ := hp1l; subst e1; subst e2; simp_all; done))
  replace E := E.val (t := 27) Y b2
  replace E := E.val (t := 28) Y b2
  replace E := E.val (t := 29) Y b2
  refine Qc E Y Y (Qq E Y fun _ B => Qc B Y Y (Jl B Y T36 b8.len ?_))
  clear E a B; intro a E
  have hp1l := jU hp1
  refine Qc E Y Y (Jh E Y Y fun _ B => QU B Y Y fun _ C => Qq C Y ?_)
  clear E a B C; intro a E
  have b3 : (decide ((((ls_9).length : Nat) : Int) = 0)) = false := by (clear S E; first | exact ji hp1l.1 (by assumption) | (obtain ⟨e1, e2⟩ := hp1l; subst e1; subst e2; simp_all; done))
  replace E := E.val (t := 32) Y b3
  replace E := E.val (t := 33) Y b3
  replace E := E.val (t := 34) Y b3
  refine Qc E Y Y (Qq E Y ?_)
  clear E a; intro a E
  obtain ⟨c9, d0⟩ : ∃ x, (ls_9)[0]? = some x := ⟨_, List.getElem?_eq_getElem (by (first | omega | (rw [hp1l.1]; decide) | (rw [hp1l.2]; decide)))⟩
  obtain ⟨e9, f0, d1, d2, a4⟩ := b8.at d0
  have f1 := a4.bound
  refine Qc E Y Y (Yh E Y Y T36 d1 (by omega) fun _ B => Qc B Y Y (Qz B Y Tryz.isAgg22 S.imm d2 ?_))
  clear E a B; intro a E
  refine Qc E Y Y ?_
  refine QB (Jf (ys := [5]) E S Y JE Y Y Y ?_)
  clear E a S; rintro a w f2 E S
  have S0 := S; clear S
  obtain ⟨f3, a1, d3, S⟩ := S0.freezeI (by (first | omega | (simp; omega) | (simp; done) | (simp_all; omega) | grind))
  clear S0
  replace h1 := h1.le JF a1
  replace a0 := YV a1 a0
  replace a4 := a4.le a1
  refine Qc E Y Y ?_
  refine QB (Jm E S Y Y Y (laws_eq a4 d3) lerf ?_)
  clear E a S; rintro a _ w f4 a5 rfl S E
  replace h1 := h1.le JF a5
  replace a0 := YV a5 a0
  refine Qc E Y Y (Zk E Y fun _ B => QU B Y Y ?_)
  clear E a B; intro a E
  refine Jx ?_
  have d4 : (!(decide (c9 = [5]))) = false := by (clear S E; first | exact ji hp1l.1 (by assumption) | (obtain ⟨e1, e2⟩ := hp1l; subst e1; subst e2; simp_all; done))
  refine QL E Y d4 ?_
  refine J_q (Qq E Y ?_)
  clear E a; intro a E
  refine QB (Jm E S Y Y Y (yJ h1) lerf ?_)
  clear E a S; rintro a _ w d5 a6 rfl S E
  replace h1 := h1.le JF a6
  replace a0 := YV a6 a0
  refine Zk E Y ?_
  clear E a; intro a E
  refine Jx ?_
  refine Yl E Y (fun d6 => ?_) (fun d6 => ?_)
  ·refine Za ?_
   refine Qr (Qx E Y ?_)
   clear E a; intro a E
   refine WF ?_
   exact Qk E Tryz.results6 Y ⟨_, Y, d5, (a3.trans (a9.trans (b0.trans (a1.trans (a5.trans a6))))), Y, S⟩
  ·have hsm := nd (p := l1.length ≤ 200 ∧ ∀ s ∈ l1, s.2.2.2.2.2.length ≤ 100) (by assumption)
   obtain ⟨hsm1, hsm2⟩ := hsm
   refine J_l (JR 2 E Y ?_)
   clear E a; intro a E
   refine QB (QI (p := []) E S Y Y Y (UG h1 (by first | assumption | (simp; done) | omega) (by first | assumption | (intro s hs; simp only [List.mem_cons, List.not_mem_nil, or_false] at hs; subst hs; simp; done) | (intro s hs; have h9 := (by assumption : ∀ s ∈ _, List.length (Prod.snd (Prod.snd (Prod.snd (Prod.snd (Prod.snd s))))) ≤ 100) s hs; omega))) lerf ?_)
   clear E a S; rintro a _ w d7 _ b4 ⟨f5, f6, an_32, ls_33, rfl, rfl, b5, a2, hpA⟩ S E
   replace S : St w d7 (H) := S
   replace h1 := h1.le JF b4
   replace a0 := YV b4 a0
   refine Qq E Y fun _ B => Qj B Y Y fun _ C => Qj C Y Y fun _ D => JR 2 D Y fun _ F => QZ (Qq F Y ?_)
   clear E a B C D F; intro a E
   refine QB (Jm E S Y Y Y (yI h1 (by omega)) lerf ?_)
   clear E a S; rintro a f7 w f8 a7 b6 S E
   replace a0 := YV a7 a0
   replace b5 := b5.le Js a7
   replace a2 := a2.le a7
   refine Qq E Y ?_
   clear E a; intro a E
   refine QB (Jm E S Y Y Y (jr b5 (by (have h9 := (Yv hpA).2.2; omega))) lerf ?_)
   clear E a S; rintro a f9 w g0 a8 d8 S E
   replace a0 := YV a8 a0
   replace a2 := a2.le a8
   replace b6 := b6.le JF a8
   refine Qq E Y ?_
   clear E a; intro a E
   refine QB (Jm E S Y Y Y (zh b6 d8 a2 (by exact hpA) (by omega) (by exact hsm2)) lerf ?_)
   clear E a S; rintro a _ w d9 c0 rfl S E
   replace a0 := YV c0 a0
   refine Qx E Y ?_
   clear E a; intro a E
   refine JQ ?_
   exact Qk E Tryz.results6 Y ⟨_, Y, d9, (a3.trans (a9.trans (b0.trans (a1.trans (a5.trans (a6.trans (b4.trans (a7.trans (a8.trans c0))))))))), Y, S⟩
end Go.Proofs.YtlmpgefhnmfhpaaGreat.wFnSetScript
