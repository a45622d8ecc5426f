import Derived.Test.YtgceicmfefpngaaGreatWFnScriptOwnb
set_option linter.unusedVariables false
set_option linter.unusedSimpArgs false
namespace Go.Proofs.YtgceicmfefpngaaGreat.wFnScriptOwn
open Go Go.Sl
set_option maxRecDepth 100000
set_option maxHeartbeats 4000000
variable {M : Hp} {v0 v1 v2 v3 v4 v5 v6 v7 : Value} {l0 l1 l2 l3 l4 l5 l6 l7 : List Int} {n0 n1 n2 n3 n4 n5 n6 n7 : Nat} {x0 x1 x2 x3 x4 x5 x6 x7 : Int}
theorem lo_TrimRight {M : Hp} {v0 v1 : Value} {l0 l1 : List Int} (h0 : Qy M v0 l0) (h1 : Qy M v1 l1) (hb : l0.length ≤ 1000000000000) :
  Pu Tryz.prog (.func (.func 244) #[] #[]) M [v0, v1] (fun r M' => Qy M' r (VE (fun x => decide (x ∈ l1)) l0)) := by
 refine Qd Tryz.func244 Y Tryz.ntmps244 Y Tryz.call244 ?_
 intro a w M1 H hM1 S E
 replace h0 := h0.le hM1
 replace h1 := h1.le hM1
 have b0 := h0.bound
 have b1 := h1.bound
 refine Qs (Qj E Y fun _ B => QI (Qn B Y ?_))
 clear E a B; intro a E
 refine Qk (VF (p := []) E S Y Y Y (ZE h1) lerf ?_)
 clear E a S; rintro a _ w a4 _ a2 ⟨a5, rfl, rfl⟩ S E
 replace S : St w a4 (Zg a5 (Qw l1) :: _) := S
 replace h0 := h0.le a2
 refine Qk (Ja (cs := #[.map none]) E S Y Tryz.zeroValue116 Y ?_)
 clear E a S; rintro a w b2 E S
 refine Jm (QS E S Y Y (Tryz.sizeOf116 _) Y ?_)
 clear E a S; rintro a w E S
 refine QI (Qn E Y ?_)
 clear E a; intro a E
 replace S := S.front1
 have S0 := S; clear S
 obtain ⟨b3, a3, a0, S⟩ := S0.freezeM
 clear S0
 replace h0 := h0.le a3
 have S0 := S; clear S
 obtain ⟨b4, a1, a6, S⟩ := S0.freezeB
 clear S0
 replace h0 := h0.le a1
 replace a0 := a0.le a1
 refine Qv E Y Y ?_
 clear E a; intro a E
 refine Qk (Qm E S Y Y Y (UG h0 ⟨Y, fun zx0 => vQ (x0 := zx0) a0 a6⟩ (by (omega))) lerf ?_)
 clear E a S; rintro a b5 w a7 a8 a9 S E
 refine Qj E Y ?_
 clear E a; intro a E
 refine Jj ?_
 exact Qa E Tryz.results244 Y ⟨_, Y, a7, (a2.trans (a3.trans (a1.trans a8))), (QX.eqL a9 (by (simp only [Yd]))), S⟩
theorem yZ {M : Hp} {v0 v1 : Value} {l0 l1 : List Int} (h0 : Qy M v0 l0) (h1 : Qy M v1 l1) (hb : l0.length ≤ 1000000000000) :
  Pu Tryz.prog (.func (.func 167) #[] #[]) M [v0, v1] (fun r M' => Qy M' r (VE (fun x => decide (x ∈ l1)) l0)) := by
 refine Qd Tryz.func167 Y Tryz.ntmps167 Y Tryz.call167 ?_
 intro a w M1 H hM1 S E
 replace h0 := h0.le hM1
 replace h1 := h1.le hM1
 have b0 := h0.bound
 have b1 := h1.bound
 have hw1 := GF (fun x => decide (x ∈ l1)) l0
 refine Qs (Qj E Y fun _ B => QI (QD 2 B Y ?_))
 clear E a B; intro a E
 refine Qk (Qm E S Y Y Y (lo_TrimRight h0 h1 (by (omega))) lerf ?_)
 clear E a S; rintro a a3 w a0 a1 a2 S E
 refine Qj E Y ?_
 clear E a; intro a E
 refine Jj ?_
 exact Qa E Tryz.results167 Y ⟨_, Y, a0, a1, a2, S⟩
theorem lo_Trim {M : Hp} {v0 v1 : Value} {l0 l1 : List Int} (h0 : Qy M v0 l0) (h1 : Qy M v1 l1) (hb : l0.length ≤ 1000000000000) :
  Pu Tryz.prog (.func (.func 245) #[] #[]) M [v0, v1] (fun r M' => Qy M' r (VE (fun x => decide (x ∈ l1)) ((l0).dropWhile (fun x => decide (x ∈ l1))))) := by
 refine Qd Tryz.func245 Y Tryz.ntmps245 Y Tryz.call245 ?_
 intro a w M1 H hM1 S E
 replace h0 := h0.le hM1
 replace h1 := h1.le hM1
 have b0 := h0.bound
 have b1 := h1.bound
 refine Qs (Qj E Y fun _ B => QI (Qn B Y ?_))
 clear E a B; intro a E
 refine Qk (VF (p := []) E S Y Y Y (ZE h1) lerf ?_)
 clear E a S; rintro a _ w a4 _ a8 ⟨a0, rfl, rfl⟩ S E
 replace S : St w a4 (Zg a0 (Qw l1) :: _) := S
 replace h0 := h0.le a8
 refine Qj E Y fun _ B => QI (Qj B Y ?_)
 clear E a B; intro a E
 refine ZJ ?_
 refine WP_join (fun a w => ∃ (a1 : Hp) (k : Nat), Hp.le a4 a1 ∧ St w a1 (Zg a0 (Qw l1) :: H) ∧ Env a 67 [] [(0, v0), (5, .map (some a0)), (6, .int .i64 ((k : Nat) : Int))] ∧ (k ≤ l0.length) ∧ (∀ x ∈ l0.take k, decide (x ∈ Qw l1) = true) ∧ (l0.length ≤ k ∨ ∃ x, l0[k]? = some x ∧ decide (x ∈ Qw l1) = false)) ?_ ?_
 ·refine QW ?_
  refine QN (γ := Nat) (fun (k : Nat) a w => ∃ (a2 : Hp), Hp.le a4 a2 ∧ St w a2 (Zg a0 (Qw l1) :: H) ∧ Env a 67 [] [(0, v0), (5, .map (some a0)), (6, .int .i64 ((k : Nat) : Int))] ∧ (k ≤ (l0).length) ∧ (∀ x ∈ l0.take k, decide (x ∈ Qw l1) = true)) (fun k => ((l0).length) - k) 0 ⟨a4, lerf, S, E.keep ⟨Y, Y, Y, trivial⟩, by (omega), (by simp)⟩ ?_
  try clear E
  try clear S
  try clear a
  try clear w
  rintro k a w ⟨a2, a5, S, E, e1, a9⟩
  replace h0 := h0.le a5
  refine UK (QD 2 E Y fun _ B => Qt B Y QE h0.len fun _ C => Jc C Y Y ?_)
  clear E a B C; intro a E
  refine Qz ?_
  refine Ql E Y (fun c1 => ?_) (fun c1 => ?_)
  ·refine YZ (QD 3 E Y ?_)
   clear E a; intro a E
   obtain ⟨e2, c2⟩ : ∃ x, (l0)[k]? = some x := ⟨_, List.getElem?_eq_getElem (by omega)⟩
   obtain ⟨e3, c3, c4⟩ := h0.at c2
   refine QZ E Y Y QE c3 Y fun _ B => Qb B Y Tryz.isAgg3 S.imm c4 ?_
   clear E a B; intro a E
   refine Qk (Ya E S Y Yp Y Y ?_)
   clear E a S; rintro a w E S
   replace S : St w a2 (Zg a0 (Qw l1) :: _) := S
   refine Qn E Y fun _ B => Qg B Y Y fun _ C => Qg C Y Y ?_
   clear E a B C; intro a E
   refine Qk (Ja (cs := #[]) E S Y Tryz.zeroValue117 Y ?_)
   clear E a S; rintro a w c5 E S
   refine Jm (Zv (us := []) E S Y Y (Tryz.sizeOf117 _) Y (by intro u hu; cases hu) ?_)
   clear E a S; rintro a w E S
   replace S : St w a2 (Jk c5 (.cells #[] 117) :: _) := S
   have S0 := S; clear S
   obtain ⟨b7, b2, e4, S⟩ := S0.freezeB
   clear S0
   replace h0 := h0.le b2
   refine Qj E Y fun _ B => QI (Qn B Y fun _ C => Ji C Y ?_)
   clear E a B C; intro a E
   refine Qz ?_
   refine Jf E Y (fun c6 => ?_) (fun c6 => ?_)
   ·refine JO ?_
    refine B_y Y ?_
    refine Ul (Ul (zx ?_))
    refine .inl ⟨Y, ?_⟩
    exact ⟨b7, k, (a5.trans b2), S, E.keep ⟨Y, Y, Y, trivial⟩, (by omega), (by exact a9), (by (exact .inr ⟨_, by assumption, by simp_all⟩))⟩
   ·refine Qx ?_
    refine WN (Qn E Y fun _ B => Qp (m := ((k + 1 : Nat) : Int)) B Y Y fun _ C => Qj C Y ?_)
    clear E a B C; intro a E
    refine Qz ?_
    exact ⟨k + 1, ⟨b7, (a5.trans b2), S, E.keep ⟨Y, Y, Y, trivial⟩, by (omega), (by exact yo (P := fun x => decide (x ∈ Qw l1) = true) a9 (by assumption) (by simp_all))⟩, by omega⟩
  ·refine JO (Ul (Ul (zx ?_)))
   refine .inl ⟨Y, ?_⟩
   exact ⟨a2, k, a5, S, E.keep ⟨Y, Y, Y, trivial⟩, (by omega), (by exact a9), (by (exact .inl (by omega)))⟩
 ·clear E S a w
  rintro a w ⟨a1, k, b3, S, E, hJ0_0, hJ0_1, hJ0_2⟩
  replace h0 := h0.le b3
  refine JZ (UK (QD 2 E Y fun _ B => Qt B Y QE h0.len fun _ C => Wc C Y Y ?_))
  clear E a B C; intro a E
  refine Qz ?_
  refine Ql E Y (fun c7 => ?_) (fun c7 => ?_)
  ·refine Qs ?_
   refine Qk (QV (ys := []) E S Y QE Y Y Y ?_)
   clear E a S; rintro a w e5 E S
   refine Qj E Y ?_
   clear E a; intro a E
   refine UJ ?_
   have S0 := S; clear S
   obtain ⟨c8, b8, c9, S⟩ := S0.freezeI (by ((simp; done)))
   clear S0
   replace h0 := h0.le b8
   exact Qa E Tryz.results245 Y ⟨_, Y, c8, (a8.trans (b3.trans b8)), (QX.eqL c9 (by (simp only [← Yd (l := l1)]; rw [zh (f := fun x => decide (x ∈ Qw l1)) hJ0_1 (.inl (by omega)), List.drop_eq_nil_of_le (by omega)]; rfl))), S.drop⟩
  ·refine VC (Qn E Y fun _ B => Qt B Y QE h0.len fun _ C => JT (m := (((l0).length : Nat) : Int) - 1) C Y Y fun _ D => Qj D Y ?_)
   clear E a B C D; intro a E
   refine ZJ ?_
   refine WP_join (fun a w => ∃ (a6 : Hp) (j : Nat), Hp.le a1 a6 ∧ St w a6 (Zg a0 (Qw l1) :: H) ∧ Env a 67 [] [(0, v0), (6, .int .i64 ((k : Nat) : Int)), (9, .int .i64 ((l0.length : Int) - 1 - (j : Int)))] ∧ (j ≤ l0.length) ∧ (VE (fun x => decide (x ∈ Qw l1)) l0 = l0.take (l0.length - j))) ?_ ?_
   ·refine QW ?_
    refine QN (γ := Nat) (fun (j : Nat) a w => ∃ (a3 : Hp), Hp.le a1 a3 ∧ St w a3 (Zg a0 (Qw l1) :: H) ∧ Env a 67 [] [(0, v0), (5, .map (some a0)), (6, .int .i64 ((k : Nat) : Int)), (9, .int .i64 ((l0.length : Int) - 1 - (j : Int)))] ∧ (j ≤ l0.length) ∧ (∀ x ∈ l0.drop (l0.length - j), (fun x => decide (x ∈ Qw l1)) x = true)) (fun j => l0.length - j) 0 ⟨a1, lerf, S, E.keep ⟨Y, Y, Y, Ye (i := (((l0).length : Nat) : Int) - 1) Y (by (simp)), trivial⟩, by (omega), (by simp)⟩ ?_
    try clear E
    try clear S
    try clear a
    try clear w
    rintro j a w ⟨a3, a7, S, E, e6, b4⟩
    replace h0 := h0.le a7
    refine UK (Qn E Y fun _ B => Wc B Y Y ?_)
    clear E a B; intro a E
    refine Qz ?_
    refine Ql E Y (fun d0 => ?_) (fun d0 => ?_)
    ·refine YZ (QD 3 E Y ?_)
     clear E a; intro a E
     obtain ⟨e7, d1⟩ : ∃ x, (l0)[l0.length - 1 - j]? = some x := ⟨_, List.getElem?_eq_getElem (by omega)⟩
     obtain ⟨e8, d2, d3⟩ := h0.at d1
     refine QZ E Y Y QE d2 (by omega) fun _ B => Qb B Y Tryz.isAgg3 S.imm d3 ?_
     clear E a B; intro a E
     refine Qk (Ya E S Y Yp Y Y ?_)
     clear E a S; rintro a w E S
     replace S : St w a3 (Zg a0 (Qw l1) :: _) := S
     refine Qn E Y fun _ B => Qg B Y Y fun _ C => Qg C Y Y ?_
     clear E a B C; intro a E
     refine Qk (Ja (cs := #[]) E S Y Tryz.zeroValue117 Y ?_)
     clear E a S; rintro a w d4 E S
     refine Jm (Zv (us := []) E S Y Y (Tryz.sizeOf117 _) Y (by intro u hu; cases hu) ?_)
     clear E a S; rintro a w E S
     replace S : St w a3 (Jk d4 (.cells #[] 117) :: _) := S
     have S0 := S; clear S
     obtain ⟨b9, b5, e9, S⟩ := S0.freezeB
     clear S0
     replace h0 := h0.le b5
     refine Qj E Y fun _ B => QI (Qn B Y fun _ C => Ji C Y ?_)
     clear E a B C; intro a E
     refine Qz ?_
     refine Jf E Y (fun d5 => ?_) (fun d5 => ?_)
     ·refine JO ?_
      refine B_y Y ?_
      refine Ul (Ul (zx ?_))
      refine .inl ⟨Y, ?_⟩
      exact ⟨b9, j, (a7.trans b5), S, E.keep ⟨Y, Y, Y, trivial⟩, (by omega), (by (exact zV (f := fun x => decide (x ∈ Qw l1)) (by omega) b4 (.inr ⟨_, by assumption, by simp_all⟩)))⟩
     ·refine Qx ?_
      refine WN (Qn E Y fun _ B => JT (m := ((l0.length : Int) - 1 - (j : Int)) - 1) B Y Y fun _ C => Qj C Y ?_)
      clear E a B C; intro a E
      refine Qz ?_
      exact ⟨j + 1, ⟨b9, (a7.trans b5), S, E.keep ⟨Y, Y, Y, Ye (i := ((l0.length : Int) - 1 - (j : Int)) - 1) Y (by (omega)), trivial⟩, (by omega), (by exact drop_all (f := fun x => decide (x ∈ Qw l1)) b4 (by omega) (by assumption) (by simp_all))⟩, by omega⟩
    ·refine JO (Ul (Ul (zx ?_)))
     refine .inl ⟨Y, ?_⟩
     exact ⟨a3, j, a7, S, E.keep ⟨Y, Y, Y, trivial⟩, (by omega), (by (exact zV (f := fun x => decide (x ∈ Qw l1)) (by omega) b4 (.inl (by omega))))⟩
   ·clear E S a w
    rintro a w ⟨a6, j, c0, S, E, hJ1_0, hJ1_1⟩
    replace h0 := h0.le c0
    obtain ⟨x9, hx9, hf9⟩ : ∃ x, l0[k]? = some x ∧ decide (x ∈ Qw l1) = false := hJ0_2.resolve_left (by omega)
    have htr := trim_eq (f := fun x => decide (x ∈ Qw l1)) hJ0_1 hx9 hf9 hJ1_1 hJ1_0
    have hjk : k < l0.length - j := (by have h3 := trim_lt (f := fun x => decide (x ∈ Qw l1)) hx9 hf9 hJ1_1; omega)
    refine JZ (Qs (Qn E Y fun _ B => Qp (m := ((l0.length : Int) - 1 - (j : Int)) + 1) B Y Y fun _ C => Qn C Y fun _ D => JT (m := (((l0.length : Int) - 1 - (j : Int)) + 1) - ((k : Nat) : Int)) D Y Y ?_))
    clear E a B C D; intro a E
    refine Qk (JD (k := ((((l0.length : Int) - 1 - (j : Int)) + 1) - ((k : Nat) : Int)).toNat) E S Y Y Y QE Y (by omega) (by omega) (by omega) ?_)
    clear E a S; rintro a w f0 E S
    replace S := S.made0
    refine Qj E Y fun _ B => QI (QD 4 B Y fun _ C => Qp (m := ((l0.length : Int) - 1 - (j : Int)) + 1) C Y Y ?_)
    clear E a B C; intro a E
    obtain ⟨d6, d7, b6⟩ := h0.subv k ((((l0.length : Int) - 1 - (j : Int)) + 1).toNat) (by omega) (by omega)
    replace b6 : Qy a6 d6 (((l0).take ((((l0.length : Int) - 1 - (j : Int)) + 1).toNat)).drop k) := b6
    refine JX E Y Y Y QE d7 ?_
    clear E a; intro a E
    refine Qk (JJ (xs := ([] : List Int)) E S Y Y Y QE b6 (by (simp; omega)) ?_)
    clear E a S; rintro a w f1 E S
    refine Qj E Y ?_
    clear E a; intro a E
    refine Jj ?_
    have S0 := S; clear S
    obtain ⟨d8, d9, e0, S⟩ := S0.freezeI (by ((simp; omega)))
    clear S0
    exact Qa E Tryz.results245 Y ⟨_, Y, d8, (a8.trans (b3.trans (c0.trans d9))), (QX.eqL e0 (by (simp only [← Yd (l := l1)]; rw [htr, List.nil_append, show ((l0.length : Int) - 1 - (j : Int) + 1).toNat = l0.length - j by omega]))), S.drop⟩
theorem impl_Trim {M : Hp} {v0 v1 : Value} {l0 l1 : List Int} (h0 : Qy M v0 l0) (h1 : Qy M v1 l1) (hb : l0.length ≤ 1000000000000) :
  Pu Tryz.prog (.func (.func 168) #[] #[]) M [v0, v1] (fun r M' => Qy M' r (VE (fun x => decide (x ∈ l1)) ((l0).dropWhile (fun x => decide (x ∈ l1))))) := by
 refine Qd Tryz.func168 Y Tryz.ntmps168 Y Tryz.call168 ?_
 intro a w M1 H hM1 S E
 replace h0 := h0.le hM1
 replace h1 := h1.le hM1
 have b0 := h0.bound
 have b1 := h1.bound
 have hw1 := vv (fun x => decide (x ∈ l1)) l0; have hw2 := GF (fun x => decide (x ∈ l1)) (l0.dropWhile (fun x => decide (x ∈ l1)))
 refine Qs (Qj E Y fun _ B => QI (QD 2 B Y ?_))
 clear E a B; intro a E
 refine Qk (Qm E S Y Y Y (lo_Trim h0 h1 (by (omega))) lerf ?_)
 clear E a S; rintro a a3 w a0 a1 a2 S E
 refine Qj E Y ?_
 clear E a; intro a E
 refine Jj ?_
 exact Qa E Tryz.results168 Y ⟨_, Y, a0, a1, a2, S⟩
theorem qK {M : Hp} {v0 v1 : Value} {l0 l1 : List Int} (h0 : Qy M v0 l0) (h1 : Qy M v1 l1) :
  Pu Tryz.prog (.func (.func 316) #[] #[]) M [v0, v1] (fun r M' => r = .bool (Wy l0 l1)) := by
 refine Qd Tryz.func316 Y Tryz.ntmps316 Y Tryz.call316 ?_
 intro a w M1 H hM1 S E
 replace h0 := h0.le hM1
 replace h1 := h1.le hM1
 have b0 := h0.bound
 have b1 := h1.bound
 refine Qs (Qj E Y fun _ B => Zp (Qn B Y fun _ D => Qt D Y QE h0.len fun _ F => Qn F Y fun _ G => Qt G Y QE h1.len fun _ I => Jc I Y Y ?_))
 clear E a B D F G I; intro a E
 refine Qz ?_
 refine Ql E Y (fun a2 => ?_) (fun a2 => ?_)
 ·refine Qs (Qj E Y ?_)
  clear E a; intro a E
  refine UJ ?_
  exact Qa E Tryz.results316 Y ⟨_, Y, M1, lerf, (cgB (by (clear E S; first | exact Vj (by omega) | exact (Vj (by omega)).symm | exact Gz (by assumption) (by assumption) (by assumption) | exact (Gz (by assumption) (by assumption) (by assumption)).symm | exact UZ (k := k) (by omega) (by assumption) (by omega) | exact (UZ (k := k) (by omega) (by assumption) (by omega)).symm))), S⟩
 ·refine je (Qn E Y fun _ B => Qt B Y QE h1.len fun _ D => Qn D Y ?_)
  clear E a B D; intro a E
  refine ZH ?_
  refine QN (γ := Nat) (fun (k : Nat) a w => ∃ (a0 : Hp), Hp.le M1 a0 ∧ St w a0 (H) ∧ Env a 26 [] [(0, v0), (1, v1), (12, .int .i64 (((l1).length : Nat) : Int)), (13, .int .i64 ((k : Nat) : Int))] ∧ (k ≤ (l1).length) ∧ (l1.length ≤ l0.length) ∧ (l0.take k = l1.take k)) (fun k => ((l1).length) - k) 0 ⟨M1, lerf, S, E.keep ⟨Y, Y, Y, Y, trivial⟩, by ((try clear S); (try clear E); first | assumption | omega | rfl | (simp; done) | (simp_all; done) | (simp [List.take_add_one, *]; done) | grind [List.take_add_one]), by ((try clear S); (try clear E); first | assumption | omega | rfl | (simp; done) | (simp_all; done) | (simp [List.take_add_one, *]; done) | grind [List.take_add_one]), by ((try clear S); (try clear E); first | assumption | omega | rfl | (simp; done) | (simp_all; done) | (simp [List.take_add_one, *]; done) | grind [List.take_add_one])⟩ ?_
  try clear E
  try clear S
  try clear a
  try clear w
  rintro k a w ⟨a0, a1, S, E, b3, b4, b5⟩
  replace h0 := h0.le a1
  replace h1 := h1.le a1
  refine Qs (Jc E Y Y ?_)
  clear E a; intro a E
  refine ZJ ?_
  refine Ql E Y (fun a3 => ?_) (fun a3 => ?_)
  ·refine YZ (QD 2 E Y ?_)
   clear E a; intro a E
   refine ZJ ?_
   replace S := S.mono_heap (w' := World.drew _) rfl
   refine Jb (C := fun x w => agree a0 w) (bf := (fun i => [])) [0, 1, 2, 3, 4, 5, 6, 7, 8] [0, 1, 2, 3, 4, 5, 6, 7, 8] Tryz.mixed (by kernel_rfl) (fun x hq => S.imm) ?_
   refine QU E Y (fun w hC => (QL E Y)) fun _ B => QU B Y (fun w hC => (QL B Y)) ?_
   clear E a B; intro a E
   obtain ⟨b6, a4⟩ : ∃ x, (l0)[k]? = some x := ⟨_, List.getElem?_eq_getElem (by first | omega | (simp; done) | (simp; omega) | (simp_all; omega))⟩
   obtain ⟨b7, a5, a6⟩ := h0.at a4
   refine QU E Y (fun w hC => (ZO E Y Y QE a5 Y)) fun _ B => QU B Y (fun w hC => (QQ B Y Tryz.isAgg3 hC a6)) fun _ D => QU D Y (fun w hC => (QL D Y)) fun _ F => QU F Y (fun w hC => (QL F Y)) ?_
   clear E a B D F; intro a E
   obtain ⟨b8, a7⟩ : ∃ x, (l1)[k]? = some x := ⟨_, List.getElem?_eq_getElem (by first | omega | (simp; done) | (simp; omega) | (simp_all; omega))⟩
   obtain ⟨b9, a8, a9⟩ := h1.at a7
   refine QU E Y (fun w hC => (ZO E Y Y QE a8 Y)) fun _ B => QU B Y (fun w hC => (QQ B Y Tryz.isAgg3 hC a9)) fun _ D => QU D Y (fun w hC => (R_neq D Y Y)) ?_
   clear E a B D; intro a E
   refine JI (JH ?_)
   refine JZ ?_
   refine Ql E Y (fun b2 => ?_) (fun b2 => ?_)
   ·refine Qs (Qj E Y ?_)
    clear E a; intro a E
    refine J_s (ZC (UA ?_))
    exact Qa E Tryz.results316 Y ⟨_, Y, a0, a1, (cgB (by (clear E S; first | exact Vj (by omega) | exact (Vj (by omega)).symm | exact Gz (by assumption) (by assumption) (by assumption) | exact (Gz (by assumption) (by assumption) (by assumption)).symm | exact UZ (k := k) (by omega) (by assumption) (by omega) | exact (UZ (k := k) (by omega) (by assumption) (by omega)).symm))), S⟩
   ·refine zu (Qp (m := ((k + 1 : Nat) : Int)) E Y Y fun _ B => Qn B Y ?_)
    clear E a B; intro a E
    refine Qz ?_
    exact ⟨k + 1, ⟨a0, a1, S, E.keep ⟨Y, Y, Y, Y, trivial⟩, by ((try clear S); (try clear E); first | assumption | omega | rfl | (simp; done) | (simp_all; done) | (simp [List.take_add_one, *]; done) | grind [List.take_add_one]), by ((try clear S); (try clear E); first | assumption | omega | rfl | (simp; done) | (simp_all; done) | (simp [List.take_add_one, *]; done) | grind [List.take_add_one]), by ((try clear S); (try clear E); first | assumption | omega | rfl | (simp; done) | (simp_all; done) | (simp [List.take_add_one, *]; done) | grind [List.take_add_one])⟩, by omega⟩
  ·refine VJ (Qj E Y ?_)
   clear E a; intro a E
   refine Jj ?_
   exact Qa E Tryz.results316 Y ⟨_, Y, a0, a1, (cgB (by (clear E S; first | exact Vj (by omega) | exact (Vj (by omega)).symm | exact Gz (by assumption) (by assumption) (by assumption) | exact (Gz (by assumption) (by assumption) (by assumption)).symm | exact UZ (k := k) (by omega) (by assumption) (by omega) | exact (UZ (k := k) (by omega) (by assumption) (by omega)).symm))), S⟩
theorem vR {M : Hp} {v0 v1 : Value} {l0 l1 : List Int} (h0 : Qy M v0 l0) (h1 : Qy M v1 l1) :
  Pu Tryz.prog (.func (.func 246) #[] #[]) M [v0, v1] (fun r M' => Qy M' r (Yc l1 l0)) := by
 refine Qd Tryz.func246 Y Tryz.ntmps246 Y Tryz.call246 ?_
 intro a w M1 H hM1 S E
 replace h0 := h0.le hM1
 replace h1 := h1.le hM1
 have b0 := h0.bound
 have b1 := h1.bound
 refine Qs (Qj E Y fun _ B => Zp (Qn B Y fun _ C => Qt C Y QE h1.len fun _ D => QK D Y Y ?_))
 clear E a B C D; intro a E
 refine Qz ?_
 refine Ql E Y (fun a7 => ?_) (fun a7 => ?_)
 ·refine Qs (QD 2 E Y ?_)
  clear E a; intro a E
  refine UJ ?_
  exact Qa E Tryz.results246 Y ⟨_, Y, M1, lerf, (by rw [show (Yc l1 l0) = l0 from by (exact Gr (by omega))]; exact h0), S⟩
 ·refine Qx (JZ (Je (QW ?_)))
  refine QN (γ := List Int) (fun (p : List Int) a w => ∃ (a1 : Hp) (u0 : Value), Hp.le M1 a1 ∧ St w a1 (H) ∧ Env a 17 [] [(0, u0), (1, v1)] ∧ (Yc l1 p = Yc l1 l0) ∧ Qy a1 u0 p) (fun p => p.length) l0 ⟨M1, _, lerf, S, E.keep ⟨Y, Y, trivial⟩, Y, (SLeq h0 (by rfl))⟩ ?_
  try clear E
  try clear S
  try clear a
  try clear w
  rintro p a w ⟨a1, u0, a4, S, E, a6, a0⟩
  replace h1 := h1.le a4
  have hpb := (a0).bound
  refine UK (QD 2 E Y ?_)
  clear E a; intro a E
  refine Qk (Qm E S Y Y Y (qK a0 h1) lerf ?_)
  clear E a S; rintro a _ w a5 a2 rfl S E
  replace h1 := h1.le a2
  replace a0 := a0.le a2
  refine Qz ?_
  refine Jf E Y (fun a8 => ?_) (fun a8 => ?_)
  ·have hle9 := Wx (by assumption)
   refine Qx (JZ (QW (Qh (QD 2 E Y fun _ B => Qt B Y QE h1.len ?_))))
   clear E a B; intro a E
   obtain ⟨a9, b2, a3⟩ := a0.subv ((l1).length) ((p).length) (by omega) (by omega)
   simp only [List.take_length] at a3
   replace a3 : Qy a5 a9 ((p).drop ((l1).length)) := a3
   refine Gf E Y Y QE a0.len b2 fun _ B => Qj B Y ?_
   clear E a B; intro a E
   refine Jz (ZK (JZ ?_))
   exact ⟨p.drop l1.length, ⟨a5, _, (a4.trans a2), S, E.keep ⟨Y, Y, trivial⟩, (by rw [← trimP_yes (by omega) (by assumption)]; exact a6), (SLeq a3 (by rfl))⟩, (by have h9 := Wx (by assumption); simp; omega)⟩
  ·refine JO ?_
   refine J_v (QD 2 E Y ?_)
   clear E a; intro a E
   refine Jj ?_
   exact Qa E Tryz.results246 Y ⟨_, Y, a5, (a4.trans a2), (by rw [show (Yc l1 l0) = p from by ((rw [← a6]; first | exact qv (by assumption) | exact (qv (by assumption)).symm | exact Gr (by omega) | exact (Gr (by omega)).symm))]; exact a0), S⟩
theorem jz {M : Hp} {v0 v1 : Value} {l0 l1 : List Int} (h0 : Qy M v0 l0) (h1 : Qy M v1 l1) (hb : l0.length ≤ 1000000000000) :
  Pu Tryz.prog (.func (.func 169) #[] #[]) M [v0, v1] (fun r M' => Qy M' r (Yc l1 l0)) := by
 refine Qd Tryz.func169 Y Tryz.ntmps169 Y Tryz.call169 ?_
 intro a w M1 H hM1 S E
 replace h0 := h0.le hM1
 replace h1 := h1.le hM1
 have b0 := h0.bound
 have b1 := h1.bound
 have htl := trimP_le l1 l0
 refine Qs (Qj E Y fun _ B => QI (QD 2 B Y ?_))
 clear E a B; intro a E
 refine Qk (Qm E S Y Y Y (vR h0 h1) lerf ?_)
 clear E a S; rintro a a8 w a9 a0 a1 S E
 refine Qk (VF (p := []) E S Y Y Y (Yz a1 (by (first | omega | (simp; omega) | (simp; done) | (simp_all; omega) | grind))) lerf ?_)
 clear E a S; rintro a a2 w a3 _ a4 rfl S E
 replace S : St w a3 (Jg 3 a2 (Yc l1 l0) :: _) := S
 refine Qj E Y ?_
 clear E a; intro a E
 refine Jj ?_
 have S0 := S; clear S
 obtain ⟨a5, a6, a7, S⟩ := S0.freezeI (by (omega))
 clear S0
 exact Qa E Tryz.results169 Y ⟨_, Y, a5, (a0.trans (a4.trans a6)), a7, S⟩
theorem qJ {M : Hp} {v0 v1 : Value} {l0 l1 : List Int} (h0 : Qy M v0 l0) (h1 : Qy M v1 l1) :
  Pu Tryz.prog (.func (.func 317) #[] #[]) M [v0, v1] (fun r M' => r = .bool (Vv l0 l1)) := by
 refine Qd Tryz.func317 Y Tryz.ntmps317 Y Tryz.call317 ?_
 intro a w M1 H hM1 S E
 replace h0 := h0.le hM1
 replace h1 := h1.le hM1
 have b0 := h0.bound
 have b1 := h1.bound
 refine Qs (Qj E Y fun _ B => Zp (Qn B Y fun _ D => Qt D Y QE h0.len fun _ F => Qn F Y fun _ G => Qt G Y QE h1.len fun _ I => Jc I Y Y ?_))
 clear E a B D F G I; intro a E
 refine Qz ?_
 refine Ql E Y (fun a3 => ?_) (fun a3 => ?_)
 ·refine Qs (Qj E Y ?_)
  clear E a; intro a E
  refine UJ ?_
  exact Qa E Tryz.results317 Y ⟨_, Y, M1, lerf, (cgB (by (clear E S; first | exact Vi (by omega) | exact (Vi (by omega)).symm | exact Gy (by assumption) (by assumption) (by assumption) | exact (Gy (by assumption) (by assumption) (by assumption)).symm | exact UY (by omega) (fun j x y hx hy => a1 j x y (by have := (List.getElem?_eq_some_iff.1 hy).1; omega) hx hy) | exact (UY (by omega) (fun j x y hx hy => a1 j x y (by have := (List.getElem?_eq_some_iff.1 hy).1; omega) hx hy)).symm))), S⟩
 ·refine je (Qn E Y fun _ B => Qt B Y QE h1.len fun _ D => Qn D Y ?_)
  clear E a B D; intro a E
  refine ZH ?_
  refine QN (γ := Nat) (fun (k : Nat) a w => ∃ (a0 : Hp), Hp.le M1 a0 ∧ St w a0 (H) ∧ Env a 32 [] [(0, v0), (1, v1), (12, .int .i64 (((l1).length : Nat) : Int)), (13, .int .i64 ((k : Nat) : Int))] ∧ (k ≤ (l1).length) ∧ (l1.length ≤ l0.length) ∧ (∀ j x y, j < k → l0[l0.length - l1.length + j]? = some x → l1[j]? = some y → x = y)) (fun k => ((l1).length) - k) 0 ⟨M1, lerf, S, E.keep ⟨Y, Y, Y, Y, trivial⟩, by ((try clear S); (try clear E); first | assumption | omega | rfl | (simp; done) | (simp_all; done) | (simp [List.take_add_one, *]; done) | grind [List.take_add_one]), by ((try clear S); (try clear E); first | assumption | omega | rfl | (simp; done) | (simp_all; done) | (simp [List.take_add_one, *]; done) | grind [List.take_add_one]), by ((try clear S); (try clear E); first | assumption | omega | rfl | (simp; done) | (simp_all; done) | (simp [List.take_add_one, *]; done) | grind [List.take_add_one])⟩ ?_
  try clear E
  try clear S
  try clear a
  try clear w
  rintro k a w ⟨a0, a2, S, E, b4, b5, a1⟩
  replace h0 := h0.le a2
  replace h1 := h1.le a2
  refine Qs (Jc E Y Y ?_)
  clear E a; intro a E
  refine ZJ ?_
  refine Ql E Y (fun a4 => ?_) (fun a4 => ?_)
  ·refine YZ (QD 2 E Y ?_)
   clear E a; intro a E
   refine ZJ ?_
   replace S := S.mono_heap (w' := World.drew _) rfl
   refine Jb (C := fun x w => agree a0 w) (bf := (fun i => [])) [0, 1, 2, 3, 4, 5, 6, 7, 8, 9, 10, 11, 12, 13, 14] [0, 1, 2, 3, 4, 5, 6, 7, 8, 9, 10, 11, 12, 13, 14] Tryz.mixed (by kernel_rfl) (fun x hq => S.imm) ?_
   refine QU E Y (fun w hC => (QL E Y)) fun _ B => QU B Y (fun w hC => (QL B Y)) fun _ D => QU D Y (fun w hC => (vG D Y QE h0.len)) fun _ F => QU F Y (fun w hC => (QL F Y)) fun _ G => QU G Y (fun w hC => (vG G Y QE h1.len)) fun _ I => QU I Y (fun w hC => (vF (m := (((l0).length - ((l1).length) : Nat) : Int)) I Y Y (by omega) (by omega))) fun _ J => QU J Y (fun w hC => (QL J Y)) fun _ K => QU K Y (fun w hC => (R_addx (m := (((l0).length - ((l1).length) + k : Nat) : Int)) K Y Y (by omega) (by omega))) ?_
   clear E a B D F G I J K; intro a E
   obtain ⟨b6, a5⟩ : ∃ x, (l0)[(l0).length - ((l1).length) + k]? = some x := ⟨_, List.getElem?_eq_getElem (by first | omega | (simp; done) | (simp; omega) | (simp_all; omega))⟩
   obtain ⟨b7, a6, a7⟩ := h0.at a5
   refine QU E Y (fun w hC => (ZO E Y Y QE a6 Y)) fun _ B => QU B Y (fun w hC => (QQ B Y Tryz.isAgg3 hC a7)) fun _ D => QU D Y (fun w hC => (QL D Y)) fun _ F => QU F Y (fun w hC => (QL F Y)) ?_
   clear E a B D F; intro a E
   obtain ⟨b8, a8⟩ : ∃ x, (l1)[k]? = some x := ⟨_, List.getElem?_eq_getElem (by first | omega | (simp; done) | (simp; omega) | (simp_all; omega))⟩
   obtain ⟨b9, a9, b2⟩ := h1.at a8
   refine QU E Y (fun w hC => (ZO E Y Y QE a9 Y)) fun _ B => QU B Y (fun w hC => (QQ B Y Tryz.isAgg3 hC b2)) fun _ D => QU D Y (fun w hC => (R_neq D Y Y)) ?_
   clear E a B D; intro a E
   refine JI (JH ?_)
   refine JZ ?_
   refine Ql E Y (fun b3 => ?_) (fun b3 => ?_)
   ·refine Qs (Qj E Y ?_)
    clear E a; intro a E
    refine J_s (ZC (UA ?_))
    exact Qa E Tryz.results317 Y ⟨_, Y, a0, a2, (cgB (by (clear E S; first | exact Vi (by omega) | exact (Vi (by omega)).symm | exact Gy (by assumption) (by assumption) (by assumption) | exact (Gy (by assumption) (by assumption) (by assumption)).symm | exact UY (by omega) (fun j x y hx hy => a1 j x y (by have := (List.getElem?_eq_some_iff.1 hy).1; omega) hx hy) | exact (UY (by omega) (fun j x y hx hy => a1 j x y (by have := (List.getElem?_eq_some_iff.1 hy).1; omega) hx hy)).symm))), S⟩
   ·refine zu (Qp (m := ((k + 1 : Nat) : Int)) E Y Y fun _ B => Qn B Y ?_)
    clear E a B; intro a E
    refine Qz ?_
    exact ⟨k + 1, ⟨a0, a2, S, E.keep ⟨Y, Y, Y, Y, trivial⟩, by ((try clear S); (try clear E); first | assumption | omega | rfl | (simp; done) | (simp_all; done) | (simp [List.take_add_one, *]; done) | grind [List.take_add_one]), by ((try clear S); (try clear E); first | assumption | omega | rfl | (simp; done) | (simp_all; done) | (simp [List.take_add_one, *]; done) | grind [List.take_add_one]), by ((try clear S); (try clear E); first | assumption | omega | rfl | (simp; done) | (simp_all; done) | (simp [List.take_add_one, *]; done) | grind [List.take_add_one])⟩, by omega⟩
  ·refine VJ (Qj E Y ?_)
   clear E a; intro a E
   refine Jj ?_
   exact Qa E Tryz.results317 Y ⟨_, Y, a0, a2, (cgB (by (clear E S; first | exact Vi (by omega) | exact (Vi (by omega)).symm | exact Gy (by assumption) (by assumption) (by assumption) | exact (Gy (by assumption) (by assumption) (by assumption)).symm | exact UY (by omega) (fun j x y hx hy => a1 j x y (by have := (List.getElem?_eq_some_iff.1 hy).1; omega) hx hy) | exact (UY (by omega) (fun j x y hx hy => a1 j x y (by have := (List.getElem?_eq_some_iff.1 hy).1; omega) hx hy)).symm))), S⟩
theorem vP {M : Hp} {v0 v1 : Value} {l0 l1 : List Int} (h0 : Qy M v0 l0) (h1 : Qy M v1 l1) :
  Pu Tryz.prog (.func (.func 247) #[] #[]) M [v0, v1] (fun r M' => Qy M' r (trimS l1 l0)) := by
 refine Qd Tryz.func247 Y Tryz.ntmps247 Y Tryz.call247 ?_
 intro a w M1 H hM1 S E
 replace h0 := h0.le hM1
 replace h1 := h1.le hM1
 have b0 := h0.bound
 have b1 := h1.bound
 refine Qs (Qj E Y fun _ B => Zp (Qn B Y fun _ C => Qt C Y QE h1.len fun _ D => QK D Y Y ?_))
 clear E a B C D; intro a E
 refine Qz ?_
 refine Ql E Y (fun a7 => ?_) (fun a7 => ?_)
 ·refine Qs (QD 2 E Y ?_)
  clear E a; intro a E
  refine UJ ?_
  exact Qa E Tryz.results247 Y ⟨_, Y, M1, lerf, (by rw [show (trimS l1 l0) = l0 from by (exact Gq (by omega))]; exact h0), S⟩
 ·refine Qx (JZ (Je (QW ?_)))
  refine QN (γ := List Int) (fun (p : List Int) a w => ∃ (a1 : Hp) (u0 : Value), Hp.le M1 a1 ∧ St w a1 (H) ∧ Env a 20 [] [(0, u0), (1, v1)] ∧ (trimS l1 p = trimS l1 l0) ∧ Qy a1 u0 p) (fun p => p.length) l0 ⟨M1, _, lerf, S, E.keep ⟨Y, Y, trivial⟩, Y, (SLeq h0 (by rfl))⟩ ?_
  try clear E
  try clear S
  try clear a
  try clear w
  rintro p a w ⟨a1, u0, a4, S, E, a6, a0⟩
  replace h1 := h1.le a4
  have hpb := (a0).bound
  refine UK (QD 2 E Y ?_)
  clear E a; intro a E
  refine Qk (Qm E S Y Y Y (qJ a0 h1) lerf ?_)
  clear E a S; rintro a _ w a5 a2 rfl S E
  replace h1 := h1.le a2
  replace a0 := a0.le a2
  refine Qz ?_
  refine Jf E Y (fun a8 => ?_) (fun a8 => ?_)
  ·have hle9 := Uq (by assumption)
   refine Qx (JZ (QW (Qh (QD 2 E Y fun _ B => Qt B Y QE a0.len fun _ C => Qn C Y fun _ D => Qt D Y QE h1.len fun _ F => JT (m := (((p).length - ((l1).length) : Nat) : Int)) F Y Y ?_))))
   clear E a B C D F; intro a E
   obtain ⟨a9, b2, a3⟩ := a0.subv 0 ((p).length - ((l1).length)) (by have h9 := Uq (by assumption); omega) (by have h9 := Uq (by assumption); omega)
   simp only [List.drop_zero] at a3
   replace a3 : Qy a5 a9 ((p).take ((p).length - ((l1).length))) := a3
   refine Uf E Y Y QE b2 fun _ B => Qj B Y ?_
   clear E a B; intro a E
   refine Jz (ZK (JZ ?_))
   exact ⟨p.take (p.length - l1.length), ⟨a5, _, (a4.trans a2), S, E.keep ⟨Y, Y, trivial⟩, (by rw [← trimS_yes (by omega) (by assumption)]; exact a6), (SLeq a3 (by rfl))⟩, (by have h9 := Uq (by assumption); simp; omega)⟩
  ·refine JO ?_
   refine J_v (QD 2 E Y ?_)
   clear E a; intro a E
   refine Jj ?_
   exact Qa E Tryz.results247 Y ⟨_, Y, a5, (a4.trans a2), (by rw [show (trimS l1 l0) = p from by ((rw [← a6]; first | exact qu (by assumption) | exact (qu (by assumption)).symm | exact Gq (by omega) | exact (Gq (by omega)).symm))]; exact a0), S⟩
theorem jy {M : Hp} {v0 v1 : Value} {l0 l1 : List Int} (h0 : Qy M v0 l0) (h1 : Qy M v1 l1) (hb : l0.length ≤ 1000000000000) :
  Pu Tryz.prog (.func (.func 170) #[] #[]) M [v0, v1] (fun r M' => Qy M' r (trimS l1 l0)) := by
 refine Qd Tryz.func170 Y Tryz.ntmps170 Y Tryz.call170 ?_
 intro a w M1 H hM1 S E
 replace h0 := h0.le hM1
 replace h1 := h1.le hM1
 have b0 := h0.bound
 have b1 := h1.bound
 have htl := trimS_le l1 l0
 refine Qs (Qj E Y fun _ B => QI (QD 2 B Y ?_))
 clear E a B; intro a E
 refine Qk (Qm E S Y Y Y (vP h0 h1) lerf ?_)
 clear E a S; rintro a a8 w a9 a0 a1 S E
 refine Qk (VF (p := []) E S Y Y Y (Yz a1 (by (first | omega | (simp; omega) | (simp; done) | (simp_all; omega) | grind))) lerf ?_)
 clear E a S; rintro a a2 w a3 _ a4 rfl S E
 replace S : St w a3 (Jg 3 a2 (trimS l1 l0) :: _) := S
 refine Qj E Y ?_
 clear E a; intro a E
 refine Jj ?_
 have S0 := S; clear S
 obtain ⟨a5, a6, a7, S⟩ := S0.freezeI (by (omega))
 clear S0
 exact Qa E Tryz.results170 Y ⟨_, Y, a5, (a0.trans (a4.trans a6)), a7, S⟩
theorem lo_CutPrefix {M : Hp} {v0 v1 : Value} {l0 l1 : List Int} (h0 : Qy M v0 l0) (h1 : Qy M v1 l1) (hb : l0.length ≤ 1000000000000) :
  Pu Tryz.prog (.func (.func 248) #[] #[]) M [v0, v1] (fun r M' => ∃ t0, r = .tuple #[t0, .bool (Wy l0 l1)] ∧ Qy M' t0 (zi l0 l1)) := by
 refine Qd Tryz.func248 Y Tryz.ntmps248 Y Tryz.call248 ?_
 intro a w M1 H hM1 S E
 replace h0 := h0.le hM1
 replace h1 := h1.le hM1
 have b0 := h0.bound
 have b1 := h1.bound
 have hcl := cutPl_len l0 l1
 refine Qs (QD 2 E Y fun _ B => Zp (QD 2 B Y ?_))
 clear E a B; intro a E
 refine Qk (Qm E S Y Y Y (qK h0 h1) lerf ?_)
 clear E a S; rintro a _ w a2 a0 rfl S E
 replace h0 := h0.le a0
 replace h1 := h1.le a0
 refine Qz ?_
 refine Jf E Y (fun a3 => ?_) (fun a3 => ?_)
 ·have hle := Wx (l := l0) (m := l1) (by assumption)
  refine Qs (QD 2 E Y fun _ B => Qt B Y QE h1.len ?_)
  clear E a B; intro a E
  obtain ⟨a4, a5, a1⟩ := h0.subv ((l1).length) ((l0).length) (by omega) (by omega)
  simp only [List.take_length] at a1
  replace a1 : Qy a2 a4 ((l0).drop ((l1).length)) := a1
  refine Gf E Y Y QE h0.len a5 fun _ B => QD 2 B Y ?_
  clear E a B; intro a E
  refine UJ ?_
  exact Zr E Tryz.results248 Y Y ⟨_, Y, a2, a0, ⟨_, (by (rw [show Wy l0 l1 = true by assumption])), (QX.eqL a1 (by (unfold zi; (rw [show Wy l0 l1 = true by assumption]); first | rfl | simp)))⟩, S⟩
 ·refine Qx ?_
  refine JZ (Qs (QD 3 E Y ?_))
  clear E a; intro a E
  refine Jj ?_
  exact Zr E Tryz.results248 Y Y ⟨_, Y, a2, a0, ⟨_, (by (rw [show Wy l0 l1 = false by assumption])), (by rw [show (zi l0 l1) = l0 from by (unfold zi; (rw [show Wy l0 l1 = false by assumption]); first | rfl | simp)]; exact h0)⟩, S⟩
theorem vl {M : Hp} {v0 v1 : Value} {l0 l1 : List Int} (h0 : Qy M v0 l0) (h1 : Qy M v1 l1) (hb : l0.length ≤ 1000000000000) :
  Pu Tryz.prog (.func (.func 171) #[] #[]) M [v0, v1] (fun r M' => ∃ t0, r = .tuple #[t0, .bool (Wy l0 l1)] ∧ Qy M' t0 (zi l0 l1)) := by
 refine Qd Tryz.func171 Y Tryz.ntmps171 Y Tryz.call171 ?_
 intro a w M1 H hM1 S E
 replace h0 := h0.le hM1
 replace h1 := h1.le hM1
 have b0 := h0.bound
 have b1 := h1.bound
 have hcl := cutPl_len l0 l1
 refine Qs (QD 2 E Y fun _ B => QI (QD 2 B Y ?_))
 clear E a B; intro a E
 refine Qk (Qm E S Y Y Y (lo_CutPrefix h0 h1 (by (omega))) lerf ?_)
 clear E a S; rintro a _ w a8 a0 ⟨a9, rfl, a1⟩ S E
 refine Qn E Y fun _ B => Qg B Y Y fun _ C => Qg C Y Y fun _ D => QD 2 D Y fun _ F => QI (Qn F Y ?_)
 clear E a B C D F; intro a E
 refine Qk (VF (p := []) E S Y Y Y (Yz a1 (by (first | omega | (simp; omega) | (simp; done) | (simp_all; omega) | grind))) lerf ?_)
 clear E a S; rintro a a2 w a3 _ a4 rfl S E
 replace S : St w a3 (Jg 3 a2 (zi l0 l1) :: _) := S
 refine QD 3 E Y ?_
 clear E a; intro a E
 refine Jj ?_
 have S0 := S; clear S
 obtain ⟨a5, a6, a7, S⟩ := S0.freezeI (by (omega))
 clear S0
 exact Zr E Tryz.results171 Y Y ⟨_, Y, a5, (a0.trans (a4.trans a6)), ⟨_, (by rfl), a7⟩, S⟩
theorem WY {M : Hp} {v0 : Value} {l0 : List Int} (h0 : Qy M v0 l0){x1 : Bool}  :
  Pu Tryz.prog (.func (.func 110) #[] #[]) M [v0, .bool x1] (fun r M' => Qy M' r l0) := by
 refine Qd Tryz.func110 Y Tryz.ntmps110 Y Tryz.call110 ?_
 intro a w M1 H hM1 S E
 replace h0 := h0.le hM1
 have b0 := h0.bound
 refine Qs (Qj E Y fun _ B => QI (QD 2 B Y ?_))
 clear E a B; intro a E
 refine Jj ?_
 exact Qa E Tryz.results110 Y ⟨_, Y, M1, lerf, h0, S⟩
theorem qN {M : Hp} {v0 v1 : Value} {l0 l1 : List Int} (h0 : Qy M v0 l0) (h1 : Qy M v1 l1) (hb : l0.length ≤ 1000000000000) :
  Pu Tryz.prog (.func (.func 249) #[] #[]) M [v0, v1] (fun r M' => ∃ t0, r = .tuple #[t0, .bool (Vv l0 l1)] ∧ Qy M' t0 (Gg l0 l1)) := by
 refine Qd Tryz.func249 Y Tryz.ntmps249 Y Tryz.call249 ?_
 intro a w M1 H hM1 S E
 replace h0 := h0.le hM1
 replace h1 := h1.le hM1
 have b0 := h0.bound
 have b1 := h1.bound
 have hcl := GG l0 l1
 refine Qs (QD 2 E Y fun _ B => Zp (QD 2 B Y ?_))
 clear E a B; intro a E
 refine Qk (Qm E S Y Y Y (qJ h0 h1) lerf ?_)
 clear E a S; rintro a _ w a2 a0 rfl S E
 replace h0 := h0.le a0
 replace h1 := h1.le a0
 refine Qz ?_
 refine Jf E Y (fun a3 => ?_) (fun a3 => ?_)
 ·have hle := Uq (l := l0) (m := l1) (by assumption)
  refine Qs (QD 2 E Y fun _ B => Qt B Y QE h0.len fun _ C => Qn C Y fun _ D => Qt D Y QE h1.len fun _ F => JT (m := (((l0).length - ((l1).length) : Nat) : Int)) F Y Y ?_)
  clear E a B C D F; intro a E
  obtain ⟨a4, a5, a1⟩ := h0.subv 0 ((l0).length - ((l1).length)) (by omega) (by omega)
  simp only [List.drop_zero] at a1
  replace a1 : Qy a2 a4 ((l0).take ((l0).length - ((l1).length))) := a1
  refine Uf E Y Y QE a5 fun _ B => QD 2 B Y ?_
  clear E a B; intro a E
  refine UJ ?_
  exact Zr E Tryz.results249 Y Y ⟨_, Y, a2, a0, ⟨_, (by (rw [show Vv l0 l1 = true by assumption])), (QX.eqL a1 (by (unfold Gg; (rw [show Vv l0 l1 = true by assumption]); first | rfl | simp)))⟩, S⟩
 ·refine Qx ?_
  refine JZ (Qs (QD 3 E Y ?_))
  clear E a; intro a E
  refine Jj ?_
  exact Zr E Tryz.results249 Y Y ⟨_, Y, a2, a0, ⟨_, (by (rw [show Vv l0 l1 = false by assumption])), (by rw [show (Gg l0 l1) = l0 from by (unfold Gg; (rw [show Vv l0 l1 = false by assumption]); first | rfl | simp)]; exact h0)⟩, S⟩
theorem vk {M : Hp} {v0 v1 : Value} {l0 l1 : List Int} (h0 : Qy M v0 l0) (h1 : Qy M v1 l1) (hb : l0.length ≤ 1000000000000) :
  Pu Tryz.prog (.func (.func 172) #[] #[]) M [v0, v1] (fun r M' => ∃ t0, r = .tuple #[t0, .bool (Vv l0 l1)] ∧ Qy M' t0 (Gg l0 l1)) := by
 refine Qd Tryz.func172 Y Tryz.ntmps172 Y Tryz.call172 ?_
 intro a w M1 H hM1 S E
 replace h0 := h0.le hM1
 replace h1 := h1.le hM1
 have b0 := h0.bound
 have b1 := h1.bound
 have hcl := GG l0 l1
 refine Qs (QD 2 E Y fun _ B => QI (QD 2 B Y ?_))
 clear E a B; intro a E
 refine Qk (Qm E S Y Y Y (qN h0 h1 (by (omega))) lerf ?_)
 clear E a S; rintro a _ w a8 a0 ⟨a9, rfl, a1⟩ S E
 refine Qn E Y fun _ B => Qg B Y Y fun _ C => Qg C Y Y fun _ D => QD 2 D Y fun _ F => QI (Qn F Y ?_)
 clear E a B C D F; intro a E
 refine Qk (VF (p := []) E S Y Y Y (Yz a1 (by (first | omega | (simp; omega) | (simp; done) | (simp_all; omega) | grind))) lerf ?_)
 clear E a S; rintro a a2 w a3 _ a4 rfl S E
 replace S : St w a3 (Jg 3 a2 (Gg l0 l1) :: _) := S
 refine QD 3 E Y ?_
 clear E a; intro a E
 refine Jj ?_
 have S0 := S; clear S
 obtain ⟨a5, a6, a7, S⟩ := S0.freezeI (by (omega))
 clear S0
 exact Zr E Tryz.results172 Y Y ⟨_, Y, a5, (a0.trans (a4.trans a6)), ⟨_, (by rfl), a7⟩, S⟩
theorem lo_Without {M : Hp} {v0 v1 : Value} {l0 l1 : List Int} (h0 : Qy M v0 l0) (h1 : Qy M v1 l1) (hb : l0.length ≤ 1000000000000) :
  Pu Tryz.prog (.func (.func 250) #[] #[]) M [v0, v1] (fun r M' => Qy M' r ((l0).filter (fun x => !decide (x ∈ l1)))) := by
 refine Qd Tryz.func250 Y Tryz.ntmps250 Y Tryz.call250 ?_
 intro a w M1 H hM1 S E
 replace h0 := h0.le hM1
 replace h1 := h1.le hM1
 have b0 := h0.bound
 refine Qs (Qj E Y fun _ B => QI (Qn B Y ?_))
 clear E a B; intro a E
 refine Qk (VF (p := []) E S Y Y Y (ZE h1) lerf ?_)
 clear E a S; rintro a _ w a3 _ a5 ⟨a1, rfl, rfl⟩ S E
 replace S : St w a3 (Zg a1 (Qw l1) :: _) := S
 replace h0 := h0.le a5
 refine Qj E Y fun _ B => QI (Qn B Y fun _ C => Qt C Y QE h0.len ?_)
 clear E a B C; intro a E
 refine Qk (JD (k := (l0).length) E S Y Y Y QE Y (by omega) (by omega) (by omega) ?_)
 clear E a S; rintro a w c0 E S
 replace S := S.made0
 refine Qj E Y fun _ B => Zp (Qn B Y fun _ C => Qt C Y QE h0.len fun _ D => Qn D Y ?_)
 clear E a B C D; intro a E
 refine ZH ?_
 replace S := S.re1 (l' := (l0.take 0).filter (fun x => !decide (x ∈ Qw l1))) (by ((simp; done)))
 refine QN (γ := Nat) (fun (k : Nat) a w => ∃ (a0 : Hp) (u6 : Value), Hp.le a3 a0 ∧ St w a0 (Jg 3 u6 ((l0.take k).filter (fun x => !decide (x ∈ Qw l1))) :: Zg a1 (Qw l1) :: H) ∧ Env a 40 [] [(0, v0), (5, .map (some a1)), (6, u6), (16, .int .i64 (((l0).length : Nat) : Int)), (17, .int .i64 ((k : Nat) : Int))] ∧ (k ≤ (l0).length)) (fun k => ((l0).length) - k) 0 ⟨a3, _, lerf, S, E.keep ⟨Y, Y, Y, Y, Y, trivial⟩, by (omega)⟩ ?_
 try clear E
 try clear S
 try clear a
 try clear w
 rintro k a w ⟨a0, u6, a2, S, E, c1⟩
 replace h0 := h0.le a2
 have wl := List.length_filter_le (fun x => !decide (x ∈ Qw l1)) (l0.take k)
 refine Qs (Jc E Y Y ?_)
 clear E a; intro a E
 refine ZJ ?_
 refine Ql E Y (fun a9 => ?_) (fun a9 => ?_)
 ·refine YZ (QD 2 E Y fun _ B => QI (QD 3 B Y ?_))
  clear E a B; intro a E
  obtain ⟨a6, a7⟩ : ∃ x, (l0)[k]? = some x := ⟨_, List.getElem?_eq_getElem (by omega)⟩
  obtain ⟨c2, b1, b2⟩ := h0.at a7
  refine QZ E Y Y QE b1 Y fun _ B => Qb B Y Tryz.isAgg3 S.imm b2 ?_
  clear E a B; intro a E
  replace S := S.front1
  refine Qk (Ya E S Y Yp Y Y ?_)
  clear E a S; rintro a w E S
  replace S : St w a0 (Zg a1 (Qw l1) :: _) := S
  refine Qn E Y fun _ B => Qg B Y Y fun _ C => Qg C Y Y ?_
  clear E a B C; intro a E
  refine Qk (Ja (cs := #[]) E S Y Tryz.zeroValue117 Y ?_)
  clear E a S; rintro a w b3 E S
  refine Jm (Zv (us := []) E S Y Y (Tryz.sizeOf117 _) Y (by intro u hu; cases hu) ?_)
  clear E a S; rintro a w E S
  replace S : St w a0 (Jk b3 (.cells #[] 117) :: _) := S
  have S0 := S; clear S
  obtain ⟨a8, a4, c3, S⟩ := S0.freezeB
  clear S0
  replace h0 := h0.le a4
  refine Qj E Y fun _ B => QI (Qn B Y fun _ C => Ji C Y ?_)
  clear E a B C; intro a E
  refine Qz ?_
  refine Jf E Y (fun b4 => ?_) (fun b4 => ?_)
  ·refine Qh ?_
   refine QD 3 E Y ?_
   clear E a; intro a E
   obtain ⟨c4, b5, b6⟩ := h0.at a7
   refine QZ E Y Y QE b5 Y fun _ B => Qb B Y Tryz.isAgg3 S.imm b6 ?_
   clear E a B; intro a E
   refine Qk (QV (ys := [a6]) E S Y QE Y Y Y ?_)
   clear E a S; rintro a w c5 E S
   replace S := S.front2.front1
   refine Qk (JF (xs := (l0.take k).filter (fun x => !decide (x ∈ Qw l1))) (ys := [a6]) E S Y Y Y QE (by (simp at wl ⊢; omega)) ?_)
   clear E a S; rintro a w c6 E S
   refine Qj E Y fun _ B => Wj (Qp (m := ((k + 1 : Nat) : Int)) B Y Y fun _ C => Qn C Y ?_)
   clear E a B C; intro a E
   refine Qz ?_
   replace S := S.re1 (l' := (l0.take (k + 1)).filter (fun x => !decide (x ∈ Qw l1))) (by ((rw [ZN (by assumption)]; first | (simp [*]; done) | (simp_all; done))))
   exact ⟨k + 1, ⟨a8, _, (a2.trans a4), S, E.keep ⟨Y, Y, Y, Y, Y, trivial⟩, by (omega)⟩, by omega⟩
  ·refine Qx ?_
   refine WN (Qp (m := ((k + 1 : Nat) : Int)) E Y Y fun _ B => Qn B Y ?_)
   clear E a B; intro a E
   refine Qz ?_
   replace S := S.front1
   replace S := S.re1 (l' := (l0.take (k + 1)).filter (fun x => !decide (x ∈ Qw l1))) (by ((rw [ZN (by assumption)]; first | (simp [*]; done) | (simp_all; done))))
   exact ⟨k + 1, ⟨a8, _, (a2.trans a4), S, E.keep ⟨Y, Y, Y, Y, Y, trivial⟩, by (omega)⟩, by omega⟩
 ·refine VJ (QD 2 E Y ?_)
  clear E a; intro a E
  refine Jj ?_
  have S0 := S; clear S
  obtain ⟨b7, b8, b9, S⟩ := S0.freezeI (by (have wl := List.length_filter_le (fun x => !decide (x ∈ Qw l1)) (l0.take k); simp at wl ⊢; omega))
  clear S0
  exact Qa E Tryz.results250 Y ⟨_, Y, b7, (a5.trans (a2.trans b8)), (QX.eqL b9 (by (rw [List.take_of_length_le (by omega)]; simp only [Yd]))), S.drop⟩
theorem impl_Without {M : Hp} {v0 v1 : Value} {l0 l1 : List Int} (h0 : Qy M v0 l0) (h1 : Qy M v1 l1)(hb : l0.length ≤ 1000000000000) :
  Pu Tryz.prog (.func (.func 173) #[] #[]) M [v0, v1] (fun r M' => Qy M' r ((l0).filter (fun x => !decide (x ∈ l1)))) := by
 refine Qd Tryz.func173 Y Tryz.ntmps173 Y Tryz.call173 ?_
 intro a w M1 H hM1 S E
 replace h0 := h0.le hM1
 replace h1 := h1.le hM1
 have b0 := h0.bound
 have b1 := h1.bound
 refine Qs (Qj E Y fun _ B => QI (QD 2 B Y ?_))
 clear E a B; intro a E
 refine Qk (Qm E S Y Y Y (lo_Without h0 h1 (by (omega))) lerf ?_)
 clear E a S; rintro a a3 w a0 a1 a2 S E
 refine Qj E Y ?_
 clear E a; intro a E
 refine Jj ?_
 exact Qa E Tryz.results173 Y ⟨_, Y, a0, a1, a2, S⟩
theorem lo_WithoutBy {M : Hp} {v0 : Value} {l0 : List Int} (h0 : Qy M v0 l0){v1 : Value} {f1 : Int → Int} (h1 : jd Tryz.prog v1 M f1) {v2 : Value} {l2 : List Int} (h2 : Qy M v2 l2) (hb : l0.length ≤ 1000000000000) :
  Pu Tryz.prog (.func (.func 251) #[] #[]) M [v0, v1, v2] (fun r M' => Qy M' r ((l0).filter (fun x => !decide (f1 x ∈ l2)))) := by
 refine Qd Tryz.func251 Y Tryz.ntmps251 Y Tryz.call251 ?_
 intro a w M1 H hM1 S E
 replace h0 := h0.le hM1
 replace h1 := h1.le hM1
 replace h2 := h2.le hM1
 have b0 := h0.bound
 have b2 := h2.bound
 refine Qs (Qj E Y fun _ B => QI (Qn B Y ?_))
 clear E a B; intro a E
 refine Qk (VF (p := []) E S Y Y Y (ZE h2) lerf ?_)
 clear E a S; rintro a _ w a2 _ a3 ⟨a1, rfl, rfl⟩ S E
 replace S : St w a2 (Zg a1 (Qw l2) :: _) := S
 replace h0 := h0.le a3
 replace h1 := h1.le a3
 refine Qj E Y fun _ B => QI (Qn B Y fun _ C => Qt C Y QE h0.len ?_)
 clear E a B C; intro a E
 refine Qk (JD (k := (l0).length) E S Y Y Y QE Y (by omega) (by omega) (by omega) ?_)
 clear E a S; rintro a w c1 E S
 replace S := S.made0
 refine Qj E Y fun _ B => Zp (Qn B Y fun _ C => Qt C Y QE h0.len fun _ D => Qn D Y ?_)
 clear E a B C D; intro a E
 refine ZH ?_
 replace S := S.re1 (l' := (l0.take 0).filter (fun x => !decide (f1 x ∈ Qw l2))) (by ((simp; done)))
 refine QN (γ := Nat) (fun (k : Nat) a w => ∃ (a4 : Hp) (u8 : Value), Hp.le a2 a4 ∧ St w a4 (Jg 3 u8 ((l0.take k).filter (fun x => !decide (f1 x ∈ Qw l2))) :: Zg a1 (Qw l2) :: H) ∧ Env a 40 [] [(1, v1), (7, .map (some a1)), (8, u8), (18, v0), (19, .int .i64 (((l0).length : Nat) : Int)), (20, .int .i64 ((k : Nat) : Int))] ∧ (k ≤ (l0).length)) (fun k => ((l0).length) - k) 0 ⟨a2, _, lerf, S, E.keep ⟨Y, Y, Y, Y, Y, Y, trivial⟩, by (omega)⟩ ?_
 try clear E
 try clear S
 try clear a
 try clear w
 rintro k a w ⟨a4, u8, a0, S, E, c2⟩
 replace h0 := h0.le a0
 replace h1 := h1.le a0
 have wl := List.length_filter_le (fun x => !decide (f1 x ∈ Qw l2)) (l0.take k)
 refine Qs (Jc E Y Y ?_)
 clear E a; intro a E
 refine ZJ ?_
 refine Ql E Y (fun b1 => ?_) (fun b1 => ?_)
 ·refine YZ ?_
  obtain ⟨a5, b3⟩ : ∃ x, (l0)[k]? = some x := ⟨_, List.getElem?_eq_getElem (by omega)⟩
  obtain ⟨c3, b4, b5⟩ := h0.at b3
  refine QZ E Y Y QE b4 Y fun _ B => Qb B Y Tryz.isAgg3 S.imm b5 fun _ C => Qj C Y fun _ D => QI (QD 3 D Y ?_)
  clear E a B C D; intro a E
  refine Qk (Qm E S Y Y Y (h1.2 a5) lerf ?_)
  clear E a S; rintro a _ w a6 a7 rfl S E
  replace S := S.front1
  refine Qk (Ya E S Y Yp Y Y ?_)
  clear E a S; rintro a w E S
  replace S : St w a6 (Zg a1 (Qw l2) :: _) := S
  refine Qn E Y fun _ B => Qg B Y Y fun _ C => Qg C Y Y ?_
  clear E a B C; intro a E
  refine Qk (Ja (cs := #[]) E S Y Tryz.zeroValue117 Y ?_)
  clear E a S; rintro a w b6 E S
  refine Jm (Zv (us := []) E S Y Y (Tryz.sizeOf117 _) Y (by intro u hu; cases hu) ?_)
  clear E a S; rintro a w E S
  replace S : St w a6 (Jk b6 (.cells #[] 117) :: _) := S
  have S0 := S; clear S
  obtain ⟨a8, a9, c4, S⟩ := S0.freezeB
  clear S0
  refine Qj E Y fun _ B => QI (Qn B Y fun _ C => Ji C Y ?_)
  clear E a B C; intro a E
  refine Qz ?_
  refine Jf E Y (fun b7 => ?_) (fun b7 => ?_)
  ·refine Qh ?_
   refine QD 2 E Y ?_
   clear E a; intro a E
   refine Qk (QV (ys := [a5]) E S Y QE Y Y Y ?_)
   clear E a S; rintro a w c5 E S
   replace S := S.front2.front1
   refine Qk (JF (xs := (l0.take k).filter (fun x => !decide (f1 x ∈ Qw l2))) (ys := [a5]) E S Y Y Y QE (by (simp at wl ⊢; omega)) ?_)
   clear E a S; rintro a w c6 E S
   refine Qj E Y fun _ B => Wj (Qp (m := ((k + 1 : Nat) : Int)) B Y Y fun _ C => Qn C Y ?_)
   clear E a B C; intro a E
   refine Qz ?_
   replace S := S.re1 (l' := (l0.take (k + 1)).filter (fun x => !decide (f1 x ∈ Qw l2))) (by ((rw [ZN (by assumption)]; first | (simp [*]; done) | (simp_all; done))))
   exact ⟨k + 1, ⟨a8, _, (a0.trans (a7.trans a9)), S, E.keep ⟨Y, Y, Y, Y, Y, Y, trivial⟩, by (omega)⟩, by omega⟩
  ·refine Qx ?_
   refine WN (Qp (m := ((k + 1 : Nat) : Int)) E Y Y fun _ B => Qn B Y ?_)
   clear E a B; intro a E
   refine Qz ?_
   replace S := S.front1
   replace S := S.re1 (l' := (l0.take (k + 1)).filter (fun x => !decide (f1 x ∈ Qw l2))) (by ((rw [ZN (by assumption)]; first | (simp [*]; done) | (simp_all; done))))
   exact ⟨k + 1, ⟨a8, _, (a0.trans (a7.trans a9)), S, E.keep ⟨Y, Y, Y, Y, Y, Y, trivial⟩, by (omega)⟩, by omega⟩
 ·refine VJ (QD 2 E Y ?_)
  clear E a; intro a E
  refine Jj ?_
  have S0 := S; clear S
  obtain ⟨b8, b9, c0, S⟩ := S0.freezeI (by (have wl := List.length_filter_le (fun x => !decide (f1 x ∈ Qw l2)) (l0.take k); simp at wl ⊢; omega))
  clear S0
  exact Qa E Tryz.results251 Y ⟨_, Y, b8, (a3.trans (a0.trans b9)), (QX.eqL c0 (by (rw [List.take_of_length_le (by omega)]; simp only [Yd]))), S.drop⟩
theorem yW {M : Hp} {v0 : Value} {l0 : List Int} (h0 : Qy M v0 l0) {v2 : Value} {l2 : List Int} (h2 : Qy M v2 l2) {kk1 kn1 : Int} (gk1 : -9223372036854775808 ≤ kn1 ∧ kn1 ≤ 9223372036854775807) (hb : l0.length ≤ 1000000000000) :
  Pu Tryz.prog (.func (.func 174) #[] #[]) M [v0, .agg #[.int .i64 kk1, .int .i64 kn1], v2] (fun r M' => Qy M' r ((l0).filter (fun x => !decide (JL kk1 kn1 x 0 ∈ l2)))) := by
 refine Qd Tryz.func174 Y Tryz.ntmps174 Y Tryz.call174 ?_
 intro a w M1 H hM1 S E
 replace h0 := h0.le hM1
 replace h2 := h2.le hM1
 have b0 := h0.bound
 have b2 := h2.bound
 have hfl := List.length_filter_le (fun x => !decide (JL kk1 kn1 x 0 ∈ l2)) l0
 refine Qs ?_
 refine Qk (QA (cs := #[.int .i64 kk1, .int .i64 kn1]) E S Y Y Y ?_)
 clear E a S; rintro a w a5 E S
 obtain ⟨a6, a0, a1, S⟩ := S.freezeB
 replace h0 := h0.le a0
 replace h2 := h2.le a0
 refine Qj E Y fun _ B => QI (Qn B Y fun _ C => Za C Y (Tryz.isAgg30 _) (Tryz.sizeOf30 _) S.imm a1 fun _ D => Qv D Y Y fun _ F => Qn F Y ?_)
 clear E a B C D F; intro a E
 refine Qk (Qm E S Y Y Y (lo_WithoutBy h0 ⟨Y, fun zx1 => Gk (x1 := zx1) (by omega)⟩ h2 (by (omega))) lerf ?_)
 clear E a S; rintro a a7 w a2 a3 a4 S E
 refine Qj E Y ?_
 clear E a; intro a E
 refine Jj ?_
 exact Qa E Tryz.results174 Y ⟨_, Y, a2, (a0.trans a3), (QX.eqL a4 (by (rfl))), S⟩
theorem lo_Union {M : Hp} {v0 : Value} {l0 : List (List Int)} (h0 : Zf M v0 l0) (hb : total l0 ≤ 1000000000) :
  Pu Tryz.prog (.func (.func 252) #[] #[]) M [v0] (fun r M' => Qy M' r (Qw (l0).flatten)) := by
 refine Qd Tryz.func252 Y Tryz.ntmps252 Y Tryz.call252 ?_
 intro a w M1 H hM1 S E
 replace h0 := h0.le hM1
 have b0 := h0.bound
 refine Qs (Qj E Y fun _ B => QI (Qj B Y fun _ C => Zp (Qn C Y fun _ D => Qt D Y Vn h0.len fun _ F => Qn F Y ?_)))
 clear E a B C D F; intro a E
 refine ZH ?_
 refine QN (γ := Nat) (fun (k : Nat) a w => ∃ (a0 : Hp), Hp.le M1 a0 ∧ St w a0 (H) ∧ Env a 76 [] [(0, v0), (3, .int .i64 ((total (l0.take k) : Nat) : Int)), (12, v0), (13, .int .i64 (((l0).length : Nat) : Int)), (14, .int .i64 ((k : Nat) : Int))] ∧ (k ≤ (l0).length)) (fun k => ((l0).length) - k) 0 ⟨M1, lerf, S, E.keep ⟨Y, Jr (i := 0) Y (by (rfl)), Y, Y, Y, trivial⟩, by (omega)⟩ ?_
 try clear E
 try clear S
 try clear a
 try clear w
 rintro k a w ⟨a0, a5, S, E, e7⟩
 replace h0 := h0.le a5
 have ht := Jn l0 k
 refine Qs (Jc E Y Y ?_)
 clear E a; intro a E
 refine ZJ ?_
 refine Ql E Y (fun c0 => ?_) (fun c0 => ?_)
 ·refine YZ ?_
  obtain ⟨b3, c1⟩ : ∃ x, (l0)[k]? = some x := ⟨_, List.getElem?_eq_getElem (by omega)⟩
  obtain ⟨e8, e9, c2, c3, b4⟩ := h0.at c1
  have f0 := b4.bound
  refine QZ E Y Y Vn c2 Y fun _ B => Qb B Y Tryz.isAgg22 S.imm c3 fun _ C => Qj C Y fun _ D => zw (QD 2 D Y fun _ F => Qt F Y QE b4.len fun _ G => Qp (m := ((total (l0.take k) + (b3).length : Nat) : Int)) G Y Y fun _ I => Qj I Y fun _ J => Wj (Qp (m := ((k + 1 : Nat) : Int)) J Y Y fun _ K => Qn K Y ?_))
  clear E a B C D F G I J K; intro a E
  refine Qz ?_
  exact ⟨k + 1, ⟨a0, a5, S, E.keep ⟨Y, Jr (i := total (l0.take k) + (b3).length) Y (by (rw [Yj (by assumption)])), Y, Y, Y, trivial⟩, by (omega)⟩, by omega⟩
 ·refine VJ (Qn E Y ?_)
  clear E a; intro a E
  refine Qk (JD (k := total (l0.take k)) E S Y Y Y QE Y (by omega) (by (have ht := Jn l0 k; omega)) (by (have ht := Jn l0 k; omega)) ?_)
  clear E a S; rintro a w f1 E S
  replace S := S.made0
  refine Qj E Y fun _ B => QI (Qn B Y ?_)
  clear E a B; intro a E
  refine Qk (YC E S Y Yp Y ?_)
  clear E a S; rintro a w a1 E S
  replace S : St w a0 (Zg a1 ([] : List Int) :: _) := S
  refine Qj E Y fun _ B => Zp (Qn B Y fun _ C => Qt C Y Vn h0.len fun _ D => Qn D Y ?_)
  clear E a B C D; intro a E
  refine ZH ?_
  replace S := S.front1.front1
  replace S := S.reM (L' := (Sl.encS (Qw (l0.take 0).flatten))) (congrArg Sl.encS (show ([] : List Int) = Qw (l0.take 0).flatten by first | rfl | (simp [Qw]; done) | (rw [row_end (j := j) (by assumption) (by omega)]; done)))
  replace S := S.front1
  replace S := S.re1 (l' := Qw (l0.take 0).flatten) (by rfl)
  refine QN (γ := Nat) (fun (k : Nat) a w => ∃ (a3 : Hp) (u6 : Value), Hp.le a0 a3 ∧ St w a3 (Jg 3 u6 (Qw (l0.take k).flatten) :: Zg a1 (Qw (l0.take k).flatten) :: H) ∧ Env a 76 [] [(0, v0), (6, u6), (7, .map (some a1)), (28, .int .i64 (((l0).length : Nat) : Int)), (29, .int .i64 ((k : Nat) : Int))] ∧ (k ≤ (l0).length)) (fun k => ((l0).length) - k) 0 ⟨a0, _, lerf, S, E.keep ⟨Y, Y, Y, Y, Y, trivial⟩, by (omega)⟩ ?_
  try clear E
  try clear S
  try clear a
  try clear w
  rintro k a w ⟨a3, u6, a6, S, E, f2⟩
  replace h0 := h0.le a6
  have hkl := jY l0 k
  refine Qs (Jc E Y Y ?_)
  clear E a; intro a E
  refine ZJ ?_
  refine Ql E Y (fun c4 => ?_) (fun c4 => ?_)
  ·refine YZ (QD 2 E Y fun _ B => QI (QD 2 B Y ?_))
   clear E a B; intro a E
   obtain ⟨a7, c5⟩ : ∃ x, (l0)[k]? = some x := ⟨_, List.getElem?_eq_getElem (by omega)⟩
   obtain ⟨f3, f4, c6, c7, b5⟩ := h0.at c5
   have f5 := b5.bound
   refine QZ E Y Y Vn c6 Y fun _ B => Qb B Y Tryz.isAgg22 S.imm c7 fun _ C => Qt C Y QE b5.len fun _ D => Qn D Y ?_
   clear E a B C D; intro a E
   refine ZH ?_
   replace S := S.front1.front1.front1
   replace S := S.reM (L' := (Sl.encS (Qw ((l0.take k).flatten ++ (l0[k]?.getD []).take 0)))) (congrArg Sl.encS (show Qw (l0.take k).flatten = Qw ((l0.take k).flatten ++ (l0[k]?.getD []).take 0) by ((simp; done))))
   replace S := S.front1
   replace S := S.re1 (l' := Qw ((l0.take k).flatten ++ (l0[k]?.getD []).take 0)) (by ((simp; done)))
   refine QN (γ := Nat) (fun (j : Nat) a w => ∃ (a2 : Hp) (u6 : Value), Hp.le a3 a2 ∧ St w a2 (Jg 3 u6 (Qw ((l0.take k).flatten ++ (l0[k]?.getD []).take j)) :: Zg a1 (Qw ((l0.take k).flatten ++ (l0[k]?.getD []).take j)) :: H) ∧ Env a 76 [] [(0, v0), (6, u6), (7, .map (some a1)), (8, .int .i64 ((k : Nat) : Int)), (28, .int .i64 (((l0).length : Nat) : Int)), (29, .int .i64 ((k : Nat) : Int)), (36, .int .i64 (((a7).length : Nat) : Int)), (37, .int .i64 ((j : Nat) : Int))] ∧ (j ≤ (a7).length)) (fun j => ((a7).length) - j) 0 ⟨a3, _, lerf, S, E.keep ⟨Y, Y, Y, Y, Y, Y, Y, Y, trivial⟩, by (omega)⟩ ?_
   try clear E
   try clear S
   try clear a
   try clear w
   rintro j a w ⟨a2, u6, a4, S, E, f6⟩
   replace h0 := h0.le a4
   have hkl := keyU_le l0 k j
   refine Qs (Jc E Y Y ?_)
   clear E a; intro a E
   refine ZJ ?_
   refine Ql E Y (fun c8 => ?_) (fun c8 => ?_)
   ·refine YZ (QD 2 E Y fun _ B => QI (QD 3 B Y ?_))
    clear E a B; intro a E
    obtain ⟨c9, a8⟩ : ∃ x, (l0)[k]? = some x := ⟨_, List.getElem?_eq_getElem (by omega)⟩
    obtain ⟨f7, f8, d0, d1, b6⟩ := h0.at a8
    have f9 := b6.bound
    refine QZ E Y Y Vn d0 Y fun _ B => Qb B Y Tryz.isAgg22 S.imm d1 fun _ C => Qn C Y ?_
    clear E a B C; intro a E
    obtain ⟨a9, b1⟩ : ∃ x, (c9)[j]? = some x := ⟨_, List.getElem?_eq_getElem (by (simp_all; done))⟩
    obtain ⟨g0, d2, d3⟩ := b6.at b1
    refine QZ E Y Y QE d2 Y fun _ B => Qb B Y Tryz.isAgg3 S.imm d3 ?_
    clear E a B; intro a E
    replace S := S.front1
    refine Qk (Ya E S Y Yp Y Y ?_)
    clear E a S; rintro a w E S
    replace S : St w a2 (Zg a1 (Qw ((l0.take k).flatten ++ (l0[k]?.getD []).take j)) :: _) := S
    refine Qn E Y fun _ B => Qg B Y Y fun _ C => Qg C Y Y ?_
    clear E a B C; intro a E
    refine Qk (Ja (cs := #[]) E S Y Tryz.zeroValue117 Y ?_)
    clear E a S; rintro a w d4 E S
    refine Jm (Zv (us := []) E S Y Y (Tryz.sizeOf117 _) Y (by intro u hu; cases hu) ?_)
    clear E a S; rintro a w E S
    replace S : St w a2 (Jk d4 (.cells #[] 117) :: _) := S
    have S0 := S; clear S
    obtain ⟨b7, b2, g1, S⟩ := S0.freezeB
    clear S0
    replace h0 := h0.le b2
    refine Qj E Y fun _ B => QI (Qn B Y fun _ C => Ji C Y ?_)
    clear E a B C; intro a E
    refine Qz ?_
    refine Jf E Y (fun d5 => ?_) (fun d5 => ?_)
    ·refine Je ?_
     refine Qh (QD 3 E Y ?_)
     clear E a; intro a E
     obtain ⟨g2, g3, d6, d7, b8⟩ := h0.at a8
     have g4 := b8.bound
     refine QZ E Y Y Vn d6 Y fun _ B => Qb B Y Tryz.isAgg22 S.imm d7 fun _ C => Qn C Y ?_
     clear E a B C; intro a E
     obtain ⟨g5, d8, d9⟩ := b8.at b1
     refine QZ E Y Y QE d8 Y fun _ B => Qb B Y Tryz.isAgg3 S.imm d9 fun _ C => UI (u := .agg #[]) (vs := []) C Y (fun w => WG  w) ?_
     clear E a B C; intro a E
     refine Jm (VQ E S Yp Y Y Y ?_)
     clear E a S; rintro a w E S
     refine zw (QD 3 E Y ?_)
     clear E a; intro a E
     obtain ⟨g6, g7, e0, e1, b9⟩ := h0.at a8
     have g8 := b9.bound
     refine QZ E Y Y Vn e0 Y fun _ B => Qb B Y Tryz.isAgg22 S.imm e1 fun _ C => Qn C Y ?_
     clear E a B C; intro a E
     obtain ⟨g9, e2, e3⟩ := b9.at b1
     refine QZ E Y Y QE e2 Y fun _ B => Qb B Y Tryz.isAgg3 S.imm e3 ?_
     clear E a B; intro a E
     refine Qk (QV (ys := [a9]) E S Y QE Y Y Y ?_)
     clear E a S; rintro a w h1 E S
     replace S := S.front2.front1
     refine Qk (JF (xs := Qw ((l0.take k).flatten ++ (l0[k]?.getD []).take j)) (ys := [a9]) E S Y Y Y QE (by (simp; omega)) ?_)
     clear E a S; rintro a w h2 E S
     refine Qj E Y fun _ B => Wj (Qp (m := ((j + 1 : Nat) : Int)) B Y Y fun _ C => Qn C Y ?_)
     clear E a B C; intro a E
     refine Qz ?_
     replace S := S.front1
     replace S := S.reM (L' := (Sl.encS (Qw ((l0.take k).flatten ++ (l0[k]?.getD []).take (j + 1))))) (congrArg Sl.encS (show Ym (Qw ((l0.take k).flatten ++ (l0[k]?.getD []).take j)) a9 = Qw ((l0.take k).flatten ++ (l0[k]?.getD []).take (j + 1)) by ((rw [qF (by assumption) (by assumption), YJ]; done))))
     replace S := S.front1
     replace S := S.re1 (l' := Qw ((l0.take k).flatten ++ (l0[k]?.getD []).take (j + 1))) (by ((rw [qF (by assumption) (by assumption), YJ]; first | rfl | (unfold Ym; first | (rw [if_pos (by assumption)]; done) | (rw [if_neg (by assumption)]; done) | (rw [if_neg]; simp_all; done) | (rw [if_pos]; simp_all; done)))))
     exact ⟨j + 1, ⟨b7, _, (a4.trans b2), S, E.keep ⟨Y, Y, Y, Y, Y, Y, Y, Y, trivial⟩, by (omega)⟩, by omega⟩
    ·refine Qx ?_
     refine WN (Qp (m := ((j + 1 : Nat) : Int)) E Y Y fun _ B => Qn B Y ?_)
     clear E a B; intro a E
     refine Qz ?_
     replace S := S.front1.front1
     replace S := S.reM (L' := (Sl.encS (Qw ((l0.take k).flatten ++ (l0[k]?.getD []).take (j + 1))))) (congrArg Sl.encS (show Qw ((l0.take k).flatten ++ (l0[k]?.getD []).take j) = Qw ((l0.take k).flatten ++ (l0[k]?.getD []).take (j + 1)) by ((rw [qF (by assumption) (by assumption), YJ]; first | rfl | (unfold Ym; first | (rw [if_pos (by assumption)]; done) | (rw [if_neg (by assumption)]; done) | (rw [if_neg]; simp_all; done) | (rw [if_pos]; simp_all; done))))))
     replace S := S.front1
     replace S := S.re1 (l' := Qw ((l0.take k).flatten ++ (l0[k]?.getD []).take (j + 1))) (by ((rw [qF (by assumption) (by assumption), YJ]; first | rfl | (unfold Ym; first | (rw [if_pos (by assumption)]; done) | (rw [if_neg (by assumption)]; done) | (rw [if_neg]; simp_all; done) | (rw [if_pos]; simp_all; done)))))
     exact ⟨j + 1, ⟨b7, _, (a4.trans b2), S, E.keep ⟨Y, Y, Y, Y, Y, Y, Y, Y, trivial⟩, by (omega)⟩, by omega⟩
   ·refine J_Aa (Qp (m := ((k + 1 : Nat) : Int)) E Y Y fun _ B => Qn B Y ?_)
    clear E a B; intro a E
    refine Qz ?_
    replace S := S.front1
    replace S := S.reM (L' := (Sl.encS (Qw (l0.take (k + 1)).flatten))) (congrArg Sl.encS (show Qw ((l0.take k).flatten ++ (l0[k]?.getD []).take j) = Qw (l0.take (k + 1)).flatten by first | rfl | (simp [Qw]; done) | (rw [row_end (j := j) (by assumption) (by omega)]; done)))
    replace S := S.front1
    replace S := S.re1 (l' := Qw (l0.take (k + 1)).flatten) (by (rw [row_end (j := j) (by assumption) (by omega)]; done))
    exact ⟨k + 1, ⟨a2, _, (a6.trans a4), S, E.keep ⟨Y, Y, Y, Y, Y, trivial⟩, by (omega)⟩, by omega⟩
  ·refine VJ (QD 2 E Y ?_)
   clear E a; intro a E
   refine Jj ?_
   have S0 := S; clear S
   obtain ⟨e4, e5, e6, S⟩ := S0.freezeI (by (have hkl := jY l0 k; omega))
   clear S0
   exact Qa E Tryz.results252 Y ⟨_, Y, e4, (a5.trans (a6.trans e5)), (QX.eqL e6 (by (rw [List.take_of_length_le (by omega)]))), S.drop⟩
theorem impl_Union {M : Hp} {v0 : Value} {l0 : List (List Int)} (h0 : Zf M v0 l0) (hb : total l0 ≤ 1000000000) :
  Pu Tryz.prog (.func (.func 175) #[] #[]) M [v0] (fun r M' => Qy M' r (Qw (l0).flatten)) := by
 refine Qd Tryz.func175 Y Tryz.ntmps175 Y Tryz.call175 ?_
 intro a w M1 H hM1 S E
 replace h0 := h0.le hM1
 have b0 := h0.bound
 have hul := jY l0 l0.length
 rw [List.take_of_length_le (Nat.le_refl _)] at hul
 refine Qs (Qj E Y fun _ B => QI (Qn B Y ?_))
 clear E a B; intro a E
 refine Qk (Qm E S Y Y Y (lo_Union h0 (by assumption)) lerf ?_)
 clear E a S; rintro a a3 w a0 a1 a2 S E
 refine Qj E Y ?_
 clear E a; intro a E
 refine Jj ?_
 exact Qa E Tryz.results175 Y ⟨_, Y, a0, a1, a2, S⟩
theorem vW {M : Hp} {v0 v1 : Value} {l0 l1 : List Int} (h0 : Qy M v0 l0) (h1 : Qy M v1 l1)(hb : l0.length ≤ 1000000000000) (hc : l1.length ≤ 1000000000000) :
  Pu Tryz.prog (.func (.func 253) #[] #[]) M [v0, v1] (fun r M' => ∃ t0 t1, r = .tuple #[t0, t1] ∧ Qy M' t0 ((l0).filter (fun x => !decide (x ∈ l1))) ∧ Qy M' t1 ((l1).filter (fun x => !decide (x ∈ l0)))) := by
 refine Qd Tryz.func253 Y Tryz.ntmps253 Y Tryz.call253 ?_
 intro a w M1 H hM1 S E
 replace h0 := h0.le hM1
 replace h1 := h1.le hM1
 have b0 := h0.bound
 have b1 := h1.bound
 refine Qs (QD 2 E Y ?_)
 clear E a; intro a E
 refine QI ?_
 refine Qk (QV (ys := []) E S Y QE Y Y Y ?_)
 clear E a S; rintro a w e0 E S
 refine Qj E Y ?_
 clear E a; intro a E
 refine QI ?_
 refine Qk (QV (ys := []) E S Y QE Y Y Y ?_)
 clear E a S; rintro a w b4 E S
 refine Qj E Y fun _ B => QI (Qn B Y ?_)
 clear E a B; intro a E
 refine Qk (VF (p := []) E S Y Y Y (ZE h0) lerf ?_)
 clear E a S; rintro a _ w c2 _ a7 ⟨a1, rfl, rfl⟩ S E
 replace S : St w c2 (Zg a1 (Qw l0) :: _) := S
 replace h0 := h0.le a7
 replace h1 := h1.le a7
 refine Qj E Y fun _ B => QI (Qn B Y ?_)
 clear E a B; intro a E
 refine Qk (VF (p := []) E S Y Y Y (ZE h1) lerf ?_)
 clear E a S; rintro a _ w a8 _ a9 ⟨a2, rfl, rfl⟩ S E
 replace S : St w a8 (Zg a2 (Qw l1) :: _) := S
 replace h0 := h0.le a9
 replace h1 := h1.le a9
 refine Qj E Y fun _ B => Zp (Qn B Y fun _ C => Qt C Y QE h0.len fun _ D => Qn D Y ?_)
 clear E a B C D; intro a E
 refine ZH ?_
 replace S := S.front3
 replace S := S.re1 (l' := (l0.take 0).filter (fun x => !decide (x ∈ Qw l1))) (by ((simp; done)))
 refine QN (γ := Nat) (fun (k : Nat) a w => ∃ (a0 : Hp) (u6 : Value), Hp.le a8 a0 ∧ St w a0 (Jg 3 u6 ((l0.take k).filter (fun x => !decide (x ∈ Qw l1))) :: Zg a2 (Qw l1) :: Zg a1 (Qw l0) :: Jg 3 b4 ([] : List Int) :: H) ∧ Env a 72 [] [(0, v0), (1, v1), (6, u6), (7, b4), (8, .map (some a1)), (9, .map (some a2)), (23, .int .i64 (((l0).length : Nat) : Int)), (24, .int .i64 ((k : Nat) : Int))] ∧ (k ≤ (l0).length)) (fun k => ((l0).length) - k) 0 ⟨a8, _, lerf, S, E.keep ⟨Y, Y, Y, Y, Y, Y, Y, Y, trivial⟩, by (omega)⟩ ?_
 try clear E
 try clear S
 try clear a
 try clear w
 rintro k a w ⟨a0, u6, a3, S, E, e1⟩
 replace h0 := h0.le a3
 replace h1 := h1.le a3
 have wl := List.length_filter_le (fun x => !decide (x ∈ Qw l1)) (l0.take k)
 refine Qs (Jc E Y Y ?_)
 clear E a; intro a E
 refine ZJ ?_
 refine Ql E Y (fun c3 => ?_) (fun c3 => ?_)
 ·refine YZ (QD 2 E Y fun _ B => QI (QD 3 B Y ?_))
  clear E a B; intro a E
  obtain ⟨b5, b6⟩ : ∃ x, (l0)[k]? = some x := ⟨_, List.getElem?_eq_getElem (by omega)⟩
  obtain ⟨e2, c4, c5⟩ := h0.at b6
  refine QZ E Y Y QE c4 Y fun _ B => Qb B Y Tryz.isAgg3 S.imm c5 ?_
  clear E a B; intro a E
  replace S := S.front1
  refine Qk (Ya E S Y Yp Y Y ?_)
  clear E a S; rintro a w E S
  replace S : St w a0 (Zg a2 (Qw l1) :: _) := S
  refine Qn E Y fun _ B => Qg B Y Y fun _ C => Qg C Y Y ?_
  clear E a B C; intro a E
  refine Qk (Ja (cs := #[]) E S Y Tryz.zeroValue117 Y ?_)
  clear E a S; rintro a w c6 E S
  refine Jm (Zv (us := []) E S Y Y (Tryz.sizeOf117 _) Y (by intro u hu; cases hu) ?_)
  clear E a S; rintro a w E S
  replace S : St w a0 (Jk c6 (.cells #[] 117) :: _) := S
  have S0 := S; clear S
  obtain ⟨b7, a5, e3, S⟩ := S0.freezeB
  clear S0
  replace h0 := h0.le a5
  replace h1 := h1.le a5
  refine Qj E Y fun _ B => QI (Qn B Y fun _ C => Ji C Y ?_)
  clear E a B C; intro a E
  refine Qz ?_
  refine Jf E Y (fun c7 => ?_) (fun c7 => ?_)
  ·refine Qh ?_
   refine QD 3 E Y ?_
   clear E a; intro a E
   obtain ⟨e4, c8, c9⟩ := h0.at b6
   refine QZ E Y Y QE c8 Y fun _ B => Qb B Y Tryz.isAgg3 S.imm c9 ?_
   clear E a B; intro a E
   refine Qk (QV (ys := [b5]) E S Y QE Y Y Y ?_)
   clear E a S; rintro a w e5 E S
   replace S := S.front2.front1
   refine Qk (JF (xs := (l0.take k).filter (fun x => !decide (x ∈ Qw l1))) (ys := [b5]) E S Y Y Y QE (by (simp at wl ⊢; omega)) ?_)
   clear E a S; rintro a w e6 E S
   refine Qj E Y fun _ B => Wj (Qp (m := ((k + 1 : Nat) : Int)) B Y Y fun _ C => Qn C Y ?_)
   clear E a B C; intro a E
   refine Qz ?_
   replace S := S.re1 (l' := (l0.take (k + 1)).filter (fun x => !decide (x ∈ Qw l1))) (by ((rw [ZN (by assumption)]; first | (simp [*]; done) | (simp_all; done))))
   exact ⟨k + 1, ⟨b7, _, (a3.trans a5), S, E.keep ⟨Y, Y, Y, Y, Y, Y, Y, Y, trivial⟩, by (omega)⟩, by omega⟩
  ·refine Qx ?_
   refine WN (Qp (m := ((k + 1 : Nat) : Int)) E Y Y fun _ B => Qn B Y ?_)
   clear E a B; intro a E
   refine Qz ?_
   replace S := S.front3.front3.front2.front3
   replace S := S.re1 (l' := (l0.take (k + 1)).filter (fun x => !decide (x ∈ Qw l1))) (by ((rw [ZN (by assumption)]; first | (simp [*]; done) | (simp_all; done))))
   exact ⟨k + 1, ⟨b7, _, (a3.trans a5), S, E.keep ⟨Y, Y, Y, Y, Y, Y, Y, Y, trivial⟩, by (omega)⟩, by omega⟩
 ·refine JO (Ul (Ul (zx (JZ (UK (Qn E Y fun _ B => Qt B Y QE h1.len fun _ C => Qn C Y ?_))))))
  clear E a B C; intro a E
  refine ZH ?_
  replace S := S.front3
  replace S := S.re1 (l' := (l1.take 0).filter (fun x => !decide (x ∈ Qw l0))) (by ((simp; done)))
  refine QN (γ := Nat) (fun (j : Nat) a w => ∃ (a4 : Hp) (u7 : Value), Hp.le a0 a4 ∧ St w a4 (Jg 3 u7 ((l1.take j).filter (fun x => !decide (x ∈ Qw l0))) :: Jg 3 u6 ((l0.take k).filter (fun x => !decide (x ∈ Qw l1))) :: Zg a2 (Qw l1) :: Zg a1 (Qw l0) :: H) ∧ Env a 72 [] [(1, v1), (6, u6), (7, u7), (8, .map (some a1)), (47, .int .i64 (((l1).length : Nat) : Int)), (48, .int .i64 ((j : Nat) : Int))] ∧ (j ≤ (l1).length)) (fun j => ((l1).length) - j) 0 ⟨a0, _, lerf, S, E.keep ⟨Y, Y, Y, Y, Y, Y, trivial⟩, by (omega)⟩ ?_
  try clear E
  try clear S
  try clear a
  try clear w
  rintro j a w ⟨a4, u7, a6, S, E, e7⟩
  replace h1 := h1.le a6
  have wl := List.length_filter_le (fun x => !decide (x ∈ Qw l0)) (l1.take j)
  refine Qs (Jc E Y Y ?_)
  clear E a; intro a E
  refine ZJ ?_
  refine Ql E Y (fun d0 => ?_) (fun d0 => ?_)
  ·refine YZ (QD 2 E Y fun _ B => QI (QD 3 B Y ?_))
   clear E a B; intro a E
   obtain ⟨b8, b9⟩ : ∃ x, (l1)[j]? = some x := ⟨_, List.getElem?_eq_getElem (by omega)⟩
   obtain ⟨e8, d1, d2⟩ := h1.at b9
   refine QZ E Y Y QE d1 Y fun _ B => Qb B Y Tryz.isAgg3 S.imm d2 ?_
   clear E a B; intro a E
   replace S := S.front3
   refine Qk (Ya E S Y Yp Y Y ?_)
   clear E a S; rintro a w E S
   replace S : St w a4 (Zg a1 (Qw l0) :: _) := S
   refine Qn E Y fun _ B => Qg B Y Y fun _ C => Qg C Y Y ?_
   clear E a B C; intro a E
   refine Qk (Ja (cs := #[]) E S Y Tryz.zeroValue117 Y ?_)
   clear E a S; rintro a w d3 E S
   refine Jm (Zv (us := []) E S Y Y (Tryz.sizeOf117 _) Y (by intro u hu; cases hu) ?_)
   clear E a S; rintro a w E S
   replace S : St w a4 (Jk d3 (.cells #[] 117) :: _) := S
   have S0 := S; clear S
   obtain ⟨c0, b2, e9, S⟩ := S0.freezeB
   clear S0
   replace h1 := h1.le b2
   refine Qj E Y fun _ B => QI (Qn B Y fun _ C => Ji C Y ?_)
   clear E a B C; intro a E
   refine Qz ?_
   refine Jf E Y (fun d4 => ?_) (fun d4 => ?_)
   ·refine Qh ?_
    refine QD 3 E Y ?_
    clear E a; intro a E
    obtain ⟨f0, d5, d6⟩ := h1.at b9
    refine QZ E Y Y QE d5 Y fun _ B => Qb B Y Tryz.isAgg3 S.imm d6 ?_
    clear E a B; intro a E
    refine Qk (QV (ys := [b8]) E S Y QE Y Y Y ?_)
    clear E a S; rintro a w f1 E S
    replace S := S.front2.front1
    refine Qk (JF (xs := (l1.take j).filter (fun x => !decide (x ∈ Qw l0))) (ys := [b8]) E S Y Y Y QE (by (simp at wl ⊢; omega)) ?_)
    clear E a S; rintro a w f2 E S
    refine Qj E Y fun _ B => Wj (Qp (m := ((j + 1 : Nat) : Int)) B Y Y fun _ C => Qn C Y ?_)
    clear E a B C; intro a E
    refine Qz ?_
    replace S := S.front1.front3.front3.front3
    replace S := S.re1 (l' := (l1.take (j + 1)).filter (fun x => !decide (x ∈ Qw l0))) (by ((rw [ZN (by assumption)]; first | (simp [*]; done) | (simp_all; done))))
    exact ⟨j + 1, ⟨c0, _, (a6.trans b2), S, E.keep ⟨Y, Y, Y, Y, Y, Y, trivial⟩, by (omega)⟩, by omega⟩
   ·refine Qx ?_
    refine WN (Qp (m := ((j + 1 : Nat) : Int)) E Y Y fun _ B => Qn B Y ?_)
    clear E a B; intro a E
    refine Qz ?_
    replace S := S.front3.front3.front3
    replace S := S.re1 (l' := (l1.take (j + 1)).filter (fun x => !decide (x ∈ Qw l0))) (by ((rw [ZN (by assumption)]; first | (simp [*]; done) | (simp_all; done))))
    exact ⟨j + 1, ⟨c0, _, (a6.trans b2), S, E.keep ⟨Y, Y, Y, Y, Y, Y, trivial⟩, by (omega)⟩, by omega⟩
  ·refine VJ (QD 4 E Y ?_)
   clear E a; intro a E
   refine Jj ?_
   replace S := S.front1
   have S0 := S; clear S
   obtain ⟨f3, d7, b3, S⟩ := S0.freezeI (by (have wl1 := List.length_filter_le (fun x => !decide (x ∈ Qw l1)) (l0.take k); have wl2 := List.length_filter_le (fun x => !decide (x ∈ Qw l0)) (l1.take j); simp at wl1 wl2 ⊢; omega))
   clear S0
   have S0 := S; clear S
   obtain ⟨d8, c1, d9, S⟩ := S0.freezeI (by (have wl1 := List.length_filter_le (fun x => !decide (x ∈ Qw l1)) (l0.take k); have wl2 := List.length_filter_le (fun x => !decide (x ∈ Qw l0)) (l1.take j); simp at wl1 wl2 ⊢; omega))
   clear S0
   replace b3 := b3.le c1
   exact Zr E Tryz.results253 Y Y ⟨_, Y, d8, (a7.trans (a9.trans (a3.trans (a6.trans (d7.trans c1))))), ⟨_, _, Y, (QX.eqL b3 (by (rw [List.take_of_length_le (by omega)]; simp only [Yd]))), (QX.eqL d9 (by (rw [List.take_of_length_le (by omega)]; simp only [Yd])))⟩, S.drop.drop⟩
theorem WK {M : Hp} {v0 v1 : Value} {l0 l1 : List Int} (h0 : Qy M v0 l0) (h1 : Qy M v1 l1)(hb : l0.length ≤ 1000000000000) (hc : l1.length ≤ 1000000000000) :
  Pu Tryz.prog (.func (.func 176) #[] #[]) M [v0, v1] (fun r M' => ∃ t0 t1, r = .tuple #[t0, t1] ∧ Qy M' t0 ((l0).filter (fun x => !decide (x ∈ l1))) ∧ Qy M' t1 ((l1).filter (fun x => !decide (x ∈ l0)))) := by
 refine Qd Tryz.func176 Y Tryz.ntmps176 Y Tryz.call176 ?_
 intro a w M1 H hM1 S E
 replace h0 := h0.le hM1
 replace h1 := h1.le hM1
 have b0 := h0.bound
 have b1 := h1.bound
 refine Qs (QD 2 E Y fun _ B => QI (QD 2 B Y ?_))
 clear E a B; intro a E
 refine Qk (Qm E S Y Y Y (vW h0 h1 (by (omega)) (by (omega))) lerf ?_)
 clear E a S; rintro a _ w a0 a1 ⟨a4, a5, rfl, a2, a3⟩ S E
 refine Qg E Y Y fun _ B => Qg B Y Y fun _ C => QD 2 C Y ?_
 clear E a B C; intro a E
 refine Jj ?_
 exact Zr E Tryz.results176 Y Y ⟨_, Y, a0, a1, ⟨_, _, Y, a2, a3⟩, S⟩
theorem vV {M : Hp} {v0 : Value} {l0 : List (List Int)} (h0 : Zf M v0 l0) (hb : total l0 ≤ 1000000000) :
  Pu Tryz.prog (.func (.func 254) #[] #[]) M [v0] (fun r M' => Qy M' r (yU l0)) := by
 refine Qd Tryz.func254 Y Tryz.ntmps254 Y Tryz.call254 ?_
 intro a w M1 H hM1 S E
 replace h0 := h0.le hM1
 have b0 := h0.bound
 have hmt := maxLen_total l0
 refine Qs (Qj E Y fun _ B => Zp (Qn B Y fun _ C => Qt C Y Vn h0.len fun _ D => QK D Y Y ?_))
 clear E a B C D; intro a E
 refine Qz ?_
 refine Ql E Y (fun b7 => ?_) (fun b7 => ?_)
 ·refine Qs ?_
  refine Qk (QV (ys := []) E S Y QE Y Y Y ?_)
  clear E a S; rintro a w e1 E S
  refine Qj E Y ?_
  clear E a; intro a E
  refine UJ ?_
  have S0 := S; clear S
  obtain ⟨b8, a8, b9, S⟩ := S0.freezeI (by (first | omega | (simp; omega) | (simp; done) | (simp_all; omega) | grind))
  clear S0
  replace h0 := h0.le a8
  exact Qa E Tryz.results254 Y ⟨_, Y, b8, a8, (QX.eqL b9 (by have e := List.eq_nil_of_length_eq_zero (l := l0) (by omega); subst e; rfl)), S⟩
 ·refine VC (Qj E Y fun _ B => QI (Qj B Y fun _ C => Zp (Qn C Y fun _ D => Qt D Y Vn h0.len fun _ F => Qn F Y ?_)))
  clear E a B C D F; intro a E
  refine ZH ?_
  refine QN (γ := Nat) (fun (k : Nat) a w => ∃ (a0 : Hp), Hp.le M1 a0 ∧ St w a0 (H) ∧ Env a 70 [] [(0, v0), (3, .int .i64 ((maxLen (l0.take k) : Nat) : Int)), (4, .int .i64 ((total (l0.take k) : Nat) : Int)), (16, .int .i64 (((l0).length : Nat) : Int)), (17, .int .i64 ((k : Nat) : Int))] ∧ (k ≤ (l0).length) ∧ (0 < l0.length)) (fun k => ((l0).length) - k) 0 ⟨M1, lerf, S, E.keep ⟨Y, Jr (i := 0) Y (by ((try clear S); (try clear E); first | assumption | omega | rfl | (simp; done) | (simp_all; done) | (simp [List.take_add_one, *]; done) | grind [List.take_add_one])), Jr (i := 0) Y (by ((try clear S); (try clear E); first | assumption | omega | rfl | (simp; done) | (simp_all; done) | (simp [List.take_add_one, *]; done) | grind [List.take_add_one])), Y, Y, trivial⟩, by ((try clear S); (try clear E); first | assumption | omega | rfl | (simp; done) | (simp_all; done) | (simp [List.take_add_one, *]; done) | grind [List.take_add_one]), by ((try clear S); (try clear E); first | assumption | omega | rfl | (simp; done) | (simp_all; done) | (simp [List.take_add_one, *]; done) | grind [List.take_add_one])⟩ ?_
  try clear E
  try clear S
  try clear a
  try clear w
  rintro k a w ⟨a0, a2, S, E, e3, e4⟩
  replace h0 := h0.le a2
  have ht := Jn l0 k
  refine Qs (Jc E Y Y ?_)
  clear E a; intro a E
  refine ZJ ?_
  refine Ql E Y (fun c0 => ?_) (fun c0 => ?_)
  ·refine YZ (QD 2 E Y fun _ B => QI (QD 2 B Y ?_))
   clear E a B; intro a E
   obtain ⟨a4, c1⟩ : ∃ x, (l0)[k]? = some x := ⟨_, List.getElem?_eq_getElem (by first | omega | (simp; done) | (simp; omega) | (simp_all; omega))⟩
   obtain ⟨e5, e6, c2, c3, a9⟩ := h0.at c1
   have e7 := a9.bound
   refine QZ E Y Y Vn c2 Y fun _ B => Qb B Y Tryz.isAgg22 S.imm c3 fun _ C => Qt C Y QE a9.len fun _ D => Qj D Y fun _ F => QI (QD 2 F Y fun _ G => Qp (m := ((total (l0.take k) + (a4).length : Nat) : Int)) G Y Y (hm := (by (have ht2 := Jn l0 (k+1); rw [Yj (by assumption)] at ht2; omega))) (hb := (by (have ht2 := Jn l0 (k+1); rw [Yj (by assumption)] at ht2; omega))) fun _ I => Qj I Y fun _ J => QI (QD 2 J Y fun _ K => Ys K Y Y ?_))
   clear E a B C D F G I J K; intro a E
   refine Qz ?_
   refine Ql E Y (fun c4 => ?_) (fun c4 => ?_)
   ·refine Qh (QD 2 E Y fun _ B => Wj (Qp (m := ((k + 1 : Nat) : Int)) B Y Y fun _ C => Qn C Y ?_))
    clear E a B C; intro a E
    refine Qz ?_
    exact ⟨k + 1, ⟨a0, a2, S, E.keep ⟨Y, Jr (i := (a4).length) Y (by (rw [jk (by assumption)]; omega)), Jr (i := total (l0.take k) + (a4).length) Y (by (rw [Yj (by assumption)])), Y, Y, trivial⟩, by ((try clear S); (try clear E); first | assumption | omega | rfl | (simp; done) | (simp_all; done) | (simp [List.take_add_one, *]; done) | grind [List.take_add_one]), by ((try clear S); (try clear E); first | assumption | omega | rfl | (simp; done) | (simp_all; done) | (simp [List.take_add_one, *]; done) | grind [List.take_add_one])⟩, by omega⟩
   ·refine zu (Qp (m := ((k + 1 : Nat) : Int)) E Y Y fun _ B => Qn B Y ?_)
    clear E a B; intro a E
    refine Qz ?_
    exact ⟨k + 1, ⟨a0, a2, S, E.keep ⟨Y, Jr (i := maxLen (l0.take k)) Y (by (rw [jk (by assumption)]; omega)), Jr (i := total (l0.take k) + (a4).length) Y (by (rw [Yj (by assumption)])), Y, Y, trivial⟩, by ((try clear S); (try clear E); first | assumption | omega | rfl | (simp; done) | (simp_all; done) | (simp [List.take_add_one, *]; done) | grind [List.take_add_one]), by ((try clear S); (try clear E); first | assumption | omega | rfl | (simp; done) | (simp_all; done) | (simp [List.take_add_one, *]; done) | grind [List.take_add_one])⟩, by omega⟩
  ·refine JO (Ul (Ul (zx (JZ (UK (Qn E Y fun _ B => QK B Y Y ?_))))))
   clear E a B; intro a E
   refine Qz ?_
   refine Ql E Y (fun c5 => ?_) (fun c5 => ?_)
   ·refine Qs ?_
    refine Qk (QV (ys := []) E S Y QE Y Y Y ?_)
    clear E a S; rintro a w e8 E S
    refine Qj E Y ?_
    clear E a; intro a E
    refine UJ ?_
    have S0 := S; clear S
    obtain ⟨c6, b1, c7, S⟩ := S0.freezeI (by (first | omega | (simp; omega) | (simp; done) | (simp_all; omega) | grind))
    clear S0
    replace h0 := h0.le b1
    exact Qa E Tryz.results254 Y ⟨_, Y, c6, (a2.trans b1), (QX.eqL c7 (by have e := GS l0; have e2 : total l0 ≤ l0.length * 0 := total_le (fun x hx => (by have := zH hx; rw [List.take_of_length_le (by omega)] at *; omega)); exact List.eq_nil_of_length_eq_zero (by omega))), S⟩
   ·refine VC (Qn E Y ?_)
    clear E a; intro a E
    refine Qk (YM (k := total (l0.take k)) E S Y Y Y QE (by omega) (by omega) (by (have ht := Jn l0 k; omega)) (by (have ht := Jn l0 k; omega)) ?_)
    clear E a S; rintro a w a5 E S
    replace S := S.madeI
    refine Qj E Y fun _ B => QI (Qj B Y fun _ C => Zp (Qj C Y ?_))
    clear E a B C; intro a E
    refine ZH ?_
    replace S := S.re1 (l' := JP 0 l0 ++ List.replicate (total l0 - (JP 0 l0).length) 0) (by (try rw [YQ]); first | (simp [JP]; done) | (rw [show total (l0.take k) = total l0 by rw [List.take_of_length_le (by omega)]]; simp [JP]; done) | (rw [show Yw i l0 = Yw i (l0.take j) by rw [List.take_of_length_le (by omega)]]; done))
    refine QN (γ := Nat) (fun (i : Nat) a w => ∃ (a3 : Hp), Hp.le a0 a3 ∧ St w a3 (Jg 3 a5 (JP i l0 ++ List.replicate (total l0 - (JP i l0).length) 0) :: H) ∧ Env a 70 [] [(0, v0), (3, .int .i64 ((maxLen (l0.take k) : Nat) : Int)), (7, a5), (8, .int .i64 (((JP i l0).length : Nat) : Int)), (9, .int .i64 ((i : Nat) : Int))] ∧ (i ≤ maxLen (l0.take k)) ∧ (maxLen (l0.take k) = maxLen l0)) (fun i => (maxLen (l0.take k)) - i) 0 ⟨a0, lerf, S, E.keep ⟨Y, Y, Y, Jr (i := 0) Y (by ((try clear S); (try clear E); first | assumption | omega | rfl | (simp; done) | (simp_all; done) | (simp [List.take_add_one, *]; done) | grind [List.take_add_one])), Y, trivial⟩, by ((try clear S); (try clear E); first | assumption | omega | rfl | (simp; done) | (simp_all; done) | (simp [List.take_add_one, *]; done) | grind [List.take_add_one]), by ((try clear S); (try clear E); first | assumption | omega | rfl | (simp; done) | (simp_all; done) | (simp [List.take_add_one, *]; done) | grind [List.take_add_one])⟩ ?_
    try clear E
    try clear S
    try clear a
    try clear w
    rintro i a w ⟨a3, a7, S, E, e9, f0⟩
    replace h0 := h0.le a7
    refine UK (QD 2 E Y fun _ B => Jc B Y Y ?_)
    clear E a B; intro a E
    refine Qz ?_
    refine Ql E Y (fun c8 => ?_) (fun c8 => ?_)
    ·refine YZ (Qn E Y fun _ B => Qt B Y Vn h0.len fun _ C => Qn C Y ?_)
     clear E a B C; intro a E
     refine ZH ?_
     replace S := S.re1 (l' := (JP i l0 ++ Yw i (l0.take 0)) ++ List.replicate (total l0 - (JP i l0 ++ Yw i (l0.take 0)).length) 0) (by first | (simp [Yw]; done) | (rw [YT (by assumption), List.getElem?_eq_none (by omega)]; simp; done) | (rw [← List.length_append]; refine qE ?_ ?_; rw [List.length_append]; exact Vu (by assumption) (by omega); rw [YT (by assumption)]; simp [*]; done))
     refine QN (γ := Nat) (fun (j : Nat) a w => ∃ (a1 : Hp), Hp.le a3 a1 ∧ St w a1 (Jg 3 a5 ((JP i l0 ++ Yw i (l0.take j)) ++ List.replicate (total l0 - (JP i l0 ++ Yw i (l0.take j)).length) 0) :: H) ∧ Env a 70 [] [(0, v0), (3, .int .i64 ((maxLen (l0.take k) : Nat) : Int)), (7, a5), (8, .int .i64 (((JP i l0).length + (Yw i (l0.take j)).length : Nat) : Int)), (9, .int .i64 ((i : Nat) : Int)), (44, .int .i64 (((l0).length : Nat) : Int)), (45, .int .i64 ((j : Nat) : Int))] ∧ (j ≤ (l0).length)) (fun j => ((l0).length) - j) 0 ⟨a3, lerf, S, E.keep ⟨Y, Y, Y, Jr (i := (JP i l0).length) Y (by ((try clear S); (try clear E); first | assumption | omega | rfl | (simp; done) | (simp_all; done) | (simp [List.take_add_one, *]; done) | grind [List.take_add_one])), Y, Y, Y, trivial⟩, by ((try clear S); (try clear E); first | assumption | omega | rfl | (simp; done) | (simp_all; done) | (simp [List.take_add_one, *]; done) | grind [List.take_add_one])⟩ ?_
     try clear E
     try clear S
     try clear a
     try clear w
     rintro j a w ⟨a1, a6, S, E, f1⟩
     replace h0 := h0.le a6
     have ht := qS i j l0
     refine Qs (Jc E Y Y ?_)
     clear E a; intro a E
     refine ZJ ?_
     refine Ql E Y (fun c9 => ?_) (fun c9 => ?_)
     ·refine YZ (QD 2 E Y fun _ B => Zp (QD 2 B Y ?_))
      clear E a B; intro a E
      obtain ⟨b2, b3⟩ : ∃ x, (l0)[j]? = some x := ⟨_, List.getElem?_eq_getElem (by first | omega | (simp; done) | (simp; omega) | (simp_all; omega))⟩
      obtain ⟨f2, f3, d0, d1, b4⟩ := h0.at b3
      have f4 := b4.bound
      refine QZ E Y Y Vn d0 Y fun _ B => Qb B Y Tryz.isAgg22 S.imm d1 fun _ C => Qt C Y QE b4.len fun _ D => JT (m := (((b2).length : Nat) : Int) - 1) D Y Y fun _ F => Qn F Y fun _ G => Jc G Y Y ?_
      clear E a B C D F G; intro a E
      refine Qz ?_
      refine Ql E Y (fun d2 => ?_) (fun d2 => ?_)
      ·refine J_z (Qp (m := ((j + 1 : Nat) : Int)) E Y Y fun _ B => Qn B Y ?_)
       clear E a B; intro a E
       refine Qz ?_
       replace S := S.re1 (l' := (JP i l0 ++ Yw i (l0.take (j + 1))) ++ List.replicate (total l0 - (JP i l0 ++ Yw i (l0.take (j + 1))).length) 0) (by first | (simp [Yw]; done) | (rw [YT (by assumption), List.getElem?_eq_none (by omega)]; simp; done) | (rw [← List.length_append]; refine qE ?_ ?_; rw [List.length_append]; exact Vu (by assumption) (by omega); rw [YT (by assumption)]; simp [*]; done))
       exact ⟨j + 1, ⟨a1, a6, S, E.keep ⟨Y, Y, Y, Jr (i := (JP i l0).length + (Yw i (l0.take j)).length) Y (by rw [YT (by assumption), List.length_append]; first | (rw [List.getElem?_eq_none (by omega)]; simp; done) | (simp [*]; omega)), Y, Y, Y, trivial⟩, by ((try clear S); (try clear E); first | assumption | omega | rfl | (simp; done) | (simp_all; done) | (simp [List.take_add_one, *]; done) | grind [List.take_add_one])⟩, by omega⟩
      ·refine VC (QD 4 E Y ?_)
       clear E a; intro a E
       obtain ⟨f5, f6, d3, d4, b5⟩ := h0.at b3
       have f7 := b5.bound
       refine QZ E Y Y Vn d3 Y fun _ B => Qb B Y Tryz.isAgg22 S.imm d4 fun _ C => Qn C Y ?_
       clear E a B C; intro a E
       obtain ⟨f8, d5⟩ : ∃ x, (b2)[i]? = some x := ⟨_, List.getElem?_eq_getElem (by first | omega | (have hq := Vu (i := i) (j := j) (ll := l0) (by assumption) (by omega); simp; omega))⟩
       obtain ⟨f9, d6, d7⟩ := b5.at d5
       refine QZ E Y Y QE d6 Y fun _ B => Qb B Y Tryz.isAgg3 S.imm d7 ?_
       clear E a B; intro a E
       obtain ⟨g0, b6⟩ := S.ptrC (k := (JP i l0).length + (Yw i (l0.take j)).length) (by first | omega | (have hq := Vu (i := i) (j := j) (ll := l0) (by assumption) (by omega); simp; omega))
       refine QZ E Y Y QE b6 Y ?_
       clear E a; intro a E
       refine Jm (YH E S Y Y (Tryz.sizeOf3 _) b6 ?_)
       clear E a S; rintro a w E S
       refine zw (Qn E Y fun _ B => Qp (m := (((JP i l0).length + (Yw i (l0.take j)).length + 1 : Nat) : Int)) B Y Y fun _ C => Qj C Y fun _ D => Wj (Qp (m := ((j + 1 : Nat) : Int)) D Y Y fun _ F => Qn F Y ?_))
       clear E a B C D F; intro a E
       refine Qz ?_
       replace S := S.re1 (l' := (JP i l0 ++ Yw i (l0.take (j + 1))) ++ List.replicate (total l0 - (JP i l0 ++ Yw i (l0.take (j + 1))).length) 0) (by first | (simp [Yw]; done) | (rw [YT (by assumption), List.getElem?_eq_none (by omega)]; simp; done) | (rw [← List.length_append]; refine qE ?_ ?_; rw [List.length_append]; exact Vu (by assumption) (by omega); rw [YT (by assumption)]; simp [*]; done))
       exact ⟨j + 1, ⟨a1, a6, S, E.keep ⟨Y, Y, Y, Jr (i := (JP i l0).length + (Yw i (l0.take j)).length + 1) Y (by rw [YT (by assumption), List.length_append]; first | (rw [List.getElem?_eq_none (by omega)]; simp; done) | (simp [*]; omega)), Y, Y, Y, trivial⟩, by ((try clear S); (try clear E); first | assumption | omega | rfl | (simp; done) | (simp_all; done) | (simp [List.take_add_one, *]; done) | grind [List.take_add_one])⟩, by omega⟩
     ·refine J_Aa (Qn E Y fun _ B => Qp (m := ((i + 1 : Nat) : Int)) B Y Y fun _ C => Qj C Y ?_)
      clear E a B C; intro a E
      refine Qz ?_
      replace S := S.re1 (l' := JP (i + 1) l0 ++ List.replicate (total l0 - (JP (i + 1) l0).length) 0) (by (try rw [YQ]); first | (simp [JP]; done) | (rw [show total (l0.take k) = total l0 by rw [List.take_of_length_le (by omega)]]; simp [JP]; done) | (rw [show Yw i l0 = Yw i (l0.take j) by rw [List.take_of_length_le (by omega)]]; done))
      exact ⟨i + 1, ⟨a1, (a7.trans a6), S, E.keep ⟨Y, Y, Y, Jr (i := (JP i l0).length + (Yw i (l0.take j)).length) Y (by (rw [YQ, List.length_append, show Yw i l0 = Yw i (l0.take j) by rw [List.take_of_length_le (by omega)]])), Y, trivial⟩, by ((try clear S); (try clear E); first | assumption | omega | rfl | (simp; done) | (simp_all; done) | (simp [List.take_add_one, *]; done) | grind [List.take_add_one]), by ((try clear S); (try clear E); first | assumption | omega | rfl | (simp; done) | (simp_all; done) | (simp [List.take_add_one, *]; done) | grind [List.take_add_one])⟩, by omega⟩
    ·refine VJ (QD 2 E Y ?_)
     clear E a; intro a E
     refine Jj ?_
     have S0 := S; clear S
     obtain ⟨d8, d9, e0, S⟩ := S0.freezeI (by (have hq := interP_le i l0; simp; omega))
     clear S0
     exact Qa E Tryz.results254 Y ⟨_, Y, d8, (a2.trans (a7.trans d9)), (QX.eqL e0 (by (have e := interL_eq (ll := l0) (k := i) (by omega); have e2 := GS l0; rw [e, e2]; simp))), S⟩
theorem jG {M : Hp} {v0 : Value} {l0 : List (List Int)} (h0 : Zf M v0 l0) (hb : total l0 ≤ 1000000000) :
  Pu Tryz.prog (.func (.func 177) #[] #[]) M [v0] (fun r M' => Qy M' r (yU l0)) := by
 refine Qd Tryz.func177 Y Tryz.ntmps177 Y Tryz.call177 ?_
 intro a w M1 H hM1 S E
 replace h0 := h0.le hM1
 have b0 := h0.bound
 refine Qs (Qj E Y fun _ B => QI (Qn B Y ?_))
 clear E a B; intro a E
 refine Qk (Qm E S Y Y Y (vV h0 (by omega)) lerf ?_)
 clear E a S; rintro a a3 w a0 a1 a2 S E
 refine Qj E Y ?_
 clear E a; intro a E
 refine Jj ?_
 exact Qa E Tryz.results177 Y ⟨_, Y, a0, a1, a2, S⟩
theorem Vl {M : Hp} {v0 : Value} {l0 : List (List Int)} (h0 : PF0M Tryz.prog v0 M l0) :
  Pu Tryz.prog (.func (.func 255) #[] #[]) M [v0] (fun r M' => ∃ t0, r = .tuple #[t0, .bool true] ∧ Zf M' t0 l0) := by
 refine Qd Tryz.func255 Y Tryz.ntmps255 Y Tryz.call255 ?_
 intro a w M1 H hM1 S E
 replace h0 := h0.le hM1
 refine Qs ?_
 refine Qk (Ja (cs := #[.slice none 0 0]) E S Y Tryz.zeroValue74 Y ?_)
 clear E a S; rintro a w a1 E S
 refine Qk (Ja (cs := #[.bool false]) E S Y Tryz.zeroValue4 Y ?_)
 clear E a S; rintro a w a2 E S
 refine QI (Qv E Y Y ?_)
 clear E a; intro a E
 refine S_defer E Y ?_
 clear E a; intro a E
 replace E : Env a 7 [⟨.fn (.func 318) #[.pointer (some ⟨a1, 0, none⟩), .pointer (some ⟨a2, 0, none⟩)], #[]⟩] _ := E
 refine QI (Qn E Y ?_)
 clear E a; intro a E
 refine Qk (Qm E S Y Y Y (h0.2 ) lerf ?_)
 clear E a S; rintro a a5 w a3 a4 a0 S E
 replace S := S.front1
 refine Jm (QS E S Y Y (Tryz.sizeOf74 _) (QX.one' a0) ?_)
 clear E a S; rintro a w E S
 replace S := S.front1
 refine Jm (QS E S Y Y (Tryz.sizeOf4 _) Y ?_)
 clear E a S; rintro a w E S
 refine Jj ?_
 replace S := S.front1
 exact F_retDC2 E S Tryz.results255 Y Y (fun w => Tryz.isAgg74 w) (fun w => Tryz.isAgg4 w) Tryz.call318 (fun w => qG Tryz.func318 Y Tryz.results318 Tryz.ntmps318 Y Y (by simp) (WI Tryz.underlying20)) ⟨_, Y, a3, a4, ⟨_, (by rfl), a0⟩, S.drop.drop⟩
theorem lo_Chunk {M : Hp} {v0 : Value} {l0 : List Int} (h0 : Qy M v0 l0){n1 : Nat} (hn : 0 < n1) (hb1 : n1 ≤ 1000000) (hb : l0.length ≤ 1000000) :
  Pu Tryz.prog (.func (.func 257) #[] #[]) M [v0, .int .i64 ((n1 : Nat) : Int)] (fun r M' => Zf M' r (chL n1 l0)) := by
 refine Qd Tryz.func257 Y Tryz.ntmps257 Y Tryz.call257 ?_
 intro a w M1 H hM1 S E
 replace h0 := h0.le hM1
 have b0 := h0.bound
 refine Qs (Qj E Y fun _ B => Zp (Qn B Y fun _ C => Vy C Y Y ?_))
 clear E a B C; intro a E
 refine Qz ?_
 have e0 : (decide (((n1 : Nat) : Int) ≤ 0)) = false := by (apply decide_eq_false; omega)
 refine QF E Y e0 ?_
 refine VC (Qn E Y fun _ B => Qt B Y QE h0.len fun _ C => Qn C Y fun _ D => e_quon (p := (l0).length) (q := n1) D Y Y (by omega) (by omega) fun _ F => Qj F Y fun _ G => Zp (Qn G Y fun _ I => Qt I Y QE h0.len fun _ J => Qn J Y fun _ K => e_remn (p := (l0).length) (q := n1) K Y Y (by omega) fun _ L => Wb L Y Y ?_))
 clear E a B C D F G I J K L; intro a E
 refine Qz ?_
 refine Ql E Y (fun e1 => ?_) (fun e1 => ?_)
 ·obtain ⟨qd, hxd⟩ : ∃ q, q = l0.length / n1 := ⟨_, rfl⟩
  have h1q := ceil_ok hn (m := l0.length) (by omega)
  rw [← hxd] at h1q
  have h0q := Nat.div_mul_le_self l0.length n1
  rw [← hxd] at h0q
  have h2q : qd ≤ l0.length := by rw [hxd]; exact Nat.div_le_self _ _
  have h3q : (qd + 1) * n1 = qd * n1 + n1 := Nat.succ_mul ..
  replace E := E.ival (t := 5) (c := ((qd : Nat) : Int)) Y (by omega)
  refine Qh (Qn E Y fun _ B => Qp (m := ((qd + 1 : Nat) : Int)) B Y Y fun _ C => Qj C Y fun _ D => QI (Qn D Y ?_))
  clear E a B C D; intro a E
  refine Qk (JD (k := qd + 1) E S Y Y Y Vn Y (by omega) (by omega) (by omega) ?_)
  clear E a S; rintro a w e2 E S
  have a4 : Zx (Vf 1 QB) 1 M1 ([] : List (List Int)) [] := Zx.nil
  replace S : St w M1 (Zk 22 1 e2 ([] : List (List Int)).length [] :: _) := S
  refine Qj E Y fun _ B => Zp (Qj B Y ?_)
  clear E a B; intro a E
  refine ZH ?_
  have hre : ([] : List (List Int)) = ZQ n1 n1 l0 0 := by first | rfl | exact YI _ _ _ _
  replace S := S.reR hre
  replace a4 := a4.eq hre
  clear hre
  refine QN (γ := Nat) (fun (k : Nat) a w => ∃ (a0 : Hp) (u6 : Value) (xs6 : List Value), Hp.le M1 a0 ∧ St w a0 (Zk 22 1 u6 (ZQ n1 n1 l0 k).length xs6 :: H) ∧ Env a 60 [] [(0, v0), (1, .int .i64 ((n1 : Nat) : Int)), (5, .int .i64 ((qd + 1 : Nat) : Int)), (6, u6), (7, .int .i64 ((k : Nat) : Int))] ∧ (k ≤ qd + 1) ∧ (k = 0 ∨ (k - 1) * n1 < l0.length) ∧ Zx (Vf 1 QB) 1 a0 (ZQ n1 n1 l0 k) xs6) (fun k => qd + 2 - k) 0 ⟨M1, _, _, lerf, S, E.keep ⟨Y, Y, Y, Y, Y, trivial⟩, (by omega), (by left; rfl), a4⟩ ?_
  try clear E
  try clear S
  try clear a
  try clear w
  rintro k a w ⟨a0, u6, xs6, a2, S, E, e3, e4, hr6⟩
  replace h0 := h0.le a2
  have hk0 : (k + 1) * n1 = k * n1 + n1 := Nat.succ_mul ..
  have hkd0 : k * n1 ≤ (qd + 1) * n1 := Nat.mul_le_mul_right _ (by omega)
  have hwl := ZI n1 n1 l0 k
  refine UK (QD 2 E Y fun _ B => Jc B Y Y ?_)
  clear E a B; intro a E
  refine Qz ?_
  refine Ql E Y (fun e5 => ?_) (fun e5 => ?_)
  ·have hkd : k * n1 ≤ qd * n1 := Nat.mul_le_mul_right _ (by omega)
   have hke : k + 1 ≤ qd → (k + 1) * n1 ≤ qd * n1 := fun h => Nat.mul_le_mul_right _ h
   refine YZ (Qn E Y fun _ B => Qp (m := ((k + 1 : Nat) : Int)) B Y Y fun _ C => Qn C Y fun _ D => UM (m := (((k + 1) * n1 : Nat) : Int)) D Y Y fun _ F => Qj F Y fun _ G => Zp (QD 2 G Y fun _ I => Qt I Y QE h0.len fun _ J => Ys J Y Y ?_))
   clear E a B C D F G I J; intro a E
   refine Qz ?_
   refine Ql E Y (fun e6 => ?_) (fun e6 => ?_)
   ·refine Qh (Qn E Y fun _ B => Qt B Y QE h0.len fun _ C => Qj C Y fun _ D => QI (QD 3 D Y fun _ F => UM (m := ((k * n1 : Nat) : Int)) F Y Y fun _ G => JT (m := (((l0).length - (k * n1) : Nat) : Int)) G Y Y ?_))
    clear E a B C D F G; intro a E
    refine Qk (YM (k := (l0).length - (k * n1)) E S Y Y Y QE (by omega) (by omega) (by omega) (by omega) ?_)
    clear E a S; rintro a w e7 E S
    replace S := S.madeI
    refine Qj E Y fun _ B => QI (QD 4 B Y fun _ C => UM (m := ((k * n1 : Nat) : Int)) C Y Y fun _ D => Qn D Y ?_)
    clear E a B C D; intro a E
    obtain ⟨e8, e9, a5⟩ := h0.subv (k * n1) ((l0).length) (by omega) (by omega)
    replace a5 : Qy a0 e8 (((l0).take ((l0).length)).drop (k * n1)) := a5
    refine JX E Y Y Y QE e9 ?_
    clear E a; intro a E
    refine Qk (VY (xs := (List.replicate ((l0).length - (k * n1)) (0 : Int))) (ys := ((l0).take ((l0).length)).drop (k * n1)) E S Y Y Y QE a5 ?_)
    clear E a S; rintro a w E S
    replace S := S.re1 (l' := (l0.drop (k * n1)).take n1) (by ((rw [ck_cutL (by omega)]; exact zj (by rw [List.length_take, List.length_drop]; omega))))
    refine zw (QD 2 E Y ?_)
    clear E a; intro a E
    have S0 := S; clear S
    obtain ⟨g7, a6, c7, S⟩ := S0.freezeI (by ((simp; omega)))
    clear S0
    replace h0 := h0.le a6
    replace hr6 := hr6.le (JE Jp) a6
    refine Qk (Yg (R := Vf 1 QB) (vs := [e7]) (xs := [(l0.drop (k * n1)).take n1]) (JE Jp) E S Y Vn Y Y Y (by intro u hu; simp only [List.mem_cons, List.not_mem_nil, or_false] at hu; rcases hu with rfl <;> first | exact Qy.one c7 | rfl) Y (Ve (R := Vf 1 QB) (Qy.row c7) UE) ?_)
    clear E a S; rintro a f0 w c8 a7 a8 S E
    replace a8 : Zf c8 f0 [(l0.drop (k * n1)).take n1] := a8
    replace h0 := h0.le a7
    replace hr6 := hr6.le (JE Jp) a7
    refine Qk (VR (R := (Vf 1 QB)) (zs := ZQ n1 n1 l0 k) (ys := [(l0.drop (k * n1)).take n1]) E S hr6 Y Y Y Vn a8 Gu (by (simp only [ZI, List.length_cons, List.length_nil]; omega)) (by (simp only [ZI, List.length_cons, List.length_nil]; omega)) ?_)
    clear E a S; rintro a w g8 g9 E a9 S
    refine Qj E Y fun _ B => Wj (Qn B Y fun _ C => Qp (m := ((k + 1 : Nat) : Int)) C Y Y fun _ D => Qj D Y ?_)
    clear E a B C D; intro a E
    refine Qz ?_
    have hre : (ZQ n1 n1 l0 k) ++ [(l0.drop (k * n1)).take n1] = ZQ n1 n1 l0 (k + 1) := by first | rfl | exact YI _ _ _ _
    replace S := S.reR hre
    replace a9 := a9.eq hre
    clear hre
    exact ⟨k + 1, ⟨c8, _, _, (a2.trans (a6.trans a7)), S, E.keep ⟨Y, Y, Y, Y, Y, trivial⟩, (by omega), (by right; simp only [Nat.add_sub_cancel]; first | omega | (have h9 := hke (by omega); omega)), a9⟩, by omega⟩
   ·refine VC (QD 3 E Y fun _ B => UM (m := ((k * n1 : Nat) : Int)) B Y Y fun _ C => JT (m := (((k + 1) * n1 - (k * n1) : Nat) : Int)) C Y Y ?_)
    clear E a B C; intro a E
    refine Qk (YM (k := (k + 1) * n1 - (k * n1)) E S Y Y Y QE (by omega) (by omega) (by omega) (by omega) ?_)
    clear E a S; rintro a w f1 E S
    replace S := S.madeI
    refine Qj E Y fun _ B => QI (QD 4 B Y fun _ C => UM (m := ((k * n1 : Nat) : Int)) C Y Y fun _ D => Qn D Y ?_)
    clear E a B C D; intro a E
    obtain ⟨f2, f3, b1⟩ := h0.subv (k * n1) ((k + 1) * n1) (by omega) (by omega)
    replace b1 : Qy a0 f2 (((l0).take ((k + 1) * n1)).drop (k * n1)) := b1
    refine JX E Y Y Y QE f3 ?_
    clear E a; intro a E
    refine Qk (VY (xs := (List.replicate ((k + 1) * n1 - (k * n1)) (0 : Int))) (ys := ((l0).take ((k + 1) * n1)).drop (k * n1)) E S Y Y Y QE b1 ?_)
    clear E a S; rintro a w E S
    replace S := S.re1 (l' := (l0.drop (k * n1)).take n1) (by ((rw [ck_cut (by omega)]; exact zj (by rw [List.length_take, List.length_drop]; omega))))
    refine zw (QD 2 E Y ?_)
    clear E a; intro a E
    have S0 := S; clear S
    obtain ⟨h1, b2, c9, S⟩ := S0.freezeI (by ((simp; omega)))
    clear S0
    replace h0 := h0.le b2
    replace hr6 := hr6.le (JE Jp) b2
    refine Qk (Yg (R := Vf 1 QB) (vs := [f1]) (xs := [(l0.drop (k * n1)).take n1]) (JE Jp) E S Y Vn Y Y Y (by intro u hu; simp only [List.mem_cons, List.not_mem_nil, or_false] at hu; rcases hu with rfl <;> first | exact Qy.one c9 | rfl) Y (Ve (R := Vf 1 QB) (Qy.row c9) UE) ?_)
    clear E a S; rintro a f4 w d0 b3 b4 S E
    replace b4 : Zf d0 f4 [(l0.drop (k * n1)).take n1] := b4
    replace h0 := h0.le b3
    replace hr6 := hr6.le (JE Jp) b3
    refine Qk (VR (R := (Vf 1 QB)) (zs := ZQ n1 n1 l0 k) (ys := [(l0.drop (k * n1)).take n1]) E S hr6 Y Y Y Vn b4 Gu (by (simp only [ZI, List.length_cons, List.length_nil]; omega)) (by (simp only [ZI, List.length_cons, List.length_nil]; omega)) ?_)
    clear E a S; rintro a w h2 h3 E b5 S
    refine Qj E Y fun _ B => Wj (Qn B Y fun _ C => Qp (m := ((k + 1 : Nat) : Int)) C Y Y fun _ D => Qj D Y ?_)
    clear E a B C D; intro a E
    refine Qz ?_
    have hre : (ZQ n1 n1 l0 k) ++ [(l0.drop (k * n1)).take n1] = ZQ n1 n1 l0 (k + 1) := by first | rfl | exact YI _ _ _ _
    replace S := S.reR hre
    replace b5 := b5.eq hre
    clear hre
    exact ⟨k + 1, ⟨d0, _, _, (a2.trans (b2.trans b3)), S, E.keep ⟨Y, Y, Y, Y, Y, trivial⟩, (by omega), (by right; simp only [Nat.add_sub_cancel]; first | omega | (have h9 := hke (by omega); omega)), b5⟩, by omega⟩
  ·refine VJ (QD 2 E Y ?_)
   clear E a; intro a E
   refine Jj ?_
   have S0 := S; clear S
   obtain ⟨d1, d2, b6, S⟩ := S0.freezeR hr6 (JE Jp) (by (omega))
   clear S0
   replace b6 : Zf d1 u6 (ZQ n1 n1 l0 k) := b6
   replace h0 := h0.le d2
   exact Qa E Tryz.results257 Y ⟨_, Y, d1, (a2.trans d2), (QX.eqL b6 (by (symm; exact win_chL hn (Nat.le_trans h1q.1 (Nat.mul_le_mul_right _ (by omega))) (by assumption)))), S⟩
 ·obtain ⟨qd, hxd⟩ : ∃ q, q = l0.length / n1 := ⟨_, rfl⟩
  have h1q := ceil_ok0 hn (m := l0.length) (by omega)
  rw [← hxd] at h1q
  have h0q := Nat.div_mul_le_self l0.length n1
  rw [← hxd] at h0q
  have h2q : qd ≤ l0.length := by rw [hxd]; exact Nat.div_le_self _ _
  have h3q : (qd + 1) * n1 = qd * n1 + n1 := Nat.succ_mul ..
  replace E := E.ival (t := 5) (c := ((qd : Nat) : Int)) Y (by omega)
  refine VC (Qn E Y ?_)
  clear E a; intro a E
  refine Qk (JD (k := qd) E S Y Y Y Vn Y (by omega) (by omega) (by omega) ?_)
  clear E a S; rintro a w f5 E S
  have b7 : Zx (Vf 1 QB) 1 M1 ([] : List (List Int)) [] := Zx.nil
  replace S : St w M1 (Zk 22 1 f5 ([] : List (List Int)).length [] :: _) := S
  refine Qj E Y fun _ B => Zp (Qj B Y ?_)
  clear E a B; intro a E
  refine ZH ?_
  have hre : ([] : List (List Int)) = ZQ n1 n1 l0 0 := by first | rfl | exact YI _ _ _ _
  replace S := S.reR hre
  replace b7 := b7.eq hre
  clear hre
  refine QN (γ := Nat) (fun (k : Nat) a w => ∃ (a1 : Hp) (u6 : Value) (xs6 : List Value), Hp.le M1 a1 ∧ St w a1 (Zk 22 1 u6 (ZQ n1 n1 l0 k).length xs6 :: H) ∧ Env a 60 [] [(0, v0), (1, .int .i64 ((n1 : Nat) : Int)), (5, .int .i64 ((qd : Nat) : Int)), (6, u6), (7, .int .i64 ((k : Nat) : Int))] ∧ (k ≤ qd + 1) ∧ (k = 0 ∨ (k - 1) * n1 < l0.length) ∧ Zx (Vf 1 QB) 1 a1 (ZQ n1 n1 l0 k) xs6) (fun k => qd + 2 - k) 0 ⟨M1, _, _, lerf, S, E.keep ⟨Y, Y, Y, Y, Y, trivial⟩, (by omega), (by left; rfl), b7⟩ ?_
  try clear E
  try clear S
  try clear a
  try clear w
  rintro k a w ⟨a1, u6, xs6, a3, S, E, e3, e4, hr6⟩
  replace h0 := h0.le a3
  have hk0 : (k + 1) * n1 = k * n1 + n1 := Nat.succ_mul ..
  have hkd0 : k * n1 ≤ (qd + 1) * n1 := Nat.mul_le_mul_right _ (by omega)
  have hwl := ZI n1 n1 l0 k
  refine UK (QD 2 E Y fun _ B => Jc B Y Y ?_)
  clear E a B; intro a E
  refine Qz ?_
  refine Ql E Y (fun f6 => ?_) (fun f6 => ?_)
  ·have hkd : k * n1 ≤ qd * n1 := Nat.mul_le_mul_right _ (by omega)
   have hke : k + 1 ≤ qd → (k + 1) * n1 ≤ qd * n1 := fun h => Nat.mul_le_mul_right _ h
   refine YZ (Qn E Y fun _ B => Qp (m := ((k + 1 : Nat) : Int)) B Y Y fun _ C => Qn C Y fun _ D => UM (m := (((k + 1) * n1 : Nat) : Int)) D Y Y fun _ F => Qj F Y fun _ G => Zp (QD 2 G Y fun _ I => Qt I Y QE h0.len fun _ J => Ys J Y Y ?_))
   clear E a B C D F G I J; intro a E
   refine Qz ?_
   refine Ql E Y (fun f7 => ?_) (fun f7 => ?_)
   ·refine Qh (Qn E Y fun _ B => Qt B Y QE h0.len fun _ C => Qj C Y fun _ D => QI (QD 3 D Y fun _ F => UM (m := ((k * n1 : Nat) : Int)) F Y Y fun _ G => JT (m := (((l0).length - (k * n1) : Nat) : Int)) G Y Y ?_))
    clear E a B C D F G; intro a E
    refine Qk (YM (k := (l0).length - (k * n1)) E S Y Y Y QE (by omega) (by omega) (by omega) (by omega) ?_)
    clear E a S; rintro a w f8 E S
    replace S := S.madeI
    refine Qj E Y fun _ B => QI (QD 4 B Y fun _ C => UM (m := ((k * n1 : Nat) : Int)) C Y Y fun _ D => Qn D Y ?_)
    clear E a B C D; intro a E
    obtain ⟨f9, g0, b8⟩ := h0.subv (k * n1) ((l0).length) (by omega) (by omega)
    replace b8 : Qy a1 f9 (((l0).take ((l0).length)).drop (k * n1)) := b8
    refine JX E Y Y Y QE g0 ?_
    clear E a; intro a E
    refine Qk (VY (xs := (List.replicate ((l0).length - (k * n1)) (0 : Int))) (ys := ((l0).take ((l0).length)).drop (k * n1)) E S Y Y Y QE b8 ?_)
    clear E a S; rintro a w E S
    replace S := S.re1 (l' := (l0.drop (k * n1)).take n1) (by ((rw [ck_cutL (by omega)]; exact zj (by rw [List.length_take, List.length_drop]; omega))))
    refine zw (QD 2 E Y ?_)
    clear E a; intro a E
    have S0 := S; clear S
    obtain ⟨h4, b9, d3, S⟩ := S0.freezeI (by (omega))
    clear S0
    replace h0 := h0.le b9
    replace hr6 := hr6.le (JE Jp) b9
    refine Qk (Yg (R := Vf 1 QB) (vs := [f8]) (xs := [(l0.drop (k * n1)).take n1]) (JE Jp) E S Y Vn Y Y Y (by intro u hu; simp only [List.mem_cons, List.not_mem_nil, or_false] at hu; rcases hu with rfl <;> first | exact Qy.one d3 | rfl) Y (Ve (R := Vf 1 QB) (Qy.row d3) UE) ?_)
    clear E a S; rintro a g1 w d4 c0 c1 S E
    replace c1 : Zf d4 g1 [(l0.drop (k * n1)).take n1] := c1
    replace h0 := h0.le c0
    replace hr6 := hr6.le (JE Jp) c0
    refine Qk (VR (R := (Vf 1 QB)) (zs := ZQ n1 n1 l0 k) (ys := [(l0.drop (k * n1)).take n1]) E S hr6 Y Y Y Vn c1 Gu (by (simp only [ZI, List.length_cons, List.length_nil]; omega)) (by (simp only [ZI, List.length_cons, List.length_nil]; omega)) ?_)
    clear E a S; rintro a w h5 h6 E c2 S
    refine Qj E Y fun _ B => Wj (Qn B Y fun _ C => Qp (m := ((k + 1 : Nat) : Int)) C Y Y fun _ D => Qj D Y ?_)
    clear E a B C D; intro a E
    refine Qz ?_
    have hre : (ZQ n1 n1 l0 k) ++ [(l0.drop (k * n1)).take n1] = ZQ n1 n1 l0 (k + 1) := by first | rfl | exact YI _ _ _ _
    replace S := S.reR hre
    replace c2 := c2.eq hre
    clear hre
    exact ⟨k + 1, ⟨d4, _, _, (a3.trans (b9.trans c0)), S, E.keep ⟨Y, Y, Y, Y, Y, trivial⟩, (by omega), (by right; simp only [Nat.add_sub_cancel]; first | omega | (have h9 := hke (by omega); omega)), c2⟩, by omega⟩
   ·refine VC (QD 3 E Y fun _ B => UM (m := ((k * n1 : Nat) : Int)) B Y Y fun _ C => JT (m := (((k + 1) * n1 - (k * n1) : Nat) : Int)) C Y Y ?_)
    clear E a B C; intro a E
    refine Qk (YM (k := (k + 1) * n1 - (k * n1)) E S Y Y Y QE (by omega) (by omega) (by omega) (by omega) ?_)
    clear E a S; rintro a w g2 E S
    replace S := S.madeI
    refine Qj E Y fun _ B => QI (QD 4 B Y fun _ C => UM (m := ((k * n1 : Nat) : Int)) C Y Y fun _ D => Qn D Y ?_)
    clear E a B C D; intro a E
    obtain ⟨g3, g4, c3⟩ := h0.subv (k * n1) ((k + 1) * n1) (by omega) (by omega)
    replace c3 : Qy a1 g3 (((l0).take ((k + 1) * n1)).drop (k * n1)) := c3
    refine JX E Y Y Y QE g4 ?_
    clear E a; intro a E
    refine Qk (VY (xs := (List.replicate ((k + 1) * n1 - (k * n1)) (0 : Int))) (ys := ((l0).take ((k + 1) * n1)).drop (k * n1)) E S Y Y Y QE c3 ?_)
    clear E a S; rintro a w E S
    replace S := S.re1 (l' := (l0.drop (k * n1)).take n1) (by ((rw [ck_cut (by omega)]; exact zj (by rw [List.length_take, List.length_drop]; omega))))
    refine zw (QD 2 E Y ?_)
    clear E a; intro a E
    have S0 := S; clear S
    obtain ⟨h7, d5, d6, S⟩ := S0.freezeI (by ((simp; omega)))
    clear S0
    replace hr6 := hr6.le (JE Jp) d5
    refine Qk (Yg (R := Vf 1 QB) (vs := [g2]) (xs := [(l0.drop (k * n1)).take n1]) (JE Jp) E S Y Vn Y Y Y (by intro u hu; simp only [List.mem_cons, List.not_mem_nil, or_false] at hu; rcases hu with rfl <;> first | exact Qy.one d6 | rfl) Y (Ve (R := Vf 1 QB) (Qy.row d6) UE) ?_)
    clear E a S; rintro a g5 w d7 d8 c4 S E
    replace c4 : Zf d7 g5 [(l0.drop (k * n1)).take n1] := c4
    replace hr6 := hr6.le (JE Jp) d8
    refine Qk (VR (R := (Vf 1 QB)) (zs := ZQ n1 n1 l0 k) (ys := [(l0.drop (k * n1)).take n1]) E S hr6 Y Y Y Vn c4 Gu (by (simp only [ZI, List.length_cons, List.length_nil]; omega)) (by (simp only [ZI, List.length_cons, List.length_nil]; omega)) ?_)
    clear E a S; rintro a w h8 i0 E c5 S
    refine Qj E Y fun _ B => Wj (Qn B Y fun _ C => Qp (m := ((k + 1 : Nat) : Int)) C Y Y fun _ D => Qj D Y ?_)
    clear E a B C D; intro a E
    refine Qz ?_
    have hre : (ZQ n1 n1 l0 k) ++ [(l0.drop (k * n1)).take n1] = ZQ n1 n1 l0 (k + 1) := by first | rfl | exact YI _ _ _ _
    replace S := S.reR hre
    replace c5 := c5.eq hre
    clear hre
    exact ⟨k + 1, ⟨d7, _, _, (a3.trans (d5.trans d8)), S, E.keep ⟨Y, Y, Y, Y, Y, trivial⟩, (by omega), (by right; simp only [Nat.add_sub_cancel]; first | omega | (have h9 := hke (by omega); omega)), c5⟩, by omega⟩
  ·refine VJ (QD 2 E Y ?_)
   clear E a; intro a E
   refine Jj ?_
   have S0 := S; clear S
   obtain ⟨d9, g6, c6, S⟩ := S0.freezeR hr6 (JE Jp) (by (omega))
   clear S0
   replace c6 : Zf d9 u6 (ZQ n1 n1 l0 k) := c6
   exact Qa E Tryz.results257 Y ⟨_, Y, d9, (a3.trans g6), (QX.eqL c6 (by (symm; exact win_chL hn (Nat.le_trans h1q.1 (Nat.mul_le_mul_right _ (by omega))) (by assumption)))), S⟩
theorem impl_Chunk1 {M : Hp} {v0 : Value} {l0 : List Int} {n1 : Nat} (hn : 0 < n1) (hb1 : n1 ≤ 1000000) (hb : l0.length ≤ 1000000) {bx0 bx1 : Nat} (hbx0 : M bx0 = some (.cells #[v0] 22)) (h0 : Qy M v0 l0) (hbx1 : M bx1 = some (.cells #[.int .i64 (n1 : Int)] 3)) :
  Pu Tryz.prog (.func (.func 256) #[] #[.pointer (some ⟨bx0, 0, none⟩), .pointer (some ⟨bx1, 0, none⟩)]) M [] (fun r M' => Zf M' r (chL n1 l0)) := by
 refine Qd Tryz.func256 Y Tryz.ntmps256 Y Tryz.call256 ?_
 intro a w M1 H hM1 S E
 replace hbx0 := hM1.2 _ _ hbx0
 replace hbx1 := hM1.2 _ _ hbx1
 replace h0 := h0.le hM1
 have b0 := h0.bound
 refine Qs (Qj E Y fun _ B => QI (Qb B Y Tryz.isAgg22 S.imm (Qf hbx0) fun _ C => Qb C Y Tryz.isAgg3 S.imm (Qf hbx1) ?_))
 clear E a B C; intro a E
 refine Qk (Qm E S Y Y Y (lo_Chunk h0 (by omega) (by omega) (by omega)) lerf ?_)
 clear E a S; rintro a a3 w a0 a1 a2 S E
 refine Qj E Y ?_
 clear E a; intro a E
 refine Jj ?_
 exact Qa E Tryz.results256 Y ⟨_, Y, a0, a1, a2, S⟩
theorem impl_trieds1R (b b' : Nat) (T : TypeId) (u : Value) (w : World) {v v' : Value} {e e' : TypeId} (h : w.heap[b]? = some (.cells #[v] e)) (h' : (w.setCell ⟨b, 0, none⟩ (.slice none 0 0)).heap[b']? = some (.cells #[v'] e')) :
  CallsDIn (Fw none) 0 Tryz.prog 318 #[.pointer (some ⟨b, 0, none⟩), .pointer (some ⟨b', 0, none⟩)] (.panicking [{ v := .iface T u, recovered := false }]) w
   (fun e u' w' => e = .returned (.tuple #[]) ∧ u' = .panicking [{ v := .iface T u, recovered := true }] ∧ w' = (w.setCell ⟨b, 0, none⟩ (.slice none 0 0)).setCell ⟨b', 0, none⟩ (.bool false)) := by
 have hc : w.cell? ⟨b, 0, none⟩ = some v := by simp [World.cell?, h]
 have hf : w.frozen? ⟨b, 0, none⟩ = false := by simp [World.frozen?, h]
 have hc' : (w.setCell ⟨b, 0, none⟩ (.slice none 0 0)).cell? ⟨b', 0, none⟩ = some v' := by simp [World.cell?, h']
 have hf' : (w.setCell ⟨b, 0, none⟩ (.slice none 0 0)).frozen? ⟨b', 0, none⟩ = false := by simp [World.frozen?, h']
 refine callsDIn_of_wpSIn Tryz.func318 Y trivial fun c₀ cs hu => ?_
 apply wpSIn_seq
 apply wpSIn_region
 simp [wpOpsSIn, go_sem, recoverD, hu, Tryz.ntmps318, Exit.thenS]
 refine wpSIn_cond (t := true) (by simp [Act.eval, Array.replicate]) ?_
 simp only [if_true]
 apply wpSIn_region
 simp [wpOpsSIn, go_sem, hc, hf, hc', hf', bodyPostS, results, Tryz.results318, Tryz.sizeOf74]
theorem qT {M : Hp} {v0 : Value} (h0 : PF0P Tryz.prog v0 M) :
  Pu Tryz.prog (.func (.func 255) #[] #[]) M [v0] (fun r M' => ∃ t0, r = .tuple #[t0, .bool false] ∧ Zf M' t0 ([] : List (List Int))) := by
 refine Qd Tryz.func255 Y Tryz.ntmps255 Y Tryz.call255 ?_
 intro a w M1 H hM1 S E
 replace h0 := h0.le hM1
 refine Qs ?_
 refine Qk (Ja (cs := #[.slice none 0 0]) E S Y Tryz.zeroValue74 Y ?_)
 clear E a S; rintro a w a0 E S
 refine Qk (Ja (cs := #[.bool false]) E S Y Tryz.zeroValue4 Y ?_)
 clear E a S; rintro a w a1 E S
 refine QI (Qv E Y Y ?_)
 clear E a; intro a E
 refine S_defer E Y ?_
 clear E a; intro a E
 replace E : Env a 7 [⟨.fn (.func 318) #[.pointer (some ⟨a0, 0, none⟩), .pointer (some ⟨a1, 0, none⟩)], #[]⟩] _ := E
 refine QI (Qn E Y ?_)
 clear E a; intro a E
 replace S := S.front1
 exact Qk (X_puP E S Y Y (h0.2) lerf (fun _ _ w M_ h S => F_panicDC2 E S Tryz.results255 Y Y (fun w => Tryz.isAgg74 w) (fun w => Tryz.isAgg4 w) Tryz.call318 (fun w h1 h2 => impl_trieds1R _ _ _ _ w h1 h2) (fun w S => ⟨_, Y, M_, ((lerf).trans h), ⟨_, Y, QX.nil _⟩, S.drop.drop⟩)))
theorem lo_ChunkP {M : Hp} {v0 : Value} {n1 : Nat} (hz : n1 = 0) :
  PuP Tryz.prog (.func (.func 257) #[] #[]) M [v0, .int .i64 ((n1 : Nat) : Int)] := by
 refine GI Tryz.func257 Y Tryz.ntmps257 Y Tryz.call257 ?_
 intro a w M1 H hM1 S E
 refine Qs (Qj E Y fun _ B => Zp (Qn B Y fun _ C => Vy C Y Y ?_))
 clear E a B C; intro a E
 refine Qz ?_
 have a0 : (decide (((n1 : Nat) : Int) ≤ 0)) = true := by (apply decide_eq_true; omega)
 refine QY E Y a0 ?_
 refine Qh (S_w E (R_ifaceS E Y Tryz.underlying9) ?_)
 clear E a; intro a E
 exact Jm (X_panic E Y (F_panic E ⟨_, _, Y, M1, lerf, S⟩))
theorem impl_Chunk1P {M : Hp} {v0 : Value} {l0 : List Int} {n1 : Nat} (hz : n1 = 0) {bx0 bx1 : Nat} (hbx0 : M bx0 = some (.cells #[v0] 22)) (h0 : Qy M v0 l0) (hbx1 : M bx1 = some (.cells #[.int .i64 (n1 : Int)] 3)) :
  PuP Tryz.prog (.func (.func 256) #[] #[.pointer (some ⟨bx0, 0, none⟩), .pointer (some ⟨bx1, 0, none⟩)]) M [] := by
 refine GI Tryz.func256 Y Tryz.ntmps256 Y Tryz.call256 ?_
 intro a w M1 H hM1 S E
 replace hbx0 := hM1.2 _ _ hbx0
 replace hbx1 := hM1.2 _ _ hbx1
 refine Qs (Qj E Y fun _ B => QI (Qb B Y Tryz.isAgg22 S.imm (Qf hbx0) fun _ C => Qb C Y Tryz.isAgg3 S.imm (Qf hbx1) ?_))
 clear E a B C; intro a E
 exact Qk (X_puP E S Y Y (lo_ChunkP (by assumption)) lerf (fun _ _ w M_ h S => F_panic E ⟨_, _, Y, M_, ((lerf).trans h), S⟩))
theorem vm {M : Hp} {v0 : Value} {l0 : List Int} (h0 : Qy M v0 l0){n1 : Nat} (hn : 0 < n1) (hb1 : n1 ≤ 1000000) (hb : l0.length ≤ 1000000) :
  Pu Tryz.prog (.func (.func 178) #[] #[]) M [v0, .int .i64 ((n1 : Nat) : Int)] (fun r M' => ∃ t0, r = .tuple #[t0, .bool true] ∧ Zf M' t0 (chL n1 l0)) := by
 refine Qd Tryz.func178 Y Tryz.ntmps178 Y Tryz.call178 ?_
 intro a w M1 H hM1 S E
 replace h0 := h0.le hM1
 have b0 := h0.bound
 refine Qs ?_
 refine Qk (QA (cs := #[v0]) E S Y Y (cells_one (QX.one' h0)) ?_)
 clear E a S; rintro a w a7 E S
 obtain ⟨a8, a3, a0, S⟩ := S.freezeB
 replace h0 := h0.le a3
 refine Qk (QA (cs := #[.int .i64 ((n1 : Nat) : Int)]) E S Y Y Y ?_)
 clear E a S; rintro a w a9 E S
 obtain ⟨b1, a1, a4, S⟩ := S.freezeB
 replace h0 := h0.le a1
 replace a0 := a1.2 _ _ a0
 refine QD 2 E Y fun _ B => QI (Qv B Y Y ?_)
 clear E a B; intro a E
 refine Qk (Qm E S Y Y Y (Vl ⟨Y, impl_Chunk1  (by omega) (by omega) (by omega) a0 h0 a4⟩) lerf ?_)
 clear E a S; rintro a _ w a5 a2 ⟨b2, rfl, a6⟩ S E
 replace h0 := h0.le a2
 replace a0 := a2.2 _ _ a0
 replace a4 := a2.2 _ _ a4
 refine Qg E Y Y fun _ B => Qg B Y Y fun _ C => QD 2 C Y ?_
 clear E a B C; intro a E
 refine Jj ?_
 exact Zr E Tryz.results178 Y Y ⟨_, Y, a5, (a3.trans (a1.trans a2)), ⟨_, (by rfl), (QX.eqL a6 (by (rfl)))⟩, S⟩
theorem jM {M : Hp} {v0 : Value} {l0 : List Int} (h0 : Qy M v0 l0){n1 : Nat} (hz : n1 = 0) :
  Pu Tryz.prog (.func (.func 178) #[] #[]) M [v0, .int .i64 ((n1 : Nat) : Int)] (fun r M' => ∃ t0, r = .tuple #[t0, .bool false] ∧ Zf M' t0 ([] : List (List Int))) := by
 refine Qd Tryz.func178 Y Tryz.ntmps178 Y Tryz.call178 ?_
 intro a w M1 H hM1 S E
 replace h0 := h0.le hM1
 have b0 := h0.bound
 refine Qs ?_
 refine Qk (QA (cs := #[v0]) E S Y Y (cells_one (QX.one' h0)) ?_)
 clear E a S; rintro a w a7 E S
 obtain ⟨a8, a3, a0, S⟩ := S.freezeB
 replace h0 := h0.le a3
 refine Qk (QA (cs := #[.int .i64 ((n1 : Nat) : Int)]) E S Y Y Y ?_)
 clear E a S; rintro a w a9 E S
 obtain ⟨b1, a1, a4, S⟩ := S.freezeB
 replace h0 := h0.le a1
 replace a0 := a1.2 _ _ a0
 refine QD 2 E Y fun _ B => QI (Qv B Y Y ?_)
 clear E a B; intro a E
 refine Qk (Qm E S Y Y Y (qT ⟨Y, impl_Chunk1P  (by assumption) a0 h0 a4⟩) lerf ?_)
 clear E a S; rintro a _ w a5 a2 ⟨b2, rfl, a6⟩ S E
 replace h0 := h0.le a2
 refine Qg E Y Y fun _ B => Qg B Y Y fun _ C => QD 2 C Y ?_
 clear E a B C; intro a E
 refine Jj ?_
 exact Zr E Tryz.results178 Y Y ⟨_, Y, a5, (a3.trans (a1.trans a2)), ⟨_, (by rfl), a6⟩, S⟩
theorem impl_Chunk {M : Hp} {v0 : Value} {l0 : List Int} (h0 : Qy M v0 l0){n1 : Nat} (hb1 : n1 ≤ 1000000) (hb : l0.length ≤ 1000000) :
  Pu Tryz.prog (.func (.func 178) #[] #[]) M [v0, .int .i64 ((n1 : Nat) : Int)] (fun r M' => ∃ t0, r = .tuple #[t0, .bool (decide (0 < n1))] ∧ Zf M' t0 (zX n1 l0)) := by
 rcases Nat.eq_zero_or_pos n1 with h | h
 ·have h9 := jM (M := M) h0 h
  subst h; exact h9
 ·have h9 := vm (M := M) h0 h hb1 hb
  rw [qn h, decide_eq_true h]; exact h9
theorem WX {M : Hp} {v0 : Value} {l0 : List (List Int)} (h0 : Zf M v0 l0) (hb : total l0 ≤ 1000000000) :
  Pu Tryz.prog (.func (.func 120) #[] #[]) M [v0] (fun r M' => Qy M' r ((l0).flatten)) := by
 refine Qd Tryz.func120 Y Tryz.ntmps120 Y Tryz.call120 ?_
 intro a w M1 H hM1 S E
 replace h0 := h0.le hM1
 have b0 := h0.bound
 refine Qs (Qj E Y fun _ B => QI (Qj B Y fun _ C => Zp (Qn C Y fun _ D => Qt D Y Vn h0.len fun _ F => Qn F Y ?_)))
 clear E a B C D F; intro a E
 refine ZH ?_
 replace S := (S.ownNil (e := 3) (sz := 1)).made0
 replace S := S.re1 (l' := (l0.take 0).flatten) (by (simp; done))
 refine QN (γ := Nat) (fun (k : Nat) a w => ∃ (a0 : Hp) (u3 : Value), Hp.le M1 a0 ∧ St w a0 (Jg 3 u3 ((l0.take k).flatten) :: H) ∧ Env a 17 [] [(3, u3), (6, v0), (7, .int .i64 (((l0).length : Nat) : Int)), (8, .int .i64 ((k : Nat) : Int))] ∧ (k ≤ (l0).length)) (fun k => ((l0).length) - k) 0 ⟨M1, _, lerf, S, E.keep ⟨Y, Y, Y, Y, trivial⟩, by (omega)⟩ ?_
 try clear E
 try clear S
 try clear a
 try clear w
 rintro k a w ⟨a0, u3, a1, S, E, b1⟩
 replace h0 := h0.le a1
 have ht := Jn l0 k; have hf := Yr (l0.take k)
 refine Qs (Jc E Y Y ?_)
 clear E a; intro a E
 refine ZJ ?_
 refine Ql E Y (fun a3 => ?_) (fun a3 => ?_)
 ·refine YZ ?_
  obtain ⟨b2, a4⟩ : ∃ x, (l0)[k]? = some x := ⟨_, List.getElem?_eq_getElem (by omega)⟩
  obtain ⟨b3, b4, a5, a6, a2⟩ := h0.at a4
  have b5 := a2.bound
  refine QZ E Y Y Vn a5 Y fun _ B => Qb B Y Tryz.isAgg22 S.imm a6 fun _ C => Qj C Y fun _ D => zw (QD 2 D Y ?_)
  clear E a B C D; intro a E
  refine Qk (JJ (xs := (l0.take k).flatten) E S Y Y Y QE a2 (by (have ht2 := Jn l0 (k+1); rw [Yj (by assumption)] at ht2; omega)) ?_)
  clear E a S; rintro a w b6 E S
  refine Qj E Y fun _ B => Wj (Qp (m := ((k + 1 : Nat) : Int)) B Y Y fun _ C => Qn C Y ?_)
  clear E a B C; intro a E
  refine Qz ?_
  replace S := S.re1 (l' := (l0.take (k + 1)).flatten) (by (rw [ZL (by assumption)]; done))
  exact ⟨k + 1, ⟨a0, _, a1, S, E.keep ⟨Y, Y, Y, Y, trivial⟩, by (omega)⟩, by omega⟩
 ·refine VJ (QD 2 E Y ?_)
  clear E a; intro a E
  refine Jj ?_
  have S0 := S; clear S
  obtain ⟨a7, a8, a9, S⟩ := S0.freezeI (by (have ht := Jn l0 k; rw [Yr]; omega))
  clear S0
  exact Qa E Tryz.results120 Y ⟨_, Y, a7, (a1.trans a8), (QX.eqL a9 (by (rw [List.take_of_length_le (by omega)]; done))), S⟩
theorem Uu {M : Hp} {v0 : Value} {l0 : List (List Int)} (h0 : Zf M v0 l0) {x1 : Bool} (hb : total l0 ≤ 1000000000) :
  Pu Tryz.prog (.func (.func 118) #[] #[]) M [v0, .bool x1] (fun r M' => Qy M' r (if x1 = true then (l0).flatten else [-7777])) := by
 refine Qd Tryz.func118 Y Tryz.ntmps118 Y Tryz.call118 ?_
 intro a w M1 H hM1 S E
 replace h0 := h0.le hM1
 refine Qs (Qj E Y fun _ B => Zp (Qn B Y fun _ C => Ji C Y ?_))
 clear E a B C; intro a E
 refine Qz ?_
 refine Jf E Y (fun a1 => ?_) (fun a1 => ?_)
 ·refine Je ?_
  refine Qh ?_
  refine Qk (QV (ys := [(-7777)]) E S Y QE Y Y Y ?_)
  clear E a S; rintro a w a7 E S
  refine Qj E Y ?_
  clear E a; intro a E
  refine UJ ?_
  have S0 := S; clear S
  obtain ⟨a2, a0, a3, S⟩ := S0.freezeI (by ((simp; done)))
  clear S0
  replace h0 := h0.le a0
  exact Qa E Tryz.results118 Y ⟨_, Y, a2, a0, (by rw [show (if x1 = true then (l0).flatten else [-7777]) = [(-7777)] from by (simp_all; done)]; exact a3), S⟩
 ·refine Qx ?_
  refine JZ (Qs (Qn E Y ?_))
  clear E a; intro a E
  refine Qk (Qm E S Y Y Y (WX h0 (by assumption)) lerf ?_)
  clear E a S; rintro a a8 w a4 a5 a6 S E
  refine Qj E Y ?_
  clear E a; intro a E
  refine Jj ?_
  exact Qa E Tryz.results118 Y ⟨_, Y, a4, a5, (QX.eqL a6 (by (simp_all; done))), S⟩
theorem yI {M : Hp} {v0 : Value} {l0 : List Int} (h0 : Qy M v0 l0){v1 : Value} {f1 : Int → Int} (h1 : jd Tryz.prog v1 M f1) (hb : l0.length ≤ 1000000000000) :
  Pu Tryz.prog (.func (.func 258) #[] #[]) M [v0, v1] (fun r M' => Zf M' r (JG f1 l0)) := by
 refine Qd Tryz.func258 Y Tryz.ntmps258 Y Tryz.call258 ?_
 intro a w M1 H hM1 S E
 replace h0 := h0.le hM1
 replace h1 := h1.le hM1
 have b0 := h0.bound
 refine Qs (Qj E Y ?_)
 clear E a; intro a E
 refine QI ?_
 refine Qk (Wg (vs := []) E S Y Vn Y Y Y (fun u hu => by simp at hu) ?_)
 clear E a S; rintro a w b2 E S
 replace S : St w M1 (VA 22 3 b2 ([] : List (List Int)) :: _) := newLL S
 refine Qj E Y ?_
 clear E a; intro a E
 refine QI ?_
 refine Qk (Uw E S Y ?_)
 clear E a S; rintro a w a3 E S
 replace S : St w M1 (Zd (Value.int .i64) a3 ([] : List (Int × Int)) :: _) := S
 refine Qj E Y fun _ B => Zp (Qn B Y fun _ D => Qt D Y QE h0.len fun _ F => Qn F Y ?_)
 clear E a B D F; intro a E
 refine ZH ?_
 replace S := S.front1.front1
 replace S := S.reM (L' := (Jd (Value.int .i64) (JS f1 (l0.take 0)))) (congrArg (Jd (Value.int .i64)) (show ([] : List (Int × Int)) = JS f1 (l0.take 0) by first | rfl | (simp [JG, JS, Zm]; done) | exact UR (by assumption) (by assumption) (by assumption) | exact UO (by assumption) (by assumption) | exact US (by assumption) (by assumption) | exact UP (by assumption) (by assumption)))
 replace S := S.front1
 replace S := reLL S (show ([] : List (List Int)) = JG f1 (l0.take 0) by first | rfl | (simp [JG, JS, Zm]; done) | exact UR (by assumption) (by assumption) (by assumption) | exact UO (by assumption) (by assumption) | exact US (by assumption) (by assumption) | exact UP (by assumption) (by assumption))
 refine QN (γ := Nat) (fun (k : Nat) a w => ∃ (a6 : Hp) (u5 : Value), Hp.le M1 a6 ∧ St w a6 (VA 22 3 u5 (JG f1 (l0.take k)) :: Zd (Value.int .i64) a3 (JS f1 (l0.take k)) :: H) ∧ Env a 58 [] [(0, v0), (1, v1), (5, u5), (6, .map (some a3)), (14, .int .i64 (((l0).length : Nat) : Int)), (15, .int .i64 ((k : Nat) : Int))] ∧ (k ≤ (l0).length)) (fun k => ((l0).length) - k) 0 ⟨M1, _, lerf, S, E.keep ⟨Y, Y, Y, Y, Y, Y, trivial⟩, by (omega)⟩ ?_
 try clear E
 try clear S
 try clear a
 try clear w
 rintro k a w ⟨a6, u5, a1, S, E, c5⟩
 replace h0 := h0.le a1
 replace h1 := h1.le a1
 refine Qs (Jc E Y Y ?_)
 clear E a; intro a E
 refine ZJ ?_
 refine Ql E Y (fun b3 => ?_) (fun b3 => ?_)
 ·refine YZ (QD 2 E Y fun _ B => QI (QD 3 B Y ?_))
  clear E a B; intro a E
  obtain ⟨a0, a4⟩ : ∃ x, (l0)[k]? = some x := ⟨_, List.getElem?_eq_getElem (by omega)⟩
  obtain ⟨c6, b4, a8⟩ := h0.at a4
  refine QZ E Y Y QE b4 Y fun _ B => Qb B Y Tryz.isAgg3 S.imm a8 ?_
  clear E a B; intro a E
  refine Qk (Qm E S Y Y Y (h1.2 a0) lerf ?_)
  clear E a S; rintro a _ w a5 a7 rfl S E
  replace h0 := h0.le a7
  refine Qj E Y fun _ B => QI (QD 2 B Y ?_)
  clear E a B; intro a E
  replace S := S.front1
  refine Qk (Yb (vf := (Value.int .i64)) (zb := (0 : Int)) E S Y MT150 Y Y ?_)
  clear E a S; rintro a w E S
  replace S : St w a5 (Zd (Value.int .i64) a3 (JS f1 (l0.take k)) :: _) := S
  refine Qn E Y fun _ B => Qg B Y Y fun _ D => Qg D Y Y fun _ F => QD 2 F Y fun _ G => QI (Qn G Y ?_)
  clear E a B D F G; intro a E
  refine Qz ?_
  refine Jf E Y (fun a9 => ?_) (fun a9 => ?_)
  ·obtain ⟨jx, hj1, hj2, hj3⟩ := seen_at a9
   replace E := E.ival (t := 9) (c := ((jx : Nat) : Int)) Y (by omega)
   replace S := S.front1
   have S0 := S; clear S
   obtain ⟨c7, rest_10, b5, l_12, b1, hl_14, back_15, S⟩ := lookLL jx (by omega) S0
   clear S0
   have qp_6k15 := a8
   have h0k15 := h0
   replace S := S.mono_heap (w' := World.drew _) rfl
   obtain ⟨b6, a2⟩ := S.ptrC (k := jx) (by omega)
   obtain ⟨c8, c9, d0⟩ := h0.at a4
   refine Jb (C := fun x w => agree a5 w ∧ (x = 5 → w.cell? b6 = some b5)) (bf := (fun i => bif Nat.beq i 10 then [] else bif Nat.beq i 11 then [5] else bif Nat.beq i 13 then [5] else [])) [0, 1, 2, 3, 4, 5, 6, 7, 8, 9, 12] [0, 1, 2, 3, 4, 5, 6, 7, 8, 9, 10, 11, 12, 13] Tryz.mixed (by kernel_rfl) (fun x hq => ⟨S.imm, fun _ => S.cellC a2 b1⟩) ?_
   refine QU E Y (fun w hC => (QL E Y)) fun _ B => QU B Y (fun w hC => (QL B Y)) fun _ D => QU D Y (fun w hC => (QL D Y)) fun _ F => QU F Y (fun w hC => (QL F Y)) fun _ G => QU G Y (fun w hC => (ZO G Y Y Vn a2 Y)) fun _ I => QU I Y (fun w hC => (ZF I Y (Tryz.isAgg22 _) (hC.2 Y))) fun _ J => QU J Y (fun w hC => (QL J Y)) fun _ K => QU K Y (fun w hC => (QL K Y)) ?_
   clear E a B D F G I J K; intro a E
   obtain ⟨d1, b7, b8⟩ := h0.at a4
   refine QU E Y (fun w hC => (ZO E Y Y QE b7 Y)) fun _ B => QU B Y (fun w hC => (QQ B Y Tryz.isAgg3 hC.1 b8)) ?_
   clear E a B; intro a E
   refine ZP Y Y Y (QV (ys := [a0]) E S Y QE Y Y Y ?_)
   clear E a S; rintro a w d2 E S
   refine ⟨fun x hq hb => ⟨(Qu lerf S.imm), (fun _ => S.front1.cellC a2 b1)⟩, ?_⟩
   replace S := S.front2.front1
   refine ZP Y Y Y (JF (xs := l_12) (ys := [a0]) E S Y Y Y QE (by ((have h9 := qI (List.mem_of_getElem? (by assumption)); simp only [List.length_take, List.length_cons, List.length_nil] at *; omega))) ?_)
   clear E a S; rintro a w d3 E S
   refine ⟨fun x hq hb => ⟨(Qu lerf S.imm), (fun e => by subst e; exact absurd hb (by decide))⟩, ?_⟩
   refine QU E Y (fun w hC => (ZO E Y Y Vn a2 Y)) ?_
   clear E a; intro a E
   replace S := S.front2.front1
   have ho_21 := S.oneI
   replace S := S.front2
   refine ZP Y Y Y (vB E S Y Y (Tryz.sizeOf22 _) ho_21 a2 ?_)
   clear E a S; rintro a w E S
   replace S := back_15 _ _ _ _ _ S
   refine ⟨fun x hq hb => ⟨(Qu lerf S.imm), (fun e => by subst e; exact absurd hb (by decide))⟩, ?_⟩
   refine JI (JH ?_)
   refine WN (Qp (m := ((k + 1 : Nat) : Int)) E Y Y fun _ B => Qn B Y ?_)
   clear E a B; intro a E
   refine Qz ?_
   replace S := S.front1
   replace S := S.reM (L' := (Jd (Value.int .i64) (JS f1 (l0.take (k + 1))))) (congrArg (Jd (Value.int .i64)) (show JS f1 (l0.take k) = JS f1 (l0.take (k + 1)) by first | rfl | (simp [JG, JS, Zm]; done) | exact UR (by assumption) (by assumption) (by assumption) | exact UO (by assumption) (by assumption) | exact US (by assumption) (by assumption) | exact UP (by assumption) (by assumption)))
   replace S := S.front1
   replace S := reLL S (show (JG f1 (l0.take k)).set jx (l_12 ++ [a0]) = JG f1 (l0.take (k + 1)) by first | rfl | (simp [JG, JS, Zm]; done) | exact UR (by assumption) (by assumption) (by assumption) | exact UO (by assumption) (by assumption) | exact US (by assumption) (by assumption) | exact UP (by assumption) (by assumption))
   exact ⟨k + 1, ⟨a5, _, (a1.trans a7), S, E.keep ⟨Y, Y, Y, Y, Y, Y, trivial⟩, by (omega)⟩, by omega⟩
  ·refine Je ?_
   refine Qh (QD 3 E Y ?_)
   clear E a; intro a E
   replace S := S.front1
   refine Qt E Y Vn (lenLL S) ?_
   clear E a; intro a E
   replace S := S.front1
   refine Jm (ZZ (vf := (Value.int .i64)) (u := (((JG f1 (l0.take k)).length : Nat) : Int)) E S MT150 Y Y Y ?_)
   clear E a S; rintro a w E S
   refine zw (QD 3 E Y ?_)
   clear E a; intro a E
   obtain ⟨d4, b9, c0⟩ := h0.at a4
   refine QZ E Y Y QE b9 Y fun _ B => Qb B Y Tryz.isAgg3 S.imm c0 ?_
   clear E a B; intro a E
   refine Qk (QV (ys := [a0]) E S Y QE Y Y Y ?_)
   clear E a S; rintro a w c1 E S
   have ho_25 := S.oneI
   refine Qk (Wg (vs := [c1]) E S Y Vn Y Y Y (by intro u hu; simp only [List.mem_cons, List.not_mem_nil, or_false] at hu; rw [hu]; exact ho_25) ?_)
   clear E a S; rintro a w d5 E S
   replace S := S.front3.front2.front2
   refine Qk (vE E S Y Y Y Vn (by ((have h9 := Ws f1 (l0.take k); simp only [List.length_take] at *; omega))) (by ((have h9 := Ws f1 (l0.take k); simp only [List.length_take] at *; omega))) ?_)
   clear E a S; rintro a w d6 E S
   refine Qj E Y fun _ B => Wj (Qp (m := ((k + 1 : Nat) : Int)) B Y Y fun _ D => Qn D Y ?_)
   clear E a B D; intro a E
   refine Qz ?_
   replace S := S.front1
   replace S := S.reM (L' := (Jd (Value.int .i64) (JS f1 (l0.take (k + 1))))) (congrArg (Jd (Value.int .i64)) (show Zj (JS f1 (l0.take k)) (f1 a0) (((JG f1 (l0.take k)).length : Nat) : Int) = JS f1 (l0.take (k + 1)) by first | rfl | (simp [JG, JS, Zm]; done) | exact UR (by assumption) (by assumption) (by assumption) | exact UO (by assumption) (by assumption) | exact US (by assumption) (by assumption) | exact UP (by assumption) (by assumption)))
   replace S := S.front1
   replace S := reLL S (show (JG f1 (l0.take k)) ++ [[a0]] = JG f1 (l0.take (k + 1)) by first | rfl | (simp [JG, JS, Zm]; done) | exact UR (by assumption) (by assumption) (by assumption) | exact UO (by assumption) (by assumption) | exact US (by assumption) (by assumption) | exact UP (by assumption) (by assumption))
   exact ⟨k + 1, ⟨a5, _, (a1.trans a7), S, E.keep ⟨Y, Y, Y, Y, Y, Y, trivial⟩, by (omega)⟩, by omega⟩
 ·refine VJ (QD 2 E Y ?_)
  clear E a; intro a E
  refine Jj ?_
  have S0 := S; clear S
  obtain ⟨c2, c3, c4, S⟩ := frzLL S0 (by (exact fun e he => Nat.le_trans (qI he) (by (rw [List.length_take]; omega)))) (by (exact Nat.le_trans (Ws _ _) (by first | omega | (rw [List.length_take]; omega))))
  clear S0
  exact Qa E Tryz.results258 Y ⟨_, Y, c2, (a1.trans c3), (QX.eqL c4 (by (rw [List.take_of_length_le (by omega)]))), S.drop⟩
theorem zP {M : Hp} {v0 : Value} {l0 : List Int} (h0 : Qy M v0 l0){kk1 kn1 : Int} (gk1 : -9223372036854775808 ≤ kn1 ∧ kn1 ≤ 9223372036854775807) (hb : l0.length ≤ 1000000000000) :
  Pu Tryz.prog (.func (.func 179) #[] #[]) M [v0, .agg #[.int .i64 kk1, .int .i64 kn1]] (fun r M' => Zf M' r (JG (fun x => JL kk1 kn1 x 0) l0)) := by
 refine Qd Tryz.func179 Y Tryz.ntmps179 Y Tryz.call179 ?_
 intro a w M1 H hM1 S E
 replace h0 := h0.le hM1
 have b0 := h0.bound
 refine Qs ?_
 refine Qk (QA (cs := #[.int .i64 kk1, .int .i64 kn1]) E S Y Y Y ?_)
 clear E a S; rintro a w a5 E S
 obtain ⟨a6, a0, a1, S⟩ := S.freezeB
 replace h0 := h0.le a0
 refine Qj E Y fun _ B => QI (Qn B Y fun _ C => Za C Y (Tryz.isAgg30 _) (Tryz.sizeOf30 _) S.imm a1 fun _ D => Qv D Y Y ?_)
 clear E a B C D; intro a E
 refine Qk (Qm E S Y Y Y (yI h0 ⟨Y, fun zx1 => Gk (x1 := zx1) (by omega)⟩ (by (omega))) lerf ?_)
 clear E a S; rintro a a7 w a2 a3 a4 S E
 refine Qj E Y ?_
 clear E a; intro a E
 refine Jj ?_
 exact Qa E Tryz.results179 Y ⟨_, Y, a2, (a0.trans a3), a4, S⟩
theorem yG {M : Hp} {v0 : Value} {l0 : List Int} (h0 : Qy M v0 l0){n1 n2 : Nat} (hn : 0 < n1) (hs : 0 < n2) (hb1 : n1 ≤ 1000000) (hb2 : n2 ≤ 1000000) (hb : l0.length ≤ 1000000) :
  Pu Tryz.prog (.func (.func 262) #[] #[]) M [v0, .int .i64 ((n1 : Nat) : Int), .int .i64 ((n2 : Nat) : Int)] (fun r M' => Zf M' r (Vb n1 n2 l0)) := by
 refine Qd Tryz.func262 Y Tryz.ntmps262 Y Tryz.call262 ?_
 intro a w M1 H hM1 S E
 replace h0 := h0.le hM1
 have b0 := h0.bound
 refine Qs (Qj E Y fun _ B => Zp (Qn B Y fun _ C => Vy C Y Y ?_))
 clear E a B C; intro a E
 refine Qz ?_
 have b7 : (decide (((n1 : Nat) : Int) ≤ 0)) = false := by (apply decide_eq_false; omega)
 refine QF E Y b7 ?_
 refine je (Qn E Y fun _ B => Vy B Y Y ?_)
 clear E a B; intro a E
 refine Qz ?_
 have b8 : (decide (((n2 : Nat) : Int) ≤ 0)) = false := by (apply decide_eq_false; omega)
 refine QF E Y b8 ?_
 refine VC (Qn E Y fun _ B => Qt B Y QE h0.len fun _ C => Qn C Y fun _ D => JT (m := (((l0).length : Nat) : Int) - ((n1 : Nat) : Int)) D Y Y fun _ F => Qj F Y fun _ G => Zp (Qn G Y fun _ I => Jc I Y Y ?_))
 clear E a B C D F G I; intro a E
 refine Qz ?_
 refine Ql E Y (fun b9 => ?_) (fun b9 => ?_)
 ·refine Qs ?_
  refine Qk (Wg (vs := []) E S Y Vn Y Y Y (fun u hu => by simp at hu) ?_)
  clear E a S; rintro a w a8 E S
  have c0 : Zx (Vf 1 QB) 1 M1 ([] : List (List Int)) [] := Zx.nil
  replace S : St w M1 (Zk 22 1 a8 ([] : List (List Int)).length [] :: _) := S
  refine Qj E Y ?_
  clear E a; intro a E
  refine UJ ?_
  have S0 := S; clear S
  obtain ⟨a9, b1, a1, S⟩ := S0.freezeR c0 (JE Jp) (by ((simp [ZI]; done)))
  clear S0
  replace a1 : Zf a9 a8 ([] : List (List Int)) := a1
  replace h0 := h0.le b1
  exact Qa E Tryz.results262 Y ⟨_, Y, a9, b1, (QX.eqL a1 (by (exact sli_none (by omega)))), S⟩
 ·have hdv := Nat.div_le_self (l0.length - n1) n2
  have hdv0 := Int.natCast_nonneg ((l0.length - n1) / n2)
  replace E := E.ival (t := 7) (c := ((l0.length - n1 : Nat) : Int)) Y (by omega)
  refine VC (QD 2 E Y fun _ B => e_quon (p := l0.length - n1) (q := n2) B Y Y (by omega) (by omega) fun _ C => Qp (m := (((l0.length - n1) / n2 + 1 : Nat) : Int)) C Y Y (hm := (by (have h9 := Nat.div_le_self (l0.length - n1) n2; omega))) (hb := (by (have h9 := Nat.div_le_self (l0.length - n1) n2; omega))) ?_)
  clear E a B C; intro a E
  refine Qk (JD (k := (l0.length - n1) / n2 + 1) E S Y Y Y Vn Y (by omega) (by (have h9 := Nat.div_le_self (l0.length - n1) n2; omega)) (by (have h9 := Nat.div_le_self (l0.length - n1) n2; omega)) ?_)
  clear E a S; rintro a w c1 E S
  have a2 : Zx (Vf 1 QB) 1 M1 ([] : List (List Int)) [] := Zx.nil
  replace S : St w M1 (Zk 22 1 c1 ([] : List (List Int)).length [] :: _) := S
  refine Qj E Y fun _ B => Zp (Qj B Y ?_)
  clear E a B; intro a E
  refine ZH ?_
  have hre : ([] : List (List Int)) = ZQ n1 n2 l0 0 := by first | rfl | exact YI _ _ _ _
  replace S := S.reR hre
  replace a2 := a2.eq hre
  clear hre
  refine QN (γ := Nat) (fun (k : Nat) a w => ∃ (a0 : Hp) (u8 : Value) (xs8 : List Value), Hp.le M1 a0 ∧ St w a0 (Zk 22 1 u8 (ZQ n1 n2 l0 k).length xs8 :: H) ∧ Env a 50 [] [(0, v0), (1, .int .i64 ((n1 : Nat) : Int)), (2, .int .i64 ((n2 : Nat) : Int)), (7, .int .i64 ((l0.length - n1 : Nat) : Int)), (8, u8), (9, .int .i64 ((k * n2 : Nat) : Int))] ∧ (IsV n1 n2 l0.length k) ∧ (n1 ≤ l0.length) ∧ (k ≤ l0.length + 1) ∧ Zx (Vf 1 QB) 1 a0 (ZQ n1 n2 l0 k) xs8) (fun k => l0.length + 1 - k) 0 ⟨M1, _, _, lerf, S, E.keep ⟨Y, Y, Y, Y, Y, Jr (i := 0) Y (by (simp)), trivial⟩, (by exact IsV_zero _ _ _), (by omega), (by omega), a2⟩ ?_
  try clear E
  try clear S
  try clear a
  try clear w
  rintro k a w ⟨a0, u8, xs8, a3, S, E, c8, c9, d0, hr8⟩
  replace h0 := h0.le a3
  have hkk : k ≤ k * n2 := Nat.le_mul_of_pos_right k hs
  have hwl := ZI n1 n2 l0 k
  refine UK (QD 2 E Y fun _ B => Vy B Y Y ?_)
  clear E a B; intro a E
  refine Qz ?_
  refine Ql E Y (fun c2 => ?_) (fun c2 => ?_)
  ·refine YZ (Qn E Y ?_)
   clear E a; intro a E
   refine Qk (YM (k := n1) E S Y Y Y QE (by omega) (by omega) (by (have h9 := Nat.div_le_self (l0.length - n1) n2; omega)) (by (have h9 := Nat.div_le_self (l0.length - n1) n2; omega)) ?_)
   clear E a S; rintro a w c3 E S
   replace S := S.madeI
   refine Qj E Y fun _ B => QI (QD 5 B Y fun _ C => Qp (m := ((k * n2 + n1 : Nat) : Int)) C Y Y ?_)
   clear E a B C; intro a E
   obtain ⟨c4, c5, a4⟩ := h0.subv (k * n2) (k * n2 + n1) (by omega) (by omega)
   replace a4 : Qy a0 c4 (((l0).take (k * n2 + n1)).drop (k * n2)) := a4
   refine JX E Y Y Y QE c5 ?_
   clear E a; intro a E
   refine Qk (VY (xs := (List.replicate n1 (0 : Int))) (ys := ((l0).take (k * n2 + n1)).drop (k * n2)) E S Y Y Y QE a4 ?_)
   clear E a S; rintro a w E S
   replace S := S.re1 (l' := (l0.drop (k * n2)).take n1) (by (exact copy_win (by omega)))
   refine zw (QD 2 E Y ?_)
   clear E a; intro a E
   have S0 := S; clear S
   obtain ⟨d1, b2, b3, S⟩ := S0.freezeI (by ((simp [ZI]; omega)))
   clear S0
   replace hr8 := hr8.le (JE Jp) b2
   refine Qk (Yg (R := Vf 1 QB) (vs := [c3]) (xs := [(l0.drop (k * n2)).take n1]) (JE Jp) E S Y Vn Y Y Y (by intro u hu; simp only [List.mem_cons, List.not_mem_nil, or_false] at hu; rcases hu with rfl <;> first | exact Qy.one b3 | rfl) Y (Ve (R := Vf 1 QB) (Qy.row b3) UE) ?_)
   clear E a S; rintro a c6 w b4 b5 a5 S E
   replace a5 : Zf b4 c6 [(l0.drop (k * n2)).take n1] := a5
   replace hr8 := hr8.le (JE Jp) b5
   refine Qk (VR (R := (Vf 1 QB)) (zs := ZQ n1 n2 l0 k) (ys := [(l0.drop (k * n2)).take n1]) E S hr8 Y Y Y Vn a5 Gu (by (simp [ZI]; omega)) (by (simp [ZI]; omega)) ?_)
   clear E a S; rintro a w d2 d3 E a6 S
   refine Qj E Y fun _ B => Wj (QD 2 B Y fun _ C => Qp (m := ((k * n2 + n2 : Nat) : Int)) C Y Y fun _ D => Qj D Y ?_)
   clear E a B C D; intro a E
   refine Qz ?_
   have hre : (ZQ n1 n2 l0 k) ++ [(l0.drop (k * n2)).take n1] = ZQ n1 n2 l0 (k + 1) := by first | rfl | exact YI _ _ _ _
   replace S := S.reR hre
   replace a6 := a6.eq hre
   clear hre
   exact ⟨k + 1, ⟨b4, _, _, (a3.trans (b2.trans b5)), S, E.keep ⟨Y, Y, Y, Y, Y, Jr (i := k * n2 + n2) Y (by (rw [Nat.succ_mul])), trivial⟩, (by exact IsV_succ (by omega)), (by omega), (by omega), a6⟩, by omega⟩
  ·refine VJ (QD 2 E Y ?_)
   clear E a; intro a E
   refine Jj ?_
   have S0 := S; clear S
   obtain ⟨b6, c7, a7, S⟩ := S0.freezeR hr8 (JE Jp) (by (omega))
   clear S0
   replace a7 : Zf b6 u8 (ZQ n1 n2 l0 k) := a7
   exact Qa E Tryz.results262 Y ⟨_, Y, b6, (a3.trans c7), (QX.eqL a7 (by (exact win_end hs (by assumption) (by omega)))), S⟩
theorem lo_Window {M : Hp} {v0 : Value} {l0 : List Int} (h0 : Qy M v0 l0){n1 : Nat} (hn : 0 < n1) (hb1 : n1 ≤ 1000000) (hb : l0.length ≤ 1000000) :
  Pu Tryz.prog (.func (.func 260) #[] #[]) M [v0, .int .i64 ((n1 : Nat) : Int)] (fun r M' => Zf M' r (Vb n1 1 l0)) := by
 refine Qd Tryz.func260 Y Tryz.ntmps260 Y Tryz.call260 ?_
 intro a w M1 H hM1 S E
 replace h0 := h0.le hM1
 have b0 := h0.bound
 refine Qs (Qj E Y fun _ B => Zp (Qn B Y fun _ C => Vy C Y Y ?_))
 clear E a B C; intro a E
 refine Qz ?_
 have a0 : (decide (((n1 : Nat) : Int) ≤ 0)) = false := by (apply decide_eq_false; omega)
 refine QF E Y a0 ?_
 refine VC (QD 2 E Y ?_)
 clear E a; intro a E
 refine Qk (Qm E S Y Y Y (yG h0 (by omega) (by (simp; done)) (by omega) (by (simp; done)) (by omega)) lerf ?_)
 clear E a S; rintro a a4 w a1 a2 a3 S E
 refine Qj E Y ?_
 clear E a; intro a E
 refine Jj ?_
 exact Qa E Tryz.results260 Y ⟨_, Y, a1, a2, a3, S⟩
theorem impl_Window1 {M : Hp} {v0 : Value} {l0 : List Int} {n1 : Nat} (hn : 0 < n1) (hb1 : n1 ≤ 1000000) (hb : l0.length ≤ 1000000) {bx0 bx1 : Nat} (hbx0 : M bx0 = some (.cells #[v0] 22)) (h0 : Qy M v0 l0) (hbx1 : M bx1 = some (.cells #[.int .i64 (n1 : Int)] 3)) :
  Pu Tryz.prog (.func (.func 259) #[] #[.pointer (some ⟨bx0, 0, none⟩), .pointer (some ⟨bx1, 0, none⟩)]) M [] (fun r M' => Zf M' r (Vb n1 1 l0)) := by
 refine Qd Tryz.func259 Y Tryz.ntmps259 Y Tryz.call259 ?_
 intro a w M1 H hM1 S E
 replace hbx0 := hM1.2 _ _ hbx0
 replace hbx1 := hM1.2 _ _ hbx1
 replace h0 := h0.le hM1
 have b0 := h0.bound
 have hsl := qD (n := n1) (s := 1) (l := l0) (by omega) hn
 refine Qs (Qj E Y fun _ B => QI (Qb B Y Tryz.isAgg22 S.imm (Qf hbx0) fun _ C => Qb C Y Tryz.isAgg3 S.imm (Qf hbx1) ?_))
 clear E a B C; intro a E
 refine Qk (Qm E S Y Y Y (lo_Window h0 (by omega) (by omega) (by omega)) lerf ?_)
 clear E a S; rintro a a3 w a0 a1 a2 S E
 refine Qj E Y ?_
 clear E a; intro a E
 refine Jj ?_
 exact Qa E Tryz.results259 Y ⟨_, Y, a0, a1, a2, S⟩
theorem impl_Window {M : Hp} {v0 : Value} {l0 : List Int} (h0 : Qy M v0 l0){n1 : Nat} (hn : 0 < n1) (hb1 : n1 ≤ 1000000) (hb : l0.length ≤ 1000000) :
  Pu Tryz.prog (.func (.func 180) #[] #[]) M [v0, .int .i64 ((n1 : Nat) : Int)] (fun r M' => ∃ t0, r = .tuple #[t0, .bool true] ∧ Zf M' t0 (Vb n1 1 l0)) := by
 refine Qd Tryz.func180 Y Tryz.ntmps180 Y Tryz.call180 ?_
 intro a w M1 H hM1 S E
 replace h0 := h0.le hM1
 have b0 := h0.bound
 refine Qs ?_
 refine Qk (QA (cs := #[v0]) E S Y Y (cells_one (QX.one' h0)) ?_)
 clear E a S; rintro a w a7 E S
 obtain ⟨a8, a2, a0, S⟩ := S.freezeB
 replace h0 := h0.le a2
 refine Qk (QA (cs := #[.int .i64 ((n1 : Nat) : Int)]) E S Y Y Y ?_)
 clear E a S; rintro a w a9 E S
 obtain ⟨b1, a1, a3, S⟩ := S.freezeB
 replace h0 := h0.le a1
 replace a0 := a1.2 _ _ a0
 refine QD 2 E Y fun _ B => QI (Qv B Y Y ?_)
 clear E a B; intro a E
 refine Qk (Qm E S Y Y Y (Vl ⟨Y, impl_Window1  (by omega) (by omega) (by omega) a0 h0 a3⟩) lerf ?_)
 clear E a S; rintro a _ w a4 a5 ⟨b2, rfl, a6⟩ S E
 refine Qg E Y Y fun _ B => Qg B Y Y fun _ C => QD 2 C Y ?_
 clear E a B C; intro a E
 refine Jj ?_
 exact Zr E Tryz.results180 Y Y ⟨_, Y, a4, (a2.trans (a1.trans a5)), ⟨_, (by rfl), (QX.eqL a6 (by (rfl)))⟩, S⟩
theorem impl_Sliding1 {M : Hp} {v0 : Value} {l0 : List Int} {n1 n2 : Nat} (hn : 0 < n1) (hs : 0 < n2) (hb1 : n1 ≤ 1000000) (hb2 : n2 ≤ 1000000) (hb : l0.length ≤ 1000000) {bx0 bx1 bx2 : Nat} (hbx0 : M bx0 = some (.cells #[v0] 22)) (h0 : Qy M v0 l0) (hbx1 : M bx1 = some (.cells #[.int .i64 (n1 : Int)] 3)) (hbx2 : M bx2 = some (.cells #[.int .i64 (n2 : Int)] 3)) :
  Pu Tryz.prog (.func (.func 261) #[] #[.pointer (some ⟨bx0, 0, none⟩), .pointer (some ⟨bx1, 0, none⟩), .pointer (some ⟨bx2, 0, none⟩)]) M [] (fun r M' => Zf M' r (Vb n1 n2 l0)) := by
 refine Qd Tryz.func261 Y Tryz.ntmps261 Y Tryz.call261 ?_
 intro a w M1 H hM1 S E
 replace hbx0 := hM1.2 _ _ hbx0
 replace hbx1 := hM1.2 _ _ hbx1
 replace hbx2 := hM1.2 _ _ hbx2
 replace h0 := h0.le hM1
 have b0 := h0.bound
 have hsl := qD (n := n1) (s := n2) (l := l0) (by omega) hn
 refine Qs (Qj E Y fun _ B => QI (Qb B Y Tryz.isAgg22 S.imm (Qf hbx0) fun _ C => Qb C Y Tryz.isAgg3 S.imm (Qf hbx1) fun _ D => Qb D Y Tryz.isAgg3 S.imm (Qf hbx2) ?_))
 clear E a B C D; intro a E
 refine Qk (Qm E S Y Y Y (yG h0 (by omega) (by omega) (by omega) (by omega) (by omega)) lerf ?_)
 clear E a S; rintro a a3 w a0 a1 a2 S E
 refine Qj E Y ?_
 clear E a; intro a E
 refine Jj ?_
 exact Qa E Tryz.results261 Y ⟨_, Y, a0, a1, a2, S⟩
theorem impl_Sliding {M : Hp} {v0 : Value} {l0 : List Int} (h0 : Qy M v0 l0){n1 n2 : Nat} (hn : 0 < n1) (hs : 0 < n2) (hb1 : n1 ≤ 1000000) (hb2 : n2 ≤ 1000000) (hb : l0.length ≤ 1000000) :
  Pu Tryz.prog (.func (.func 181) #[] #[]) M [v0, .int .i64 ((n1 : Nat) : Int), .int .i64 ((n2 : Nat) : Int)] (fun r M' => ∃ t0, r = .tuple #[t0, .bool true] ∧ Zf M' t0 (Vb n1 n2 l0)) := by
 refine Qd Tryz.func181 Y Tryz.ntmps181 Y Tryz.call181 ?_
 intro a w M1 H hM1 S E
 replace h0 := h0.le hM1
 have b0 := h0.bound
 refine Qs ?_
 refine Qk (QA (cs := #[v0]) E S Y Y (cells_one (QX.one' h0)) ?_)
 clear E a S; rintro a w a9 E S
 obtain ⟨b1, a4, a0, S⟩ := S.freezeB
 replace h0 := h0.le a4
 refine Qk (QA (cs := #[.int .i64 ((n1 : Nat) : Int)]) E S Y Y Y ?_)
 clear E a S; rintro a w b2 E S
 obtain ⟨b3, a2, a3, S⟩ := S.freezeB
 replace h0 := h0.le a2
 replace a0 := a2.2 _ _ a0
 refine Qk (QA (cs := #[.int .i64 ((n2 : Nat) : Int)]) E S Y Y Y ?_)
 clear E a S; rintro a w b4 E S
 obtain ⟨b5, a1, a5, S⟩ := S.freezeB
 replace h0 := h0.le a1
 replace a0 := a1.2 _ _ a0
 replace a3 := a1.2 _ _ a3
 refine QD 2 E Y fun _ B => QI (Qv B Y Y ?_)
 clear E a B; intro a E
 refine Qk (Qm E S Y Y Y (Vl ⟨Y, impl_Sliding1  (by omega) (by omega) (by omega) (by omega) (by omega) a0 h0 a3 a5⟩) lerf ?_)
 clear E a S; rintro a _ w a6 a7 ⟨b6, rfl, a8⟩ S E
 refine Qg E Y Y fun _ B => Qg B Y Y fun _ C => QD 2 C Y ?_
 clear E a B C; intro a E
 refine Jj ?_
 exact Zr E Tryz.results181 Y Y ⟨_, Y, a6, (a4.trans (a2.trans (a1.trans a7))), ⟨_, (by rfl), (QX.eqL a8 (by (rfl)))⟩, S⟩
set_option maxRecDepth 100000 in
set_option maxHeartbeats 4000000 in
def Tryz.lsort_ren : Go.Shelf.Ren := ⟨fun | 5 => 336 | 8 => 341 | 7 => 340 | 19 => 351 | 20 => 352 | 10 => 342 | 11 => 343 | 12 => 344 | 13 => 345 | 14 => 346 | 15 => 347 | 16 => 348 | 17 => 349 | 18 => 350 | 30 => 353 | 31 => 354 | 32 => 355 | 33 => 356 | 34 => 357 | 35 => 358 | 40 => 359 | n => n, fun | 23 => 22 | 25 => 3 | 3 => 3 | 32 => 54 | 22 => 22 | 0 => 0 | 44 => 165 | 46 => 149 | 4 => 4 | 36 => 159 | 35 => 158 | 41 => 115 | 5 => 5 | 9 => 9 | 53 => 167 | 57 => 171 | 63 => 173 | 64 => 174 | n => n, fun | n => n⟩
set_option maxRecDepth 100000 in
set_option maxHeartbeats 4000000 in
theorem Tryz.lsort : Go.Proofs.SlLaysM.n5 Tryz.prog Tryz.lsort_ren := {
  mixed := by kernel_rfl,
  f5 := ⟨Tryz.f336.name, by decide, Tryz.func336.trans (congrArg some (by kernel_rfl))⟩,
  f7 := ⟨Tryz.f340.name, by decide, Tryz.func340.trans (congrArg some (by kernel_rfl))⟩,
  f8 := Tryz.func341.trans (congrArg some (by kernel_rfl)),
  f10 := ⟨Tryz.f342.name, by decide, Tryz.func342.trans (congrArg some (by kernel_rfl))⟩,
  f11 := ⟨Tryz.f343.name, by decide, Tryz.func343.trans (congrArg some (by kernel_rfl))⟩,
  f12 := ⟨Tryz.f344.name, by decide, Tryz.func344.trans (congrArg some (by kernel_rfl))⟩,
  f13 := ⟨Tryz.f345.name, by decide, Tryz.func345.trans (congrArg some (by kernel_rfl))⟩,
  f14 := ⟨Tryz.f346.name, by decide, Tryz.func346.trans (congrArg some (by kernel_rfl))⟩,
  f15 := ⟨Tryz.f347.name, by decide, Tryz.func347.trans (congrArg some (by kernel_rfl))⟩,
  f16 := ⟨Tryz.f348.name, by decide, Tryz.func348.trans (congrArg some (by kernel_rfl))⟩,
  f17 := ⟨Tryz.f349.name, by decide, Tryz.func349.trans (congrArg some (by kernel_rfl))⟩,
  f18 := ⟨Tryz.f350.name, by decide, Tryz.func350.trans (congrArg some (by kernel_rfl))⟩,
  f19 := Tryz.func351.trans (congrArg some (by kernel_rfl)),
  f20 := Tryz.func352.trans (congrArg some (by kernel_rfl)),
  f30 := ⟨Tryz.f353.name, by decide, Tryz.func353.trans (congrArg some (by kernel_rfl))⟩,
  f31 := Tryz.func354.trans (congrArg some (by kernel_rfl)),
  f32 := Tryz.func355.trans (congrArg some (by kernel_rfl)),
  f33 := ⟨Tryz.f356.name, by decide, Tryz.func356.trans (congrArg some (by kernel_rfl))⟩,
  f34 := ⟨Tryz.f357.name, by decide, Tryz.func357.trans (congrArg some (by kernel_rfl))⟩,
  f35 := ⟨Tryz.f358.name, by decide, Tryz.func358.trans (congrArg some (by kernel_rfl))⟩,
  f40 := ⟨Tryz.f359.name, by decide, Tryz.func359.trans (congrArg some (by kernel_rfl))⟩,
  t0 := Tryz.underlying0,
  a0 := Tryz.isAgg0,
  z0 := Tryz.sizeOf0,
  v0 := Tryz.zeroValue0,
  t3 := Tryz.underlying3,
  a3 := Tryz.isAgg3,
  z3 := Tryz.sizeOf3,
  v3 := Tryz.zeroValue3,
  t4 := Tryz.underlying4,
  a4 := Tryz.isAgg4,
  z4 := Tryz.sizeOf4,
  v4 := Tryz.zeroValue4,
  t5 := Tryz.underlying5,
  a5 := Tryz.isAgg5,
  z5 := Tryz.sizeOf5,
  v5 := Tryz.zeroValue5,
  t9 := Tryz.underlying9,
  a9 := Tryz.isAgg9,
  z9 := Tryz.sizeOf9,
  v9 := Tryz.zeroValue9,
  t22 := Tryz.underlying22,
  a22 := Tryz.isAgg22,
  z22 := Tryz.sizeOf22,
  v22 := Tryz.zeroValue22,
  t23 := Tryz.underlying22,
  a23 := Tryz.isAgg22,
  z23 := Tryz.sizeOf22,
  v23 := Tryz.zeroValue22,
  t25 := Tryz.underlying3,
  a25 := Tryz.isAgg3,
  z25 := Tryz.sizeOf3,
  v25 := Tryz.zeroValue3,
  t32 := Tryz.underlying54,
  a32 := Tryz.isAgg54,
  z32 := Tryz.sizeOf54,
  v32 := Tryz.zeroValue54,
  t35 := Tryz.underlying158,
  a35 := Tryz.isAgg158,
  z35 := Tryz.sizeOf158,
  v35 := Tryz.zeroValue158,
  t36 := Tryz.underlying159,
  a36 := Tryz.isAgg159,
  z36 := Tryz.sizeOf159,
  v36 := Tryz.zeroValue159,
  t41 := Tryz.underlying115,
  a41 := Tryz.isAgg115,
  z41 := Tryz.sizeOf115,
  v41 := Tryz.zeroValue115,
  t44 := Tryz.underlying165,
  a44 := Tryz.isAgg165,
  z44 := Tryz.sizeOf165,
  v44 := Tryz.zeroValue165,
  t46 := Tryz.underlying149,
  a46 := Tryz.isAgg149,
  z46 := Tryz.sizeOf149,
  v46 := Tryz.zeroValue149,
  t53 := Tryz.underlying167,
  a53 := Tryz.isAgg167,
  z53 := Tryz.sizeOf167,
  v53 := Tryz.zeroValue167,
  t57 := Tryz.underlying171,
  a57 := Tryz.isAgg171,
  z57 := Tryz.sizeOf171,
  v57 := Tryz.zeroValue171,
  t63 := Tryz.underlying173,
  a63 := Tryz.isAgg173,
  z63 := Tryz.sizeOf173,
  v63 := Tryz.zeroValue173,
  t64 := Tryz.underlying174,
  a64 := Tryz.isAgg174,
  z64 := Tryz.sizeOf174,
  v64 := Tryz.zeroValue174 }
theorem slices_Sort {M : Hp} {v0 : Value} {l0 : List Int} (b0 : l0.length ≤ 1000000000000) :
  Sp Tryz.prog (.func (.func 336) #[] #[]) M [v0] [Jg 3 v0 l0] (fun r M' C' => C' = [Jg 3 v0 (Wq l0)]) :=
 sort_sp Tryz.call336 (fun Jk off cap zs w a b c => AnyM.slices_Sort_int Tryz.lsort Jk off cap zs w a b c) (fun p cap w => AnyM.slices_Sort_int_none Tryz.lsort p cap w) b0
theorem sort_Ints {M : Hp} {v0 : Value} {l0 : List Int} (b0 : l0.length ≤ 1000000000000) :
  Sp Tryz.prog (.func (.func 319) #[] #[]) M [v0] [Jg 3 v0 l0] (fun r M' C' => C' = [Jg 3 v0 (Wq l0)]) := by
 refine UB Tryz.func319 Y Tryz.ntmps319 Y Tryz.call319 ?_
 intro a w M1 H hM1 S E
 replace S : St w M1 (Jg 3 v0 l0 :: _) := S
 refine Qh (Qn E Y ?_)
 clear E a; intro a E
 refine Qk (VF (p := [Jg 3 v0 l0]) E S Y Y Y (slices_Sort (by (omega))) lerf ?_)
 clear E a S; rintro a a2 w a0 _ a1 rfl S E
 replace S : St w a0 (Jg 3 v0 (Wq l0) :: _) := S
 refine J_Ab ?_
 exact F_ret0 E Tryz.results319 ⟨_, Y, a0, _, a1, Y, S⟩
theorem impl_keys {M : Hp} {m0 : Value} {q0 : List Int} (hm0 : ye M m0 (Sl.encS q0)) (hb : q0.length ≤ 1000000000000) :
  Pu Tryz.prog (.func (.func 263) #[] #[]) M [m0] (fun r M' => Qy M' r (Wq q0)) := by
 refine Qd Tryz.func263 Y Tryz.ntmps263 Y Tryz.call263 ?_
 intro a w M1 H hM1 S E
 replace hm0 := hm0.le hM1
 refine Qs (Qj E Y fun _ B => QI (Qj B Y fun _ C => Zp (Qn C Y ?_)))
 clear E a B C; intro a E
 refine Qk (X_range E S Y Yp hm0 Y ?_)
 clear E a S; rintro a w a3 es_2 ck_3 E a0 S
 replace S : St w M1 (ItO m0 es_2 ck_3 a3 (Sl.encS ([] : List Int)) :: _) := S
 refine ZH ?_
 replace S := (S.ownNil (e := 3) (sz := 1)).made0
 replace S := S.front1.front1
 replace S := S.re1 (l' := []) (by rfl)
 replace S := S.front1
 replace S := S.reIt (p' := (Sl.encS [])) (congrArg Sl.encS (show ([] : List Int) = [] by first | rfl | (simp; done)))
 refine QN (γ := List Int) (fun (p : List Int) a w => ∃ (a2 : Hp) (u3 : Value), Hp.le M1 a2 ∧ St w a2 (ItO m0 es_2 ck_3 a3 (Sl.encS p) :: Jg 3 u3 p :: H) ∧ Env a 18 [] [(3, u3), (6, .pointer (some ⟨a3, 0, none⟩))] ∧ (p.Nodup) ∧ (∀ z ∈ p, z ∈ q0) ∧ (p.length ≤ q0.length)) (fun p => q0.length - p.length) [] ⟨M1, _, lerf, S, E.keep ⟨Y, Y, trivial⟩, (by simp), (by simp), (by simp)⟩ ?_
 try clear E
 try clear S
 try clear a
 try clear w
 rintro p a w ⟨a2, u3, a4, S, E, b0, b1, b2⟩
 replace a0 := a0.le a4
 refine Qs ?_
 refine Qk (X_nextS E S Y a0 Y (by assumption) (by assumption) ?_ ?_)
 ·clear E a S; rintro a E hpm_7 S
  refine Qg E Y Y ?_
  clear E a; intro a E
  refine ZJ ?_
  refine QF E Y Y ?_
  refine VJ (Qn E Y ?_)
  clear E a; intro a E
  replace S := S.front1
  refine Qk (VF (p := [Jg 3 u3 p]) E S Y Y Y (sort_Ints (by (omega))) lerf ?_)
  clear E a S; rintro a b3 w a7 _ a5 rfl S E
  replace S : St w a7 (Jg 3 u3 (Wq p) :: _) := S
  replace a0 := a0.le a5
  refine QI (QD 2 E Y ?_)
  clear E a; intro a E
  refine Jj ?_
  have S0 := S; clear S
  obtain ⟨a8, a6, a9, S⟩ := S0.freezeI (by ((rw [WR]; omega)))
  clear S0
  replace a0 := a0.le a6
  exact Qa E Tryz.results263 Y ⟨_, Y, a8, (a4.trans (a5.trans a6)), (QX.eqL a9 (by (exact (srtM_perm_eq (by assumption)).symm))), S.drop⟩
 ·clear E a S w; rintro a w a1 E hk_13 hk_13n hk_13l S
  refine Qg E Y Y ?_
  clear E a; intro a E
  refine ZJ ?_
  refine QY E Y Y ?_
  refine Qx (JZ (QW (Qs (e_entry (k := a1) (v := .agg #[]) E (by have S1 := S; simp only [Sl.encS, List.map_append, List.map_cons, List.map_nil] at S1; exact S1) a0 Y fun _ B => Qg B Y Y fun _ C => Qj C Y fun _ D => zw (QD 2 D Y ?_)))))
  clear E a B C D; intro a E
  refine Qk (QV (ys := [a1]) E S Y QE Y Y Y ?_)
  clear E a S; rintro a w b4 E S
  replace S := S.front2.front1
  refine Qk (JF (xs := p) (ys := [a1]) E S Y Y Y QE (by (simp; omega)) ?_)
  clear E a S; rintro a w b5 E S
  refine Qj E Y ?_
  clear E a; intro a E
  refine Jz (ZK (JZ ?_))
  replace S := S.front1.front1
  replace S := S.re1 (l' := (p ++ [a1])) (by rfl)
  replace S := S.front1
  replace S := S.reIt (p' := (Sl.encS (p ++ [a1]))) (congrArg Sl.encS (show p ++ [a1] = (p ++ [a1]) by first | rfl | (simp; done)))
  exact ⟨(p ++ [a1]), ⟨a2, _, a4, S, E.keep ⟨Y, Y, trivial⟩, (by exact snocN (by assumption) (by assumption)), (by exact snocS (by assumption) (by assumption)), (by simp; omega)⟩, (by simp; omega)⟩
theorem impl_Keyify {M : Hp} {v0 : Value} {l0 : List Int} (h0 : Qy M v0 l0) (hb : l0.length ≤ 1000000000000) :
  Pu Tryz.prog (.func (.func 182) #[] #[]) M [v0] (fun r M' => Qy M' r (Wq (Qw l0))) := by
 refine Qd Tryz.func182 Y Tryz.ntmps182 Y Tryz.call182 ?_
 intro a w M1 H hM1 S E
 replace h0 := h0.le hM1
 have b0 := h0.bound
 have hkl := UX l0
 refine Qs (Qj E Y fun _ B => QI (Qn B Y ?_))
 clear E a B; intro a E
 refine Qk (VF (p := []) E S Y Y Y (ZE h0) lerf ?_)
 clear E a S; rintro a _ w a0 _ a1 ⟨a2, rfl, rfl⟩ S E
 replace S : St w a0 (Zg a2 (Qw l0) :: _) := S
 have S0 := S; clear S
 obtain ⟨a8, a3, a4, S⟩ := S0.freezeM
 clear S0
 refine Qk (Qm E S Y Y Y (impl_keys a4 (by (omega))) lerf ?_)
 clear E a S; rintro a a9 w a5 a6 a7 S E
 refine Qj E Y ?_
 clear E a; intro a E
 refine Jj ?_
 exact Qa E Tryz.results182 Y ⟨_, Y, a5, (a1.trans (a3.trans a6)), a7, S⟩
theorem lo_Flatten {M : Hp} {v0 : Value} {l0 : List (List Int)} (h0 : Zf M v0 l0) (hb : total l0 ≤ 1000000000) :
  Pu Tryz.prog (.func (.func 264) #[] #[]) M [v0] (fun r M' => Qy M' r ((l0).flatten)) := by
 refine Qd Tryz.func264 Y Tryz.ntmps264 Y Tryz.call264 ?_
 intro a w M1 H hM1 S E
 replace h0 := h0.le hM1
 have b0 := h0.bound
 refine Qs (Qj E Y fun _ B => QI (Qj B Y fun _ C => Zp (Qn C Y fun _ D => Qt D Y Vn h0.len fun _ F => Qn F Y ?_)))
 clear E a B C D F; intro a E
 refine ZH ?_
 refine QN (γ := Nat) (fun (k : Nat) a w => ∃ (a0 : Hp), Hp.le M1 a0 ∧ St w a0 (H) ∧ Env a 35 [] [(0, v0), (3, .int .i64 ((total (l0.take k) : Nat) : Int)), (8, .int .i64 (((l0).length : Nat) : Int)), (9, .int .i64 ((k : Nat) : Int))] ∧ (k ≤ (l0).length)) (fun k => ((l0).length) - k) 0 ⟨M1, lerf, S, E.keep ⟨Y, Jr (i := 0) Y (by (rfl)), Y, Y, trivial⟩, by (omega)⟩ ?_
 try clear E
 try clear S
 try clear a
 try clear w
 rintro k a w ⟨a0, a2, S, E, b9⟩
 replace h0 := h0.le a2
 have ht := Jn l0 k
 refine Qs (Jc E Y Y ?_)
 clear E a; intro a E
 refine ZJ ?_
 refine Ql E Y (fun a7 => ?_) (fun a7 => ?_)
 ·refine YZ (QD 2 E Y fun _ B => zw (QD 3 B Y ?_))
  clear E a B; intro a E
  obtain ⟨a4, a8⟩ : ∃ x, (l0)[k]? = some x := ⟨_, List.getElem?_eq_getElem (by omega)⟩
  obtain ⟨c0, c1, a9, b1, a5⟩ := h0.at a8
  have c2 := a5.bound
  refine QZ E Y Y Vn a9 Y fun _ B => Qb B Y Tryz.isAgg22 S.imm b1 fun _ C => Qt C Y QE a5.len fun _ D => Qp (m := ((total (l0.take k) + (a4).length : Nat) : Int)) D Y Y fun _ F => Qj F Y fun _ G => Wj (Qp (m := ((k + 1 : Nat) : Int)) G Y Y fun _ I => Qn I Y ?_)
  clear E a B C D F G I; intro a E
  refine Qz ?_
  exact ⟨k + 1, ⟨a0, a2, S, E.keep ⟨Y, Jr (i := total (l0.take k) + (a4).length) Y (by (rw [Yj (by assumption)])), Y, Y, trivial⟩, by (omega)⟩, by omega⟩
 ·refine VJ (Qn E Y ?_)
  clear E a; intro a E
  refine Qk (JD (k := total (l0.take k)) E S Y Y Y QE Y (by omega) (by (have ht := Jn l0 k; omega)) (by (have ht := Jn l0 k; omega)) ?_)
  clear E a S; rintro a w c3 E S
  replace S := S.made0
  refine Qj E Y fun _ B => Zp (Qn B Y fun _ C => Qt C Y Vn h0.len fun _ D => Qn D Y ?_)
  clear E a B C D; intro a E
  refine ZH ?_
  replace S := S.re1 (l' := (l0.take 0).flatten) (by rfl)
  refine QN (γ := Nat) (fun (k : Nat) a w => ∃ (a1 : Hp) (u5 : Value), Hp.le a0 a1 ∧ St w a1 (Jg 3 u5 ((l0.take k).flatten) :: H) ∧ Env a 35 [] [(0, v0), (5, u5), (23, .int .i64 (((l0).length : Nat) : Int)), (24, .int .i64 ((k : Nat) : Int))] ∧ (k ≤ (l0).length)) (fun k => ((l0).length) - k) 0 ⟨a0, _, lerf, S, E.keep ⟨Y, Y, Y, Y, trivial⟩, by (omega)⟩ ?_
  try clear E
  try clear S
  try clear a
  try clear w
  rintro k a w ⟨a1, u5, a3, S, E, c4⟩
  replace h0 := h0.le a3
  have ht := Jn l0 k; have hf := Yr (l0.take k)
  refine Qs (Jc E Y Y ?_)
  clear E a; intro a E
  refine ZJ ?_
  refine Ql E Y (fun b2 => ?_) (fun b2 => ?_)
  ·refine YZ (QD 2 E Y fun _ B => zw (QD 3 B Y ?_))
   clear E a B; intro a E
   obtain ⟨c5, b3⟩ : ∃ x, (l0)[k]? = some x := ⟨_, List.getElem?_eq_getElem (by omega)⟩
   obtain ⟨c6, c7, b4, b5, a6⟩ := h0.at b3
   have c8 := a6.bound
   refine QZ E Y Y Vn b4 Y fun _ B => Qb B Y Tryz.isAgg22 S.imm b5 ?_
   clear E a B; intro a E
   refine Qk (JJ (xs := (l0.take k).flatten) E S Y Y Y QE a6 (by (have ht2 := Jn l0 (k+1); rw [Yj (by assumption)] at ht2; omega)) ?_)
   clear E a S; rintro a w c9 E S
   refine Qj E Y fun _ B => Wj (Qp (m := ((k + 1 : Nat) : Int)) B Y Y fun _ C => Qn C Y ?_)
   clear E a B C; intro a E
   refine Qz ?_
   replace S := S.re1 (l' := (l0.take (k + 1)).flatten) (by (rw [ZL (by assumption)]; done))
   exact ⟨k + 1, ⟨a1, _, a3, S, E.keep ⟨Y, Y, Y, Y, trivial⟩, by (omega)⟩, by omega⟩
  ·refine VJ (QD 2 E Y ?_)
   clear E a; intro a E
   refine Jj ?_
   have S0 := S; clear S
   obtain ⟨b6, b7, b8, S⟩ := S0.freezeI (by (have ht := Jn l0 k; rw [Yr]; omega))
   clear S0
   exact Qa E Tryz.results264 Y ⟨_, Y, b6, (a2.trans (a3.trans b7)), (QX.eqL b8 (by (rw [List.take_of_length_le (by omega)]))), S⟩
theorem impl_Flatten {M : Hp} {v0 : Value} {l0 : List (List Int)} (h0 : Zf M v0 l0) (hb : total l0 ≤ 1000000000) :
  Pu Tryz.prog (.func (.func 183) #[] #[]) M [v0] (fun r M' => Qy M' r ((l0).flatten)) := by
 refine Qd Tryz.func183 Y Tryz.ntmps183 Y Tryz.call183 ?_
 intro a w M1 H hM1 S E
 replace h0 := h0.le hM1
 have b0 := h0.bound
 refine Qs (Qj E Y fun _ B => QI (Qn B Y ?_))
 clear E a B; intro a E
 refine Qk (Qm E S Y Y Y (lo_Flatten h0 (by omega)) lerf ?_)
 clear E a S; rintro a a3 w a0 a1 a2 S E
 refine Qj E Y ?_
 clear E a; intro a E
 refine Jj ?_
 exact Qa E Tryz.results183 Y ⟨_, Y, a0, a1, a2, S⟩
theorem lo_Intersect {M : Hp} {v0 : Value} {l0 : List (List Int)} (h0 : Zf M v0 l0) (hb : ∀ x ∈ l0, x.length ≤ 1000000000) :
  Pu Tryz.prog (.func (.func 265) #[] #[]) M [v0] (fun r M' => Qy M' r (Ub (fun x => x) l0)) := by
 refine Qd Tryz.func265 Y Tryz.ntmps265 Y Tryz.call265 ?_
 intro a w M1 H hM1 S E
 replace h0 := h0.le hM1
 have b0 := h0.bound
 refine Qs (Qj E Y fun _ B => Zp (Qn B Y fun _ C => Qt C Y Vn h0.len fun _ D => QK D Y Y ?_))
 clear E a B C D; intro a E
 refine Qz ?_
 refine Ql E Y (fun c9 => ?_) (fun c9 => ?_)
 ·refine Qs ?_
  refine Qk (QV (ys := []) E S Y QE Y Y Y ?_)
  clear E a S; rintro a w i0 E S
  refine Qj E Y ?_
  clear E a; intro a E
  refine UJ ?_
  have S0 := S; clear S
  obtain ⟨d0, c5, d1, S⟩ := S0.freezeI (by ((simp; done)))
  clear S0
  replace h0 := h0.le c5
  exact Qa E Tryz.results265 Y ⟨_, Y, d0, c5, (QX.eqL d1 (by (have e := List.eq_nil_of_length_eq_zero (l := l0) (by omega); subst e; rfl))), S⟩
 ·refine VC (QD 2 E Y fun _ B => Qt B Y Vn h0.len fun _ C => JT (m := (((l0).length - 1 : Nat) : Int)) C Y Y ?_)
  clear E a B C; intro a E
  obtain ⟨b7, d2⟩ : ∃ x, (l0)[(l0).length - 1]? = some x := ⟨_, List.getElem?_eq_getElem (by omega)⟩
  obtain ⟨i1, d3, d4, d5, a5⟩ := h0.at d2
  have i2 := a5.bound
  refine QZ E Y Y Vn d4 Y fun _ B => Qb B Y Tryz.isAgg22 S.imm d5 fun _ C => Qj C Y fun _ D => QI (Qn D Y fun _ F => Qt F Y QE a5.len ?_)
  clear E a B C D F; intro a E
  refine Qk (YC E S Y Zc Y ?_)
  clear E a S; rintro a w a0 E S
  replace S : St w M1 (Zd Value.bool a0 ([] : List (Int × Bool)) :: _) := S
  refine Qj E Y fun _ B => Zp (Qn B Y fun _ C => Qt C Y QE a5.len fun _ D => Qn D Y ?_)
  clear E a B C D; intro a E
  refine ZH ?_
  replace S := S.reM (L' := (Jd Value.bool (QP (Qw (((l0.getD (l0.length - 1) []).take 0).map (fun x => x))) (fun _ => false)))) (congrArg (Jd Value.bool) (show ([] : List (Int × Bool)) = QP (Qw (((l0.getD (l0.length - 1) []).take 0).map (fun x => x))) (fun _ => false) by first | (unfold QP; simp [Qw]; done) | exact ad_new (fun x => x) (by assumption) (Jl (n := l0.length - 1) (by assumption) (by omega))))
  refine QN (γ := Nat) (fun (k : Nat) a w => ∃ (a6 : Hp), Hp.le M1 a6 ∧ St w a6 (Zd Value.bool a0 (QP (Qw (((l0.getD (l0.length - 1) []).take k).map (fun x => x))) (fun _ => false)) :: H) ∧ Env a 110 [] [(0, v0), (4, .map (some a0)), (32, d3), (33, .int .i64 (((b7).length : Nat) : Int)), (34, .int .i64 ((k : Nat) : Int))] ∧ (k ≤ (b7).length)) (fun k => ((b7).length) - k) 0 ⟨M1, lerf, S, E.keep ⟨Y, Y, Y, Y, Y, trivial⟩, by (omega)⟩ ?_
  try clear E
  try clear S
  try clear a
  try clear w
  rintro k a w ⟨a6, b1, S, E, i3⟩
  replace h0 := h0.le b1
  replace a5 := a5.le b1
  refine Qs (Jc E Y Y ?_)
  clear E a; intro a E
  refine ZJ ?_
  refine Ql E Y (fun d6 => ?_) (fun d6 => ?_)
  ·refine YZ ?_
   obtain ⟨d7, d8⟩ : ∃ x, (b7)[k]? = some x := ⟨_, List.getElem?_eq_getElem (by omega)⟩
   obtain ⟨i4, d9, e0⟩ := a5.at d8
   refine QZ E Y Y QE d9 Y fun _ B => Qb B Y Tryz.isAgg3 S.imm e0 fun _ C => Qj C Y fun _ D => zw (QD 2 D Y ?_)
   clear E a B C D; intro a E
   refine Jm (ZZ (vf := Value.bool) (u := false) E S Zc Y Y Y ?_)
   clear E a S; rintro a w E S
   refine Wj (Qp (m := ((k + 1 : Nat) : Int)) E Y Y fun _ B => Qn B Y ?_)
   clear E a B; intro a E
   refine Qz ?_
   replace S := S.reM (L' := (Jd Value.bool (QP (Qw (((l0.getD (l0.length - 1) []).take (k + 1)).map (fun x => x))) (fun _ => false)))) (congrArg (Jd Value.bool) (show Zj (QP (Qw (((l0.getD (l0.length - 1) []).take k).map (fun x => x))) (fun _ => false)) d7 false = QP (Qw (((l0.getD (l0.length - 1) []).take (k + 1)).map (fun x => x))) (fun _ => false) by first | (unfold QP; simp [Qw]; done) | exact ad_new (fun x => x) (by assumption) (Jl (n := l0.length - 1) (by assumption) (by omega))))
   exact ⟨k + 1, ⟨a6, b1, S, E.keep ⟨Y, Y, Y, Y, Y, trivial⟩, by (omega)⟩, by omega⟩
  ·refine JO (Ul (Ul (zx (JZ (UK (Qn E Y fun _ B => Qt B Y Vn h0.len fun _ C => JT (m := (((l0).length : Nat) : Int) - 2) C Y Y fun _ D => Qj D Y ?_))))))
   clear E a B C D; intro a E
   refine ZH ?_
   replace S := S.reM (L' := (Jd Value.bool (QP (JY (fun x => x) l0 0) (fun _ => false)))) (congrArg (Jd Value.bool) (show QP (Qw (((l0.getD (l0.length - 1) []).take k).map (fun x => x))) (fun _ => false) = QP (JY (fun x => x) l0 0) (fun _ => false) by first | (rw [(Jl (n := l0.length - 1) (by assumption) (by omega)), List.take_of_length_le (by omega)]; show _ = QP (Qw _) _; rw [(Jl (n := l0.length - 1) (by assumption) (by omega))]; done) | (rw [sd_end (by assumption)]; rfl)))
   refine QN (γ := Nat) (fun (j : Nat) a w => ∃ (a2 : Hp), Hp.le a6 a2 ∧ St w a2 (Zd Value.bool a0 (QP (JY (fun x => x) l0 j) (fun _ => false)) :: H) ∧ Env a 110 [] [(0, v0), (4, .map (some a0)), (7, .int .i64 ((l0.length : Int) - 2 - (j : Int)))] ∧ (j ≤ l0.length - 2)) (fun j => l0.length - j) 0 ⟨a6, lerf, S, E.keep ⟨Y, Y, Ye (i := (((l0).length : Nat) : Int) - 2) Y (by (omega)), trivial⟩, (by omega)⟩ ?_
   try clear E
   try clear S
   try clear a
   try clear w
   rintro j a w ⟨a2, b8, S, E, i5⟩
   replace h0 := h0.le b8
   refine UK (Qn E Y fun _ B => Ys B Y Y fun _ C => Qn C Y ?_)
   clear E a B C; intro a E
   refine Jo (decide (0 < (l0.length : Int) - 2 - (j : Int))) (fun a3 => ?_) (fun a3 => ?_)
   ·replace E := E.val (t := 45) Y a3
    replace E := E.val (t := 46) Y a3
    replace a3 := of_decide_eq_true a3
    refine Qc E Y Y (Qn E Y fun _ B => Qc B Y Y (S_w B ((jb B S Zc Y).trans (by rw [Wa])) fun _ C => Qc C Y Y (Wb C Y Y fun _ D => JA D Y Y ?_)))
    clear E a B C D; intro a E
    refine Qz ?_
    refine Ql E Y (fun e1 => ?_) (fun e1 => ?_)
    ·refine Qx (JZ (Je (QW (UK (QD 2 E Y ?_)))))
     clear E a; intro a E
     obtain ⟨b9, e2⟩ : ∃ x, (l0)[((l0.length : Int) - 2 - (j : Int)).toNat]? = some x := ⟨_, List.getElem?_eq_getElem (by omega)⟩
     obtain ⟨i6, e3, e4, e5, b2⟩ := h0.at e2
     have i7 := b2.bound
     refine QZ E Y Y Vn e4 (by omega) fun _ B => Qb B Y Tryz.isAgg22 S.imm e5 fun _ C => Qt C Y QE b2.len fun _ D => Qn D Y ?_
     clear E a B C D; intro a E
     refine ZH ?_
     replace S := S.reM (L' := (Jd Value.bool (QP (JY (fun x => x) l0 j) (YR (((l0.getD (l0.length - 2 - j) []).take 0).map (fun x => x)))))) (congrArg (Jd Value.bool) (show QP (JY (fun x => x) l0 j) (fun _ => false) = QP (JY (fun x => x) l0 j) (YR (((l0.getD (l0.length - 2 - j) []).take 0).map (fun x => x))) by first | (rw [List.take_zero, List.map_nil, UT]; done) | (refine at_yes (fun x => x) (Yo _ _ _) (by assumption) (Jl (n := l0.length - 2 - j) (by assumption) (by omega)) ?_; assumption) | (refine at_no (fun x => x) (by assumption) (Jl (n := l0.length - 2 - j) (by assumption) (by omega)) ?_; assumption)))
     refine QN (γ := Nat) (fun (m : Nat) a w => ∃ (a4 : Hp), Hp.le a2 a4 ∧ St w a4 (Zd Value.bool a0 (QP (JY (fun x => x) l0 j) (YR (((l0.getD (l0.length - 2 - j) []).take m).map (fun x => x)))) :: H) ∧ Env a 110 [] [(0, v0), (4, .map (some a0)), (7, .int .i64 ((l0.length : Int) - 2 - (j : Int))), (56, e3), (57, .int .i64 (((b9).length : Nat) : Int)), (58, .int .i64 ((m : Nat) : Int))] ∧ (m ≤ (b9).length)) (fun m => ((b9).length) - m) 0 ⟨a2, lerf, S, E.keep ⟨Y, Y, Y, Y, Y, Y, trivial⟩, by (omega)⟩ ?_
     try clear E
     try clear S
     try clear a
     try clear w
     rintro m a w ⟨a4, b3, S, E, i8⟩
     replace h0 := h0.le b3
     replace b2 := b2.le b3
     refine Qs (Jc E Y Y ?_)
     clear E a; intro a E
     refine ZJ ?_
     refine Ql E Y (fun e6 => ?_) (fun e6 => ?_)
     ·refine YZ ?_
      obtain ⟨e7, e8⟩ : ∃ x, (b9)[m]? = some x := ⟨_, List.getElem?_eq_getElem (by omega)⟩
      obtain ⟨i9, e9, f0⟩ := b2.at e8
      refine QZ E Y Y QE e9 Y fun _ B => Qb B Y Tryz.isAgg3 S.imm f0 fun _ C => Qj C Y fun _ D => QI (QD 2 D Y ?_)
      clear E a B C D; intro a E
      refine Qk (Yb (vf := Value.bool) (zb := false) E S Y Zc Y Y ?_)
      clear E a S; rintro a w E S
      replace S : St w a4 (Zd Value.bool a0 (QP (JY (fun x => x) l0 j) (YR (((l0.getD (l0.length - 2 - j) []).take m).map (fun x => x)))) :: _) := S
      refine Qn E Y fun _ B => Qg B Y Y fun _ C => Qg C Y Y fun _ D => QD 2 D Y fun _ F => QI (Qn F Y ?_)
      clear E a B C D F; intro a E
      refine Qz ?_
      refine Jf E Y (fun f1 => ?_) (fun f1 => ?_)
      ·refine Qh ?_
       refine QD 2 E Y ?_
       clear E a; intro a E
       refine Jm (ZZ (vf := Value.bool) (u := true) E S Zc Y Y Y ?_)
       clear E a S; rintro a w E S
       refine Wj (Qp (m := ((m + 1 : Nat) : Int)) E Y Y fun _ B => Qn B Y ?_)
       clear E a B; intro a E
       refine Qz ?_
       replace S := S.reM (L' := (Jd Value.bool (QP (JY (fun x => x) l0 j) (YR (((l0.getD (l0.length - 2 - j) []).take (m + 1)).map (fun x => x)))))) (congrArg (Jd Value.bool) (show Zj (QP (JY (fun x => x) l0 j) (YR (((l0.getD (l0.length - 2 - j) []).take m).map (fun x => x)))) e7 true = QP (JY (fun x => x) l0 j) (YR (((l0.getD (l0.length - 2 - j) []).take (m + 1)).map (fun x => x))) by first | (rw [List.take_zero, List.map_nil, UT]; done) | (refine at_yes (fun x => x) (Yo _ _ _) (by assumption) (Jl (n := l0.length - 2 - j) (by assumption) (by omega)) ?_; assumption) | (refine at_no (fun x => x) (by assumption) (Jl (n := l0.length - 2 - j) (by assumption) (by omega)) ?_; assumption)))
       exact ⟨m + 1, ⟨a4, b3, S, E.keep ⟨Y, Y, Y, Y, Y, Y, trivial⟩, by (omega)⟩, by omega⟩
      ·refine Qx ?_
       refine WN (Qp (m := ((m + 1 : Nat) : Int)) E Y Y fun _ B => Qn B Y ?_)
       clear E a B; intro a E
       refine Qz ?_
       replace S := S.reM (L' := (Jd Value.bool (QP (JY (fun x => x) l0 j) (YR (((l0.getD (l0.length - 2 - j) []).take (m + 1)).map (fun x => x)))))) (congrArg (Jd Value.bool) (show QP (JY (fun x => x) l0 j) (YR (((l0.getD (l0.length - 2 - j) []).take m).map (fun x => x))) = QP (JY (fun x => x) l0 j) (YR (((l0.getD (l0.length - 2 - j) []).take (m + 1)).map (fun x => x))) by first | (rw [List.take_zero, List.map_nil, UT]; done) | (refine at_yes (fun x => x) (Yo _ _ _) (by assumption) (Jl (n := l0.length - 2 - j) (by assumption) (by omega)) ?_; assumption) | (refine at_no (fun x => x) (by assumption) (Jl (n := l0.length - 2 - j) (by assumption) (by omega)) ?_; assumption)))
       exact ⟨m + 1, ⟨a4, b3, S, E.keep ⟨Y, Y, Y, Y, Y, Y, trivial⟩, by (omega)⟩, by omega⟩
     ·refine VJ (Qn E Y ?_)
      clear E a; intro a E
      refine Qk (X_rangeW E S Y Zc Y ?_)
      clear E a S; rintro a w c2 E S
      replace S : St w a4 (yg a0 c2 (Jd Value.bool (QP (JY (fun x => x) l0 j) (YR (((l0.getD (l0.length - 2 - j) []).take m).map (fun x => x))))) ([] : List Int) none :: _) := S
      refine ZH ?_
      replace S := S.reW (L' := (Jd Value.bool (Zh (JY (fun x => x) l0 j) (YR ((l0.getD (l0.length - 2 - j) []).map (fun x => x))) []))) (D' := []) (congrArg (Jd Value.bool) (show QP (JY (fun x => x) l0 j) (YR (((l0.getD (l0.length - 2 - j) []).take m).map (fun x => x))) = Zh (JY (fun x => x) l0 j) (YR ((l0.getD (l0.length - 2 - j) []).map (fun x => x))) [] by first | (rw [(Jl (n := l0.length - 2 - j) (by assumption) (by omega)), List.take_of_length_le (by omega), UQ]; done) | (refine zA (Yo _ _ _) (by assumption) (by assumption) ?_; first | rfl | assumption) | (refine zB (by assumption) (by assumption) ?_; first | rfl | assumption))) (show ([] : List Int) = [] by first | rfl | (simp; done))
      refine QN (γ := List Int) (fun (dd : List Int) a w => ∃ (a7 : Hp), Hp.le a4 a7 ∧ St w a7 (yg a0 c2 (Jd Value.bool (Zh (JY (fun x => x) l0 j) (YR ((l0.getD (l0.length - 2 - j) []).map (fun x => x))) dd)) dd none :: H) ∧ Env a 110 [] [(0, v0), (4, .map (some a0)), (7, .int .i64 ((l0.length : Int) - 2 - (j : Int))), (73, .pointer (some ⟨c2, 0, none⟩))] ∧ (dd.Nodup) ∧ (∀ z ∈ dd, z ∈ JY (fun x => x) l0 j)) (fun dd => (JY (fun x => x) l0 j).length - dd.length) [] ⟨a4, lerf, S, E.keep ⟨Y, Y, Y, Y, trivial⟩, (by simp), (by simp)⟩ ?_
      try clear E
      try clear S
      try clear a
      try clear w
      rintro dd a w ⟨a7, c0, S, E, j0, j1⟩
      replace h0 := h0.le c0
      refine Qs ?_
      refine Qk (X_nextWE (vf := Value.bool) E S Y Y ?_ ?_)
      ·clear E a S; rintro a E hpm_26 S
       refine Qg E Y Y ?_
       clear E a; intro a E
       refine ZJ ?_
       refine QF E Y Y ?_
       refine J_Aa (Qn E Y fun _ B => JT (m := ((l0.length : Int) - 2 - (j : Int)) - 1) B Y Y fun _ C => Qj C Y ?_)
       clear E a B C; intro a E
       refine Qz ?_
       replace S := S.reM (L' := (Jd Value.bool (QP (JY (fun x => x) l0 (j + 1)) (fun _ => false)))) (congrArg (Jd Value.bool) (show Zh (JY (fun x => x) l0 j) (YR ((l0.getD (l0.length - 2 - j) []).map (fun x => x))) dd = QP (JY (fun x => x) l0 (j + 1)) (fun _ => false) by first | (rw [(Jl (n := l0.length - 1) (by assumption) (by omega)), List.take_of_length_le (by omega)]; show _ = QP (Qw _) _; rw [(Jl (n := l0.length - 1) (by assumption) (by omega))]; done) | (rw [sd_end (by assumption)]; rfl)))
       exact ⟨j + 1, ⟨a7, (b8.trans (b3.trans c0)), S, E.keep ⟨Y, Y, Ye (i := ((l0.length : Int) - 2 - (j : Int)) - 1) Y (by (omega)), trivial⟩, (by omega)⟩, by omega⟩
      ·clear E a S w; rintro a w a1 j2 E hk_28 hk_28n S
       refine Qg E Y Y ?_
       clear E a; intro a E
       refine ZJ ?_
       refine QY E Y Y ?_
       refine Qx (JZ (QW (Qs (e_entryW E S Y fun _ B => Qg B Y Y fun _ C => Qg C Y Y fun _ D => QD 2 D Y fun _ F => QI (Qn F Y ?_)))))
       clear E a B C D F; intro a E
       refine Qz ?_
       refine Jf E Y (fun f2 => ?_) (fun f2 => ?_)
       ·refine Qh ?_
        refine QD 2 E Y ?_
        clear E a; intro a E
        refine Jm (vA (vf := Value.bool) (u := false) E S Zc Y Y Y (by exact List.mem_map_of_mem (f := Prod.fst) (by assumption)) ?_)
        clear E a S; rintro a w E S
        refine Jz (ZK (JZ ?_))
        replace S := S.reW (L' := (Jd Value.bool (Zh (JY (fun x => x) l0 j) (YR ((l0.getD (l0.length - 2 - j) []).map (fun x => x))) (dd ++ [a1])))) (D' := (dd ++ [a1])) (congrArg (Jd Value.bool) (show Zj (Zh (JY (fun x => x) l0 j) (YR ((l0.getD (l0.length - 2 - j) []).map (fun x => x))) dd) a1 false = Zh (JY (fun x => x) l0 j) (YR ((l0.getD (l0.length - 2 - j) []).map (fun x => x))) (dd ++ [a1]) by first | (rw [(Jl (n := l0.length - 2 - j) (by assumption) (by omega)), List.take_of_length_le (by omega), UQ]; done) | (refine zA (Yo _ _ _) (by assumption) (by assumption) ?_; first | rfl | assumption) | (refine zB (by assumption) (by assumption) ?_; first | rfl | assumption))) (show dd ++ [a1] = (dd ++ [a1]) by first | rfl | (simp; done))
        exact ⟨(dd ++ [a1]), ⟨a7, c0, S, E.keep ⟨Y, Y, Y, Y, trivial⟩, (by exact Wo (by assumption) (by assumption)), (by exact qA (by assumption) (by assumption) (by assumption))⟩, (by have hlt := jV (by assumption) (by assumption) (by assumption) (by assumption); simp; omega)⟩
       ·refine Qh ?_
        refine QD 2 E Y ?_
        clear E a; intro a E
        refine Jm (jq (vf := Value.bool) E S Zc Y Y ?_)
        clear E a S; rintro a w E S
        refine Jz (ZK (JZ ?_))
        replace S := S.reW (L' := (Jd Value.bool (Zh (JY (fun x => x) l0 j) (YR ((l0.getD (l0.length - 2 - j) []).map (fun x => x))) (dd ++ [a1])))) (D' := (dd ++ [a1])) (congrArg (Jd Value.bool) (show YX (Zh (JY (fun x => x) l0 j) (YR ((l0.getD (l0.length - 2 - j) []).map (fun x => x))) dd) a1 = Zh (JY (fun x => x) l0 j) (YR ((l0.getD (l0.length - 2 - j) []).map (fun x => x))) (dd ++ [a1]) by first | (rw [(Jl (n := l0.length - 2 - j) (by assumption) (by omega)), List.take_of_length_le (by omega), UQ]; done) | (refine zA (Yo _ _ _) (by assumption) (by assumption) ?_; first | rfl | assumption) | (refine zB (by assumption) (by assumption) ?_; first | rfl | assumption))) (show dd ++ [a1] = (dd ++ [a1]) by first | rfl | (simp; done))
        exact ⟨(dd ++ [a1]), ⟨a7, c0, S, E.keep ⟨Y, Y, Y, Y, trivial⟩, (by exact Wo (by assumption) (by assumption)), (by exact qA (by assumption) (by assumption) (by assumption))⟩, (by have hlt := jV (by assumption) (by assumption) (by assumption) (by assumption); simp; omega)⟩
    ·refine VJ (Qn E Y fun _ B => S_w B ((jb B S Zc Y).trans (by rw [Wa])) ?_)
     clear E a B; intro a E
     refine Qk (JD (k := (QP (JY (fun x => x) l0 j) (fun _ => false)).length) E S Y Y Y QE Y (by omega) (by (have h9 := yr (fun x => x) l0 j; have h8 := YA l0 (l0.length - 1) _ hb; simp only [vy]; omega)) (by (have h9 := yr (fun x => x) l0 j; have h8 := YA l0 (l0.length - 1) _ hb; simp only [vy]; omega)) ?_)
     clear E a S; rintro a w j3 E S
     replace S := S.made0
     refine Qj E Y fun _ B => Zp (Qn B Y ?_)
     clear E a B; intro a E
     obtain ⟨c6, f3⟩ : ∃ x, (l0)[0]? = some x := ⟨_, List.getElem?_eq_getElem (by omega)⟩
     obtain ⟨j4, f4, f5, f6, b4⟩ := h0.at f3
     have j5 := b4.bound
     refine QZ E Y Y Vn f5 (by omega) fun _ B => Qb B Y Tryz.isAgg22 S.imm f6 fun _ C => Qt C Y QE b4.len fun _ D => Qn D Y ?_
     clear E a B C D; intro a E
     refine ZH ?_
     replace S := S.front1.front1
     replace S := S.re1 (l' := ZY (fun x => x) (JY (fun x => x) l0 j) ((l0.getD 0 []).take 0)) (by rfl)
     replace S := S.front1
     replace S := S.reM (L' := (Jd Value.bool (QP (JQ (fun x => x) (JY (fun x => x) l0 j) ((l0.getD 0 []).take 0)) (fun _ => false)))) (congrArg (Jd Value.bool) (show QP (JY (fun x => x) l0 j) (fun _ => false) = QP (JQ (fun x => x) (JY (fun x => x) l0 j) ((l0.getD 0 []).take 0)) (fun _ => false) by first | rfl | (rw [List.take_zero]; exact YD _ _) | exact zC (fun x => x) (by assumption) (Jl (n := 0) (by assumption) rfl) | (refine rm_no (fun x => x) (by assumption) (Jl (n := 0) (by assumption) rfl) ?_; assumption) | (refine Ga (fun x => x) (by assumption) (Jl (n := 0) (by assumption) rfl) ?_; assumption) | (refine jn (fun x => x) (by assumption) (Jl (n := 0) (by assumption) rfl) ?_; assumption)))
     refine QN (γ := Nat) (fun (i : Nat) a w => ∃ (a8 : Hp) (u14 : Value), Hp.le a2 a8 ∧ St w a8 (Zd Value.bool a0 (QP (JQ (fun x => x) (JY (fun x => x) l0 j) ((l0.getD 0 []).take i)) (fun _ => false)) :: Jg 3 u14 (ZY (fun x => x) (JY (fun x => x) l0 j) ((l0.getD 0 []).take i)) :: H) ∧ Env a 110 [] [(4, .map (some a0)), (14, u14), (89, f4), (90, .int .i64 (((c6).length : Nat) : Int)), (91, .int .i64 ((i : Nat) : Int))] ∧ (i ≤ (l0.getD 0 []).length)) (fun i => (l0.getD 0 []).length - i) 0 ⟨a2, _, lerf, S, E.keep ⟨Y, Y, Y, Y, Y, trivial⟩, (by omega)⟩ ?_
     try clear E
     try clear S
     try clear a
     try clear w
     rintro i a w ⟨a8, u14, b5, S, E, f7⟩
     replace h0 := h0.le b5
     replace b4 := b4.le b5
     refine Qs (Jc E Y Y ?_)
     clear E a; intro a E
     refine ZJ ?_
     refine Ql E Y (fun f8 => ?_) (fun f8 => ?_)
     ·refine YZ ?_
      obtain ⟨c3, f9⟩ : ∃ x, (c6)[i]? = some x := ⟨_, List.getElem?_eq_getElem (by omega)⟩
      obtain ⟨j6, g0, g1⟩ := b4.at f9
      refine QZ E Y Y QE g0 Y fun _ B => Qb B Y Tryz.isAgg3 S.imm g1 fun _ C => Qj C Y fun _ D => QI (QD 2 D Y ?_)
      clear E a B C D; intro a E
      refine Qk (Yb (vf := Value.bool) (zb := false) E S Y Zc Y Y ?_)
      clear E a S; rintro a w E S
      replace S : St w a8 (Zd Value.bool a0 (QP (JQ (fun x => x) (JY (fun x => x) l0 j) ((l0.getD 0 []).take i)) (fun _ => false)) :: _) := S
      refine Qn E Y fun _ B => Qg B Y Y fun _ C => Qg C Y Y fun _ D => QD 2 D Y fun _ F => QI (Qn F Y ?_)
      clear E a B C D F; intro a E
      refine Qz ?_
      refine Jf E Y (fun g2 => ?_) (fun g2 => ?_)
      ·refine Je ?_
       refine Qh (QD 2 E Y ?_)
       clear E a; intro a E
       refine Qk (QV (ys := [c3]) E S Y QE Y Y Y ?_)
       clear E a S; rintro a w j7 E S
       replace S := S.front2.front1
       refine Qk (JF (xs := ZY (fun x => x) (JY (fun x => x) l0 j) ((l0.getD 0 []).take i)) (ys := [c3]) E S Y Y Y QE (by (have h9 := Wv (fun x => x) ((l0.getD 0 []).take i) (JY (fun x => x) l0 j); have h8 := YA l0 0 _ hb; simp only [List.length_take] at h9; simp only [List.length_cons, List.length_nil]; omega)) ?_)
       clear E a S; rintro a w j8 E S
       refine Qj E Y fun _ B => zw (QD 2 B Y ?_)
       clear E a B; intro a E
       replace S := S.front1
       refine Jm (WE (vf := Value.bool) E S Zc Y Y ?_)
       clear E a S; rintro a w E S
       refine Wj (Qp (m := ((i + 1 : Nat) : Int)) E Y Y fun _ B => Qn B Y ?_)
       clear E a B; intro a E
       refine Qz ?_
       replace S := S.front1
       replace S := S.re1 (l' := ZY (fun x => x) (JY (fun x => x) l0 j) ((l0.getD 0 []).take (i + 1))) (by (refine Ga (fun x => x) (by assumption) (Jl (n := 0) (by assumption) rfl) ?_; assumption))
       replace S := S.front1
       replace S := S.reM (L' := (Jd Value.bool (QP (JQ (fun x => x) (JY (fun x => x) l0 j) ((l0.getD 0 []).take (i + 1))) (fun _ => false)))) (congrArg (Jd Value.bool) (show YX (QP (JQ (fun x => x) (JY (fun x => x) l0 j) ((l0.getD 0 []).take i)) (fun _ => false)) c3 = QP (JQ (fun x => x) (JY (fun x => x) l0 j) ((l0.getD 0 []).take (i + 1))) (fun _ => false) by first | rfl | (rw [List.take_zero]; exact YD _ _) | exact zC (fun x => x) (by assumption) (Jl (n := 0) (by assumption) rfl) | (refine rm_no (fun x => x) (by assumption) (Jl (n := 0) (by assumption) rfl) ?_; assumption) | (refine Ga (fun x => x) (by assumption) (Jl (n := 0) (by assumption) rfl) ?_; assumption) | (refine jn (fun x => x) (by assumption) (Jl (n := 0) (by assumption) rfl) ?_; assumption)))
       exact ⟨i + 1, ⟨a8, _, b5, S, E.keep ⟨Y, Y, Y, Y, Y, trivial⟩, (by rw [(Jl (n := 0) (by assumption) rfl)]; omega)⟩, (by rw [(Jl (n := 0) (by assumption) rfl)]; omega)⟩
      ·refine Qx ?_
       refine WN (Qp (m := ((i + 1 : Nat) : Int)) E Y Y fun _ B => Qn B Y ?_)
       clear E a B; intro a E
       refine Qz ?_
       replace S := S.front1
       replace S := S.re1 (l' := ZY (fun x => x) (JY (fun x => x) l0 j) ((l0.getD 0 []).take (i + 1))) (by (refine jn (fun x => x) (by assumption) (Jl (n := 0) (by assumption) rfl) ?_; assumption))
       replace S := S.front1
       replace S := S.reM (L' := (Jd Value.bool (QP (JQ (fun x => x) (JY (fun x => x) l0 j) ((l0.getD 0 []).take (i + 1))) (fun _ => false)))) (congrArg (Jd Value.bool) (show QP (JQ (fun x => x) (JY (fun x => x) l0 j) ((l0.getD 0 []).take i)) (fun _ => false) = QP (JQ (fun x => x) (JY (fun x => x) l0 j) ((l0.getD 0 []).take (i + 1))) (fun _ => false) by first | rfl | (rw [List.take_zero]; exact YD _ _) | exact zC (fun x => x) (by assumption) (Jl (n := 0) (by assumption) rfl) | (refine rm_no (fun x => x) (by assumption) (Jl (n := 0) (by assumption) rfl) ?_; assumption) | (refine Ga (fun x => x) (by assumption) (Jl (n := 0) (by assumption) rfl) ?_; assumption) | (refine jn (fun x => x) (by assumption) (Jl (n := 0) (by assumption) rfl) ?_; assumption)))
       exact ⟨i + 1, ⟨a8, _, b5, S, E.keep ⟨Y, Y, Y, Y, Y, trivial⟩, (by rw [(Jl (n := 0) (by assumption) rfl)]; omega)⟩, (by rw [(Jl (n := 0) (by assumption) rfl)]; omega)⟩
     ·refine VJ (QD 2 E Y ?_)
      clear E a; intro a E
      refine Jj ?_
      replace S := S.front1
      have S0 := S; clear S
      obtain ⟨g3, c7, g4, S⟩ := S0.freezeI (by ((have h9 := Wv (fun x => x) ((l0.getD 0 []).take i) (JY (fun x => x) l0 j); have h8 := YA l0 0 _ hb; simp only [List.length_take] at h9; omega)))
      clear S0
      replace h0 := h0.le c7
      exact Qa E Tryz.results265 Y ⟨_, Y, g3, (b1.trans (b8.trans (b5.trans c7))), (QX.eqL g4 (by (rw [List.take_of_length_le (by rw [Jl (n := 0) (by assumption) rfl]; omega)]; (first | refine (UU (f := fun x => x) (ll := l0) (by omega) ?_ _).symm | refine UU (f := fun x => x) (ll := l0) (by omega) ?_ _); (first | (left; omega) | (right; exact zY (f := fun _ => false) (by first | assumption | omega)))))), S.drop⟩
   ·replace E := E.val (t := 45) Y a3
    replace E := E.val (t := 46) Y a3
    replace a3 := of_decide_eq_false a3
    refine Qe E Y Y Y Y fun _ B => Qe B Y Y Y Y fun _ C => Qe C Y Y Y Y fun _ D => JB D Y Y ?_
    clear E a B C D; intro a E
    refine Qz ?_
    refine QF E Y Y ?_
    refine VJ (Qn E Y fun _ B => S_w B ((jb B S Zc Y).trans (by rw [Wa])) ?_)
    clear E a B; intro a E
    refine Qk (JD (k := (QP (JY (fun x => x) l0 j) (fun _ => false)).length) E S Y Y Y QE Y (by omega) (by (have h9 := yr (fun x => x) l0 j; have h8 := YA l0 (l0.length - 1) _ hb; simp only [vy]; omega)) (by (have h9 := yr (fun x => x) l0 j; have h8 := YA l0 (l0.length - 1) _ hb; simp only [vy]; omega)) ?_)
    clear E a S; rintro a w j9 E S
    replace S := S.made0
    refine Qj E Y fun _ B => Zp (Qn B Y ?_)
    clear E a B; intro a E
    obtain ⟨c8, g5⟩ : ∃ x, (l0)[0]? = some x := ⟨_, List.getElem?_eq_getElem (by omega)⟩
    obtain ⟨k0, g6, g7, g8, b6⟩ := h0.at g5
    have k1 := b6.bound
    refine QZ E Y Y Vn g7 (by omega) fun _ B => Qb B Y Tryz.isAgg22 S.imm g8 fun _ C => Qt C Y QE b6.len fun _ D => Qn D Y ?_
    clear E a B C D; intro a E
    refine ZH ?_
    replace S := S.front1.front1
    replace S := S.re1 (l' := ZY (fun x => x) (JY (fun x => x) l0 j) ((l0.getD 0 []).take 0)) (by rfl)
    replace S := S.front1
    replace S := S.reM (L' := (Jd Value.bool (QP (JQ (fun x => x) (JY (fun x => x) l0 j) ((l0.getD 0 []).take 0)) (fun _ => false)))) (congrArg (Jd Value.bool) (show QP (JY (fun x => x) l0 j) (fun _ => false) = QP (JQ (fun x => x) (JY (fun x => x) l0 j) ((l0.getD 0 []).take 0)) (fun _ => false) by first | rfl | (rw [List.take_zero]; exact YD _ _) | exact zC (fun x => x) (by assumption) (Jl (n := 0) (by assumption) rfl) | (refine rm_no (fun x => x) (by assumption) (Jl (n := 0) (by assumption) rfl) ?_; assumption) | (refine Ga (fun x => x) (by assumption) (Jl (n := 0) (by assumption) rfl) ?_; assumption) | (refine jn (fun x => x) (by assumption) (Jl (n := 0) (by assumption) rfl) ?_; assumption)))
    refine QN (γ := Nat) (fun (i : Nat) a w => ∃ (a9 : Hp) (u14 : Value), Hp.le a2 a9 ∧ St w a9 (Zd Value.bool a0 (QP (JQ (fun x => x) (JY (fun x => x) l0 j) ((l0.getD 0 []).take i)) (fun _ => false)) :: Jg 3 u14 (ZY (fun x => x) (JY (fun x => x) l0 j) ((l0.getD 0 []).take i)) :: H) ∧ Env a 110 [] [(4, .map (some a0)), (14, u14), (89, g6), (90, .int .i64 (((c8).length : Nat) : Int)), (91, .int .i64 ((i : Nat) : Int))] ∧ (i ≤ (l0.getD 0 []).length)) (fun i => (l0.getD 0 []).length - i) 0 ⟨a2, _, lerf, S, E.keep ⟨Y, Y, Y, Y, Y, trivial⟩, (by omega)⟩ ?_
    try clear E
    try clear S
    try clear a
    try clear w
    rintro i a w ⟨a9, u14, c1, S, E, f7⟩
    replace b6 := b6.le c1
    refine Qs (Jc E Y Y ?_)
    clear E a; intro a E
    refine ZJ ?_
    refine Ql E Y (fun g9 => ?_) (fun g9 => ?_)
    ·refine YZ ?_
     obtain ⟨c4, h1⟩ : ∃ x, (c8)[i]? = some x := ⟨_, List.getElem?_eq_getElem (by omega)⟩
     obtain ⟨k2, h2, h3⟩ := b6.at h1
     refine QZ E Y Y QE h2 Y fun _ B => Qb B Y Tryz.isAgg3 S.imm h3 fun _ C => Qj C Y fun _ D => QI (QD 2 D Y ?_)
     clear E a B C D; intro a E
     refine Qk (Yb (vf := Value.bool) (zb := false) E S Y Zc Y Y ?_)
     clear E a S; rintro a w E S
     replace S : St w a9 (Zd Value.bool a0 (QP (JQ (fun x => x) (JY (fun x => x) l0 j) ((l0.getD 0 []).take i)) (fun _ => false)) :: _) := S
     refine Qn E Y fun _ B => Qg B Y Y fun _ C => Qg C Y Y fun _ D => QD 2 D Y fun _ F => QI (Qn F Y ?_)
     clear E a B C D F; intro a E
     refine Qz ?_
     refine Jf E Y (fun h4 => ?_) (fun h4 => ?_)
     ·refine Je ?_
      refine Qh (QD 2 E Y ?_)
      clear E a; intro a E
      refine Qk (QV (ys := [c4]) E S Y QE Y Y Y ?_)
      clear E a S; rintro a w k3 E S
      replace S := S.front2.front1
      refine Qk (JF (xs := ZY (fun x => x) (JY (fun x => x) l0 j) ((l0.getD 0 []).take i)) (ys := [c4]) E S Y Y Y QE (by (have h9 := Wv (fun x => x) ((l0.getD 0 []).take i) (JY (fun x => x) l0 j); have h8 := YA l0 0 _ hb; simp only [List.length_take] at h9; simp only [List.length_cons, List.length_nil]; omega)) ?_)
      clear E a S; rintro a w k4 E S
      refine Qj E Y fun _ B => zw (QD 2 B Y ?_)
      clear E a B; intro a E
      replace S := S.front1
      refine Jm (WE (vf := Value.bool) E S Zc Y Y ?_)
      clear E a S; rintro a w E S
      refine Wj (Qp (m := ((i + 1 : Nat) : Int)) E Y Y fun _ B => Qn B Y ?_)
      clear E a B; intro a E
      refine Qz ?_
      replace S := S.front1
      replace S := S.re1 (l' := ZY (fun x => x) (JY (fun x => x) l0 j) ((l0.getD 0 []).take (i + 1))) (by (refine Ga (fun x => x) (by assumption) (Jl (n := 0) (by assumption) rfl) ?_; assumption))
      replace S := S.front1
      replace S := S.reM (L' := (Jd Value.bool (QP (JQ (fun x => x) (JY (fun x => x) l0 j) ((l0.getD 0 []).take (i + 1))) (fun _ => false)))) (congrArg (Jd Value.bool) (show YX (QP (JQ (fun x => x) (JY (fun x => x) l0 j) ((l0.getD 0 []).take i)) (fun _ => false)) c4 = QP (JQ (fun x => x) (JY (fun x => x) l0 j) ((l0.getD 0 []).take (i + 1))) (fun _ => false) by first | rfl | (rw [List.take_zero]; exact YD _ _) | exact zC (fun x => x) (by assumption) (Jl (n := 0) (by assumption) rfl) | (refine rm_no (fun x => x) (by assumption) (Jl (n := 0) (by assumption) rfl) ?_; assumption) | (refine Ga (fun x => x) (by assumption) (Jl (n := 0) (by assumption) rfl) ?_; assumption) | (refine jn (fun x => x) (by assumption) (Jl (n := 0) (by assumption) rfl) ?_; assumption)))
      exact ⟨i + 1, ⟨a9, _, c1, S, E.keep ⟨Y, Y, Y, Y, Y, trivial⟩, (by rw [(Jl (n := 0) (by assumption) rfl)]; omega)⟩, (by rw [(Jl (n := 0) (by assumption) rfl)]; omega)⟩
     ·refine Qx ?_
      refine WN (Qp (m := ((i + 1 : Nat) : Int)) E Y Y fun _ B => Qn B Y ?_)
      clear E a B; intro a E
      refine Qz ?_
      replace S := S.front1
      replace S := S.re1 (l' := ZY (fun x => x) (JY (fun x => x) l0 j) ((l0.getD 0 []).take (i + 1))) (by (refine jn (fun x => x) (by assumption) (Jl (n := 0) (by assumption) rfl) ?_; assumption))
      replace S := S.front1
      replace S := S.reM (L' := (Jd Value.bool (QP (JQ (fun x => x) (JY (fun x => x) l0 j) ((l0.getD 0 []).take (i + 1))) (fun _ => false)))) (congrArg (Jd Value.bool) (show QP (JQ (fun x => x) (JY (fun x => x) l0 j) ((l0.getD 0 []).take i)) (fun _ => false) = QP (JQ (fun x => x) (JY (fun x => x) l0 j) ((l0.getD 0 []).take (i + 1))) (fun _ => false) by first | rfl | (rw [List.take_zero]; exact YD _ _) | exact zC (fun x => x) (by assumption) (Jl (n := 0) (by assumption) rfl) | (refine rm_no (fun x => x) (by assumption) (Jl (n := 0) (by assumption) rfl) ?_; assumption) | (refine Ga (fun x => x) (by assumption) (Jl (n := 0) (by assumption) rfl) ?_; assumption) | (refine jn (fun x => x) (by assumption) (Jl (n := 0) (by assumption) rfl) ?_; assumption)))
      exact ⟨i + 1, ⟨a9, _, c1, S, E.keep ⟨Y, Y, Y, Y, Y, trivial⟩, (by rw [(Jl (n := 0) (by assumption) rfl)]; omega)⟩, (by rw [(Jl (n := 0) (by assumption) rfl)]; omega)⟩
    ·refine VJ (QD 2 E Y ?_)
     clear E a; intro a E
     refine Jj ?_
     replace S := S.front1
     have S0 := S; clear S
     obtain ⟨h5, h6, h7, S⟩ := S0.freezeI (by ((have h9 := Wv (fun x => x) ((l0.getD 0 []).take i) (JY (fun x => x) l0 j); have h8 := YA l0 0 _ hb; simp only [List.length_take] at h9; omega)))
     clear S0
     exact Qa E Tryz.results265 Y ⟨_, Y, h5, (b1.trans (b8.trans (c1.trans h6))), (QX.eqL h7 (by (rw [List.take_of_length_le (by rw [Jl (n := 0) (by assumption) rfl]; omega)]; (first | refine (UU (f := fun x => x) (ll := l0) (by omega) ?_ _).symm | refine UU (f := fun x => x) (ll := l0) (by omega) ?_ _); (first | (left; omega) | (right; exact zY (f := fun _ => false) (by first | assumption | omega)))))), S.drop⟩
theorem ve {M : Hp} {v0 : Value} {l0 : List (List Int)} (h0 : Zf M v0 l0) (hb : ∀ x ∈ l0, x.length ≤ 1000000000) :
  Pu Tryz.prog (.func (.func 184) #[] #[]) M [v0] (fun r M' => Qy M' r (Ub (fun x => x) l0)) := by
 refine Qd Tryz.func184 Y Tryz.ntmps184 Y Tryz.call184 ?_
 intro a w M1 H hM1 S E
 replace h0 := h0.le hM1
 have b0 := h0.bound
 have hml := yD (fun x => x) (ll := l0) hb
 refine Qs (Qj E Y fun _ B => QI (Qn B Y ?_))
 clear E a B; intro a E
 refine Qk (Qm E S Y Y Y (lo_Intersect h0 (by assumption)) lerf ?_)
 clear E a S; rintro a a3 w a0 a1 a2 S E
 refine Qj E Y ?_
 clear E a; intro a E
 refine Jj ?_
 exact Qa E Tryz.results184 Y ⟨_, Y, a0, a1, a2, S⟩
theorem laws_in {M : Hp} {v0 : Value} {l0 : List Int} (h0 : Qy M v0 l0){x1 : Int} :
  Pu Tryz.prog (.func (.func 215) #[] #[]) M [v0, .int .i64 x1] (fun r M' => r = .bool (decide (x1 ∈ l0))) := by
 refine Qd Tryz.func215 Y Tryz.ntmps215 Y Tryz.call215 ?_
 intro a w M1 H hM1 S E
 replace h0 := h0.le hM1
 have b0 := h0.bound
 refine Qs (Qj E Y fun _ B => Zp (Qn B Y fun _ C => Qt C Y QE h0.len fun _ D => Qn D Y ?_))
 clear E a B C D; intro a E
 refine ZH ?_
 refine QN (γ := Nat) (fun (k : Nat) a w => ∃ (a0 : Hp), Hp.le M1 a0 ∧ St w a0 (H) ∧ Env a 17 [] [(1, .int .i64 x1), (7, v0), (8, .int .i64 (((l0).length : Nat) : Int)), (9, .int .i64 ((k : Nat) : Int))] ∧ (k ≤ (l0).length) ∧ (x1 ∉ l0.take k)) (fun k => ((l0).length) - k) 0 ⟨M1, lerf, S, E.keep ⟨Y, Y, Y, Y, trivial⟩, by (omega), by ((try clear S); (try clear E); (simp; done))⟩ ?_
 try clear E
 try clear S
 try clear a
 try clear w
 rintro k a w ⟨a0, a1, S, E, a8, a2⟩
 replace h0 := h0.le a1
 refine Qs (Jc E Y Y ?_)
 clear E a; intro a E
 refine ZJ ?_
 refine Ql E Y (fun a3 => ?_) (fun a3 => ?_)
 ·refine YZ ?_
  obtain ⟨a9, a4⟩ : ∃ x, (l0)[k]? = some x := ⟨_, List.getElem?_eq_getElem (by omega)⟩
  obtain ⟨b1, a5, a6⟩ := h0.at a4
  refine QZ E Y Y QE a5 Y fun _ B => Qb B Y Tryz.isAgg3 S.imm a6 fun _ C => Qj C Y fun _ D => QI (QD 2 D Y fun _ F => QK F Y Y ?_)
  clear E a B C D F; intro a E
  refine Qz ?_
  refine Ql E Y (fun a7 => ?_) (fun a7 => ?_)
  ·refine Qs (Qj E Y ?_)
   clear E a; intro a E
   refine J_s (ZC (UA ?_))
   exact Qa E Tryz.results215 Y ⟨_, Y, a0, a1, (bT (by (refine List.mem_of_getElem? (i := k) ?_; simp_all))), S⟩
  ·refine zu (Qp (m := ((k + 1 : Nat) : Int)) E Y Y fun _ B => Qn B Y ?_)
   clear E a B; intro a E
   refine Qz ?_
   exact ⟨k + 1, ⟨a0, a1, S, E.keep ⟨Y, Y, Y, Y, trivial⟩, by (omega), by ((try clear S); (try clear E); (simp [List.take_add_one, *]; done))⟩, by omega⟩
 ·refine VJ (Qj E Y ?_)
  clear E a; intro a E
  refine Jj ?_
  exact Qa E Tryz.results215 Y ⟨_, Y, a0, a1, (bF (by (rw [List.take_of_length_le (by omega)] at a2; exact a2))), S⟩
theorem jm {M : Hp} {v0 : Value} {l0 : List Int} (h0 : Qy M v0 l0) (hb : l0.length ≤ 1000000000000) :
  Pu Tryz.prog (.func (.func 126) #[] #[]) M [v0] (fun r M' => Qy M' r (JW l0)) := by
 refine Qd Tryz.func126 Y Tryz.ntmps126 Y Tryz.call126 ?_
 intro a w M1 H hM1 S E
 replace h0 := h0.le hM1
 have b0 := h0.bound
 refine Qs (Qj E Y fun _ B => QI (Qj B Y fun _ D => Zp (Qn D Y fun _ F => Qt F Y QE h0.len fun _ G => Qn G Y ?_)))
 clear E a B D F G; intro a E
 refine ZH ?_
 replace S := (S.ownNil (e := 3) (sz := 1)).made0
 replace S := S.re1 (l' := JW (l0.take 0)) (by (simp [JW]; done))
 refine QN (γ := Nat) (fun (k : Nat) a w => ∃ (a2 : Hp) (u3 : Value), Hp.le M1 a2 ∧ St w a2 (Jg 3 u3 (JW (l0.take k)) :: H) ∧ Env a 57 [] [(3, u3), (7, v0), (8, .int .i64 (((l0).length : Nat) : Int)), (9, .int .i64 ((k : Nat) : Int))] ∧ (k ≤ (l0).length)) (fun k => ((l0).length) - k) 0 ⟨M1, _, lerf, S, E.keep ⟨Y, Y, Y, Y, trivial⟩, by (omega)⟩ ?_
 try clear E
 try clear S
 try clear a
 try clear w
 rintro k a w ⟨a2, u3, a5, S, E, c8⟩
 replace h0 := h0.le a5
 have hsu := setI_spec (l0.take k); have hsl := hsu.2.2; simp only [List.length_take] at hsl
 refine Qs (Jc E Y Y ?_)
 clear E a; intro a E
 refine ZJ ?_
 refine Ql E Y (fun b7 => ?_) (fun b7 => ?_)
 ·refine YZ ?_
  obtain ⟨a6, b8⟩ : ∃ x, (l0)[k]? = some x := ⟨_, List.getElem?_eq_getElem (by omega)⟩
  obtain ⟨c9, b9, c0⟩ := h0.at b8
  refine QZ E Y Y QE b9 Y fun _ B => Qb B Y Tryz.isAgg3 S.imm c0 fun _ D => Qj D Y fun _ F => Zp (QD 2 F Y ?_)
  clear E a B D F; intro a E
  obtain ⟨ML_6, hl_7, c1, S1, back⟩ := S.lendI (by omega)
  refine Qk (Qm E S1 Y Y Y (laws_in c1) lerf ?_)
  clear E a S; rintro a _ w d0 c2 rfl S E
  replace S := back _ _ c2 S
  clear back S1
  refine Qz ?_
  refine Ql E Y (fun c3 => ?_) (fun c3 => ?_)
  ·refine J_z (Qp (m := ((k + 1 : Nat) : Int)) E Y Y fun _ B => Qn B Y ?_)
   clear E a B; intro a E
   refine Qz ?_
   replace S := S.re1 (l' := JW (l0.take (k + 1))) (by (rw [GV (by assumption), zK (by rw [show l0[k]? = some _ by assumption]; assumption)]; done))
   exact ⟨k + 1, ⟨a2, _, a5, S, E.keep ⟨Y, Y, Y, Y, trivial⟩, by (omega)⟩, by omega⟩
  ·refine VC (QD 2 E Y ?_)
   clear E a; intro a E
   refine Qk (QV (ys := [a6]) E S Y QE Y Y Y ?_)
   clear E a S; rintro a w d1 E S
   replace S := S.front1.front1
   refine Qk (JF (xs := JW (l0.take k)) (ys := [a6]) E S Y Y Y QE (by (simp; omega)) ?_)
   clear E a S; rintro a w a9 E S
   refine Qj E Y fun _ B => QI (Qn B Y fun _ D => Qt D Y QE S.lenC fun _ F => JT (m := ((((JW (l0.take k)) ++ [a6]).length - 1 : Nat) : Int)) F Y Y (hm := (by (simp; done))) (hb := (by (simp; omega))) fun _ G => Qj G Y ?_)
   clear E a B D F G; intro a E
   refine ZH ?_
   replace S := S.re1 (l' := (JW (l0.take k)).take ((JW (l0.take k)).length - 0) ++ [(l0[k]?.getD 0)] ++ (JW (l0.take k)).drop ((JW (l0.take k)).length - 0)) (by (rw [show l0[k]? = some _ by assumption]; simp; done))
   refine QN (γ := Nat) (fun (j : Nat) a w => ∃ (a1 : Hp), Hp.le a2 a1 ∧ St w a1 (Jg 3 a9 ((JW (l0.take k)).take ((JW (l0.take k)).length - j) ++ [(l0[k]?.getD 0)] ++ (JW (l0.take k)).drop ((JW (l0.take k)).length - j)) :: H) ∧ Env a 57 [] [(3, a9), (6, .int .i64 (((JW (l0.take k)).length - j : Nat) : Int)), (7, v0), (8, .int .i64 (((l0).length : Nat) : Int)), (9, .int .i64 ((k : Nat) : Int))] ∧ (j ≤ (JW (l0.take k)).length) ∧ (∀ y ∈ (JW (l0.take k)).drop ((JW (l0.take k)).length - j), (l0[k]?.getD 0) < y)) (fun j => (JW (l0.take k)).length - j) 0 ⟨a2, lerf, S, E.keep ⟨Y, Jr (i := ((JW (l0.take k)) ++ [a6]).length - 1) Y (by ((simp; done))), Y, Y, Y, trivial⟩, (by omega), (by simp)⟩ ?_
   try clear E
   try clear S
   try clear a
   try clear w
   rintro j a w ⟨a1, a7, S, E, d2, a8⟩
   refine Je (Je ?_)
   replace S := S.mono_heap (w' := World.drew _) rfl
   obtain ⟨b1, a3⟩ := S.ptrC (k := (JW (l0.take k)).length - j) (by (simp; done))
   obtain ⟨b2, b3⟩ : ∃ x, ((JW (l0.take k)).take ((JW (l0.take k)).length - j) ++ [(l0[k]?.getD 0)] ++ (JW (l0.take k)).drop ((JW (l0.take k)).length - j))[(JW (l0.take k)).length - j]? = some x := ⟨_, List.getElem?_eq_getElem (by (simp; done))⟩
   obtain ⟨b4, a4⟩ := S.ptrC (k := (JW (l0.take k)).length - j - 1) (by (simp; omega))
   obtain ⟨b5, b6⟩ : ∃ x, ((JW (l0.take k)).take ((JW (l0.take k)).length - j) ++ [(l0[k]?.getD 0)] ++ (JW (l0.take k)).drop ((JW (l0.take k)).length - j))[(JW (l0.take k)).length - j - 1]? = some x := ⟨_, List.getElem?_eq_getElem (by (simp; omega))⟩
   refine Jb (C := fun x w => agree a1 w ∧ (x = 6 → w.cell? b1 = some (.int .i64 b2)) ∧ (x = 11 → w.cell? b4 = some (.int .i64 b5))) (bf := (fun i => [])) [0, 1, 2, 3, 4, 5, 6, 7, 8, 9, 10, 11, 12, 13] [0, 1, 2, 3, 4, 5, 6, 7, 8, 9, 10, 11, 12, 13] Tryz.mixed (by kernel_rfl) (fun x hq => ⟨S.imm, fun _ => S.cellI a3 b3, fun _ => S.cellI a4 b6⟩) ?_
   refine QU E Y (fun w hC => (QL E Y)) fun _ B => QU B Y (fun w hC => (R_gtr B Y Y)) fun _ D => QU D Y (fun w hC => (QL D Y)) ?_
   clear E a B D; intro a E
   refine Jo (decide (0 < (((JW (l0.take k)).length - j : Nat) : Int))) (fun a0 => ?_) (fun a0 => ?_)
   ·replace E := E.val (t := 24) Y a0
    replace E := E.val (t := 25) Y a0
    replace a0 := of_decide_eq_true a0
    refine ZG E Y Y Y Y Y (fun w hC => (QL E Y)) fun _ B => ZG B Y Y Y Y Y (fun w hC => (QL B Y)) fun _ D => ZG D Y Y Y Y Y (fun w hC => (ZO D Y Y QE a3 Y)) fun _ F => ZG F Y Y Y Y Y (fun w hC => (ZF F Y (Tryz.isAgg3 _) (hC.2.1 Y))) fun _ G => ZG G Y Y Y Y Y (fun w hC => (QL G Y)) fun _ I => ZG I Y Y Y Y Y (fun w hC => (QL I Y)) fun _ J => ZG J Y Y Y Y Y (fun w hC => (vF (m := (((JW (l0.take k)).length - j - 1 : Nat) : Int)) J Y Y (by omega) (by omega))) fun _ K => ZG K Y Y Y Y Y (fun w hC => (ZO K Y Y QE a4 Y)) fun _ L => ZG L Y Y Y Y Y (fun w hC => (ZF L Y (Tryz.isAgg3 _) (hC.2.2 Y))) fun _ N => ZG N Y Y Y Y Y (fun w hC => (R_lss N Y Y)) fun _ O => QU O Y (fun w hC => (zq O Y Y)) ?_
    clear E a B D F G I J K L N O; intro a E
    refine JI (JH ?_)
    refine JZ ?_
    refine Ql E Y (fun c4 => ?_) (fun c4 => ?_)
    ·refine Qx (JZ (Je (QW ?_)))
     replace S := S.mono_heap (w' := World.drew _) rfl
     refine Jb (C := fun x w => agree a1 w ∧ (x = 9 → w.cell? b4 = some (.int .i64 b5)) ∧ (x = 13 → w.cell? b1 = some (.int .i64 b2))) (bf := (fun i => bif Nat.beq i 15 then [9, 13] else bif Nat.beq i 17 then [9, 13] else [])) [0, 1, 2, 3, 4, 5, 6, 7, 8, 9, 10, 11, 12, 13, 14, 16] [0, 1, 2, 3, 4, 5, 6, 7, 8, 9, 10, 11, 12, 13, 14, 15, 16, 17] Tryz.mixed (by kernel_rfl) (fun x hq => ⟨S.imm, fun _ => S.cellI a4 b6, fun _ => S.cellI a3 b3⟩) ?_
     refine QU E Y (fun w hC => (QL E Y)) fun _ B => QU B Y (fun w hC => (QL B Y)) fun _ D => QU D Y (fun w hC => (QL D Y)) fun _ F => QU F Y (fun w hC => (QL F Y)) fun _ G => QU G Y (fun w hC => (vF (m := (((JW (l0.take k)).length - j - 1 : Nat) : Int)) G Y Y (by omega) (by omega))) fun _ I => QU I Y (fun w hC => (QL I Y)) fun _ J => QU J Y (fun w hC => (QL J Y)) fun _ K => QU K Y (fun w hC => (vF (m := (((JW (l0.take k)).length - j - 1 : Nat) : Int)) K Y Y (by omega) (by omega))) fun _ L => QU L Y (fun w hC => (ZO L Y Y QE a4 Y)) fun _ N => QU N Y (fun w hC => (ZF N Y (Tryz.isAgg3 _) (hC.2.1 Y))) fun _ O => QU O Y (fun w hC => (QL O Y)) fun _ T => QU T Y (fun w hC => (QL T Y)) ?_
     clear E a B D F G I J K L N O T; intro a E
     refine QU E Y (fun w hC => (ZO E Y Y QE a3 Y)) fun _ B => QU B Y (fun w hC => (ZF B Y (Tryz.isAgg3 _) (hC.2.2 Y))) fun _ D => QU D Y (fun w hC => (ZO D Y Y QE a3 Y)) ?_
     clear E a B D; intro a E
     refine ZP Y Y Y (YH E S Y Y (Tryz.sizeOf3 _) a3 ?_)
     clear E a S; rintro a w E S
     refine ⟨fun x hq hb => ⟨(Qu lerf S.imm), (fun e => by subst e; exact absurd hb (by decide)), (fun e => by subst e; exact absurd hb (by decide))⟩, ?_⟩
     refine QU E Y (fun w hC => (ZO E Y Y QE a4 Y)) ?_
     clear E a; intro a E
     refine ZP Y Y Y (YH E S Y Y (Tryz.sizeOf3 _) a4 ?_)
     clear E a S; rintro a w E S
     refine ⟨fun x hq hb => ⟨(Qu lerf S.imm), (fun e => by subst e; exact absurd hb (by decide)), (fun e => by subst e; exact absurd hb (by decide))⟩, ?_⟩
     refine JI (JH ?_)
     refine WN (Qn E Y fun _ B => JT (m := (((JW (l0.take k)).length - j - 1 : Nat) : Int)) B Y Y fun _ D => Qj D Y ?_)
     clear E a B D; intro a E
     refine Qz ?_
     replace S := S.re1 (l' := (JW (l0.take k)).take ((JW (l0.take k)).length - (j + 1)) ++ [(l0[k]?.getD 0)] ++ (JW (l0.take k)).drop ((JW (l0.take k)).length - (j + 1))) (by (have e1 := bub_at (s := JW (l0.take k)) (x := (l0[k]?.getD 0)) (i := (JW (l0.take k)).length - j) (by omega) (by assumption); have e2 := zm (s := JW (l0.take k)) (x := (l0[k]?.getD 0)) (i := (JW (l0.take k)).length - j) (by omega) (by omega) (by assumption); rw [show (JW (l0.take k)).length - (j + 1) = (JW (l0.take k)).length - j - 1 by omega, bubble_step (by omega) (by omega) e2, e1]))
     exact ⟨j + 1, ⟨a1, a7, S, E.keep ⟨Y, Jr (i := (JW (l0.take k)).length - j - 1) Y (by (omega)), Y, Y, Y, trivial⟩, (by omega), (by rw [show (JW (l0.take k)).length - (j + 1) = (JW (l0.take k)).length - j - 1 by omega]; exact drop_bub a8 (by omega) (by omega) (zm (s := JW (l0.take k)) (x := (l0[k]?.getD 0)) (i := (JW (l0.take k)).length - j) (by omega) (by omega) (by assumption)) (by rw [← bub_at (s := JW (l0.take k)) (x := (l0[k]?.getD 0)) (i := (JW (l0.take k)).length - j) (by omega) (by assumption)]; assumption))⟩, by omega⟩
    ·refine J_Aa (Qp (m := ((k + 1 : Nat) : Int)) E Y Y fun _ B => Qn B Y ?_)
     clear E a B; intro a E
     refine Qz ?_
     replace S := S.re1 (l' := JW (l0.take (k + 1))) (by (rw [GV (by assumption)]; exact yt hsu.1 (by rw [show l0[k]? = some _ by assumption]; assumption) a8 (by omega) (by first | (left; omega) | (right; exact ⟨_, zm (s := JW (l0.take k)) (x := (l0[k]?.getD 0)) (i := (JW (l0.take k)).length - j) (by omega) (by omega) (by assumption), by rw [← bub_at (s := JW (l0.take k)) (x := (l0[k]?.getD 0)) (i := (JW (l0.take k)).length - j) (by omega) (by assumption)]; assumption⟩))))
     exact ⟨k + 1, ⟨a1, _, (a5.trans a7), S, E.keep ⟨Y, Y, Y, Y, trivial⟩, by (omega)⟩, by omega⟩
   ·replace E := E.val (t := 24) Y a0
    replace E := E.val (t := 25) Y a0
    replace a0 := of_decide_eq_false a0
    refine Uj E Y Y Y Y Y fun a E => ?_
    refine Uj E Y Y Y Y Y fun a E => ?_
    refine Uj E Y Y Y Y Y fun a E => ?_
    refine Uj E Y Y Y Y Y fun a E => ?_
    refine Uj E Y Y Y Y Y fun a E => ?_
    refine Uj E Y Y Y Y Y fun a E => ?_
    refine Uj E Y Y Y Y Y fun a E => ?_
    refine Uj E Y Y Y Y Y fun a E => ?_
    refine Uj E Y Y Y Y Y fun a E => ?_
    refine Uj E Y Y Y Y Y fun a E => ?_
    refine QU E Y (fun w hC => (yf E Y Y)) ?_
    clear E a; intro a E
    refine JI (JH ?_)
    refine JZ ?_
    refine QF E Y Y ?_
    refine J_Aa (Qp (m := ((k + 1 : Nat) : Int)) E Y Y fun _ B => Qn B Y ?_)
    clear E a B; intro a E
    refine Qz ?_
    replace S := S.re1 (l' := JW (l0.take (k + 1))) (by (rw [GV (by assumption)]; exact yt hsu.1 (by rw [show l0[k]? = some _ by assumption]; assumption) a8 (by omega) (by first | (left; omega) | (right; exact ⟨_, zm (s := JW (l0.take k)) (x := (l0[k]?.getD 0)) (i := (JW (l0.take k)).length - j) (by omega) (by omega) (by assumption), by rw [← bub_at (s := JW (l0.take k)) (x := (l0[k]?.getD 0)) (i := (JW (l0.take k)).length - j) (by omega) (by assumption)]; assumption⟩))))
    exact ⟨k + 1, ⟨a1, _, (a5.trans a7), S, E.keep ⟨Y, Y, Y, Y, trivial⟩, by (omega)⟩, by omega⟩
 ·refine VJ (QD 2 E Y ?_)
  clear E a; intro a E
  refine Jj ?_
  have S0 := S; clear S
  obtain ⟨c5, c6, c7, S⟩ := S0.freezeI (by (omega))
  clear S0
  exact Qa E Tryz.results126 Y ⟨_, Y, c5, (a5.trans c6), (QX.eqL c7 (by (rw [List.take_of_length_le (by omega)]))), S⟩
theorem lo_Cut {M : Hp} {v0 v1 : Value} {l0 l1 : List Int} (h0 : Qy M v0 l0) (h1 : Qy M v1 l1) :
  Pu Tryz.prog (.func (.func 266) #[] #[]) M [v0, v1] (fun r M' => ∃ t0 t1, r = .tuple #[t0, t1, .bool ((Ur l0 l1).2.2)] ∧ Qy M' t0 ((Ur l0 l1).1) ∧ Qy M' t1 ((Ur l0 l1).2.1)) := by
 refine Qd Tryz.func266 Y Tryz.ntmps266 Y Tryz.call266 ?_
 intro a w M1 H hM1 S E
 replace h0 := h0.le hM1
 replace h1 := h1.le hM1
 have b0 := h0.bound
 have b1 := h1.bound
 refine Qs (QD 3 E Y fun _ B => Zp (Qn B Y fun _ D => Qt D Y QE h1.len fun _ F => QK F Y Y ?_))
 clear E a B D F; intro a E
 refine Qz ?_
 refine Ql E Y (fun b2 => ?_) (fun b2 => ?_)
 ·refine Qs ?_
  refine Qk (JD (k := 0) E S Y Y Y QE Y (by omega) (by omega) (by omega) ?_)
  clear E a S; rintro a w d0 E S
  replace S := S.made0
  refine QD 4 E Y ?_
  clear E a; intro a E
  refine UJ ?_
  have S0 := S; clear S
  obtain ⟨b3, a7, b4, S⟩ := S0.freezeI (by (first | omega | (simp; omega) | (simp; done) | (simp_all; omega) | grind))
  clear S0
  replace h0 := h0.le a7
  replace h1 := h1.le a7
  exact F_ret3 E Tryz.results266 Y Y Y ⟨_, Y, b3, a7, ⟨_, _, (by rw [Uv (k := 0) (by omega) (by simp [List.eq_nil_of_length_eq_zero (l := l1) (by omega)]) (fun j hj => by omega)]; try simp [List.eq_nil_of_length_eq_zero (l := l1) (by omega)]), (QX.eqL b4 (by rw [Uv (k := 0) (by omega) (by simp [List.eq_nil_of_length_eq_zero (l := l1) (by omega)]) (fun j hj => by omega)]; try simp [List.eq_nil_of_length_eq_zero (l := l1) (by omega)])), (by rw [show ((Ur l0 l1).2.1) = l0 from by rw [Uv (k := 0) (by omega) (by simp [List.eq_nil_of_length_eq_zero (l := l1) (by omega)]) (fun j hj => by omega)]; try simp [List.eq_nil_of_length_eq_zero (l := l1) (by omega)]]; exact h0)⟩, S⟩
 ·refine je (Qj E Y ?_)
  clear E a; intro a E
  refine ZH ?_
  refine QN (γ := Nat) (fun (k : Nat) a w => ∃ (a1 : Hp), Hp.le M1 a1 ∧ St w a1 (H) ∧ Env a 53 [] [(0, v0), (1, v1), (7, .int .i64 ((k : Nat) : Int))] ∧ (k ≤ l0.length + 1) ∧ (¬ (l1.length : Int) = 0) ∧ (∀ j, j < k → ¬ (l0.drop j).take l1.length = l1)) (fun k => l0.length + 1 - k) 0 ⟨M1, lerf, S, E.keep ⟨Y, Y, Y, trivial⟩, by ((try clear S); (try clear E); first | assumption | omega | rfl | (simp; done) | (simp_all; done) | (simp [List.take_add_one, *]; done) | grind [List.take_add_one]), by ((try clear S); (try clear E); first | assumption | omega | rfl | (simp; done) | (simp_all; done) | (simp [List.take_add_one, *]; done) | grind [List.take_add_one]), by ((try clear S); (try clear E); first | assumption | omega | rfl | (simp; done) | (simp_all; done) | (simp [List.take_add_one, *]; done) | grind [List.take_add_one])⟩ ?_
  try clear E
  try clear S
  try clear a
  try clear w
  rintro k a w ⟨a1, a3, S, E, d1, d2, a2⟩
  replace h0 := h0.le a3
  replace h1 := h1.le a3
  refine UK (QD 2 E Y fun _ B => Qt B Y QE h1.len fun _ D => Qp (m := ((k + (l1).length : Nat) : Int)) D Y Y fun _ F => Qn F Y fun _ G => Qt G Y QE h0.len fun _ I => Vy I Y Y ?_)
  clear E a B D F G I; intro a E
  refine Qz ?_
  refine Ql E Y (fun b5 => ?_) (fun b5 => ?_)
  ·refine YZ (Qj E Y fun _ B => Zp (Qj B Y ?_))
   clear E a B; intro a E
   refine ZH ?_
   refine QN (γ := Nat) (fun (j : Nat) a w => ∃ (a0 : Hp), Hp.le a1 a0 ∧ St w a0 (H) ∧ Env a 53 [] [(0, v0), (1, v1), (7, .int .i64 ((k : Nat) : Int)), (8, .bool true), (9, .int .i64 ((j : Nat) : Int))] ∧ (j ≤ (l1).length) ∧ ((l0.drop k).take j = l1.take j)) (fun j => ((l1).length) - j) 0 ⟨a1, lerf, S, E.keep ⟨Y, Y, Y, look_bool (i := true) Y (by ((try clear S); (try clear E); first | assumption | omega | rfl | (simp; done) | (simp_all; done) | (simp [List.take_add_one, *]; done) | grind [List.take_add_one])), Y, trivial⟩, by ((try clear S); (try clear E); first | assumption | omega | rfl | (simp; done) | (simp_all; done) | (simp [List.take_add_one, *]; done) | grind [List.take_add_one]), by ((try clear S); (try clear E); first | assumption | omega | rfl | (simp; done) | (simp_all; done) | (simp [List.take_add_one, *]; done) | grind [List.take_add_one])⟩ ?_
   try clear E
   try clear S
   try clear a
   try clear w
   rintro j a w ⟨a0, a4, S, E, d3, a8⟩
   replace h0 := h0.le a4
   replace h1 := h1.le a4
   refine UK (QD 2 E Y fun _ B => Qt B Y QE h1.len fun _ D => Jc D Y Y ?_)
   clear E a B D; intro a E
   refine Qz ?_
   refine Ql E Y (fun b6 => ?_) (fun b6 => ?_)
   ·refine Qx (JZ (Je (QW (Je ?_))))
    replace S := S.mono_heap (w' := World.drew _) rfl
    refine Jb (C := fun x w => agree a0 w) (bf := (fun i => [])) [0, 1, 2, 3, 4, 5, 6, 7, 8, 9, 10] [0, 1, 2, 3, 4, 5, 6, 7, 8, 9, 10] Tryz.mixed (by kernel_rfl) (fun x hq => S.imm) ?_
    refine QU E Y (fun w hC => (QL E Y)) fun _ B => QU B Y (fun w hC => (QL B Y)) fun _ D => QU D Y (fun w hC => (QL D Y)) fun _ F => QU F Y (fun w hC => (R_addx (m := ((k + j : Nat) : Int)) F Y Y (by omega) (by omega))) ?_
    clear E a B D F; intro a E
    obtain ⟨d4, b7⟩ : ∃ x, (l0)[k + j]? = some x := ⟨_, List.getElem?_eq_getElem (by first | omega | (simp; done) | (simp; omega) | (simp_all; omega))⟩
    obtain ⟨d5, b8, b9⟩ := h0.at b7
    refine QU E Y (fun w hC => (ZO E Y Y QE b8 Y)) fun _ B => QU B Y (fun w hC => (QQ B Y Tryz.isAgg3 hC b9)) fun _ D => QU D Y (fun w hC => (QL D Y)) fun _ F => QU F Y (fun w hC => (QL F Y)) ?_
    clear E a B D F; intro a E
    obtain ⟨d6, c0⟩ : ∃ x, (l1)[j]? = some x := ⟨_, List.getElem?_eq_getElem (by first | omega | (simp; done) | (simp; omega) | (simp_all; omega))⟩
    obtain ⟨d7, c1, c2⟩ := h1.at c0
    refine QU E Y (fun w hC => (ZO E Y Y QE c1 Y)) fun _ B => QU B Y (fun w hC => (QQ B Y Tryz.isAgg3 hC c2)) fun _ D => QU D Y (fun w hC => (R_neq D Y Y)) ?_
    clear E a B D; intro a E
    refine JI (JH ?_)
    refine JZ ?_
    refine Ql E Y (fun c3 => ?_) (fun c3 => ?_)
    ·refine Qs (Qj E Y ?_)
     clear E a; intro a E
     refine Qz (JO ?_)
     refine B_y Y ?_
     refine J_v (Qn E Y ?_)
     clear E a; intro a E
     refine Qz ?_
     refine QF E Y Y ?_
     refine zu (Qn E Y fun _ B => Qp (m := ((k + 1 : Nat) : Int)) B Y Y fun _ D => Qj D Y ?_)
     clear E a B D; intro a E
     refine Qz ?_
     exact ⟨k + 1, ⟨a0, (a3.trans a4), S, E.keep ⟨Y, Y, Y, trivial⟩, by ((try clear S); (try clear E); first | assumption | omega | rfl | (simp; done) | (simp_all; done) | (simp [List.take_add_one, *]; done) | grind [List.take_add_one]), by ((try clear S); (try clear E); first | assumption | omega | rfl | (simp; done) | (simp_all; done) | (simp [List.take_add_one, *]; done) | grind [List.take_add_one]), by ((try clear S); (try clear E); first | assumption | omega | rfl | (simp; done) | (simp_all; done) | (simp [List.take_add_one, *]; done) | grind [List.take_add_one])⟩, by omega⟩
    ·refine zu (Qn E Y fun _ B => Qp (m := ((j + 1 : Nat) : Int)) B Y Y fun _ D => Qj D Y ?_)
     clear E a B D; intro a E
     refine Qz ?_
     exact ⟨j + 1, ⟨a0, a4, S, E.keep ⟨Y, Y, Y, look_bool (i := true) Y (by ((try clear S); (try clear E); first | assumption | omega | rfl | (simp; done) | (simp_all; done) | (simp [List.take_add_one, *]; done) | grind [List.take_add_one])), Y, trivial⟩, by ((try clear S); (try clear E); first | assumption | omega | rfl | (simp; done) | (simp_all; done) | (simp [List.take_add_one, *]; done) | grind [List.take_add_one]), by ((try clear S); (try clear E); first | assumption | omega | rfl | (simp; done) | (simp_all; done) | (simp [List.take_add_one, *]; done) | grind [List.take_add_one])⟩, by omega⟩
   ·refine VJ (Qn E Y ?_)
    clear E a; intro a E
    refine Qz ?_
    refine QY E Y Y ?_
    refine Je ?_
    replace S := S.mono_heap (w' := World.drew _) rfl
    refine Jb (C := fun x w => agree a0 w) (bf := (fun i => [])) [0, 1, 2, 3, 4, 5, 6, 7, 8, 9, 10, 11] [0, 1, 2, 3, 4, 5, 6, 7, 8, 9, 10, 11] Tryz.mixed (by kernel_rfl) (fun x hq => S.imm) ?_
    refine QU E Y (fun w hC => (QL E Y)) fun _ B => QU B Y (fun w hC => (QL B Y)) ?_
    clear E a B; intro a E
    obtain ⟨c4, c5, a5⟩ := h0.subv 0 k (by first | omega | (simp; done) | (simp; omega) | (simp_all; omega)) (by first | omega | (simp; done) | (simp; omega) | (simp_all; omega))
    simp only [List.drop_zero] at a5
    replace a5 : Qy a0 c4 ((l0).take k) := a5
    refine QU E Y (fun w hC => (zp E Y Y QE c5 (by omega))) fun _ B => QU B Y (fun w hC => (QL B Y)) fun _ D => QU D Y (fun w hC => (QL D Y)) fun _ F => QU F Y (fun w hC => (QL F Y)) fun _ G => QU G Y (fun w hC => (vG G Y QE h1.len)) fun _ I => QU I Y (fun w hC => (R_addx (m := ((k + (l1).length : Nat) : Int)) I Y Y (by omega) (by omega))) ?_
    clear E a B D F G I; intro a E
    obtain ⟨c6, c7, a6⟩ := h0.subv (k + (l1).length) ((l0).length) (by first | omega | (simp; done) | (simp; omega) | (simp_all; omega)) (by first | omega | (simp; done) | (simp; omega) | (simp_all; omega))
    simp only [List.take_length] at a6
    replace a6 : Qy a0 c6 ((l0).drop (k + (l1).length)) := a6
    refine QU E Y (fun w hC => (Wh E Y Y QE h0.len c7 (by omega))) fun _ B => QU B Y (fun w hC => (Jx B Y)) fun _ D => QU D Y (fun w hC => (Jx D Y)) fun _ F => QU F Y (fun w hC => (Jx F Y)) ?_
    clear E a B D F; intro a E
    refine JI (JH ?_)
    refine JZ (QM (ZC (J_u (ZC (UA ?_)))))
    exact F_ret3 E Tryz.results266 Y Y Y ⟨_, Y, a0, (a3.trans a4), ⟨_, _, (by rw [Uv (k := k) (by omega) (by have e : j = l1.length := (by omega); subst e; simpa using a8) a2]), (QX.eqL a5 (by rw [Uv (k := k) (by omega) (by have e : j = l1.length := (by omega); subst e; simpa using a8) a2])), (QX.eqL a6 (by rw [Uv (k := k) (by omega) (by have e : j = l1.length := (by omega); subst e; simpa using a8) a2]))⟩, S⟩
  ·refine JO (Ul (Ul (zx (JZ (Je ?_)))))
   replace S := S.mono_heap (w' := World.drew _) rfl
   refine Jb (C := fun x w => agree a1 w) (bf := (fun i => [])) [0, 2, 3, 4] [0, 2, 1, 3, 4] Tryz.mixed (by kernel_rfl) (fun x hq => S.imm) ?_
   refine QU E Y (fun w hC => (QL E Y)) fun _ B => QU B Y (fun w hC => (Jx B Y)) ?_
   clear E a B; intro a E
   refine ZP Y Y Y (JD (k := 0) E S Y Y Y QE Y (by omega) (by omega) (by omega) ?_)
   clear E a S; rintro a w d8 E S
   replace S := S.made0
   refine ⟨fun x hq hb => (Qu lerf S.imm), ?_⟩
   refine QU E Y (fun w hC => (Jx E Y)) fun _ B => QU B Y (fun w hC => (Jx B Y)) ?_
   clear E a B; intro a E
   refine JI (JH ?_)
   refine JZ (QM ?_)
   have S0 := S; clear S
   obtain ⟨c8, a9, c9, S⟩ := S0.freezeI (by (first | omega | (simp; omega) | (simp; done) | (simp_all; omega) | grind))
   clear S0
   replace h0 := h0.le a9
   exact F_ret3 E Tryz.results266 Y Y Y ⟨_, Y, c8, (a3.trans a9), ⟨_, _, (by rw [zW (k := k) (by omega) a2]), (by rw [show ((Ur l0 l1).1) = l0 from by rw [zW (k := k) (by omega) a2]]; exact h0), (QX.eqL c9 (by rw [zW (k := k) (by omega) a2]))⟩, S⟩
theorem impl_Cut {M : Hp} {v0 v1 : Value} {l0 l1 : List Int} (h0 : Qy M v0 l0) (h1 : Qy M v1 l1)(hb : l0.length ≤ 1000000000000) :
  Pu Tryz.prog (.func (.func 185) #[] #[]) M [v0, v1] (fun r M' => ∃ t0 t1, r = .tuple #[t0, t1, .bool ((Ur l0 l1).2.2)] ∧ Qy M' t0 ((Ur l0 l1).1) ∧ Qy M' t1 ((Ur l0 l1).2.1)) := by
 refine Qd Tryz.func185 Y Tryz.ntmps185 Y Tryz.call185 ?_
 intro a w M1 H hM1 S E
 replace h0 := h0.le hM1
 replace h1 := h1.le hM1
 have b0 := h0.bound
 have b1 := h1.bound
 have hc0 := cut_len (l := l0) (b := l1)
 refine Qs (QD 3 E Y fun _ B => QI (QD 2 B Y ?_))
 clear E a B; intro a E
 refine Qk (Qm E S Y Y Y (lo_Cut h0 h1) lerf ?_)
 clear E a S; rintro a _ w b6 a4 ⟨b7, b8, rfl, a5, a0⟩ S E
 refine Qn E Y fun _ B => Qg B Y Y fun _ C => Qg C Y Y fun _ D => Qg D Y Y fun _ F => QD 3 F Y fun _ G => QI (Qn G Y ?_)
 clear E a B C D F G; intro a E
 refine Qk (VF (p := []) E S Y Y Y (Yz a5 (by (first | omega | (simp; omega) | (simp; done) | (simp_all; omega) | grind))) lerf ?_)
 clear E a S; rintro a a6 w a7 _ a2 rfl S E
 replace S : St w a7 (Jg 3 a6 ((Ur l0 l1).1) :: _) := S
 replace a0 := a0.le a2
 refine Qn E Y ?_
 clear E a; intro a E
 refine Qk (VF (p := []) E S Y Y Y (Yz a0 (by (first | omega | (simp; omega) | (simp; done) | (simp_all; omega) | grind))) lerf ?_)
 clear E a S; rintro a a8 w a9 _ b2 rfl S E
 replace S : St w a9 (Jg 3 a8 ((Ur l0 l1).2.1) :: _) := S
 refine QD 4 E Y ?_
 clear E a; intro a E
 refine Jj ?_
 replace S := S.front1
 have S0 := S; clear S
 obtain ⟨b9, b3, a1, S⟩ := S0.freezeI (by (omega))
 clear S0
 have S0 := S; clear S
 obtain ⟨b4, a3, b5, S⟩ := S0.freezeI (by (omega))
 clear S0
 replace a1 := a1.le a3
 exact F_ret3 E Tryz.results185 Y Y Y ⟨_, Y, b4, (a4.trans (a2.trans (b2.trans (b3.trans a3)))), ⟨_, _, (by rfl), a1, b5⟩, S⟩
theorem laws_both {M : Hp} {v0 v1 : Value} {l0 l1 : List Int} (h0 : Qy M v0 l0) (h1 : Qy M v1 l1)(hb : l0.length + l1.length ≤ 1000000000000) :
  Pu Tryz.prog (.func (.func 236) #[] #[]) M [v0, v1] (fun r M' => Qy M' r (l0 ++ l1)) := by
 refine Qd Tryz.func236 Y Tryz.ntmps236 Y Tryz.call236 ?_
 intro a w M1 H hM1 S E
 replace h0 := h0.le hM1
 replace h1 := h1.le hM1
 have b0 := h0.bound
 have b1 := h1.bound
 refine Qs (Qj E Y ?_)
 clear E a; intro a E
 refine QI ?_
 refine Qk (QV (ys := []) E S Y QE Y Y Y ?_)
 clear E a S; rintro a w a3 E S
 refine Qn E Y ?_
 clear E a; intro a E
 refine Qk (JJ (xs := ([] : List Int)) E S Y Y Y QE h0 (by (simp; omega)) ?_)
 clear E a S; rintro a w a4 E S
 refine Qn E Y ?_
 clear E a; intro a E
 refine Qk (JJ (xs := [] ++ l0) E S Y Y Y QE h1 (by (simp; omega)) ?_)
 clear E a S; rintro a w a5 E S
 refine Qj E Y ?_
 clear E a; intro a E
 refine Jj ?_
 have S0 := S; clear S
 obtain ⟨a0, a1, a2, S⟩ := S0.freezeI (by ((simp; omega)))
 clear S0
 exact Qa E Tryz.results236 Y ⟨_, Y, a0, a1, (QX.eqL a2 (by (rfl))), S⟩
theorem laws_two {M : Hp} {v0 v1 : Value} {l0 l1 : List Int} (h0 : Qy M v0 l0) (h1 : Qy M v1 l1){x2 : Bool} (hb : l0.length + l1.length ≤ 1000000000000) :
  Pu Tryz.prog (.func (.func 128) #[] #[]) M [v0, v1, .bool x2] (fun r M' => Qy M' r (if x2 = true then l0 ++ l1 else l1 ++ l0)) := by
 refine Qd Tryz.func128 Y Tryz.ntmps128 Y Tryz.call128 ?_
 intro a w M1 H hM1 S E
 replace h0 := h0.le hM1
 replace h1 := h1.le hM1
 have b0 := h0.bound
 have b1 := h1.bound
 refine Qs (Qj E Y fun _ B => Zp (Qn B Y ?_))
 clear E a B; intro a E
 refine Qz ?_
 refine Jf E Y (fun a1 => ?_) (fun a1 => ?_)
 ·refine Je ?_
  refine Qh (QD 2 E Y ?_)
  clear E a; intro a E
  refine Qk (Qm E S Y Y Y (laws_both h0 h1 (by omega)) lerf ?_)
  clear E a S; rintro a a7 w a2 a0 a3 S E
  replace h0 := h0.le a0
  replace h1 := h1.le a0
  refine Qj E Y ?_
  clear E a; intro a E
  refine UJ ?_
  exact Qa E Tryz.results128 Y ⟨_, Y, a2, a0, (QX.eqL a3 (by (simp_all; done))), S⟩
 ·refine Qx ?_
  refine JZ (Qs (QD 2 E Y ?_))
  clear E a; intro a E
  refine Qk (Qm E S Y Y Y (laws_both h1 h0 (by omega)) lerf ?_)
  clear E a S; rintro a a8 w a4 a5 a6 S E
  refine Qj E Y ?_
  clear E a; intro a E
  refine Jj ?_
  exact Qa E Tryz.results128 Y ⟨_, Y, a4, a5, (QX.eqL a6 (by (simp_all; done))), S⟩
theorem vX {M : Hp} {sd sn sm pk pn kk kn : Int} {wv cv : Value} {pl c : List Int} (hw : Qy M wv pl) (hc : Qy M cv c) {v1 : Value} {l : List Int} (h1 : Qy M v1 l) {na nb : Nat} (gd : -9223372036854775808 ≤ sd ∧ sd ≤ 9223372036854775807) (gn : -9223372036854775808 ≤ sn ∧ sn ≤ 9223372036854775807) (gm : -9223372036854775808 ≤ sm ∧ sm ≤ 9223372036854775807) (gpn : -9223372036854775808 ≤ pn ∧ pn ≤ 9223372036854775807) (gkn : -9223372036854775808 ≤ kn ∧ kn ≤ 9223372036854775807) (hb : l.length ≤ 10000) (hcb : c.length ≤ 10000) (hpb : pl.length ≤ 10000) (ha : na < 12) (hbb : nb < 12) (hd24 : 24 ≤ (sd % 47).toNat)  :
  Pu Tryz.prog (.func (.func 69) #[] #[]) M [.agg #[.int .i64 sd, .int .i64 sn, .int .i64 sm, .int .i64 pk, .int .i64 pn, wv, .int .i64 kk, .int .i64 kn, cv], v1, .int .i64 ((na : Nat) : Int), .int .i64 ((nb : Nat) : Int)] (fun r M' => Qy M' r (Un (sd % 47).toNat na nb sn sm pk pn pl kk kn c l)) := by
 refine Qd Tryz.func69 Y Tryz.ntmps69 Y Tryz.call69 ?_
 intro a w M1 H hM1 S E
 replace hw := hw.le hM1
 replace hc := hc.le hM1
 replace h1 := h1.le hM1
 have bw := hw.bound
 have bc := hc.bound
 have b1 := h1.bound
 have hdb : (sd % 47).toNat < 47 := by omega
 refine Qs ?_
 refine Qk (QA (cs := #[.int .i64 sd, .int .i64 sn, .int .i64 sm, .int .i64 pk, .int .i64 pn, wv, .int .i64 kk, .int .i64 kn, cv]) E S Y Y Y ?_)
 clear E a S; rintro a w m9 E S
 obtain ⟨n0, a2, a0, S⟩ := S.freezeB
 replace hc := hc.le a2
 replace h1 := h1.le a2
 refine Qj E Y fun _ B => Zp (Qi B Y (WH _) fun _ C => Qb C Y Tryz.isAgg3 S.imm (Qq a0 Y) ?_)
 clear E a B C; intro a E
 refine Qk (Qm E S Y Y Y (ZM (by first | omega | assumption | decide) (by first | omega | decide)) lerf ?_)
 clear E a S; rintro a _ w n1 a1 rfl S E
 replace hc := hc.le a1
 replace h1 := h1.le a1
 replace a0 := a1.2 _ _ a0
 refine J_w (QK E Y Y fun _ B => Qj B Y ?_)
 clear E a B; intro a E
 refine Qz ?_
 refine Ql E Y (fun e1 => ?_) (fun e1 => ?_)
 ·refine Qs (Qn E Y ?_)
  clear E a; intro a E
  refine Qk (Qm E S Y Y Y (impl_Compact h1 (by (first | omega | (simp; omega) | (simp; done) | (simp_all; omega) | grind))) lerf ?_)
  clear E a S; rintro a n2 w e2 a3 e3 S E
  replace hc := hc.le a3
  replace h1 := h1.le a3
  replace a0 := a3.2 _ _ a0
  refine Qj E Y ?_
  clear E a; intro a E
  refine YO ?_
  exact Qa E Tryz.results69 Y ⟨_, Y, e2, (a2.trans (a1.trans a3)), (QX.eqL e3 (by (rw [show (sd % 47).toNat = 24 from by omega]; rfl))), S⟩
 ·refine Qs (QK E Y Y fun _ B => Qj B Y ?_)
  clear E a B; intro a E
  refine Qz ?_
  refine Ql E Y (fun e4 => ?_) (fun e4 => ?_)
  ·refine Qs (QD 3 E Y fun _ B => Qt B Y QE h1.len fun _ C => e_min (m := ((min na ((l).length) : Nat) : Int)) C Y Y (by omega) fun _ D => Qi D Y (JR _) fun _ F => Qb F Y Tryz.isAgg22 S.imm (Qq a0 Y) ?_)
   clear E a B C D F; intro a E
   refine Qk (Qm E S Y Y Y (impl_Splice h1 hc (by (first | omega | (simp; omega) | (simp; done) | (simp_all; omega) | grind)) (by (first | omega | (simp; omega) | (simp; done) | (simp_all; omega) | grind))) lerf ?_)
   clear E a S; rintro a n3 w e5 a4 e6 S E
   replace hc := hc.le a4
   replace h1 := h1.le a4
   replace a0 := a4.2 _ _ a0
   refine Qj E Y ?_
   clear E a; intro a E
   refine YO ?_
   exact Qa E Tryz.results69 Y ⟨_, Y, e5, (a2.trans (a1.trans a4)), (QX.eqL e6 (by (rw [show (sd % 47).toNat = 25 from by omega]; rfl))), S⟩
  ·refine Qs (QK E Y Y fun _ B => Qj B Y ?_)
   clear E a B; intro a E
   refine Qz ?_
   refine Ql E Y (fun e7 => ?_) (fun e7 => ?_)
   ·refine Qs (Qn E Y fun _ B => Qi B Y (JR _) fun _ C => Qb C Y Tryz.isAgg22 S.imm (Qq a0 Y) ?_)
    clear E a B C; intro a E
    refine Qk (Qm E S Y Y Y (impl_TrimLeft h1 hc (by (first | omega | (simp; omega) | (simp; done) | (simp_all; omega) | grind))) lerf ?_)
    clear E a S; rintro a n4 w e8 a5 e9 S E
    replace hc := hc.le a5
    replace h1 := h1.le a5
    replace a0 := a5.2 _ _ a0
    refine Qj E Y ?_
    clear E a; intro a E
    refine YO ?_
    exact Qa E Tryz.results69 Y ⟨_, Y, e8, (a2.trans (a1.trans a5)), (QX.eqL e9 (by (rw [show (sd % 47).toNat = 26 from by omega]; rfl))), S⟩
   ·refine Qs (QK E Y Y fun _ B => Qj B Y ?_)
    clear E a B; intro a E
    refine Qz ?_
    refine Ql E Y (fun f0 => ?_) (fun f0 => ?_)
    ·refine Qs (Qn E Y fun _ B => Qi B Y (JR _) fun _ C => Qb C Y Tryz.isAgg22 S.imm (Qq a0 Y) ?_)
     clear E a B C; intro a E
     refine Qk (Qm E S Y Y Y (yZ h1 hc (by (first | omega | (simp; omega) | (simp; done) | (simp_all; omega) | grind))) lerf ?_)
     clear E a S; rintro a n5 w f1 a6 f2 S E
     replace hc := hc.le a6
     replace h1 := h1.le a6
     replace a0 := a6.2 _ _ a0
     refine Qj E Y ?_
     clear E a; intro a E
     refine YO ?_
     exact Qa E Tryz.results69 Y ⟨_, Y, f1, (a2.trans (a1.trans a6)), (QX.eqL f2 (by (rw [show (sd % 47).toNat = 27 from by omega]; rfl))), S⟩
    ·refine Qs (QK E Y Y fun _ B => Qj B Y ?_)
     clear E a B; intro a E
     refine Qz ?_
     refine Ql E Y (fun f3 => ?_) (fun f3 => ?_)
     ·refine Qs (Qn E Y fun _ B => Qi B Y (JR _) fun _ C => Qb C Y Tryz.isAgg22 S.imm (Qq a0 Y) ?_)
      clear E a B C; intro a E
      refine Qk (Qm E S Y Y Y (impl_Trim h1 hc (by (first | omega | (simp; omega) | (simp; done) | (simp_all; omega) | grind))) lerf ?_)
      clear E a S; rintro a n6 w f4 a7 f5 S E
      replace hc := hc.le a7
      replace h1 := h1.le a7
      replace a0 := a7.2 _ _ a0
      refine Qj E Y ?_
      clear E a; intro a E
      refine YO ?_
      exact Qa E Tryz.results69 Y ⟨_, Y, f4, (a2.trans (a1.trans a7)), (QX.eqL f5 (by (rw [show (sd % 47).toNat = 28 from by omega]; rfl))), S⟩
     ·refine Qs (QK E Y Y fun _ B => Qj B Y ?_)
      clear E a B; intro a E
      refine Qz ?_
      refine Ql E Y (fun f6 => ?_) (fun f6 => ?_)
      ·refine Qs (Qn E Y fun _ B => Qi B Y (JR _) fun _ C => Qb C Y Tryz.isAgg22 S.imm (Qq a0 Y) ?_)
       clear E a B C; intro a E
       refine Qk (Qm E S Y Y Y (jz h1 hc (by (first | omega | (simp; omega) | (simp; done) | (simp_all; omega) | grind))) lerf ?_)
       clear E a S; rintro a n7 w f7 a8 f8 S E
       replace hc := hc.le a8
       replace h1 := h1.le a8
       replace a0 := a8.2 _ _ a0
       refine Qj E Y ?_
       clear E a; intro a E
       refine YO ?_
       exact Qa E Tryz.results69 Y ⟨_, Y, f7, (a2.trans (a1.trans a8)), (QX.eqL f8 (by (rw [show (sd % 47).toNat = 29 from by omega]; rfl))), S⟩
      ·refine Qs (QK E Y Y fun _ B => Qj B Y ?_)
       clear E a B; intro a E
       refine Qz ?_
       refine Ql E Y (fun f9 => ?_) (fun f9 => ?_)
       ·refine Qs (Qn E Y fun _ B => Qi B Y (JR _) fun _ C => Qb C Y Tryz.isAgg22 S.imm (Qq a0 Y) ?_)
        clear E a B C; intro a E
        refine Qk (Qm E S Y Y Y (jy h1 hc (by (first | omega | (simp; omega) | (simp; done) | (simp_all; omega) | grind))) lerf ?_)
        clear E a S; rintro a n8 w g0 a9 g1 S E
        replace hc := hc.le a9
        replace h1 := h1.le a9
        replace a0 := a9.2 _ _ a0
        refine Qj E Y ?_
        clear E a; intro a E
        refine YO ?_
        exact Qa E Tryz.results69 Y ⟨_, Y, g0, (a2.trans (a1.trans a9)), (QX.eqL g1 (by (rw [show (sd % 47).toNat = 30 from by omega]; rfl))), S⟩
       ·refine Qs (QK E Y Y fun _ B => Qj B Y ?_)
        clear E a B; intro a E
        refine Qz ?_
        refine Ql E Y (fun g2 => ?_) (fun g2 => ?_)
        ·refine Qs (Qn E Y fun _ B => Qi B Y (JR _) fun _ C => Qb C Y Tryz.isAgg22 S.imm (Qq a0 Y) ?_)
         clear E a B C; intro a E
         refine Qk (Qm E S Y Y Y (vl h1 hc (by (first | omega | (simp; omega) | (simp; done) | (simp_all; omega) | grind))) lerf ?_)
         clear E a S; rintro a _ w n9 b0 ⟨o0, rfl, g3⟩ S E
         replace hc := hc.le b0
         replace h1 := h1.le b0
         replace a0 := b0.2 _ _ a0
         refine Qg E Y Y fun _ B => Qg B Y Y ?_
         clear E a B; intro a E
         refine Qk (Qm E S Y Y Y (WY g3) lerf ?_)
         clear E a S; rintro a o1 w g4 b2 g5 S E
         replace hc := hc.le b2
         replace h1 := h1.le b2
         replace a0 := b2.2 _ _ a0
         refine Qj E Y ?_
         clear E a; intro a E
         refine YO ?_
         exact Qa E Tryz.results69 Y ⟨_, Y, g4, (a2.trans (a1.trans (b0.trans b2))), (QX.eqL g5 (by (rw [show (sd % 47).toNat = 31 from by omega]; rfl))), S⟩
        ·refine Qs (QK E Y Y fun _ B => Qj B Y ?_)
         clear E a B; intro a E
         refine Qz ?_
         refine Ql E Y (fun g6 => ?_) (fun g6 => ?_)
         ·refine Qs (Qn E Y fun _ B => Qi B Y (JR _) fun _ C => Qb C Y Tryz.isAgg22 S.imm (Qq a0 Y) ?_)
          clear E a B C; intro a E
          refine Qk (Qm E S Y Y Y (vk h1 hc (by (first | omega | (simp; omega) | (simp; done) | (simp_all; omega) | grind))) lerf ?_)
          clear E a S; rintro a _ w o2 b3 ⟨o3, rfl, g7⟩ S E
          replace hc := hc.le b3
          replace h1 := h1.le b3
          replace a0 := b3.2 _ _ a0
          refine Qg E Y Y fun _ B => Qg B Y Y ?_
          clear E a B; intro a E
          refine Qk (Qm E S Y Y Y (WY g7) lerf ?_)
          clear E a S; rintro a o4 w g8 b4 g9 S E
          replace hc := hc.le b4
          replace h1 := h1.le b4
          replace a0 := b4.2 _ _ a0
          refine Qj E Y ?_
          clear E a; intro a E
          refine YO ?_
          exact Qa E Tryz.results69 Y ⟨_, Y, g8, (a2.trans (a1.trans (b3.trans b4))), (QX.eqL g9 (by (rw [show (sd % 47).toNat = 32 from by omega]; rfl))), S⟩
         ·refine Qs (QK E Y Y fun _ B => Qj B Y ?_)
          clear E a B; intro a E
          refine Qz ?_
          refine Ql E Y (fun h0 => ?_) (fun h0 => ?_)
          ·refine Qs (Qn E Y fun _ B => Qi B Y (JR _) fun _ C => Qb C Y Tryz.isAgg22 S.imm (Qq a0 Y) ?_)
           clear E a B C; intro a E
           refine Qk (Qm E S Y Y Y (impl_Without h1 hc (by (first | omega | (simp; omega) | (simp; done) | (simp_all; omega) | grind))) lerf ?_)
           clear E a S; rintro a o5 w h2 b5 h3 S E
           replace hc := hc.le b5
           replace h1 := h1.le b5
           replace a0 := b5.2 _ _ a0
           refine Qj E Y ?_
           clear E a; intro a E
           refine YO ?_
           exact Qa E Tryz.results69 Y ⟨_, Y, h2, (a2.trans (a1.trans b5)), (QX.eqL h3 (by (rw [show (sd % 47).toNat = 33 from by omega]; rfl))), S⟩
          ·refine Qs (QK E Y Y fun _ B => Qj B Y ?_)
           clear E a B; intro a E
           refine Qz ?_
           refine Ql E Y (fun h4 => ?_) (fun h4 => ?_)
           ·refine Qs (Qn E Y fun _ B => Qi B Y (Vk _) fun _ C => Jt (off := 6) (part := [.int .i64 kk, .int .i64 kn]) C Y (Tryz.isAgg30 _) (Tryz.sizeOf30 _) S.imm a0 Y Y fun _ D => Qi D Y (JR _) fun _ F => Qb F Y Tryz.isAgg22 S.imm (Qq a0 Y) ?_)
            clear E a B C D F; intro a E
            refine Qk (Qm E S Y Y Y (yW h1 hc (by omega) (by (first | omega | (simp; omega) | (simp; done) | (simp_all; omega) | grind))) lerf ?_)
            clear E a S; rintro a o6 w h5 b6 h6 S E
            replace hc := hc.le b6
            replace h1 := h1.le b6
            replace a0 := b6.2 _ _ a0
            refine Qj E Y ?_
            clear E a; intro a E
            refine YO ?_
            exact Qa E Tryz.results69 Y ⟨_, Y, h5, (a2.trans (a1.trans b6)), (QX.eqL h6 (by (rw [show (sd % 47).toNat = 34 from by omega]; rfl))), S⟩
           ·refine Qs (QK E Y Y fun _ B => Qj B Y ?_)
            clear E a B; intro a E
            refine Qz ?_
            refine Ql E Y (fun h7 => ?_) (fun h7 => ?_)
            ·refine Qs (Qn E Y fun _ B => Qi B Y (JR _) fun _ C => Qb C Y Tryz.isAgg22 S.imm (Qq a0 Y) ?_)
             clear E a B C; intro a E
             refine Qk (Yg (R := Vf 1 QB) (vs := [v1, cv]) (xs := [l, c]) (JE Jp) E S Y Vn Y Y Y (by intro u hu; simp only [List.mem_cons, List.not_mem_nil, or_false] at hu; rcases hu with rfl | rfl <;> first | exact Qy.one h1 | exact Qy.one hc | rfl) Y (Ve (R := Vf 1 QB) (Qy.row h1) (Ve (R := Vf 1 QB) (Qy.row hc) UE)) ?_)
             clear E a S; rintro a h8 w h9 b7 d7 S E
             replace d7 : Zf h9 h8 [l, c] := d7
             replace hc := hc.le b7
             replace h1 := h1.le b7
             replace a0 := b7.2 _ _ a0
             refine Qk (Qm E S Y Y Y (impl_Union d7 (by first | assumption | omega | (rw [GU]; omega) | exact Nat.le_trans (Zl _ _) (by omega) | exact ZR (by omega) (by omega) (by omega) (by omega) | exact Zw (by omega) | (simp; done) | (simp; omega))) lerf ?_)
             clear E a S; rintro a o7 w i0 b8 i1 S E
             replace hc := hc.le b8
             replace h1 := h1.le b8
             replace a0 := b8.2 _ _ a0
             refine Qj E Y ?_
             clear E a; intro a E
             refine YO ?_
             exact Qa E Tryz.results69 Y ⟨_, Y, i0, (a2.trans (a1.trans (b7.trans b8))), (QX.eqL i1 (by (rw [show (sd % 47).toNat = 35 from by omega]; rfl))), S⟩
            ·refine Qs (QK E Y Y fun _ B => Qj B Y ?_)
             clear E a B; intro a E
             refine Qz ?_
             refine Ql E Y (fun i2 => ?_) (fun i2 => ?_)
             ·refine Qs (Qn E Y fun _ B => Qi B Y (JR _) fun _ C => Qb C Y Tryz.isAgg22 S.imm (Qq a0 Y) ?_)
              clear E a B C; intro a E
              refine Qk (Qm E S Y Y Y (WK h1 hc (by (first | omega | (simp; omega) | (simp; done) | (simp_all; omega) | grind)) (by (first | omega | (simp; omega) | (simp; done) | (simp_all; omega) | grind))) lerf ?_)
              clear E a S; rintro a _ w i3 b9 ⟨o8, o9, rfl, i4, p0⟩ S E
              replace hc := hc.le b9
              replace h1 := h1.le b9
              replace a0 := b9.2 _ _ a0
              refine Qn E Y fun _ B => Qg B Y Y fun _ C => Qg C Y Y fun _ D => QD 2 D Y fun _ F => QI (QD 2 F Y ?_)
              clear E a B C D F; intro a E
              refine YO ?_
              exact Qa E Tryz.results69 Y ⟨_, Y, i3, (a2.trans (a1.trans b9)), (QX.eqL i4 (by (rw [show (sd % 47).toNat = 36 from by omega]; rfl))), S⟩
             ·refine Qs (QK E Y Y fun _ B => Qj B Y ?_)
              clear E a B; intro a E
              refine Qz ?_
              refine Ql E Y (fun i5 => ?_) (fun i5 => ?_)
              ·refine Qs (Qn E Y fun _ B => Qi B Y (JR _) fun _ C => Qb C Y Tryz.isAgg22 S.imm (Qq a0 Y) ?_)
               clear E a B C; intro a E
               refine Qk (Qm E S Y Y Y (WK h1 hc (by (first | omega | (simp; omega) | (simp; done) | (simp_all; omega) | grind)) (by (first | omega | (simp; omega) | (simp; done) | (simp_all; omega) | grind))) lerf ?_)
               clear E a S; rintro a _ w i6 c0 ⟨p1, p2, rfl, p3, i7⟩ S E
               replace hc := hc.le c0
               replace h1 := h1.le c0
               replace a0 := c0.2 _ _ a0
               refine Qn E Y fun _ B => Qg B Y Y fun _ C => Qg C Y Y fun _ D => QD 2 D Y fun _ F => QI (QD 2 F Y ?_)
               clear E a B C D F; intro a E
               refine YO ?_
               exact Qa E Tryz.results69 Y ⟨_, Y, i6, (a2.trans (a1.trans c0)), (QX.eqL i7 (by (rw [show (sd % 47).toNat = 37 from by omega]; rfl))), S⟩
              ·refine Qs (QK E Y Y fun _ B => Qj B Y ?_)
               clear E a B; intro a E
               refine Qz ?_
               refine Ql E Y (fun i8 => ?_) (fun i8 => ?_)
               ·refine Qs (Qn E Y fun _ B => Qi B Y (JR _) fun _ C => Qb C Y Tryz.isAgg22 S.imm (Qq a0 Y) ?_)
                clear E a B C; intro a E
                refine Qk (Yg (R := Vf 1 QB) (vs := [v1, cv]) (xs := [l, c]) (JE Jp) E S Y Vn Y Y Y (by intro u hu; simp only [List.mem_cons, List.not_mem_nil, or_false] at hu; rcases hu with rfl | rfl <;> first | exact Qy.one h1 | exact Qy.one hc | rfl) Y (Ve (R := Vf 1 QB) (Qy.row h1) (Ve (R := Vf 1 QB) (Qy.row hc) UE)) ?_)
                clear E a S; rintro a i9 w j0 c1 d8 S E
                replace d8 : Zf j0 i9 [l, c] := d8
                replace hc := hc.le c1
                replace h1 := h1.le c1
                replace a0 := c1.2 _ _ a0
                refine Qk (Qm E S Y Y Y (jG d8 (by first | assumption | omega | (rw [GU]; omega) | exact Nat.le_trans (Zl _ _) (by omega) | exact ZR (by omega) (by omega) (by omega) (by omega) | exact Zw (by omega) | (simp; done) | (simp; omega))) lerf ?_)
                clear E a S; rintro a p4 w j1 c2 j2 S E
                replace hc := hc.le c2
                replace h1 := h1.le c2
                replace a0 := c2.2 _ _ a0
                refine Qj E Y ?_
                clear E a; intro a E
                refine YO ?_
                exact Qa E Tryz.results69 Y ⟨_, Y, j1, (a2.trans (a1.trans (c1.trans c2))), (QX.eqL j2 (by (rw [show (sd % 47).toNat = 38 from by omega]; rfl))), S⟩
               ·refine Qs (QK E Y Y fun _ B => Qj B Y ?_)
                clear E a B; intro a E
                refine Qz ?_
                refine Ql E Y (fun j3 => ?_) (fun j3 => ?_)
                ·refine Qs (QD 2 E Y ?_)
                 clear E a; intro a E
                 refine Qk (Qm E S Y Y Y (impl_Chunk h1 (by first | omega | (simp; done) | (simp; omega)) (by first | omega | (simp; done) | (simp; omega))) lerf ?_)
                 clear E a S; rintro a _ w p5 c3 ⟨p6, rfl, j4⟩ S E
                 replace hc := hc.le c3
                 replace h1 := h1.le c3
                 replace a0 := c3.2 _ _ a0
                 refine Qg E Y Y fun _ B => Qg B Y Y ?_
                 clear E a B; intro a E
                 refine Qk (Qm E S Y Y Y (Uu j4 (by first | assumption | omega | (rw [GU]; omega) | exact Nat.le_trans (Zl _ _) (by omega) | exact ZR (by omega) (by omega) (by omega) (by omega) | exact Zw (by omega) | (simp; done) | (simp; omega))) lerf ?_)
                 clear E a S; rintro a p7 w j5 c4 j6 S E
                 replace hc := hc.le c4
                 replace h1 := h1.le c4
                 replace a0 := c4.2 _ _ a0
                 refine Qj E Y ?_
                 clear E a; intro a E
                 refine YO ?_
                 exact Qa E Tryz.results69 Y ⟨_, Y, j5, (a2.trans (a1.trans (c3.trans c4))), (QX.eqL j6 (by (rw [show (sd % 47).toNat = 39 from by omega]; rfl))), S⟩
                ·refine Qs (QK E Y Y fun _ B => Qj B Y ?_)
                 clear E a B; intro a E
                 refine Qz ?_
                 refine Ql E Y (fun j7 => ?_) (fun j7 => ?_)
                 ·refine Qs (Qn E Y fun _ B => Qi B Y (Vk _) fun _ C => Jt (off := 6) (part := [.int .i64 kk, .int .i64 kn]) C Y (Tryz.isAgg30 _) (Tryz.sizeOf30 _) S.imm a0 Y Y ?_)
                  clear E a B C; intro a E
                  refine Qk (Qm E S Y Y Y (zP h1 (by omega) (by (first | omega | (simp; omega) | (simp; done) | (simp_all; omega) | grind))) lerf ?_)
                  clear E a S; rintro a p8 w p9 c5 j8 S E
                  replace hc := hc.le c5
                  replace h1 := h1.le c5
                  replace a0 := c5.2 _ _ a0
                  refine Qk (Qm E S Y Y Y (WX j8 (by first | assumption | omega | (rw [GU]; omega) | exact Nat.le_trans (Zl _ _) (by omega) | exact ZR (by omega) (by omega) (by omega) (by omega) | exact Zw (by omega) | (simp; done) | (simp; omega))) lerf ?_)
                  clear E a S; rintro a q0 w j9 c6 k0 S E
                  replace hc := hc.le c6
                  replace h1 := h1.le c6
                  replace a0 := c6.2 _ _ a0
                  refine Qj E Y ?_
                  clear E a; intro a E
                  refine YO ?_
                  exact Qa E Tryz.results69 Y ⟨_, Y, j9, (a2.trans (a1.trans (c5.trans c6))), (QX.eqL k0 (by (rw [show (sd % 47).toNat = 40 from by omega]; rfl))), S⟩
                 ·refine Qs (QK E Y Y fun _ B => Qj B Y ?_)
                  clear E a B; intro a E
                  refine Qz ?_
                  refine Ql E Y (fun k1 => ?_) (fun k1 => ?_)
                  ·refine Qs (QD 2 E Y fun _ B => Qp (m := ((na + 1 : Nat) : Int)) B Y Y ?_)
                   clear E a B; intro a E
                   refine Qk (Qm E S Y Y Y (impl_Window h1 (by first | omega | (simp; done) | (simp; omega)) (by first | omega | (simp; done) | (simp; omega)) (by first | omega | (simp; done) | (simp; omega))) lerf ?_)
                   clear E a S; rintro a _ w q1 c7 ⟨q2, rfl, k2⟩ S E
                   replace hc := hc.le c7
                   replace h1 := h1.le c7
                   replace a0 := c7.2 _ _ a0
                   refine Qg E Y Y fun _ B => Qg B Y Y ?_
                   clear E a B; intro a E
                   refine Qk (Qm E S Y Y Y (Uu k2 (by first | assumption | omega | (rw [GU]; omega) | exact Nat.le_trans (Zl _ _) (by omega) | exact ZR (by omega) (by omega) (by omega) (by omega) | exact Zw (by omega) | (simp; done) | (simp; omega))) lerf ?_)
                   clear E a S; rintro a q3 w k3 c8 k4 S E
                   replace hc := hc.le c8
                   replace h1 := h1.le c8
                   replace a0 := c8.2 _ _ a0
                   refine Qj E Y ?_
                   clear E a; intro a E
                   refine YO ?_
                   exact Qa E Tryz.results69 Y ⟨_, Y, k3, (a2.trans (a1.trans (c7.trans c8))), (QX.eqL k4 (by (rw [show (sd % 47).toNat = 41 from by omega]; rfl))), S⟩
                  ·refine Qs (QK E Y Y fun _ B => Qj B Y ?_)
                   clear E a B; intro a E
                   refine Qz ?_
                   refine Ql E Y (fun k5 => ?_) (fun k5 => ?_)
                   ·refine Qs (QD 2 E Y fun _ B => Qp (m := ((na + 1 : Nat) : Int)) B Y Y fun _ C => Qn C Y fun _ D => Qp (m := ((nb + 1 : Nat) : Int)) D Y Y ?_)
                    clear E a B C D; intro a E
                    refine Qk (Qm E S Y Y Y (impl_Sliding h1 (by first | omega | (simp; done) | (simp; omega)) (by first | omega | (simp; done) | (simp; omega)) (by first | omega | (simp; done) | (simp; omega)) (by first | omega | (simp; done) | (simp; omega)) (by first | omega | (simp; done) | (simp; omega))) lerf ?_)
                    clear E a S; rintro a _ w q4 c9 ⟨q5, rfl, k6⟩ S E
                    replace hc := hc.le c9
                    replace h1 := h1.le c9
                    replace a0 := c9.2 _ _ a0
                    refine Qg E Y Y fun _ B => Qg B Y Y ?_
                    clear E a B; intro a E
                    refine Qk (Qm E S Y Y Y (Uu k6 (by first | assumption | omega | (rw [GU]; omega) | exact Nat.le_trans (Zl _ _) (by omega) | exact ZR (by omega) (by omega) (by omega) (by omega) | exact Zw (by omega) | (simp; done) | (simp; omega))) lerf ?_)
                    clear E a S; rintro a q6 w k7 d0 k8 S E
                    replace hc := hc.le d0
                    replace h1 := h1.le d0
                    replace a0 := d0.2 _ _ a0
                    refine Qj E Y ?_
                    clear E a; intro a E
                    refine YO ?_
                    exact Qa E Tryz.results69 Y ⟨_, Y, k7, (a2.trans (a1.trans (c9.trans d0))), (QX.eqL k8 (by (rw [show (sd % 47).toNat = 42 from by omega]; rfl))), S⟩
                   ·refine Qs (QK E Y Y fun _ B => Qj B Y ?_)
                    clear E a B; intro a E
                    refine Qz ?_
                    refine Ql E Y (fun k9 => ?_) (fun k9 => ?_)
                    ·refine Qs (Qn E Y ?_)
                     clear E a; intro a E
                     refine Qk (Qm E S Y Y Y (impl_Keyify h1 (by (first | omega | (simp; omega) | (simp; done) | (simp_all; omega) | grind))) lerf ?_)
                     clear E a S; rintro a q7 w l0 d1 l1 S E
                     replace hc := hc.le d1
                     replace h1 := h1.le d1
                     replace a0 := d1.2 _ _ a0
                     refine Qj E Y ?_
                     clear E a; intro a E
                     refine YO ?_
                     exact Qa E Tryz.results69 Y ⟨_, Y, l0, (a2.trans (a1.trans d1)), (QX.eqL l1 (by (rw [show (sd % 47).toNat = 43 from by omega]; rfl))), S⟩
                    ·refine Qs (QK E Y Y fun _ B => Qj B Y ?_)
                     clear E a B; intro a E
                     refine Qz ?_
                     refine Ql E Y (fun l2 => ?_) (fun l2 => ?_)
                     ·refine Qs (Qn E Y fun _ B => Qi B Y (JR _) fun _ C => Qb C Y Tryz.isAgg22 S.imm (Qq a0 Y) ?_)
                      clear E a B C; intro a E
                      refine Qk (Yg (R := Vf 1 QB) (vs := [v1, cv]) (xs := [l, c]) (JE Jp) E S Y Vn Y Y Y (by intro u hu; simp only [List.mem_cons, List.not_mem_nil, or_false] at hu; rcases hu with rfl | rfl <;> first | exact Qy.one h1 | exact Qy.one hc | rfl) Y (Ve (R := Vf 1 QB) (Qy.row h1) (Ve (R := Vf 1 QB) (Qy.row hc) UE)) ?_)
                      clear E a S; rintro a l3 w l4 d2 d9 S E
                      replace d9 : Zf l4 l3 [l, c] := d9
                      replace hc := hc.le d2
                      replace h1 := h1.le d2
                      replace a0 := d2.2 _ _ a0
                      refine Qk (Qm E S Y Y Y (impl_Flatten d9 (by first | assumption | omega | (rw [GU]; omega) | exact Nat.le_trans (Zl _ _) (by omega) | exact ZR (by omega) (by omega) (by omega) (by omega) | exact Zw (by omega) | (simp; done) | (simp; omega))) lerf ?_)
                      clear E a S; rintro a q8 w l5 d3 l6 S E
                      replace hc := hc.le d3
                      replace h1 := h1.le d3
                      replace a0 := d3.2 _ _ a0
                      refine Qj E Y ?_
                      clear E a; intro a E
                      refine YO ?_
                      exact Qa E Tryz.results69 Y ⟨_, Y, l5, (a2.trans (a1.trans (d2.trans d3))), (QX.eqL l6 (by (rw [show (sd % 47).toNat = 44 from by omega]; rfl))), S⟩
                     ·refine Qs (QK E Y Y fun _ B => Qj B Y ?_)
                      clear E a B; intro a E
                      refine Qz ?_
                      refine Ql E Y (fun l7 => ?_) (fun l7 => ?_)
                      ·refine Qs (Qn E Y fun _ B => Qi B Y (JR _) fun _ C => Qb C Y Tryz.isAgg22 S.imm (Qq a0 Y) ?_)
                       clear E a B C; intro a E
                       refine Qk (Yg (R := Vf 1 QB) (vs := [v1, cv]) (xs := [l, c]) (JE Jp) E S Y Vn Y Y Y (by intro u hu; simp only [List.mem_cons, List.not_mem_nil, or_false] at hu; rcases hu with rfl | rfl <;> first | exact Qy.one h1 | exact Qy.one hc | rfl) Y (Ve (R := Vf 1 QB) (Qy.row h1) (Ve (R := Vf 1 QB) (Qy.row hc) UE)) ?_)
                       clear E a S; rintro a l8 w l9 d4 e0 S E
                       replace e0 : Zf l9 l8 [l, c] := e0
                       replace hc := hc.le d4
                       replace h1 := h1.le d4
                       replace a0 := d4.2 _ _ a0
                       refine Qk (Qm E S Y Y Y (ve e0 (by first | assumption | omega | (intro x hx; simp only [List.mem_cons, List.not_mem_nil, or_false] at hx; rcases hx with rfl | rfl <;> omega) | (intro x hx; simp only [List.mem_cons, List.not_mem_nil, or_false] at hx; rcases hx with rfl | rfl <;> simp; done))) lerf ?_)
                       clear E a S; rintro a q9 w r0 d5 m0 S E
                       replace hc := hc.le d5
                       replace h1 := h1.le d5
                       replace a0 := d5.2 _ _ a0
                       refine Qk (Qm E S Y Y Y (jm m0 (by first | omega | exact meet2_len (by omega) (by omega) | (first | omega | (simp; omega) | (simp; done) | (simp_all; omega) | grind))) lerf ?_)
                       clear E a S; rintro a r1 w m1 d6 m2 S E
                       replace hc := hc.le d6
                       replace h1 := h1.le d6
                       replace a0 := d6.2 _ _ a0
                       refine Qj E Y ?_
                       clear E a; intro a E
                       refine YO ?_
                       exact Qa E Tryz.results69 Y ⟨_, Y, m1, (a2.trans (a1.trans (d4.trans (d5.trans d6)))), (QX.eqL m2 (by (rw [show (sd % 47).toNat = 45 from by omega]; rfl))), S⟩
                      ·refine J_y (Qn E Y fun _ B => Qi B Y (JR _) fun _ C => Qb C Y Tryz.isAgg22 S.imm (Qq a0 Y) ?_)
                       clear E a B C; intro a E
                       refine Qk (Qm E S Y Y Y (impl_Cut h1 hc (by (first | omega | (simp; omega) | (simp; done) | (simp_all; omega) | grind))) lerf ?_)
                       clear E a S; rintro a _ w r2 m3 ⟨r3, r4, rfl, m4, m5⟩ S E
                       refine Qg E Y Y fun _ B => Qg B Y Y fun _ C => Qg C Y Y ?_
                       clear E a B C; intro a E
                       refine Qk (Qm E S Y Y Y (laws_two m4 m5 (by first | assumption | omega | exact cut2_len (by omega))) lerf ?_)
                       clear E a S; rintro a r5 w m6 m7 m8 S E
                       refine Qj E Y ?_
                       clear E a; intro a E
                       refine Jj ?_
                       exact Qa E Tryz.results69 Y ⟨_, Y, m6, (a2.trans (a1.trans (m3.trans m7))), (QX.eqL m8 (by (rw [show (sd % 47).toNat = 46 from by omega]; rfl))), S⟩
end Go.Proofs.YtgceicmfefpngaaGreat.wFnScriptOwn
