/- Walks through the functions that laws.FnScript reaches: what each computes; no conditions beyond what each theorem states. -/
import Derived.Test.YtgceicmfefpngaaGreatWFnScriptb
set_option linter.unusedVariables false
set_option linter.unusedSimpArgs false
namespace Go.Proofs.YtgceicmfefpngaaGreat.wFnScript
open Go Go.Sl
set_option maxRecDepth 100000
set_option maxHeartbeats 4000000
theorem qv {M : Hp} {v0 : Value} {l0 : List (List Int)} (h0 : Jy M v0 l0) (hb : total l0 ≤ 1000000000) :
  Pu Tryz.prog (.func (.func 117) #[] #[]) M [v0] (fun r M' => RdI M' r (WS l0)) := by
 refine Qk Tryz.func117 rfl Tryz.ntmps117 rfl Tryz.call117 ?_
 intro a w M1 H hM1 S E
 replace h0 := h0.le hM1
 have b0 := h0.bound
 have hmt := Gk l0
 refine Qb (Qa (S_a E rfl rfl fun _ E1 => Qc (T_n (Qb (Qa (S_a E1 rfl rfl fun _ E2 => Qc (T_n (Qb (Qb (Qa (S_a E2 rfl rfl fun _ E3 => S_a E3 rfl rfl ?_)))))))))))
 clear E a E1 E2 E3; intro a E
 refine Qc (T_n (Qi ?_))
 replace S := (S.ownNil (e := 3) (sz := 1)).made0
 replace S := S.re1 (l' := QU 0 l0) (by (simp [QU]; done))
 refine Qx (γ := Nat) (fun (k : Nat) a w => ∃ (M_2 : Hp) (b : Bool) (u3 : Value), Hp.le M1 M_2 ∧ St w M_2 (QR 3 u3 (QU k l0) :: H) ∧ Env a 30 [] [(0, v0), (3, u3), (4, .int .i64 ((k : Nat) : Int)), (5, .bool b)] ∧ (k ≤ maxLen l0 + 1) ∧ (b = true → k ≤ maxLen l0) ∧ (b = false → maxLen l0 ≤ k)) (fun k => maxLen l0 + 2 - k) 0 ⟨M1, _, _, Hp.le.refl _, S, E.keep ⟨rfl, rfl, rfl, ZE (i := true) rfl (by (rfl)), trivial⟩, by (omega), (fun _ => by omega), (fun h => by cases h)⟩ ?_
 try clear E
 try clear S
 try clear a
 try clear w
 rintro k a w ⟨M_2, b, u3, hM_2, S, E, hL0_0, hL0_1, hL0_2⟩
 replace h0 := h0.le hM_2
 refine Qb (Qb (Qa (S_m E rfl rfl ?_)))
 clear E a; intro a E
 refine Qc (T_n ?_)
 refine QL E rfl (fun hc_3 => ?_) (fun hc_3 => ?_)
 ·refine Qh ?_
  refine T_n (Qb (Qi (Qb (Qa (S_a E rfl rfl fun _ E1 => Qc (T_n (Qb (Qa (S_m E1 rfl rfl fun _ E2 => S_v E2 rfl (Qp E2 rfl T74 h0.len) rfl fun _ E3 => S_m E3 rfl rfl ?_)))))))))
  clear E a E1 E2 E3; intro a E
  refine Qc (T_n (Qi ?_))
  replace S := S.re1 (l' := QU k l0 ++ JY k (l0.take 0)) (by (simp [JY]; done))
  refine Qx (γ := Nat) (fun (j : Nat) a w => ∃ (M_4 : Hp) (u3 : Value), Hp.le M_2 M_4 ∧ St w M_4 (QR 3 u3 (QU k l0 ++ JY k (l0.take j)) :: H) ∧ Env a 30 [] [(0, v0), (3, u3), (4, .int .i64 ((k : Nat) : Int)), (5, .bool (decide (∃ x ∈ l0.take j, k < x.length))), (11, v0), (12, .int .i64 (((l0).length : Nat) : Int)), (13, .int .i64 ((j : Nat) : Int))] ∧ (j ≤ (l0).length)) (fun j => ((l0).length) - j) 0 ⟨M_2, _, Hp.le.refl _, S, E.keep ⟨rfl, rfl, rfl, ZE (i := false) rfl (by (simp; done)), rfl, rfl, rfl, trivial⟩, by (omega)⟩ ?_
  try clear E
  try clear S
  try clear a
  try clear w
  rintro j a w ⟨M_4, u3, hM_4, S, E, hL1_0⟩
  replace h0 := h0.le hM_4
  have ht := Uq k j l0; have hb3 := hL0_1 (by assumption)
  refine Qb (Qa (S_v E rfl (QG E rfl rfl) rfl ?_))
  clear E a; intro a E
  refine Qc (T_n (Qb ?_))
  refine Qn E rfl (fun hc_5 => ?_) (fun hc_5 => ?_)
  ·refine Qh (T_n (Qb (Qi (Qb (Qa ?_)))))
   obtain ⟨x_6, hx_6⟩ : ∃ x, (l0)[j]? = some x := ⟨_, List.getElem?_eq_getElem (by omega)⟩
   obtain ⟨p_7, u_8, hp_7, qp_7, hu_8⟩ := h0.at hx_6
   have bu_8 := hu_8.bound
   refine S_v E rfl (QB E rfl rfl T74 hp_7 rfl) rfl fun _ E1 => S_v E1 rfl (Qj E1 rfl Tryz.isAgg22 S.imm qp_7) rfl fun _ E2 => S_a E2 rfl rfl fun _ E3 => Qc (T_n (Qb (Qa (S_m E3 rfl rfl fun _ E4 => S_m E4 rfl rfl fun _ E5 => S_v E5 rfl (Qp E5 rfl T22 hu_8.len) rfl ?_))))
   clear E a E1 E2 E3 E4 E5; intro a E
   refine S_v E rfl (QG E rfl rfl) rfl ?_
   clear E a; intro a E
   refine Qc (T_n ?_)
   refine Qn E rfl (fun hc_9 => ?_) (fun hc_9 => ?_)
   ·refine Qb (Qa (S_m E rfl rfl fun _ E1 => S_m E1 rfl rfl fun _ E2 => S_m E2 rfl rfl ?_))
    clear E a E1 E2; intro a E
    obtain ⟨x_10, hx_10⟩ : ∃ x, (x_6)[k]? = some x := ⟨_, List.getElem?_eq_getElem (by omega)⟩
    obtain ⟨p_11, hp_11, qp_11⟩ := hu_8.at hx_10
    refine S_v E rfl (QB E rfl rfl T22 hp_11 rfl) rfl fun _ E1 => S_v E1 rfl (Qj E1 rfl Tryz.isAgg3 S.imm qp_11) rfl ?_
    clear E a E1; intro a E
    refine S_x (Qy (ys := [x_10]) E S rfl T22 rfl rfl rfl ?_)
    clear E a S; rintro a w v_12 E S
    replace S := S.front1
    replace S := S.front1
    refine S_x (QH (xs := QU k l0 ++ JY k (l0.take j)) (ys := [x_10]) E S rfl rfl rfl T22 (by (have hq := ZP (i := k) (j := j) (ll := l0) (by assumption) (by omega); simp; omega)) ?_)
    clear E a S; rintro a w v_13 E S
    refine S_a E rfl rfl fun _ E1 => Qc (T_n (Qa (S_a E1 rfl rfl fun _ E2 => Qc (B_n (T_n (Qa (S_v E2 rfl (Qq (m := ((j + 1 : Nat) : Int)) E2 rfl rfl (by omega) (by omega)) rfl fun _ E3 => S_m E3 rfl rfl ?_)))))))
    clear E a E1 E2 E3; intro a E
    refine Qc (T_n ?_)
    replace S := S.re1 (l' := QU k l0 ++ JY k (l0.take (j + 1))) (by (rw [Zv (by assumption)]; simp [*]; done))
    exact ⟨j + 1, ⟨M_4, _, hM_4, S, E.keep ⟨rfl, rfl, rfl, ZE (i := true) rfl (by ((refine (decide_eq_true ?_).symm; exact ⟨_, List.mem_take_succ_of (by assumption), by omega⟩))), rfl, rfl, rfl, trivial⟩, by (omega)⟩, by omega⟩
   ·refine Qh (B_n (T_n (Qa (S_v E rfl (Qq (m := ((j + 1 : Nat) : Int)) E rfl rfl (by omega) (by omega)) rfl fun _ E1 => S_m E1 rfl rfl ?_))))
    clear E a E1; intro a E
    refine Qc (T_n ?_)
    replace S := S.re1 (l' := QU k l0 ++ JY k (l0.take (j + 1))) (by (rw [Zv (by assumption), List.getElem?_eq_none (by omega)]; simp; done))
    exact ⟨j + 1, ⟨M_4, _, hM_4, S, E.keep ⟨rfl, rfl, rfl, ZE (i := decide (∃ x ∈ l0.take j, k < x.length)) rfl (by ((refine decide_eq_decide.2 ?_; rw [qs (by assumption)]; constructor; exact fun h => .inl h; exact fun h => h.resolve_right (by omega)))), rfl, rfl, rfl, trivial⟩, by (omega)⟩, by omega⟩
  ·refine Qt (T_x (T_x (B_x (B_n (T_n (Qa (S_m E rfl rfl fun _ E1 => S_v E1 rfl (Qq (m := ((k + 1 : Nat) : Int)) E1 rfl rfl (by omega) (by omega)) rfl fun _ E2 => S_a E2 rfl rfl ?_)))))))
   clear E a E1 E2; intro a E
   refine Qc (T_n ?_)
   replace S := S.re1 (l' := QU (k + 1) l0) (by (rw [Zq, show JY k l0 = JY k (l0.take j) by rw [List.take_of_length_le (by omega)]]; done))
   exact ⟨k + 1, ⟨M_4, _, _, (hM_2.trans hM_4), S, E.keep ⟨rfl, rfl, rfl, ZE (i := decide (∃ x ∈ l0.take j, k < x.length)) rfl (by (rfl)), trivial⟩, by have h := hL0_1 (by assumption); omega, (fun h => by have h := of_decide_eq_true h; obtain ⟨x, hx, hkx⟩ := h; have := Ub (List.mem_of_mem_take hx); omega), (fun h => by have h := of_decide_eq_false h; refine Nat.le_of_not_lt fun h2 => h ?_; rw [List.take_of_length_le (by omega)]; exact (Classical.not_forall_not.1 fun h3 => by have := jV (ll := l0) (b := k) (fun x hx => Nat.le_of_not_lt fun h4 => h3 x ⟨hx, h4⟩); omega))⟩, by omega⟩
 ·refine Qt ?_
  refine T_x (T_x (B_x (T_n (Qb (Qa (S_m E rfl rfl fun _ E1 => S_a E1 rfl rfl ?_))))))
  clear E a E1; intro a E
  refine Qc (T_n (Qe ?_))
  have S0 := S; clear S
  obtain ⟨M_14, hM_14, hz_15, S⟩ := S0.freezeI (by (have hq := GO k l0; omega))
  clear S0
  exact Qg E Tryz.results117 rfl ⟨_, rfl, M_14, (hM_2.trans hM_14), (RdS.eqL hz_15 (by (exact (jY (hL0_2 (by assumption))).symm))), S⟩
theorem qw {M : Hp} {v0 : Value} {l0 : List Int} (h0 : RdI M v0 l0){n1 : Nat} (hn : 0 < n1) (hb1 : n1 ≤ 1000000) (hb : l0.length ≤ 1000000) :
  Pu Tryz.prog (.func (.func 119) #[] #[]) M [v0, .int .i64 ((n1 : Nat) : Int)] (fun r M' => ∃ t0, r = .tuple #[t0, .bool true] ∧ Jy M' t0 (chL n1 l0)) := by
 refine Qk Tryz.func119 rfl Tryz.ntmps119 rfl Tryz.call119 ?_
 intro a w M1 H hM1 S E
 replace h0 := h0.le hM1
 have b0 := h0.bound
 refine Qb (Qa (S_a E rfl rfl fun _ E1 => S_a E1 rfl rfl fun _ E2 => Qc (T_n (Qb (Qb (Qa (S_m E2 rfl rfl fun _ E3 => S_v E3 rfl (ZV E3 rfl rfl) rfl ?_)))))))
 clear E a E1 E2 E3; intro a E
 refine Qc (T_n ?_)
 have hc_1 : (decide (((n1 : Nat) : Int) ≤ 0)) = false := by (apply decide_eq_false; omega)
 refine Ja E rfl hc_1 ?_
 refine Qh (T_n (Qb (Qa (S_a E rfl rfl ?_))))
 clear E a; intro a E
 refine Qc (T_n (Qb (Qi ?_)))
 replace S : St w M1 (JD 22 1 (.slice none 0 0) ([] : List (List Int)).length [] :: _) := S.ownNil
 have hr_3 : JH (RSl 1 Jr) 1 M1 ([] : List (List Int)) [] := JH.nil
 have hre : ([] : List (List Int)) = JA n1 n1 l0 0 := by first | rfl | exact JC _ _ _ _
 replace S := S.reR hre
 replace hr_3 := hr_3.eq hre
 clear hre
 refine Qx (γ := Nat) (fun (k : Nat) a w => ∃ (M_4 : Hp) (u6 : Value) (xs6 : List Value) (u0 : Value), Hp.le M1 M_4 ∧ St w M_4 (JD 22 1 u6 (JA n1 n1 l0 k).length xs6 :: H) ∧ Env a 30 [] [(0, u0), (1, .int .i64 ((n1 : Nat) : Int)), (6, u6)] ∧ (k ≤ l0.length) ∧ (k * n1 ≤ l0.length) ∧ JH (RSl 1 Jr) 1 M_4 (JA n1 n1 l0 k) xs6 ∧ RdI M_4 u0 (l0.drop (k * n1))) (fun k => l0.length + 1 - k) 0 ⟨M1, _, _, _, Hp.le.refl _, S, E.keep ⟨rfl, rfl, rfl, trivial⟩, (by omega), (by omega), hr_3, (qJ h0 (by simp))⟩ ?_
 try clear E
 try clear S
 try clear a
 try clear w
 rintro k a w ⟨M_4, u6, xs6, u0, hM_4, S, E, hL0_0, hL0_1, hr6, hs0_0⟩
 replace h0 := h0.le hM_4
 have hwl := Jn n1 n1 l0 k
 refine Qb (Qb (Qa (S_m E rfl rfl fun _ E1 => S_v E1 rfl (Qp E1 rfl T22 hs0_0.len) rfl fun _ E2 => S_m E2 rfl rfl fun _ E3 => S_v E3 rfl (JT E3 rfl rfl) rfl ?_)))
 clear E a E1 E2 E3; intro a E
 refine Qc (T_n ?_)
 refine Qn E rfl (fun hc_5 => ?_) (fun hc_5 => ?_)
 ·refine Qh (T_n (Qi (Qb (Qa (S_m E rfl rfl fun _ E1 => S_m E1 rfl rfl fun _ E2 => S_m E2 rfl rfl ?_)))))
  clear E a E1 E2; intro a E
  obtain ⟨v_6, sv_6, hv_6⟩ := hs0_0.subv 0 n1 (by omega) (by omega)
  simp only [List.drop_zero] at hv_6
  replace hv_6 : RdI M_4 v_6 ((l0.drop (k * n1)).take n1) := hv_6
  refine S_v E rfl (Jd E rfl rfl T22 sv_6 (by omega)) rfl ?_
  clear E a; intro a E
  refine S_x (JP (R := RSl 1 Jr) (vs := [v_6]) (xs := [(l0.drop (k * n1)).take n1]) (QN QI) E S rfl T74 rfl rfl rfl (by intro u hu; simp only [List.mem_cons, List.not_mem_nil, or_false] at hu; rcases hu with rfl <;> first | exact RdI.one hv_6 | rfl) rfl (ZC (R := RSl 1 Jr) (RdI.row hv_6) YQ) ?_)
  clear E a S; rintro a v_7 w M_8 hM_8 hv_7 S E
  replace hv_7 : Jy M_8 v_7 [(l0.drop (k * n1)).take n1] := hv_7
  replace h0 := h0.le hM_8
  replace hr6 := hr6.le (QN QI) hM_8
  replace hs0_0 := hs0_0.le hM_8
  refine S_x (ZU (R := (RSl 1 Jr)) (zs := JA n1 n1 l0 k) (ys := [(l0.drop (k * n1)).take n1]) E S hr6 rfl rfl rfl T74 hv_7 Vf (by (simp only [Jn, List.length_cons, List.length_nil]; omega)) (by (simp only [Jn, List.length_cons, List.length_nil]; omega)) ?_)
  clear E a S; rintro a w v_9 xs_10 E hr_11 S
  refine S_a E rfl rfl fun _ E1 => Qc (T_n (Qa (S_m E1 rfl rfl fun _ E2 => S_m E2 rfl rfl ?_)))
  clear E a E1 E2; intro a E
  obtain ⟨v_12, sv_12, hv_12⟩ := hs0_0.subv n1 ((l0.drop (k * n1)).length) (by omega) (by omega)
  simp only [List.take_length] at hv_12
  replace hv_12 : RdI M_8 v_12 ((l0.drop (k * n1)).drop n1) := hv_12
  refine S_v E rfl (Jq E rfl rfl T22 hs0_0.len sv_12 (by omega)) rfl fun _ E1 => S_a E1 rfl rfl ?_
  clear E a E1; intro a E
  refine Qc (B_n (T_n ?_))
  have hre : (JA n1 n1 l0 k) ++ [(l0.drop (k * n1)).take n1] = JA n1 n1 l0 (k + 1) := by first | rfl | exact JC _ _ _ _
  replace S := S.reR hre
  replace hr_11 := hr_11.eq hre
  clear hre
  exact ⟨k + 1, ⟨M_8, _, _, _, (hM_4.trans hM_8), S, E.keep ⟨rfl, rfl, rfl, trivial⟩, (by have h9 := ck_step (n := n1) (k := k) (l := l0) (by omega); have h8 := Nat.le_mul_of_pos_right (k + 1) hn; omega), (by exact ck_step (by omega)), hr_11, (qJ hv_12 (by exact ck_drop))⟩, by omega⟩
 ·refine Qt (T_x (T_x (B_x (T_n (Qb (Qb (Qa (S_m E rfl rfl fun _ E1 => S_v E1 rfl (Qp E1 rfl T22 hs0_0.len) rfl fun _ E2 => S_v E2 rfl (JT E2 rfl rfl) rfl ?_))))))))
  clear E a E1 E2; intro a E
  refine Qc (T_n ?_)
  refine Qn E rfl (fun hc_13 => ?_) (fun hc_13 => ?_)
  ·refine Qa (S_m E rfl rfl fun _ E1 => S_m E1 rfl rfl ?_)
   clear E a E1; intro a E
   refine S_x (JP (R := RSl 1 Jr) (vs := [u0]) (xs := [l0.drop (k * n1)]) (QN QI) E S rfl T74 rfl rfl rfl (by intro u hu; simp only [List.mem_cons, List.not_mem_nil, or_false] at hu; rcases hu with rfl <;> first | exact RdI.one hs0_0 | rfl) rfl (ZC (R := RSl 1 Jr) (RdI.row hs0_0) YQ) ?_)
   clear E a S; rintro a v_14 w M_15 hM_15 hv_14 S E
   replace hv_14 : Jy M_15 v_14 [l0.drop (k * n1)] := hv_14
   replace h0 := h0.le hM_15
   replace hr6 := hr6.le (QN QI) hM_15
   refine S_x (ZU (R := (RSl 1 Jr)) (zs := JA n1 n1 l0 k) (ys := [l0.drop (k * n1)]) E S hr6 rfl rfl rfl T74 hv_14 Vf (by (simp only [Jn, List.length_cons, List.length_nil]; omega)) (by (simp only [Jn, List.length_cons, List.length_nil]; omega)) ?_)
   clear E a S; rintro a w v_16 xs_17 E hr_18 S
   refine S_a E rfl rfl fun _ E1 => Qc (T_n (Qb (Qa (S_m E1 rfl rfl fun _ E2 => S_a E2 rfl rfl fun _ E3 => S_a E3 rfl rfl ?_))))
   clear E a E1 E2 E3; intro a E
   refine Qc (T_n (Qe ?_))
   have S0 := S; clear S
   obtain ⟨M_19, hM_19, hz_20, S⟩ := S0.freezeR hr_18 (QN QI) (by ((simp only [Jn, List.length_append, List.length_cons, List.length_nil]; omega)))
   clear S0
   replace hz_20 : Jy M_19 v_16 ((JA n1 n1 l0 k) ++ [l0.drop (k * n1)]) := hz_20
   replace h0 := h0.le hM_19
   exact Jt E Tryz.results119 rfl rfl ⟨_, rfl, M_19, (hM_4.trans (hM_15.trans hM_19)), ⟨_, (by rfl), (RdS.eqL hz_20 (by (exact (ck_win1 hn (by omega) (by omega) (by omega)).symm)))⟩, S⟩
  ·refine Qh (T_n (Qb (Qa (S_m E rfl rfl fun _ E1 => S_a E1 rfl rfl fun _ E2 => S_a E2 rfl rfl ?_))))
   clear E a E1 E2; intro a E
   refine Qc (T_n (Qe ?_))
   have S0 := S; clear S
   obtain ⟨M_21, hM_21, hz_22, S⟩ := S0.freezeR hr6 (QN QI) (by (omega))
   clear S0
   replace hz_22 : Jy M_21 u6 (JA n1 n1 l0 k) := hz_22
   replace h0 := h0.le hM_21
   exact Jt E Tryz.results119 rfl rfl ⟨_, rfl, M_21, (hM_4.trans hM_21), ⟨_, (by rfl), (RdS.eqL hz_22 (by (exact (ck_win0 hn (by omega) (by omega)).symm)))⟩, S⟩
theorem GG {M : Hp} {v0 : Value} {l0 : List Int} (h0 : RdI M v0 l0){n1 : Nat} (hz : n1 = 0) :
  Pu Tryz.prog (.func (.func 119) #[] #[]) M [v0, .int .i64 ((n1 : Nat) : Int)] (fun r M' => ∃ t0, r = .tuple #[t0, .bool false] ∧ Jy M' t0 ([] : List (List Int))) := by
 refine Qk Tryz.func119 rfl Tryz.ntmps119 rfl Tryz.call119 ?_
 intro a w M1 H hM1 S E
 replace h0 := h0.le hM1
 have b0 := h0.bound
 refine Qb (Qa (S_a E rfl rfl fun _ E1 => S_a E1 rfl rfl fun _ E2 => Qc (T_n (Qb (Qb (Qa (S_m E2 rfl rfl fun _ E3 => S_v E3 rfl (ZV E3 rfl rfl) rfl ?_)))))))
 clear E a E1 E2 E3; intro a E
 refine Qc (T_n ?_)
 have hc_1 : (decide (((n1 : Nat) : Int) ≤ 0)) = true := by (apply decide_eq_true; omega)
 refine ZK E rfl hc_1 ?_
 refine Qb (Qa (S_a E rfl rfl fun _ E1 => S_a E1 rfl rfl ?_))
 clear E a E1; intro a E
 refine Qc (T_n (Qe ?_))
 refine T_r ?_
 exact Jt E Tryz.results119 rfl rfl ⟨_, rfl, M1, (Hp.le.refl _), ⟨_, (by rfl), (by rw [show ([] : List (List Int)) = [] from by simp]; exact RdS.nil _)⟩, S⟩
theorem vA {M : Hp} {v0 : Value} {l0 : List Int} (h0 : RdI M v0 l0){n1 : Nat} (hb1 : n1 ≤ 1000000) (hb : l0.length ≤ 1000000) :
  Pu Tryz.prog (.func (.func 119) #[] #[]) M [v0, .int .i64 ((n1 : Nat) : Int)] (fun r M' => ∃ t0, r = .tuple #[t0, .bool (decide (0 < n1))] ∧ Jy M' t0 (WU n1 l0)) := by
 rcases Nat.eq_zero_or_pos n1 with h | h
 ·have h9 := GG (M := M) h0 h
  subst h; exact h9
 ·have h9 := qw (M := M) h0 h hb1 hb
  rw [Ux h, decide_eq_true h]; exact h9
theorem UX {M : Hp} {v0 : Value} {l0 : List (List Int)} (h0 : Jy M v0 l0) (hb : total l0 ≤ 1000000000) :
  Pu Tryz.prog (.func (.func 120) #[] #[]) M [v0] (fun r M' => RdI M' r ((l0).flatten)) := by
 refine Qk Tryz.func120 rfl Tryz.ntmps120 rfl Tryz.call120 ?_
 intro a w M1 H hM1 S E
 replace h0 := h0.le hM1
 have b0 := h0.bound
 refine Qb (Qa (S_a E rfl rfl fun _ E1 => Qc (T_n (Qb (Qa (S_a E1 rfl rfl fun _ E2 => Qc (T_n (Qb (Qb (Qa (S_m E2 rfl rfl fun _ E3 => S_v E3 rfl (Qp E3 rfl T74 h0.len) rfl fun _ E4 => S_m E4 rfl rfl ?_)))))))))))
 clear E a E1 E2 E3 E4; intro a E
 refine Qc (T_n (Qi ?_))
 replace S := (S.ownNil (e := 3) (sz := 1)).made0
 replace S := S.re1 (l' := (l0.take 0).flatten) (by (simp; done))
 refine Qx (γ := Nat) (fun (k : Nat) a w => ∃ (M_2 : Hp) (u3 : Value), Hp.le M1 M_2 ∧ St w M_2 (QR 3 u3 ((l0.take k).flatten) :: H) ∧ Env a 17 [] [(3, u3), (6, v0), (7, .int .i64 (((l0).length : Nat) : Int)), (8, .int .i64 ((k : Nat) : Int))] ∧ (k ≤ (l0).length)) (fun k => ((l0).length) - k) 0 ⟨M1, _, Hp.le.refl _, S, E.keep ⟨rfl, rfl, rfl, rfl, trivial⟩, by (omega)⟩ ?_
 try clear E
 try clear S
 try clear a
 try clear w
 rintro k a w ⟨M_2, u3, hM_2, S, E, hL0_0⟩
 replace h0 := h0.le hM_2
 have ht := QO l0 k; have hf := Zg (l0.take k)
 refine Qb (Qa (S_v E rfl (QG E rfl rfl) rfl ?_))
 clear E a; intro a E
 refine Qc (T_n (Qb ?_))
 refine Qn E rfl (fun hc_3 => ?_) (fun hc_3 => ?_)
 ·refine Qh (T_n (Qb (Qi (Qb (Qa ?_)))))
  obtain ⟨x_4, hx_4⟩ : ∃ x, (l0)[k]? = some x := ⟨_, List.getElem?_eq_getElem (by omega)⟩
  obtain ⟨p_5, u_6, hp_5, qp_5, hu_6⟩ := h0.at hx_4
  have bu_6 := hu_6.bound
  refine S_v E rfl (QB E rfl rfl T74 hp_5 rfl) rfl fun _ E1 => S_v E1 rfl (Qj E1 rfl Tryz.isAgg22 S.imm qp_5) rfl fun _ E2 => S_a E2 rfl rfl fun _ E3 => Qc (T_n (Qa (S_m E3 rfl rfl fun _ E4 => S_m E4 rfl rfl ?_)))
  clear E a E1 E2 E3 E4; intro a E
  refine S_x (QJ (xs := (l0.take k).flatten) E S rfl rfl rfl T22 hu_6 (by (have ht2 := QO l0 (k+1); rw [Zi (by assumption)] at ht2; omega)) ?_)
  clear E a S; rintro a w v_7 E S
  refine S_a E rfl rfl fun _ E1 => Qc (B_n (T_n (Qa (S_v E1 rfl (Qq (m := ((k + 1 : Nat) : Int)) E1 rfl rfl (by omega) (by omega)) rfl fun _ E2 => S_m E2 rfl rfl ?_))))
  clear E a E1 E2; intro a E
  refine Qc (T_n ?_)
  replace S := S.re1 (l' := (l0.take (k + 1)).flatten) (by (rw [Vh (by assumption)]; done))
  exact ⟨k + 1, ⟨M_2, _, hM_2, S, E.keep ⟨rfl, rfl, rfl, rfl, trivial⟩, by (omega)⟩, by omega⟩
 ·refine Qt (T_x (T_x (B_x (T_n (Qb (Qa (S_m E rfl rfl fun _ E1 => S_a E1 rfl rfl ?_)))))))
  clear E a E1; intro a E
  refine Qc (T_n (Qe ?_))
  have S0 := S; clear S
  obtain ⟨M_8, hM_8, hz_9, S⟩ := S0.freezeI (by (have ht := QO l0 k; rw [Zg]; omega))
  clear S0
  exact Qg E Tryz.results120 rfl ⟨_, rfl, M_8, (hM_2.trans hM_8), (RdS.eqL hz_9 (by (rw [List.take_of_length_le (by omega)]; done))), S⟩
theorem Vi {M : Hp} {v0 : Value} {l0 : List (List Int)} (h0 : Jy M v0 l0) {x1 : Bool} (hb : total l0 ≤ 1000000000) :
  Pu Tryz.prog (.func (.func 118) #[] #[]) M [v0, .bool x1] (fun r M' => RdI M' r (if x1 = true then (l0).flatten else [-7777])) := by
 refine Qk Tryz.func118 rfl Tryz.ntmps118 rfl Tryz.call118 ?_
 intro a w M1 H hM1 S E
 replace h0 := h0.le hM1
 refine Qb (Qa (S_a E rfl rfl fun _ E1 => Qc (T_n (Qb (Qb (Qa (S_m E1 rfl rfl fun _ E2 => S_v E2 rfl (Zk E2 rfl) rfl ?_)))))))
 clear E a E1 E2; intro a E
 refine Qc (T_n ?_)
 refine QL E rfl (fun hc_1 => ?_) (fun hc_1 => ?_)
 ·refine Qb ?_
  refine Qa ?_
  refine S_x (Qy (ys := [(-7777)]) E S rfl T22 rfl rfl rfl ?_)
  clear E a S; rintro a w v_2 E S
  refine S_a E rfl rfl ?_
  clear E a; intro a E
  refine Qc (T_n (Qe ?_))
  refine T_r ?_
  have S0 := S; clear S
  obtain ⟨M_3, hM_3, hz_4, S⟩ := S0.freezeI (by ((simp; done)))
  clear S0
  replace h0 := h0.le hM_3
  exact Qg E Tryz.results118 rfl ⟨_, rfl, M_3, hM_3, (by rw [show (if x1 = true then (l0).flatten else [-7777]) = [(-7777)] from by (simp_all; done)]; exact hz_4), S⟩
 ·refine Qh ?_
  refine T_n (Qb (Qa (S_m E rfl rfl ?_)))
  clear E a; intro a E
  refine S_x (Qr E S rfl rfl rfl (UX h0 (by assumption)) (Hp.le.refl _) ?_)
  clear E a S; rintro a v_6 w M_5 hM_5 hv_6 S E
  refine S_a E rfl rfl ?_
  clear E a; intro a E
  refine Qc (T_n (Qe ?_))
  exact Qg E Tryz.results118 rfl ⟨_, rfl, M_5, hM_5, (RdS.eqL hv_6 (by (simp_all; done))), S⟩
theorem GF {M : Hp} {v0 : Value} {l0 : List Int} (h0 : RdI M v0 l0){kk1 kn1 : Int} (gk1 : -9223372036854775808 ≤ kn1 ∧ kn1 ≤ 9223372036854775807) (hb : l0.length ≤ 1000000000000) (hr0 : (∀ x ∈ l0, -9223372036854775808 ≤ x ∧ x ≤ 9223372036854775807)) :
  Pu Tryz.prog (.func (.func 121) #[] #[]) M [v0, .agg #[.int .i64 kk1, .int .i64 kn1]] (fun r M' => Jy M' r (Js (fun x => Qs kk1 kn1 x 0) l0)) := by
 refine Qk Tryz.func121 rfl Tryz.ntmps121 rfl Tryz.call121 ?_
 intro a w M1 H hM1 S E
 replace h0 := h0.le hM1
 have b0 := h0.bound
 have hkl : (l0.map (fun x => Qs kk1 kn1 x 0)).length = l0.length := List.length_map _
 refine Qb (Qa ?_)
 refine S_x (Jc (cs := #[.int .i64 kk1, .int .i64 kn1]) E S rfl rfl rfl ?_)
 clear E a S; rintro a w b_1 E S
 obtain ⟨M_2, hM_2, hb_1, S⟩ := S.freezeB
 replace h0 := h0.le hM_2
 refine S_a E rfl rfl fun _ E1 => Qc (T_n (Qb (Qa (S_a E1 rfl rfl fun _ E2 => Qc (T_n (Qb (Qa (S_m E2 rfl rfl fun _ E3 => S_v E3 rfl (QA E3 rfl (Tryz.isAgg42 _) (Tryz.sizeOf42 _) S.imm hb_1) rfl ?_))))))))
 clear E a E1 E2 E3; intro a E
 refine S_x (Qr E S rfl rfl rfl (Wq h0 (by omega) (by assumption) (by (omega))) (Hp.le.refl _) ?_)
 clear E a S; rintro a v_4 w M_3 hM_3 hv_4 S E
 replace h0 := h0.le hM_3
 refine S_a E rfl rfl fun _ E1 => Qc (T_n (Qb (Qb (Qa (S_m E1 rfl rfl fun _ E2 => S_v E2 rfl (Qp E2 rfl T22 h0.len) rfl fun _ E3 => S_m E3 rfl rfl ?_)))))
 clear E a E1 E2 E3; intro a E
 refine Qc (T_n (Qi ?_))
 replace S : St w M_3 (JD 22 1 (.slice none 0 0) ([] : List (List Int)).length [] :: _) := S.ownNil
 have hr_6 : JH (RSl 1 Jr) 1 M_3 ([] : List (List Int)) [] := JH.nil
 have hre : ([] : List (List Int)) = Yb (fun x => Qs kk1 kn1 x 0) l0 (l0.take 0) := by first | (simp [Yb, uqS]; done) | exact pp_old (f := (fun x => Qs kk1 kn1 x 0)) (by omega) (by assumption) (by assumption) | exact pp_new (f := (fun x => Qs kk1 kn1 x 0)) (by omega) (by assumption) (by assumption) (by rw [List.take_of_length_le (l := l0) (i := m) (by omega)])
 replace S := S.reR hre
 replace hr_6 := hr_6.eq hre
 clear hre
 refine Qx (γ := Nat) (fun (k : Nat) a w => ∃ (M_7 : Hp) (u5 : Value) (xs5 : List Value), Hp.le M_3 M_7 ∧ St w M_7 (JD 22 1 u5 (Yb (fun x => Qs kk1 kn1 x 0) l0 (l0.take k)).length xs5 :: H) ∧ Env a 54 [] [(0, v0), (5, u5), (6, v_4), (14, .int .i64 (((l0).length : Nat) : Int)), (15, .int .i64 ((k : Nat) : Int))] ∧ (k ≤ (l0).length) ∧ JH (RSl 1 Jr) 1 M_7 (Yb (fun x => Qs kk1 kn1 x 0) l0 (l0.take k)) xs5) (fun k => ((l0).length) - k) 0 ⟨M_3, _, _, Hp.le.refl _, S, E.keep ⟨rfl, rfl, rfl, rfl, rfl, trivial⟩, by (omega), hr_6⟩ ?_
 try clear E
 try clear S
 try clear a
 try clear w
 rintro k a w ⟨M_7, u5, xs5, hM_7, S, E, hL0_0, hr5⟩
 replace h0 := h0.le hM_7
 replace hv_4 := hv_4.le hM_7
 have hpp := partP_len (fun x => Qs kk1 kn1 x 0) l0 (l0.take k); rw [List.length_take] at hpp
 refine Qb (Qa (S_v E rfl (QG E rfl rfl) rfl ?_))
 clear E a; intro a E
 refine Qc (T_n (Qb ?_))
 refine Qn E rfl (fun hc_8 => ?_) (fun hc_8 => ?_)
 ·refine Qh (T_n (Qb (Qi (Qb (Qa (S_m E rfl rfl fun _ E1 => S_a E1 rfl rfl fun _ E2 => Qc (T_n (Qb (Qb (Qa (S_m E2 rfl rfl fun _ E3 => S_m E3 rfl rfl fun _ E4 => S_m E4 rfl rfl ?_)))))))))))
  clear E a E1 E2 E3 E4; intro a E
  obtain ⟨x_9, hx_9⟩ : ∃ x, ((l0).map (fun x => Qs kk1 kn1 x 0))[k]? = some x := ⟨_, List.getElem?_eq_getElem (by omega)⟩
  obtain ⟨p_10, hp_10, qp_10⟩ := hv_4.at hx_9
  refine S_v E rfl (QB E rfl rfl T22 hp_10 rfl) rfl fun _ E1 => S_v E1 rfl (Qj E1 rfl Tryz.isAgg3 S.imm qp_10) rfl ?_
  clear E a E1; intro a E
  refine S_x (Qr E S rfl rfl rfl (Ve hv_4) (Hp.le.refl _) ?_)
  clear E a S; rintro a _ w M_11 hM_11 rfl S E
  replace h0 := h0.le hM_11
  replace hv_4 := hv_4.le hM_11
  replace hr5 := hr5.le (QN QI) hM_11
  refine S_m E rfl rfl fun _ E1 => S_v E1 rfl (QG E1 rfl rfl) rfl ?_
  clear E a E1; intro a E
  refine Qc (T_n ?_)
  refine Qn E rfl (fun hc_12 => ?_) (fun hc_12 => ?_)
  ·refine Qt (T_x (B_x (T_n (Qa (S_v E rfl (Qq (m := ((k + 1 : Nat) : Int)) E rfl rfl (by omega) (by omega)) rfl fun _ E1 => S_m E1 rfl rfl ?_)))))
   clear E a E1; intro a E
   refine Qc (T_n ?_)
   have hre : Yb (fun x => Qs kk1 kn1 x 0) l0 (l0.take k) = Yb (fun x => Qs kk1 kn1 x 0) l0 (l0.take (k + 1)) := by first | (simp [Yb, uqS]; done) | exact pp_old (f := (fun x => Qs kk1 kn1 x 0)) (by omega) (by assumption) (by assumption) | exact pp_new (f := (fun x => Qs kk1 kn1 x 0)) (by omega) (by assumption) (by assumption) (by rw [List.take_of_length_le (l := l0) (i := m) (by omega)])
   replace S := S.reR hre
   replace hr5 := hr5.eq hre
   clear hre
   exact ⟨k + 1, ⟨M_11, _, _, (hM_7.trans hM_11), S, E.keep ⟨rfl, rfl, rfl, rfl, rfl, trivial⟩, by (omega), hr5⟩, by omega⟩
  ·refine Qh (T_n (Qb (Qa (S_a E rfl rfl fun _ E1 => Qc (T_n (Qb (Qb (Qa (S_m E1 rfl rfl fun _ E2 => S_v E2 rfl (Qp E2 rfl T22 h0.len) rfl fun _ E3 => S_m E3 rfl rfl ?_)))))))))
   clear E a E1 E2 E3; intro a E
   refine Qc (T_n (Qi ?_))
   replace S := (S.ownNil (e := 3) (sz := 1)).made0
   replace S := S.re1 (l' := (l0.take 0).filter (fun x => decide ((fun x => Qs kk1 kn1 x 0) x = x_9))) (by (simp; done))
   refine Qx (γ := Nat) (fun (m : Nat) a w => ∃ (M_14 : Hp) (u8 : Value), Hp.le M_11 M_14 ∧ St w M_14 (QR 3 u8 ((l0.take m).filter (fun x => decide ((fun x => Qs kk1 kn1 x 0) x = x_9))) :: JD 22 1 u5 (Yb (fun x => Qs kk1 kn1 x 0) l0 (l0.take k)).length xs5 :: H) ∧ Env a 54 [] [(0, v0), (5, u5), (6, v_4), (7, .int .i64 ((k : Nat) : Int)), (8, u8), (14, .int .i64 (((l0).length : Nat) : Int)), (15, .int .i64 ((k : Nat) : Int)), (27, .int .i64 (((l0).length : Nat) : Int)), (28, .int .i64 ((m : Nat) : Int))] ∧ (m ≤ (l0).length)) (fun m => ((l0).length) - m) 0 ⟨M_11, _, Hp.le.refl _, S, E.keep ⟨rfl, rfl, rfl, rfl, rfl, rfl, rfl, rfl, rfl, trivial⟩, by (omega)⟩ ?_
   try clear E
   try clear S
   try clear a
   try clear w
   rintro m a w ⟨M_14, u8, hM_14, S, E, hL1_0⟩
   replace h0 := h0.le hM_14
   replace hv_4 := hv_4.le hM_14
   replace hr5 := hr5.le (QN QI) hM_14
   have hft := fun p : Int → Bool => List.length_filter_le p (l0.take m)
   have hmt := List.length_take_le m l0
   refine Qb (Qa (S_v E rfl (QG E rfl rfl) rfl ?_))
   clear E a; intro a E
   refine Qc (T_n (Qb ?_))
   refine Qn E rfl (fun hc_15 => ?_) (fun hc_15 => ?_)
   ·refine Qh (T_n (Qb (Qi (Qb (Qa (S_m E rfl rfl fun _ E1 => S_a E1 rfl rfl ?_))))))
    clear E a E1; intro a E
    refine Qc (T_n (Qb ?_))
    replace S := S.mono_heap (w' := World.drew _) rfl
    refine Jx (C := fun x w => agree M_14 w) (bf := (fun i => [])) [0, 1, 2, 3, 4, 5, 6, 7, 8] [0, 1, 2, 3, 4, 5, 6, 7, 8] Tryz.mixed (by kernel_rfl) (fun x hq => S.imm) ?_
    refine D_v E rfl rfl rfl (fun w hC => (Qu E rfl)) fun _ E1 => D_v E1 rfl rfl rfl (fun w hC => (Qu E1 rfl)) ?_
    clear E a E1; intro a E
    obtain ⟨x_16, hx_16⟩ : ∃ x, ((l0).map (fun x => Qs kk1 kn1 x 0))[m]? = some x := ⟨_, List.getElem?_eq_getElem (by omega)⟩
    obtain ⟨p_17, hp_17, qp_17⟩ := hv_4.at hx_16
    refine D_v E rfl rfl rfl (fun w hC => (QB E rfl rfl T22 hp_17 rfl)) fun _ E1 => D_v E1 rfl rfl rfl (fun w hC => (Qj E1 rfl Tryz.isAgg3 hC qp_17)) fun _ E2 => D_v E2 rfl rfl rfl (fun w hC => (Qu E2 rfl)) fun _ E3 => D_v E3 rfl rfl rfl (fun w hC => (Qu E3 rfl)) ?_
    clear E a E1 E2 E3; intro a E
    obtain ⟨x_18, hx_18⟩ : ∃ x, ((l0).map (fun x => Qs kk1 kn1 x 0))[k]? = some x := ⟨_, List.getElem?_eq_getElem (by omega)⟩
    obtain ⟨p_19, hp_19, qp_19⟩ := hv_4.at hx_18
    refine D_v E rfl rfl rfl (fun w hC => (QB E rfl rfl T22 hp_19 rfl)) fun _ E1 => D_v E1 rfl rfl rfl (fun w hC => (Qj E1 rfl Tryz.isAgg3 hC qp_19)) fun _ E2 => D_v E2 rfl rfl rfl (fun w hC => (Qv E2 rfl rfl)) ?_
    clear E a E1 E2; intro a E
    refine Ze (Zd ?_)
    refine T_n ?_
    refine Qn E rfl (fun hc_20 => ?_) (fun hc_20 => ?_)
    ·refine Qa (S_m E rfl rfl fun _ E1 => S_m E1 rfl rfl fun _ E2 => S_m E2 rfl rfl ?_)
     clear E a E1 E2; intro a E
     obtain ⟨x_21, hx_21⟩ : ∃ x, (l0)[m]? = some x := ⟨_, List.getElem?_eq_getElem (by omega)⟩
     obtain ⟨p_22, hp_22, qp_22⟩ := h0.at hx_21
     refine S_v E rfl (QB E rfl rfl T22 hp_22 rfl) rfl fun _ E1 => S_v E1 rfl (Qj E1 rfl Tryz.isAgg3 S.imm qp_22) rfl ?_
     clear E a E1; intro a E
     refine S_x (Qy (ys := [x_21]) E S rfl T22 rfl rfl rfl ?_)
     clear E a S; rintro a w v_23 E S
     replace S := S.front1
     replace S := S.front1
     refine S_x (QH (xs := (l0.take m).filter (fun x => decide ((fun x => Qs kk1 kn1 x 0) x = x_9))) (ys := [x_21]) E S rfl rfl rfl T22 (by ((simp only [List.length_cons, List.length_nil]; first | omega | (refine Nat.le_trans (Nat.add_le_add_right (Nat.le_trans (List.length_filter_le _ _) (List.length_take_le ..)) _) ?_; omega) | (refine Nat.le_trans (Nat.mul_le_mul_right _ (Nat.add_le_add_right (Nat.le_trans (List.length_filter_le _ _) (List.length_take_le ..)) _)) ?_; omega)))) ?_)
     clear E a S; rintro a w v_24 E S
     refine S_a E rfl rfl fun _ E1 => Qc (B_n (T_n (Qa (S_v E1 rfl (Qq (m := ((m + 1 : Nat) : Int)) E1 rfl rfl (by omega) (by omega)) rfl fun _ E2 => S_m E2 rfl rfl ?_))))
     clear E a E1 E2; intro a E
     refine Qc (T_n ?_)
     replace S := S.re1 (l' := (l0.take (m + 1)).filter (fun x => decide ((fun x => Qs kk1 kn1 x 0) x = x_9))) (by exact pz_yes2 (f := (fun x => Qs kk1 kn1 x 0)) (by assumption) (by assumption) (by assumption) (by assumption) (by assumption))
     exact ⟨m + 1, ⟨M_14, _, hM_14, S, E.keep ⟨rfl, rfl, rfl, rfl, rfl, rfl, rfl, rfl, rfl, trivial⟩, by (omega)⟩, by omega⟩
    ·refine Qh (B_n (T_n (Qa (S_v E rfl (Qq (m := ((m + 1 : Nat) : Int)) E rfl rfl (by omega) (by omega)) rfl fun _ E1 => S_m E1 rfl rfl ?_))))
     clear E a E1; intro a E
     refine Qc (T_n ?_)
     replace S := S.re1 (l' := (l0.take (m + 1)).filter (fun x => decide ((fun x => Qs kk1 kn1 x 0) x = x_9))) (by exact pz_no2 (f := (fun x => Qs kk1 kn1 x 0)) (by omega) (by assumption) (by assumption) (by assumption) (by assumption))
     exact ⟨m + 1, ⟨M_14, _, hM_14, S, E.keep ⟨rfl, rfl, rfl, rfl, rfl, rfl, rfl, rfl, rfl, trivial⟩, by (omega)⟩, by omega⟩
   ·refine Qt (T_x (T_x (B_x (T_n (Qa (S_m E rfl rfl fun _ E1 => S_m E1 rfl rfl ?_))))))
    clear E a E1; intro a E
    have S0 := S; clear S
    obtain ⟨M_26, hM_26, hz_27, S⟩ := S0.freezeI (by (exact Nat.le_trans (List.length_filter_le _ _) (Nat.le_trans (List.length_take_le ..) (by omega))))
    clear S0
    replace hr5 := hr5.le (QN QI) hM_26
    refine S_x (JP (R := RSl 1 Jr) (vs := [u8]) (xs := [(l0.take m).filter (fun x => decide ((fun x => Qs kk1 kn1 x 0) x = x_9))]) (QN QI) E S rfl T74 rfl rfl rfl (by intro u hu; simp only [List.mem_cons, List.not_mem_nil, or_false] at hu; rcases hu with rfl <;> first | exact RdI.one hz_27 | rfl) rfl (ZC (R := RSl 1 Jr) (RdI.row hz_27) YQ) ?_)
    clear E a S; rintro a v_25 w M_28 hM_28 hv_25 S E
    replace hv_25 : Jy M_28 v_25 [(l0.take m).filter (fun x => decide ((fun x => Qs kk1 kn1 x 0) x = x_9))] := hv_25
    replace hr5 := hr5.le (QN QI) hM_28
    refine S_x (ZU (R := (RSl 1 Jr)) (zs := Yb (fun x => Qs kk1 kn1 x 0) l0 (l0.take k)) (ys := [(l0.take m).filter (fun x => decide ((fun x => Qs kk1 kn1 x 0) x = x_9))]) E S hr5 rfl rfl rfl T74 hv_25 Vf (by ((simp only [List.length_cons, List.length_nil]; first | omega | (refine Nat.le_trans (Nat.add_le_add_right (Nat.le_trans (List.length_filter_le _ _) (List.length_take_le ..)) _) ?_; omega) | (refine Nat.le_trans (Nat.mul_le_mul_right _ (Nat.add_le_add_right (Nat.le_trans (List.length_filter_le _ _) (List.length_take_le ..)) _)) ?_; omega)))) (by ((simp only [List.length_cons, List.length_nil]; first | omega | (refine Nat.le_trans (Nat.add_le_add_right (Nat.le_trans (List.length_filter_le _ _) (List.length_take_le ..)) _) ?_; omega) | (refine Nat.le_trans (Nat.mul_le_mul_right _ (Nat.add_le_add_right (Nat.le_trans (List.length_filter_le _ _) (List.length_take_le ..)) _)) ?_; omega)))) ?_)
    clear E a S; rintro a w v_29 xs_30 E hr_31 S
    refine S_a E rfl rfl fun _ E1 => Qc (B_n (T_n (Qa (S_v E1 rfl (Qq (m := ((k + 1 : Nat) : Int)) E1 rfl rfl (by omega) (by omega)) rfl fun _ E2 => S_m E2 rfl rfl ?_))))
    clear E a E1 E2; intro a E
    refine Qc (T_n ?_)
    have hre : (Yb (fun x => Qs kk1 kn1 x 0) l0 (l0.take k)) ++ [(l0.take m).filter (fun x => decide ((fun x => Qs kk1 kn1 x 0) x = x_9))] = Yb (fun x => Qs kk1 kn1 x 0) l0 (l0.take (k + 1)) := by first | (simp [Yb, uqS]; done) | exact pp_old (f := (fun x => Qs kk1 kn1 x 0)) (by omega) (by assumption) (by assumption) | exact pp_new (f := (fun x => Qs kk1 kn1 x 0)) (by omega) (by assumption) (by assumption) (by rw [List.take_of_length_le (l := l0) (i := m) (by omega)])
    replace S := S.reR hre
    replace hr_31 := hr_31.eq hre
    clear hre
    exact ⟨k + 1, ⟨M_28, _, _, (hM_7.trans (hM_11.trans (hM_14.trans (hM_26.trans hM_28)))), S, E.keep ⟨rfl, rfl, rfl, rfl, rfl, trivial⟩, by (omega), hr_31⟩, by omega⟩
 ·refine Qt (T_x (T_x (B_x (T_n (Qb (Qa (S_m E rfl rfl fun _ E1 => S_a E1 rfl rfl ?_)))))))
  clear E a E1; intro a E
  refine Qc (T_n (Qe ?_))
  have S0 := S; clear S
  obtain ⟨M_32, hM_32, hz_33, S⟩ := S0.freezeR hr5 (QN QI) (by (omega))
  clear S0
  replace hz_33 : Jy M_32 u5 (Yb (fun x => Qs kk1 kn1 x 0) l0 (l0.take k)) := hz_33
  exact Qg E Tryz.results121 rfl ⟨_, rfl, M_32, (hM_2.trans (hM_3.trans (hM_7.trans hM_32))), (RdS.eqL hz_33 (by (rw [List.take_of_length_le (by omega)]; rfl))), S⟩
theorem Gb {M : Hp} {v0 : Value} {l0 : List Int} (h0 : RdI M v0 l0){n1 n2 : Nat} (hn : 0 < n1) (hs : 0 < n2) (hb1 : n1 ≤ 1000000) (hb2 : n2 ≤ 1000000) (hb : l0.length ≤ 1000000) :
  Pu Tryz.prog (.func (.func 123) #[] #[]) M [v0, .int .i64 ((n1 : Nat) : Int), .int .i64 ((n2 : Nat) : Int)] (fun r M' => ∃ t0, r = .tuple #[t0, .bool true] ∧ Jy M' t0 (YY n1 n2 l0)) := by
 refine Qk Tryz.func123 rfl Tryz.ntmps123 rfl Tryz.call123 ?_
 intro a w M1 H hM1 S E
 replace h0 := h0.le hM1
 have b0 := h0.bound
 refine Qb (Qa (S_a E rfl rfl fun _ E1 => S_a E1 rfl rfl fun _ E2 => Qc (T_n (Qb (Qb (Qa (S_m E2 rfl rfl fun _ E3 => S_v E3 rfl (ZV E3 rfl rfl) rfl fun _ E4 => S_m E4 rfl rfl ?_)))))))
 clear E a E1 E2 E3 E4; intro a E
 refine QK (decide (((n1 : Nat) : Int) ≤ 0)) (fun hc_1 => ?_) (fun hc_1 => ?_)
 ·replace E := E.val (t := 11) rfl hc_1
  replace E := E.val (t := 12) rfl hc_1
  replace hc_1 := of_decide_eq_true hc_1
  refine Qd E rfl rfl rfl rfl fun a E => ?_
  refine Qd E rfl rfl rfl rfl fun a E => ?_
  refine S_v E rfl (QZ E rfl rfl) rfl ?_
  clear E a; intro a E
  refine Qc (T_n ?_)
  refine ZK E rfl rfl ?_
  refine Qb (Qa (S_a E rfl rfl fun _ E1 => S_a E1 rfl rfl ?_))
  clear E a E1; intro a E
  refine Qc (T_n (Qe ?_))
  refine T_r ?_
  exact Jt E Tryz.results123 rfl rfl ⟨_, rfl, M1, (Hp.le.refl _), ⟨_, (by (exfalso; omega)), (by rw [show YY n1 n2 l0 = [] from by (exfalso; omega)]; exact RdS.nil _)⟩, S⟩
 ·replace E := E.val (t := 11) rfl hc_1
  replace E := E.val (t := 12) rfl hc_1
  replace hc_1 := of_decide_eq_false hc_1
  refine Qf E rfl rfl ?_
  refine S_m E rfl rfl ?_
  clear E a; intro a E
  refine Qf E rfl rfl ?_
  refine S_v E rfl (ZV E rfl rfl) rfl fun _ E1 => S_v E1 rfl (QQ E1 rfl rfl) rfl ?_
  clear E a E1; intro a E
  refine Qc (T_n ?_)
  refine Qn E rfl (fun hc_2 => ?_) (fun hc_2 => ?_)
  ·refine Qb (Qa (S_a E rfl rfl fun _ E1 => S_a E1 rfl rfl ?_))
   clear E a E1; intro a E
   refine Qc (T_n (Qe ?_))
   refine T_r ?_
   exact Jt E Tryz.results123 rfl rfl ⟨_, rfl, M1, (Hp.le.refl _), ⟨_, (by (exfalso; omega)), (by rw [show YY n1 n2 l0 = [] from by (exfalso; omega)]; exact RdS.nil _)⟩, S⟩
  ·refine Qh (T_n (Qb (Qa (S_a E rfl rfl fun _ E1 => Qc (T_n (Qb (Qb (Qa (S_a E1 rfl rfl ?_)))))))))
   clear E a E1; intro a E
   refine Qc (T_n (Qi ?_))
   replace S : St w M1 (JD 22 1 (.slice none 0 0) ([] : List (List Int)).length [] :: _) := S.ownNil
   have hr_4 : JH (RSl 1 Jr) 1 M1 ([] : List (List Int)) [] := JH.nil
   have hre : ([] : List (List Int)) = JA n1 (min n2 l0.length) l0 0 := by first | rfl | (rw [qM]; exact JC _ _ _ _) | exact JC _ _ _ _
   replace S := S.reR hre
   replace hr_4 := hr_4.eq hre
   clear hre
   refine Qx (γ := Nat) (fun (k : Nat) a w => ∃ (M_5 : Hp) (u8 : Value) (xs8 : List Value), Hp.le M1 M_5 ∧ St w M_5 (JD 22 1 u8 (JA n1 (min n2 l0.length) l0 k).length xs8 :: H) ∧ Env a 44 [] [(0, v0), (1, .int .i64 ((n1 : Nat) : Int)), (2, .int .i64 ((n2 : Nat) : Int)), (8, u8), (9, .int .i64 ((k * min n2 l0.length : Nat) : Int))] ∧ (IsV n1 (min n2 l0.length) l0.length k) ∧ (k ≤ l0.length) ∧ JH (RSl 1 Jr) 1 M_5 (JA n1 (min n2 l0.length) l0 k) xs8) (fun k => l0.length + 1 - k) 0 ⟨M1, _, _, Hp.le.refl _, S, E.keep ⟨rfl, rfl, rfl, rfl, QM (i := 0) rfl (by (simp)), trivial⟩, (by exact IsV_zero _ _ _), (by omega), hr_4⟩ ?_
   try clear E
   try clear S
   try clear a
   try clear w
   rintro k a w ⟨M_5, u8, xs8, hM_5, S, E, hL0_0, hL0_1, hr8⟩
   replace h0 := h0.le hM_5
   have hmp : 0 < l0.length → 0 < min n2 l0.length := fun h => by omega
   have hkk : 0 < l0.length → k ≤ k * (min n2 l0.length) := fun h => Nat.le_mul_of_pos_right k (hmp h)
   have hwl := Jn n1 (min n2 l0.length) l0 k
   refine Qb (Qb (Qa (S_m E rfl rfl fun _ E1 => S_m E1 rfl rfl fun _ E2 => S_v E2 rfl (Qp E2 rfl T22 h0.len) rfl fun _ E3 => S_v E3 rfl (QG E3 rfl rfl) rfl fun _ E4 => S_m E4 rfl rfl ?_)))
   clear E a E1 E2 E3 E4; intro a E
   refine QK (decide (((k * min n2 l0.length : Nat) : Int) < (((l0).length : Nat) : Int))) (fun hc_6 => ?_) (fun hc_6 => ?_)
   ·replace E := E.val (t := 19) rfl hc_6
    replace E := E.val (t := 20) rfl hc_6
    replace hc_6 := of_decide_eq_true hc_6
    refine Qf E rfl rfl ?_
    refine S_m E rfl rfl ?_
    clear E a; intro a E
    refine Qf E rfl rfl ?_
    refine S_m E rfl rfl ?_
    clear E a; intro a E
    refine Qf E rfl rfl ?_
    refine S_v E rfl (Qp E rfl T22 h0.len) rfl ?_
    clear E a; intro a E
    refine Qf E rfl rfl ?_
    refine S_m E rfl rfl ?_
    clear E a; intro a E
    refine Qf E rfl rfl ?_
    refine S_v E rfl (Jg (m := (((l0).length - (k * min n2 l0.length) : Nat) : Int)) E rfl rfl (by omega) (by omega)) rfl ?_
    clear E a; intro a E
    refine Qf E rfl rfl ?_
    refine S_v E rfl (ZV E rfl rfl) rfl fun _ E1 => S_v E1 rfl (QZ E1 rfl rfl) rfl ?_
    clear E a E1; intro a E
    refine Qc (T_n ?_)
    refine Qn E rfl (fun hc_7 => ?_) (fun hc_7 => ?_)
    ·refine Qh (T_n (Qb (Qi (Qa (S_m E rfl rfl fun _ E1 => S_m E1 rfl rfl fun _ E2 => S_m E2 rfl rfl fun _ E3 => S_m E3 rfl rfl fun _ E4 => S_m E4 rfl rfl fun _ E5 => S_v E5 rfl (Qq (m := ((k * min n2 l0.length + n1 : Nat) : Int)) E5 rfl rfl (by omega) (by omega)) rfl ?_)))))
     clear E a E1 E2 E3 E4 E5; intro a E
     obtain ⟨v_8, sv_8, hv_8⟩ := h0.subv (k * min n2 l0.length) (k * min n2 l0.length + n1) (by omega) (by omega)
     replace hv_8 : RdI M_5 v_8 (((l0).take (k * min n2 l0.length + n1)).drop (k * min n2 l0.length)) := hv_8
     refine S_v E rfl (Je E rfl rfl rfl T22 sv_8 (by omega) (by omega)) rfl ?_
     clear E a; intro a E
     refine S_x (JP (R := RSl 1 Jr) (vs := [v_8]) (xs := [((l0).take (k * min n2 l0.length + n1)).drop (k * min n2 l0.length)]) (QN QI) E S rfl T74 rfl rfl rfl (by intro u hu; simp only [List.mem_cons, List.not_mem_nil, or_false] at hu; rcases hu with rfl <;> first | exact RdI.one hv_8 | rfl) rfl (ZC (R := RSl 1 Jr) (RdI.row hv_8) YQ) ?_)
     clear E a S; rintro a v_9 w M_10 hM_10 hv_9 S E
     replace hv_9 : Jy M_10 v_9 [((l0).take (k * min n2 l0.length + n1)).drop (k * min n2 l0.length)] := hv_9
     replace h0 := h0.le hM_10
     replace hr8 := hr8.le (QN QI) hM_10
     refine S_x (ZU (R := (RSl 1 Jr)) (zs := JA n1 (min n2 l0.length) l0 k) (ys := [((l0).take (k * min n2 l0.length + n1)).drop (k * min n2 l0.length)]) E S hr8 rfl rfl rfl T74 hv_9 Vf (by (simp [Jn]; omega)) (by (simp [Jn]; omega)) ?_)
     clear E a S; rintro a w v_11 xs_12 E hr_13 S
     refine S_a E rfl rfl fun _ E1 => Qc (B_n (T_n (Qa (S_m E1 rfl rfl fun _ E2 => S_m E2 rfl rfl fun _ E3 => S_m E3 rfl rfl fun _ E4 => S_v E4 rfl (Qp E4 rfl T22 h0.len) rfl fun _ E5 => S_v E5 rfl (GC (m := ((min n2 ((l0).length) : Nat) : Int)) E5 rfl rfl (by omega)) rfl ?_))))
     clear E a E1 E2 E3 E4 E5; intro a E
     refine S_v E rfl (Qq (m := ((k * min n2 l0.length + min n2 ((l0).length) : Nat) : Int)) E rfl rfl (by omega) (by omega)) rfl fun _ E1 => S_a E1 rfl rfl ?_
     clear E a E1; intro a E
     refine Qc (T_n ?_)
     have hre : (JA n1 (min n2 l0.length) l0 k) ++ [((l0).take (k * min n2 l0.length + n1)).drop (k * min n2 l0.length)] = JA n1 (min n2 l0.length) l0 (k + 1) := by first | rfl | (rw [qM]; exact JC _ _ _ _) | exact JC _ _ _ _
     replace S := S.reR hre
     replace hr_13 := hr_13.eq hre
     clear hre
     exact ⟨k + 1, ⟨M_10, _, _, (hM_5.trans hM_10), S, E.keep ⟨rfl, rfl, rfl, rfl, QM (i := k * min n2 l0.length + min n2 ((l0).length)) rfl (by (rw [Nat.succ_mul])), trivial⟩, (by exact IsV_succ (by omega)), (by omega), hr_13⟩, by omega⟩
    ·refine Qt (T_x (T_x (B_x (T_n (Qb (Qa (S_m E rfl rfl fun _ E1 => S_a E1 rfl rfl fun _ E2 => S_a E2 rfl rfl ?_)))))))
     clear E a E1 E2; intro a E
     refine Qc (T_n (Qe ?_))
     have S0 := S; clear S
     obtain ⟨M_14, hM_14, hz_15, S⟩ := S0.freezeR hr8 (QN QI) (by (omega))
     clear S0
     replace hz_15 : Jy M_14 u8 (JA n1 (min n2 l0.length) l0 k) := hz_15
     exact Jt E Tryz.results123 rfl rfl ⟨_, rfl, M_14, (hM_5.trans hM_14), ⟨_, (by rfl), (RdS.eqL hz_15 (by (exact spw_end hn hs (by assumption) (by omega))))⟩, S⟩
   ·replace E := E.val (t := 19) rfl hc_6
    replace E := E.val (t := 20) rfl hc_6
    replace hc_6 := of_decide_eq_false hc_6
    refine Qd E rfl rfl rfl rfl fun a E => ?_
    refine Qd E rfl rfl rfl rfl fun a E => ?_
    refine Qd E rfl rfl rfl rfl fun a E => ?_
    refine Qd E rfl rfl rfl rfl fun a E => ?_
    refine Qd E rfl rfl rfl rfl fun a E => ?_
    refine Qd E rfl rfl rfl rfl fun a E => ?_
    refine S_v E rfl (QQ E rfl rfl) rfl ?_
    clear E a; intro a E
    refine Qc (T_n ?_)
    refine Ja E rfl rfl ?_
    refine Qt (T_x (T_x (B_x (T_n (Qb (Qa (S_m E rfl rfl fun _ E1 => S_a E1 rfl rfl fun _ E2 => S_a E2 rfl rfl ?_)))))))
    clear E a E1 E2; intro a E
    refine Qc (T_n (Qe ?_))
    have S0 := S; clear S
    obtain ⟨M_16, hM_16, hz_17, S⟩ := S0.freezeR hr8 (QN QI) (by (omega))
    clear S0
    replace hz_17 : Jy M_16 u8 (JA n1 (min n2 l0.length) l0 k) := hz_17
    exact Jt E Tryz.results123 rfl rfl ⟨_, rfl, M_16, (hM_5.trans hM_16), ⟨_, (by rfl), (RdS.eqL hz_17 (by (exact spw_end hn hs (by assumption) (by omega))))⟩, S⟩
theorem vw {M : Hp} {v0 : Value} {l0 : List Int} (h0 : RdI M v0 l0){n1 : Nat} (hn : 0 < n1) (hb1 : n1 ≤ 1000000) (hb : l0.length ≤ 1000000) :
  Pu Tryz.prog (.func (.func 122) #[] #[]) M [v0, .int .i64 ((n1 : Nat) : Int)] (fun r M' => ∃ t0, r = .tuple #[t0, .bool true] ∧ Jy M' t0 (YY n1 1 l0)) := by
 refine Qk Tryz.func122 rfl Tryz.ntmps122 rfl Tryz.call122 ?_
 intro a w M1 H hM1 S E
 replace h0 := h0.le hM1
 have b0 := h0.bound
 refine Qb (Qa (S_a E rfl rfl fun _ E1 => S_a E1 rfl rfl fun _ E2 => Qc (T_n (Qb (Qa (S_m E2 rfl rfl fun _ E3 => S_m E3 rfl rfl ?_))))))
 clear E a E1 E2 E3; intro a E
 refine S_x (Qr E S rfl rfl rfl (Gb h0 (by omega) (by (simp; done)) (by omega) (by (simp; done)) (by omega)) (Hp.le.refl _) ?_)
 clear E a S; rintro a _ w M_1 hM_1 ⟨v_2, rfl, hv_2⟩ S E
 refine S_v E rfl (Qm E rfl rfl) rfl fun _ E1 => S_v E1 rfl (Qm E1 rfl rfl) rfl fun _ E2 => S_a E2 rfl rfl fun _ E3 => S_a E3 rfl rfl ?_
 clear E a E1 E2 E3; intro a E
 refine Qc (T_n (Qe ?_))
 exact Jt E Tryz.results122 rfl rfl ⟨_, rfl, M_1, hM_1, ⟨_, (by rfl), hv_2⟩, S⟩
theorem vy {M : Hp} {v0 : Value} {l0 : List Int} (h0 : RdI M v0 l0) (hb : l0.length ≤ 1000000000000) :
  Pu Tryz.prog (.func (.func 235) #[] #[]) M [v0] (fun r M' => RdI M' r (Ji l0)) := by
 refine Qk Tryz.func235 rfl Tryz.ntmps235 rfl Tryz.call235 ?_
 intro a w M1 H hM1 S E
 replace h0 := h0.le hM1
 have b0 := h0.bound
 refine Qb (Qa (S_a E rfl rfl fun _ E1 => Qc (T_n (Qb (Qa (S_a E1 rfl rfl fun _ E2 => Qc (T_n (Qb (Qb (Qa (S_m E2 rfl rfl fun _ E3 => S_v E3 rfl (Qp E3 rfl T22 h0.len) rfl fun _ E4 => S_m E4 rfl rfl ?_)))))))))))
 clear E a E1 E2 E3 E4; intro a E
 refine Qc (T_n (Qi ?_))
 replace S := (S.ownNil (e := 3) (sz := 1)).made0
 replace S := S.re1 (l' := Ji (l0.take 0)) (by (simp [Ji]; done))
 refine Qx (γ := Nat) (fun (k : Nat) a w => ∃ (M_2 : Hp) (u3 : Value), Hp.le M1 M_2 ∧ St w M_2 (QR 3 u3 (Ji (l0.take k)) :: H) ∧ Env a 41 [] [(3, u3), (7, v0), (8, .int .i64 (((l0).length : Nat) : Int)), (9, .int .i64 ((k : Nat) : Int))] ∧ (k ≤ (l0).length)) (fun k => ((l0).length) - k) 0 ⟨M1, _, Hp.le.refl _, S, E.keep ⟨rfl, rfl, rfl, rfl, trivial⟩, by (omega)⟩ ?_
 try clear E
 try clear S
 try clear a
 try clear w
 rintro k a w ⟨M_2, u3, hM_2, S, E, hL0_0⟩
 replace h0 := h0.le hM_2
 have hsl := sortI_len (l0.take k); simp only [List.length_take] at hsl
 refine Qb (Qa (S_v E rfl (QG E rfl rfl) rfl ?_))
 clear E a; intro a E
 refine Qc (T_n (Qb ?_))
 refine Qn E rfl (fun hc_3 => ?_) (fun hc_3 => ?_)
 ·refine Qh (T_n (Qb (Qi (Qb (Qa ?_)))))
  obtain ⟨x_4, hx_4⟩ : ∃ x, (l0)[k]? = some x := ⟨_, List.getElem?_eq_getElem (by omega)⟩
  obtain ⟨p_5, hp_5, qp_5⟩ := h0.at hx_4
  refine S_v E rfl (QB E rfl rfl T22 hp_5 rfl) rfl fun _ E1 => S_v E1 rfl (Qj E1 rfl Tryz.isAgg3 S.imm qp_5) rfl fun _ E2 => S_a E2 rfl rfl fun _ E3 => Qc (T_n (Qb (Qa (S_a E3 rfl rfl ?_))))
  clear E a E1 E2 E3; intro a E
  refine Qc (T_n (Qb (Qi ?_)))
  refine Qx (γ := Nat) (fun (j : Nat) a w => ∃ (M_6 : Hp), Hp.le M_2 M_6 ∧ St w M_6 (QR 3 u3 (Ji (l0.take k)) :: H) ∧ Env a 41 [] [(3, u3), (5, .int .i64 x_4), (6, .int .i64 ((j : Nat) : Int)), (7, v0), (8, .int .i64 (((l0).length : Nat) : Int)), (9, .int .i64 ((k : Nat) : Int))] ∧ (j ≤ (Ji (l0.take k)).length) ∧ (∀ y ∈ (Ji (l0.take k)).take j, y ≤ (l0[k]?.getD 0))) (fun j => (Ji (l0.take k)).length - j) 0 ⟨M_2, Hp.le.refl _, S, E.keep ⟨rfl, rfl, rfl, rfl, rfl, rfl, trivial⟩, (by omega), (by simp)⟩ ?_
  try clear E
  try clear S
  try clear a
  try clear w
  rintro j a w ⟨M_6, hM_6, S, E, hL1_0, hL1_1⟩
  refine Qb (Qb (Qa (S_m E rfl rfl fun _ E1 => S_m E1 rfl rfl fun _ E2 => S_v E2 rfl (Qp E2 rfl T22 S.lenC) rfl fun _ E3 => S_v E3 rfl (QG E3 rfl rfl) rfl fun _ E4 => S_m E4 rfl rfl ?_)))
  clear E a E1 E2 E3 E4; intro a E
  refine QK (decide (((j : Nat) : Int) < (((Ji (l0.take k)).length : Nat) : Int))) (fun hc_7 => ?_) (fun hc_7 => ?_)
  ·replace E := E.val (t := 16) rfl hc_7
   replace E := E.val (t := 17) rfl hc_7
   replace hc_7 := of_decide_eq_true hc_7
   refine Qf E rfl rfl ?_
   refine S_m E rfl rfl ?_
   clear E a; intro a E
   refine Qf E rfl rfl ?_
   refine S_m E rfl rfl ?_
   clear E a; intro a E
   obtain ⟨p_8, hp_8⟩ := S.ptrC (k := j) (by omega)
   refine Qf E rfl rfl ?_
   refine S_v E rfl (QB E rfl rfl T22 hp_8 rfl) rfl ?_
   clear E a; intro a E
   obtain ⟨x_9, hx_9⟩ : ∃ x, (Ji (l0.take k))[j]? = some x := ⟨_, List.getElem?_eq_getElem (by omega)⟩
   refine Qf E rfl rfl ?_
   refine S_v E rfl (VK E rfl (Tryz.isAgg3 _) (S.cellI hp_8 hx_9)) rfl ?_
   clear E a; intro a E
   refine Qf E rfl rfl ?_
   refine S_m E rfl rfl ?_
   clear E a; intro a E
   refine Qf E rfl rfl ?_
   refine S_v E rfl (ZV E rfl rfl) rfl fun _ E1 => S_v E1 rfl (QZ E1 rfl rfl) rfl ?_
   clear E a E1; intro a E
   refine Qc (T_n ?_)
   refine Qn E rfl (fun hc_10 => ?_) (fun hc_10 => ?_)
   ·refine Qh (T_n (Qi (Qa (S_m E rfl rfl fun _ E1 => S_v E1 rfl (Qq (m := ((j + 1 : Nat) : Int)) E1 rfl rfl (by omega) (by omega)) rfl fun _ E2 => S_a E2 rfl rfl ?_))))
    clear E a E1 E2; intro a E
    refine Qc (B_n (T_n ?_))
    exact ⟨j + 1, ⟨M_6, hM_6, S, E.keep ⟨rfl, rfl, rfl, rfl, rfl, rfl, trivial⟩, (by omega), (by exact VP (P := fun y => y ≤ (l0[k]?.getD 0)) hL1_1 (by assumption) (by rw [show l0[k]? = some _ by assumption]; assumption))⟩, by omega⟩
   ·refine Qt (T_x (T_x (B_x (T_n ?_))))
    refine jk Tryz.mixed ?_
    refine GD 0 6 (by decide) (by kernel_rfl) ?_ ?_
    ·refine GD 4 6 (by decide) (by kernel_rfl) ?_ ?_
     ·replace S := S.mono_heap (w' := World.drew _) rfl
      refine Wk (C := fun x w => agree M_6 w) (bf := (fun i => [])) [1, 2, 3, 5, 8, 9, 10, 12] [1, 2, 3, 5, 8, 9, 10, 0, 4, 6, 7, 11, 12] (by kernel_rfl) (fun x hq => S.imm) ?_
      refine D_v E rfl rfl rfl (fun w hC => (Qu E rfl)) fun _ E1 => D_v E1 rfl rfl rfl (fun w hC => (Qu E1 rfl)) ?_
      clear E a E1; intro a E
      have S0 := S; clear S
      obtain ⟨M_11, hM_11, hz_12, S⟩ := S0.freezeI (by (omega))
      clear S0
      obtain ⟨v_13, sv_13, hv_13⟩ := hz_12.subv 0 j (by omega) (by omega)
      simp only [List.drop_zero] at hv_13
      replace hv_13 : RdI M_11 v_13 ((Ji (l0.take k)).take j) := hv_13
      refine D_v E rfl rfl rfl (fun w hC => (Jd E rfl rfl T22 sv_13 (by omega))) fun _ E1 => D_v E1 rfl rfl rfl (fun w hC => (Qu E1 rfl)) fun _ E2 => D_v E2 rfl rfl rfl (fun w hC => (Qu E2 rfl)) fun _ E3 => D_v E3 rfl rfl rfl (fun w hC => (Qu E3 rfl)) ?_
      clear E a E1 E2 E3; intro a E
      obtain ⟨v_14, sv_14, hv_14⟩ := hz_12.subv j ((Ji (l0.take k)).length) (by omega) (by omega)
      simp only [List.take_length] at hv_14
      replace hv_14 : RdI M_11 v_14 ((Ji (l0.take k)).drop j) := hv_14
      refine D_v E rfl rfl rfl (fun w hC => (Jq E rfl rfl T22 hz_12.len sv_14 (by omega))) ?_
      clear E a; intro a E
      refine D_x rfl rfl rfl (Qy (ys := []) E S rfl T22 rfl rfl rfl ?_)
      clear E a S; rintro a w v_15 E S
      refine ⟨fun x hq hb => (Qz hM_11 S.imm), ?_⟩
      refine D_x rfl rfl rfl (QJ (xs := ([] : List Int)) E S rfl rfl rfl T22 hv_13 (by (simp; omega)) ?_)
      clear E a S; rintro a w v_16 E S
      refine ⟨fun x hq hb => (Qz hM_11 S.imm), ?_⟩
      refine D_x rfl rfl rfl (Qy (ys := [x_4]) E S rfl T22 rfl rfl rfl ?_)
      clear E a S; rintro a w v_17 E S
      refine ⟨fun x hq hb => (Qz hM_11 S.imm), ?_⟩
      replace S := S.front1
      replace S := S.front1
      refine D_x rfl rfl rfl (QH (xs := [] ++ ((Ji (l0.take k)).take j)) (ys := [x_4]) E S rfl rfl rfl T22 (by (simp; omega)) ?_)
      clear E a S; rintro a w v_18 E S
      refine ⟨fun x hq hb => (Qz hM_11 S.imm), ?_⟩
      refine D_x rfl rfl rfl (QJ (xs := ([] ++ ((Ji (l0.take k)).take j)) ++ [x_4]) E S rfl rfl rfl T22 hv_14 (by (simp; omega)) ?_)
      clear E a S; rintro a w v_19 E S
      refine ⟨fun x hq hb => (Qz hM_11 S.imm), ?_⟩
      refine D_v E rfl rfl rfl (fun w hC => (Jm E rfl)) ?_
      clear E a; intro a E
      refine Ze (Zd ?_)
      refine B_n (T_n (Qa (S_v E rfl (Qq (m := ((k + 1 : Nat) : Int)) E rfl rfl (by omega) (by omega)) rfl fun _ E1 => S_m E1 rfl rfl ?_)))
      clear E a E1; intro a E
      refine Qc (T_n ?_)
      replace S := S.re1 (l' := Ji (l0.take (k + 1))) (by (rw [YE (by assumption), ← GP (j := j) (by omega) (by intro y hy; have h9 := hL1_1 y hy; rw [show l0[k]? = some _ by assumption] at h9; exact h9) (by first | (left; omega) | (right; exact ⟨_, by assumption, by assumption⟩))]; simp; done))
      exact ⟨k + 1, ⟨M_11, _, (hM_2.trans (hM_6.trans hM_11)), S, E.keep ⟨rfl, rfl, rfl, rfl, trivial⟩, by (omega)⟩, by omega⟩
     ·replace S := S.mono_heap (w' := World.drew _) rfl
      refine Wk (C := fun x w => agree M_6 w) (bf := (fun i => [])) [1, 2, 3, 5, 8, 9, 10, 12] [1, 2, 3, 5, 8, 9, 10, 0, 6, 4, 7, 11, 12] (by kernel_rfl) (fun x hq => S.imm) ?_
      refine D_v E rfl rfl rfl (fun w hC => (Qu E rfl)) fun _ E1 => D_v E1 rfl rfl rfl (fun w hC => (Qu E1 rfl)) ?_
      clear E a E1; intro a E
      have S0 := S; clear S
      obtain ⟨M_20, hM_20, hz_21, S⟩ := S0.freezeI (by (omega))
      clear S0
      obtain ⟨v_22, sv_22, hv_22⟩ := hz_21.subv 0 j (by omega) (by omega)
      simp only [List.drop_zero] at hv_22
      replace hv_22 : RdI M_20 v_22 ((Ji (l0.take k)).take j) := hv_22
      refine D_v E rfl rfl rfl (fun w hC => (Jd E rfl rfl T22 sv_22 (by omega))) fun _ E1 => D_v E1 rfl rfl rfl (fun w hC => (Qu E1 rfl)) fun _ E2 => D_v E2 rfl rfl rfl (fun w hC => (Qu E2 rfl)) fun _ E3 => D_v E3 rfl rfl rfl (fun w hC => (Qu E3 rfl)) ?_
      clear E a E1 E2 E3; intro a E
      obtain ⟨v_23, sv_23, hv_23⟩ := hz_21.subv j ((Ji (l0.take k)).length) (by omega) (by omega)
      simp only [List.take_length] at hv_23
      replace hv_23 : RdI M_20 v_23 ((Ji (l0.take k)).drop j) := hv_23
      refine D_v E rfl rfl rfl (fun w hC => (Jq E rfl rfl T22 hz_21.len sv_23 (by omega))) ?_
      clear E a; intro a E
      refine D_x rfl rfl rfl (Qy (ys := []) E S rfl T22 rfl rfl rfl ?_)
      clear E a S; rintro a w v_24 E S
      refine ⟨fun x hq hb => (Qz hM_20 S.imm), ?_⟩
      refine D_x rfl rfl rfl (Qy (ys := [x_4]) E S rfl T22 rfl rfl rfl ?_)
      clear E a S; rintro a w v_25 E S
      refine ⟨fun x hq hb => (Qz hM_20 S.imm), ?_⟩
      replace S := S.front1
      refine D_x rfl rfl rfl (QJ (xs := ([] : List Int)) E S rfl rfl rfl T22 hv_22 (by (simp; omega)) ?_)
      clear E a S; rintro a w v_26 E S
      refine ⟨fun x hq hb => (Qz hM_20 S.imm), ?_⟩
      replace S := S.front1
      refine D_x rfl rfl rfl (QH (xs := [] ++ ((Ji (l0.take k)).take j)) (ys := [x_4]) E S rfl rfl rfl T22 (by (simp; omega)) ?_)
      clear E a S; rintro a w v_27 E S
      refine ⟨fun x hq hb => (Qz hM_20 S.imm), ?_⟩
      refine D_x rfl rfl rfl (QJ (xs := ([] ++ ((Ji (l0.take k)).take j)) ++ [x_4]) E S rfl rfl rfl T22 hv_23 (by (simp; omega)) ?_)
      clear E a S; rintro a w v_28 E S
      refine ⟨fun x hq hb => (Qz hM_20 S.imm), ?_⟩
      refine D_v E rfl rfl rfl (fun w hC => (Jm E rfl)) ?_
      clear E a; intro a E
      refine Ze (Zd ?_)
      refine B_n (T_n (Qa (S_v E rfl (Qq (m := ((k + 1 : Nat) : Int)) E rfl rfl (by omega) (by omega)) rfl fun _ E1 => S_m E1 rfl rfl ?_)))
      clear E a E1; intro a E
      refine Qc (T_n ?_)
      replace S := S.re1 (l' := Ji (l0.take (k + 1))) (by (rw [YE (by assumption), ← GP (j := j) (by omega) (by intro y hy; have h9 := hL1_1 y hy; rw [show l0[k]? = some _ by assumption] at h9; exact h9) (by first | (left; omega) | (right; exact ⟨_, by assumption, by assumption⟩))]; simp; done))
      exact ⟨k + 1, ⟨M_20, _, (hM_2.trans (hM_6.trans hM_20)), S, E.keep ⟨rfl, rfl, rfl, rfl, trivial⟩, by (omega)⟩, by omega⟩
    ·replace S := S.mono_heap (w' := World.drew _) rfl
     refine Wk (C := fun x w => agree M_6 w) (bf := (fun i => [])) [1, 2, 3, 5, 8, 9, 10, 12] [1, 2, 3, 5, 8, 9, 10, 6, 0, 4, 7, 11, 12] (by kernel_rfl) (fun x hq => S.imm) ?_
     refine D_v E rfl rfl rfl (fun w hC => (Qu E rfl)) fun _ E1 => D_v E1 rfl rfl rfl (fun w hC => (Qu E1 rfl)) ?_
     clear E a E1; intro a E
     have S0 := S; clear S
     obtain ⟨M_29, hM_29, hz_30, S⟩ := S0.freezeI (by (omega))
     clear S0
     obtain ⟨v_31, sv_31, hv_31⟩ := hz_30.subv 0 j (by omega) (by omega)
     simp only [List.drop_zero] at hv_31
     replace hv_31 : RdI M_29 v_31 ((Ji (l0.take k)).take j) := hv_31
     refine D_v E rfl rfl rfl (fun w hC => (Jd E rfl rfl T22 sv_31 (by omega))) fun _ E1 => D_v E1 rfl rfl rfl (fun w hC => (Qu E1 rfl)) fun _ E2 => D_v E2 rfl rfl rfl (fun w hC => (Qu E2 rfl)) fun _ E3 => D_v E3 rfl rfl rfl (fun w hC => (Qu E3 rfl)) ?_
     clear E a E1 E2 E3; intro a E
     obtain ⟨v_32, sv_32, hv_32⟩ := hz_30.subv j ((Ji (l0.take k)).length) (by omega) (by omega)
     simp only [List.take_length] at hv_32
     replace hv_32 : RdI M_29 v_32 ((Ji (l0.take k)).drop j) := hv_32
     refine D_v E rfl rfl rfl (fun w hC => (Jq E rfl rfl T22 hz_30.len sv_32 (by omega))) ?_
     clear E a; intro a E
     refine D_x rfl rfl rfl (Qy (ys := [x_4]) E S rfl T22 rfl rfl rfl ?_)
     clear E a S; rintro a w v_33 E S
     refine ⟨fun x hq hb => (Qz hM_29 S.imm), ?_⟩
     refine D_x rfl rfl rfl (Qy (ys := []) E S rfl T22 rfl rfl rfl ?_)
     clear E a S; rintro a w v_34 E S
     refine ⟨fun x hq hb => (Qz hM_29 S.imm), ?_⟩
     refine D_x rfl rfl rfl (QJ (xs := ([] : List Int)) E S rfl rfl rfl T22 hv_31 (by (simp; omega)) ?_)
     clear E a S; rintro a w v_35 E S
     refine ⟨fun x hq hb => (Qz hM_29 S.imm), ?_⟩
     replace S := S.front1
     refine D_x rfl rfl rfl (QH (xs := [] ++ ((Ji (l0.take k)).take j)) (ys := [x_4]) E S rfl rfl rfl T22 (by (simp; omega)) ?_)
     clear E a S; rintro a w v_36 E S
     refine ⟨fun x hq hb => (Qz hM_29 S.imm), ?_⟩
     refine D_x rfl rfl rfl (QJ (xs := ([] ++ ((Ji (l0.take k)).take j)) ++ [x_4]) E S rfl rfl rfl T22 hv_32 (by (simp; omega)) ?_)
     clear E a S; rintro a w v_37 E S
     refine ⟨fun x hq hb => (Qz hM_29 S.imm), ?_⟩
     refine D_v E rfl rfl rfl (fun w hC => (Jm E rfl)) ?_
     clear E a; intro a E
     refine Ze (Zd ?_)
     refine B_n (T_n (Qa (S_v E rfl (Qq (m := ((k + 1 : Nat) : Int)) E rfl rfl (by omega) (by omega)) rfl fun _ E1 => S_m E1 rfl rfl ?_)))
     clear E a E1; intro a E
     refine Qc (T_n ?_)
     replace S := S.re1 (l' := Ji (l0.take (k + 1))) (by (rw [YE (by assumption), ← GP (j := j) (by omega) (by intro y hy; have h9 := hL1_1 y hy; rw [show l0[k]? = some _ by assumption] at h9; exact h9) (by first | (left; omega) | (right; exact ⟨_, by assumption, by assumption⟩))]; simp; done))
     exact ⟨k + 1, ⟨M_29, _, (hM_2.trans (hM_6.trans hM_29)), S, E.keep ⟨rfl, rfl, rfl, rfl, trivial⟩, by (omega)⟩, by omega⟩
  ·replace E := E.val (t := 16) rfl hc_7
   replace E := E.val (t := 17) rfl hc_7
   replace hc_7 := of_decide_eq_false hc_7
   refine Qd E rfl rfl rfl rfl fun a E => ?_
   refine Qd E rfl rfl rfl rfl fun a E => ?_
   refine Qd E rfl rfl rfl rfl fun a E => ?_
   refine Qd E rfl rfl rfl rfl fun a E => ?_
   refine Qd E rfl rfl rfl rfl fun a E => ?_
   refine Qd E rfl rfl rfl rfl fun a E => ?_
   refine S_v E rfl (QQ E rfl rfl) rfl ?_
   clear E a; intro a E
   refine Qc (T_n ?_)
   refine Ja E rfl rfl ?_
   refine Qt (T_x (T_x (B_x (T_n ?_))))
   refine jk Tryz.mixed ?_
   refine GD 0 6 (by decide) (by kernel_rfl) ?_ ?_
   ·refine GD 4 6 (by decide) (by kernel_rfl) ?_ ?_
    ·replace S := S.mono_heap (w' := World.drew _) rfl
     refine Wk (C := fun x w => agree M_6 w) (bf := (fun i => [])) [1, 2, 3, 5, 8, 9, 10, 12] [1, 2, 3, 5, 8, 9, 10, 0, 4, 6, 7, 11, 12] (by kernel_rfl) (fun x hq => S.imm) ?_
     refine D_v E rfl rfl rfl (fun w hC => (Qu E rfl)) fun _ E1 => D_v E1 rfl rfl rfl (fun w hC => (Qu E1 rfl)) ?_
     clear E a E1; intro a E
     have S0 := S; clear S
     obtain ⟨M_38, hM_38, hz_39, S⟩ := S0.freezeI (by (omega))
     clear S0
     obtain ⟨v_40, sv_40, hv_40⟩ := hz_39.subv 0 j (by omega) (by omega)
     simp only [List.drop_zero] at hv_40
     replace hv_40 : RdI M_38 v_40 ((Ji (l0.take k)).take j) := hv_40
     refine D_v E rfl rfl rfl (fun w hC => (Jd E rfl rfl T22 sv_40 (by omega))) fun _ E1 => D_v E1 rfl rfl rfl (fun w hC => (Qu E1 rfl)) fun _ E2 => D_v E2 rfl rfl rfl (fun w hC => (Qu E2 rfl)) fun _ E3 => D_v E3 rfl rfl rfl (fun w hC => (Qu E3 rfl)) ?_
     clear E a E1 E2 E3; intro a E
     obtain ⟨v_41, sv_41, hv_41⟩ := hz_39.subv j ((Ji (l0.take k)).length) (by omega) (by omega)
     simp only [List.take_length] at hv_41
     replace hv_41 : RdI M_38 v_41 ((Ji (l0.take k)).drop j) := hv_41
     refine D_v E rfl rfl rfl (fun w hC => (Jq E rfl rfl T22 hz_39.len sv_41 (by omega))) ?_
     clear E a; intro a E
     refine D_x rfl rfl rfl (Qy (ys := []) E S rfl T22 rfl rfl rfl ?_)
     clear E a S; rintro a w v_42 E S
     refine ⟨fun x hq hb => (Qz hM_38 S.imm), ?_⟩
     refine D_x rfl rfl rfl (QJ (xs := ([] : List Int)) E S rfl rfl rfl T22 hv_40 (by (simp; omega)) ?_)
     clear E a S; rintro a w v_43 E S
     refine ⟨fun x hq hb => (Qz hM_38 S.imm), ?_⟩
     refine D_x rfl rfl rfl (Qy (ys := [x_4]) E S rfl T22 rfl rfl rfl ?_)
     clear E a S; rintro a w v_44 E S
     refine ⟨fun x hq hb => (Qz hM_38 S.imm), ?_⟩
     replace S := S.front1
     replace S := S.front1
     refine D_x rfl rfl rfl (QH (xs := [] ++ ((Ji (l0.take k)).take j)) (ys := [x_4]) E S rfl rfl rfl T22 (by (simp; omega)) ?_)
     clear E a S; rintro a w v_45 E S
     refine ⟨fun x hq hb => (Qz hM_38 S.imm), ?_⟩
     refine D_x rfl rfl rfl (QJ (xs := ([] ++ ((Ji (l0.take k)).take j)) ++ [x_4]) E S rfl rfl rfl T22 hv_41 (by (simp; omega)) ?_)
     clear E a S; rintro a w v_46 E S
     refine ⟨fun x hq hb => (Qz hM_38 S.imm), ?_⟩
     refine D_v E rfl rfl rfl (fun w hC => (Jm E rfl)) ?_
     clear E a; intro a E
     refine Ze (Zd ?_)
     refine B_n (T_n (Qa (S_v E rfl (Qq (m := ((k + 1 : Nat) : Int)) E rfl rfl (by omega) (by omega)) rfl fun _ E1 => S_m E1 rfl rfl ?_)))
     clear E a E1; intro a E
     refine Qc (T_n ?_)
     replace S := S.re1 (l' := Ji (l0.take (k + 1))) (by (rw [YE (by assumption), ← GP (j := j) (by omega) (by intro y hy; have h9 := hL1_1 y hy; rw [show l0[k]? = some _ by assumption] at h9; exact h9) (by first | (left; omega) | (right; exact ⟨_, by assumption, by assumption⟩))]; simp; done))
     exact ⟨k + 1, ⟨M_38, _, (hM_2.trans (hM_6.trans hM_38)), S, E.keep ⟨rfl, rfl, rfl, rfl, trivial⟩, by (omega)⟩, by omega⟩
    ·replace S := S.mono_heap (w' := World.drew _) rfl
     refine Wk (C := fun x w => agree M_6 w) (bf := (fun i => [])) [1, 2, 3, 5, 8, 9, 10, 12] [1, 2, 3, 5, 8, 9, 10, 0, 6, 4, 7, 11, 12] (by kernel_rfl) (fun x hq => S.imm) ?_
     refine D_v E rfl rfl rfl (fun w hC => (Qu E rfl)) fun _ E1 => D_v E1 rfl rfl rfl (fun w hC => (Qu E1 rfl)) ?_
     clear E a E1; intro a E
     have S0 := S; clear S
     obtain ⟨M_47, hM_47, hz_48, S⟩ := S0.freezeI (by (omega))
     clear S0
     obtain ⟨v_49, sv_49, hv_49⟩ := hz_48.subv 0 j (by omega) (by omega)
     simp only [List.drop_zero] at hv_49
     replace hv_49 : RdI M_47 v_49 ((Ji (l0.take k)).take j) := hv_49
     refine D_v E rfl rfl rfl (fun w hC => (Jd E rfl rfl T22 sv_49 (by omega))) fun _ E1 => D_v E1 rfl rfl rfl (fun w hC => (Qu E1 rfl)) fun _ E2 => D_v E2 rfl rfl rfl (fun w hC => (Qu E2 rfl)) fun _ E3 => D_v E3 rfl rfl rfl (fun w hC => (Qu E3 rfl)) ?_
     clear E a E1 E2 E3; intro a E
     obtain ⟨v_50, sv_50, hv_50⟩ := hz_48.subv j ((Ji (l0.take k)).length) (by omega) (by omega)
     simp only [List.take_length] at hv_50
     replace hv_50 : RdI M_47 v_50 ((Ji (l0.take k)).drop j) := hv_50
     refine D_v E rfl rfl rfl (fun w hC => (Jq E rfl rfl T22 hz_48.len sv_50 (by omega))) ?_
     clear E a; intro a E
     refine D_x rfl rfl rfl (Qy (ys := []) E S rfl T22 rfl rfl rfl ?_)
     clear E a S; rintro a w v_51 E S
     refine ⟨fun x hq hb => (Qz hM_47 S.imm), ?_⟩
     refine D_x rfl rfl rfl (Qy (ys := [x_4]) E S rfl T22 rfl rfl rfl ?_)
     clear E a S; rintro a w v_52 E S
     refine ⟨fun x hq hb => (Qz hM_47 S.imm), ?_⟩
     replace S := S.front1
     refine D_x rfl rfl rfl (QJ (xs := ([] : List Int)) E S rfl rfl rfl T22 hv_49 (by (simp; omega)) ?_)
     clear E a S; rintro a w v_53 E S
     refine ⟨fun x hq hb => (Qz hM_47 S.imm), ?_⟩
     replace S := S.front1
     refine D_x rfl rfl rfl (QH (xs := [] ++ ((Ji (l0.take k)).take j)) (ys := [x_4]) E S rfl rfl rfl T22 (by (simp; omega)) ?_)
     clear E a S; rintro a w v_54 E S
     refine ⟨fun x hq hb => (Qz hM_47 S.imm), ?_⟩
     refine D_x rfl rfl rfl (QJ (xs := ([] ++ ((Ji (l0.take k)).take j)) ++ [x_4]) E S rfl rfl rfl T22 hv_50 (by (simp; omega)) ?_)
     clear E a S; rintro a w v_55 E S
     refine ⟨fun x hq hb => (Qz hM_47 S.imm), ?_⟩
     refine D_v E rfl rfl rfl (fun w hC => (Jm E rfl)) ?_
     clear E a; intro a E
     refine Ze (Zd ?_)
     refine B_n (T_n (Qa (S_v E rfl (Qq (m := ((k + 1 : Nat) : Int)) E rfl rfl (by omega) (by omega)) rfl fun _ E1 => S_m E1 rfl rfl ?_)))
     clear E a E1; intro a E
     refine Qc (T_n ?_)
     replace S := S.re1 (l' := Ji (l0.take (k + 1))) (by (rw [YE (by assumption), ← GP (j := j) (by omega) (by intro y hy; have h9 := hL1_1 y hy; rw [show l0[k]? = some _ by assumption] at h9; exact h9) (by first | (left; omega) | (right; exact ⟨_, by assumption, by assumption⟩))]; simp; done))
     exact ⟨k + 1, ⟨M_47, _, (hM_2.trans (hM_6.trans hM_47)), S, E.keep ⟨rfl, rfl, rfl, rfl, trivial⟩, by (omega)⟩, by omega⟩
   ·replace S := S.mono_heap (w' := World.drew _) rfl
    refine Wk (C := fun x w => agree M_6 w) (bf := (fun i => [])) [1, 2, 3, 5, 8, 9, 10, 12] [1, 2, 3, 5, 8, 9, 10, 6, 0, 4, 7, 11, 12] (by kernel_rfl) (fun x hq => S.imm) ?_
    refine D_v E rfl rfl rfl (fun w hC => (Qu E rfl)) fun _ E1 => D_v E1 rfl rfl rfl (fun w hC => (Qu E1 rfl)) ?_
    clear E a E1; intro a E
    have S0 := S; clear S
    obtain ⟨M_56, hM_56, hz_57, S⟩ := S0.freezeI (by (omega))
    clear S0
    obtain ⟨v_58, sv_58, hv_58⟩ := hz_57.subv 0 j (by omega) (by omega)
    simp only [List.drop_zero] at hv_58
    replace hv_58 : RdI M_56 v_58 ((Ji (l0.take k)).take j) := hv_58
    refine D_v E rfl rfl rfl (fun w hC => (Jd E rfl rfl T22 sv_58 (by omega))) fun _ E1 => D_v E1 rfl rfl rfl (fun w hC => (Qu E1 rfl)) fun _ E2 => D_v E2 rfl rfl rfl (fun w hC => (Qu E2 rfl)) fun _ E3 => D_v E3 rfl rfl rfl (fun w hC => (Qu E3 rfl)) ?_
    clear E a E1 E2 E3; intro a E
    obtain ⟨v_59, sv_59, hv_59⟩ := hz_57.subv j ((Ji (l0.take k)).length) (by omega) (by omega)
    simp only [List.take_length] at hv_59
    replace hv_59 : RdI M_56 v_59 ((Ji (l0.take k)).drop j) := hv_59
    refine D_v E rfl rfl rfl (fun w hC => (Jq E rfl rfl T22 hz_57.len sv_59 (by omega))) ?_
    clear E a; intro a E
    refine D_x rfl rfl rfl (Qy (ys := [x_4]) E S rfl T22 rfl rfl rfl ?_)
    clear E a S; rintro a w v_60 E S
    refine ⟨fun x hq hb => (Qz hM_56 S.imm), ?_⟩
    refine D_x rfl rfl rfl (Qy (ys := []) E S rfl T22 rfl rfl rfl ?_)
    clear E a S; rintro a w v_61 E S
    refine ⟨fun x hq hb => (Qz hM_56 S.imm), ?_⟩
    refine D_x rfl rfl rfl (QJ (xs := ([] : List Int)) E S rfl rfl rfl T22 hv_58 (by (simp; omega)) ?_)
    clear E a S; rintro a w v_62 E S
    refine ⟨fun x hq hb => (Qz hM_56 S.imm), ?_⟩
    replace S := S.front1
    refine D_x rfl rfl rfl (QH (xs := [] ++ ((Ji (l0.take k)).take j)) (ys := [x_4]) E S rfl rfl rfl T22 (by (simp; omega)) ?_)
    clear E a S; rintro a w v_63 E S
    refine ⟨fun x hq hb => (Qz hM_56 S.imm), ?_⟩
    refine D_x rfl rfl rfl (QJ (xs := ([] ++ ((Ji (l0.take k)).take j)) ++ [x_4]) E S rfl rfl rfl T22 hv_59 (by (simp; omega)) ?_)
    clear E a S; rintro a w v_64 E S
    refine ⟨fun x hq hb => (Qz hM_56 S.imm), ?_⟩
    refine D_v E rfl rfl rfl (fun w hC => (Jm E rfl)) ?_
    clear E a; intro a E
    refine Ze (Zd ?_)
    refine B_n (T_n (Qa (S_v E rfl (Qq (m := ((k + 1 : Nat) : Int)) E rfl rfl (by omega) (by omega)) rfl fun _ E1 => S_m E1 rfl rfl ?_)))
    clear E a E1; intro a E
    refine Qc (T_n ?_)
    replace S := S.re1 (l' := Ji (l0.take (k + 1))) (by (rw [YE (by assumption), ← GP (j := j) (by omega) (by intro y hy; have h9 := hL1_1 y hy; rw [show l0[k]? = some _ by assumption] at h9; exact h9) (by first | (left; omega) | (right; exact ⟨_, by assumption, by assumption⟩))]; simp; done))
    exact ⟨k + 1, ⟨M_56, _, (hM_2.trans (hM_6.trans hM_56)), S, E.keep ⟨rfl, rfl, rfl, rfl, trivial⟩, by (omega)⟩, by omega⟩
 ·refine Qt (T_x (T_x (B_x (T_n (Qb (Qa (S_m E rfl rfl fun _ E1 => S_a E1 rfl rfl ?_)))))))
  clear E a E1; intro a E
  refine Qc (T_n (Qe ?_))
  have S0 := S; clear S
  obtain ⟨M_65, hM_65, hz_66, S⟩ := S0.freezeI (by (omega))
  clear S0
  exact Qg E Tryz.results235 rfl ⟨_, rfl, M_65, (hM_2.trans hM_65), (RdS.eqL hz_66 (by (rw [List.take_of_length_le (by omega)]))), S⟩
theorem qf {M : Hp} {v0 : Value} {l0 : List Int} (h0 : RdI M v0 l0) (hr0 : (∀ x ∈ l0, -9223372036854775808 ≤ x ∧ x ≤ 9223372036854775807)) (hb : l0.length ≤ 1000000000000) :
  Pu Tryz.prog (.func (.func 124) #[] #[]) M [v0] (fun r M' => RdI M' r (QW l0)) := by
 refine Qk Tryz.func124 rfl Tryz.ntmps124 rfl Tryz.call124 ?_
 intro a w M1 H hM1 S E
 replace h0 := h0.le hM1
 have b0 := h0.bound
 have hkl := Ue l0
 refine Qb (Qa (S_a E rfl rfl fun _ E1 => Qc (T_n (Qb (Qa (S_m E1 rfl rfl ?_))))))
 clear E a E1; intro a E
 refine S_x (Qr E S rfl rfl rfl (Wr h0 (by assumption) (by omega)) (Hp.le.refl _) ?_)
 clear E a S; rintro a v_2 w M_1 hM_1 hv_2 S E
 refine S_x (Qr E S rfl rfl rfl (vy hv_2 (by (omega))) (Hp.le.refl _) ?_)
 clear E a S; rintro a v_4 w M_3 hM_3 hv_4 S E
 refine S_a E rfl rfl ?_
 clear E a; intro a E
 refine Qc (T_n (Qe ?_))
 exact Qg E Tryz.results124 rfl ⟨_, rfl, M_3, (hM_1.trans hM_3), (RdS.eqL hv_4 (by (exact (sortI_key _).symm))), S⟩
theorem ze {M : Hp} {v0 : Value} {l0 : List (List Int)} (h0 : Jy M v0 l0) (hn : 0 < l0.length) (hb : ∀ x ∈ l0, x.length ≤ 1000000000) (hrr : ∀ x ∈ l0, ∀ y ∈ x, -9223372036854775808 ≤ y ∧ y ≤ 9223372036854775807) :
  Pu Tryz.prog (.func (.func 127) #[] #[]) M [v0] (fun r M' => RdI M' r ((QW ((l0).getD 0 [])).filter (allIn l0))) := by
 refine Qk Tryz.func127 rfl Tryz.ntmps127 rfl Tryz.call127 ?_
 intro a w M1 H hM1 S E
 replace h0 := h0.le hM1
 have b0 := h0.bound
 have hsl0 := fun x : List Int => (Yn x).2.2
 refine Qb (Qa (S_a E rfl rfl fun _ E1 => Qc (T_n (Qb (Qb (Qa (S_m E1 rfl rfl fun _ E2 => S_v E2 rfl (Qp E2 rfl T74 h0.len) rfl fun _ E3 => S_v E3 rfl (Qv E3 rfl rfl) rfl ?_)))))))
 clear E a E1 E2 E3; intro a E
 refine Qc (T_n ?_)
 have hc_1 : (decide ((((l0).length : Nat) : Int) = 0)) = false := by (apply decide_eq_false; omega)
 refine Ja E rfl hc_1 ?_
 refine Qh (T_n (Qb (Qa (S_a E rfl rfl fun _ E1 => Qc (T_n (Qb (Qb (Qa (S_m E1 rfl rfl ?_)))))))))
 clear E a E1; intro a E
 obtain ⟨x_2, hx_2⟩ : ∃ x, (l0)[0]? = some x := ⟨_, List.getElem?_eq_getElem (by omega)⟩
 obtain ⟨p_3, u_4, hp_3, qp_3, hu_4⟩ := h0.at hx_2
 have bu_4 := hu_4.bound
 refine S_v E rfl (QB E rfl rfl T74 hp_3 (by omega)) rfl fun _ E1 => S_v E1 rfl (Qj E1 rfl Tryz.isAgg22 S.imm qp_3) rfl ?_
 clear E a E1; intro a E
 refine S_x (Qr E S rfl rfl rfl (qf hu_4 (by exact hrr _ (List.mem_of_getElem? (by assumption))) (by (have h9 := hb _ (List.mem_of_getElem? (by assumption)); omega))) (Hp.le.refl _) ?_)
 clear E a S; rintro a v_6 w M_5 hM_5 hv_6 S E
 replace h0 := h0.le hM_5
 refine S_v E rfl (Qp E rfl T22 hv_6.len) rfl fun _ E1 => S_m E1 rfl rfl ?_
 clear E a E1; intro a E
 refine Qc (T_n (Qi ?_))
 replace S := (S.ownNil (e := 3) (sz := 1)).made0
 replace S := S.re1 (l' := ((QW x_2).take 0).filter (allIn l0)) (by (simp; done))
 refine Qx (γ := Nat) (fun (k : Nat) a w => ∃ (M_8 : Hp) (u3 : Value), Hp.le M_5 M_8 ∧ St w M_8 (QR 3 u3 (((QW x_2).take k).filter (allIn l0)) :: H) ∧ Env a 41 [] [(0, v0), (3, u3), (15, v_6), (16, .int .i64 (((QW x_2).length : Nat) : Int)), (17, .int .i64 ((k : Nat) : Int))] ∧ (k ≤ (QW x_2).length)) (fun k => ((QW x_2).length) - k) 0 ⟨M_5, _, Hp.le.refl _, S, E.keep ⟨rfl, rfl, rfl, rfl, rfl, trivial⟩, by (omega)⟩ ?_
 try clear E
 try clear S
 try clear a
 try clear w
 rintro k a w ⟨M_8, u3, hM_8, S, E, hL0_0⟩
 replace h0 := h0.le hM_8
 replace hv_6 := hv_6.le hM_8
 have hfl := List.length_filter_le (allIn l0) ((QW x_2).take k); rw [List.length_take] at hfl
 have hsl := hsl0 x_2
 have hb9 := hb x_2 (List.mem_of_getElem? hx_2)
 refine Qb (Qa (S_v E rfl (QG E rfl rfl) rfl ?_))
 clear E a; intro a E
 refine Qc (T_n (Qb ?_))
 refine Qn E rfl (fun hc_9 => ?_) (fun hc_9 => ?_)
 ·refine Qh (T_n (Qb (Qi (Qb (Qa ?_)))))
  obtain ⟨x_10, hx_10⟩ : ∃ x, (QW x_2)[k]? = some x := ⟨_, List.getElem?_eq_getElem (by omega)⟩
  obtain ⟨p_11, hp_11, qp_11⟩ := hv_6.at hx_10
  refine S_v E rfl (QB E rfl rfl T22 hp_11 rfl) rfl fun _ E1 => S_v E1 rfl (Qj E1 rfl Tryz.isAgg3 S.imm qp_11) rfl fun _ E2 => S_a E2 rfl rfl fun _ E3 => Qc (T_n (Qb (Qa (S_a E3 rfl rfl fun _ E4 => Qc (T_n (Qb (Qb (Qa (S_m E4 rfl rfl fun _ E5 => S_v E5 rfl (Qp E5 rfl T74 h0.len) rfl ?_)))))))))
  clear E a E1 E2 E3 E4 E5; intro a E
  refine S_m E rfl rfl ?_
  clear E a; intro a E
  refine Qc (T_n (Qi ?_))
  refine Qx (γ := Nat) (fun (j : Nat) a w => ∃ (M_12 : Hp), Hp.le M_8 M_12 ∧ St w M_12 (QR 3 u3 (((QW x_2).take k).filter (allIn l0)) :: H) ∧ Env a 41 [] [(0, v0), (3, u3), (5, .int .i64 x_10), (6, .bool (allIn (l0.take j) x_10)), (15, v_6), (16, .int .i64 (((QW x_2).length : Nat) : Int)), (17, .int .i64 ((k : Nat) : Int)), (21, v0), (22, .int .i64 (((l0).length : Nat) : Int)), (23, .int .i64 ((j : Nat) : Int))] ∧ (j ≤ (l0).length)) (fun j => ((l0).length) - j) 0 ⟨M_8, Hp.le.refl _, S, E.keep ⟨rfl, rfl, rfl, ZE (i := true) rfl (by rfl), rfl, rfl, rfl, rfl, rfl, rfl, trivial⟩, by (omega)⟩ ?_
  try clear E
  try clear S
  try clear a
  try clear w
  rintro j a w ⟨M_12, hM_12, S, E, hL1_0⟩
  replace h0 := h0.le hM_12
  refine Qb (Qa (S_v E rfl (QG E rfl rfl) rfl ?_))
  clear E a; intro a E
  refine Qc (T_n (Qb ?_))
  refine Qn E rfl (fun hc_13 => ?_) (fun hc_13 => ?_)
  ·refine Qh (T_n (Qb (Qi (Qb (Qa ?_)))))
   obtain ⟨x_14, hx_14⟩ : ∃ x, (l0)[j]? = some x := ⟨_, List.getElem?_eq_getElem (by omega)⟩
   obtain ⟨p_15, u_16, hp_15, qp_15, hu_16⟩ := h0.at hx_14
   have bu_16 := hu_16.bound
   refine S_v E rfl (QB E rfl rfl T74 hp_15 rfl) rfl fun _ E1 => S_v E1 rfl (Qj E1 rfl Tryz.isAgg22 S.imm qp_15) rfl fun _ E2 => S_a E2 rfl rfl fun _ E3 => Qc (T_n (Qa (S_m E3 rfl rfl fun _ E4 => S_m E4 rfl rfl ?_)))
   clear E a E1 E2 E3 E4; intro a E
   refine QK (allIn (l0.take j) x_10) (fun hc_17 => ?_) (fun hc_17 => ?_)
   ·replace E := E.val (t := 6) rfl hc_17
    replace E := E.val (t := 27) rfl hc_17
    replace E := E.val (t := 28) rfl hc_17
    refine Qf E rfl rfl ?_
    refine S_m E rfl rfl ?_
    clear E a; intro a E
    refine Qf E rfl rfl ?_
    refine S_m E rfl rfl ?_
    clear E a; intro a E
    refine Qf E rfl rfl ?_
    refine S_x (Qr E S rfl rfl rfl (YM hu_16) (Hp.le.refl _) ?_)
    clear E a S; rintro a _ w M_18 hM_18 rfl S E
    refine S_v E rfl (QZ E rfl rfl) rfl fun _ E1 => S_a E1 rfl rfl fun _ E2 => Qc (B_n (T_n (Qa (S_v E2 rfl (Qq (m := ((j + 1 : Nat) : Int)) E2 rfl rfl (by omega) (by omega)) rfl fun _ E3 => S_m E3 rfl rfl ?_))))
    clear E a E1 E2 E3; intro a E
    refine Qc (T_n ?_)
    exact ⟨j + 1, ⟨M_18, (hM_12.trans hM_18), S, E.keep ⟨rfl, rfl, rfl, ZE (i := decide (x_10 ∈ x_14)) rfl (by (exact alli_t (by assumption) (by assumption))), rfl, rfl, rfl, rfl, rfl, rfl, trivial⟩, by (omega)⟩, by omega⟩
   ·replace E := E.val (t := 6) rfl hc_17
    replace E := E.val (t := 27) rfl hc_17
    replace E := E.val (t := 28) rfl hc_17
    refine Qd E rfl rfl rfl rfl fun a E => ?_
    refine Qd E rfl rfl rfl rfl fun a E => ?_
    refine Qd E rfl rfl rfl rfl fun a E => ?_
    refine S_v E rfl (QQ E rfl rfl) rfl fun _ E1 => S_a E1 rfl rfl fun _ E2 => Qc (B_n (T_n (Qa (S_v E2 rfl (Qq (m := ((j + 1 : Nat) : Int)) E2 rfl rfl (by omega) (by omega)) rfl fun _ E3 => S_m E3 rfl rfl ?_))))
    clear E a E1 E2 E3; intro a E
    refine Qc (T_n ?_)
    exact ⟨j + 1, ⟨M_12, hM_12, S, E.keep ⟨rfl, rfl, rfl, ZE (i := false) rfl (by (exact alli_f (by assumption) (by assumption))), rfl, rfl, rfl, rfl, rfl, rfl, trivial⟩, by (omega)⟩, by omega⟩
  ·refine Qt (T_x (T_x (B_x (T_n (Qb (Qa (S_m E rfl rfl ?_)))))))
   clear E a; intro a E
   refine Qc (T_n ?_)
   refine QL E rfl (fun hc_19 => ?_) (fun hc_19 => ?_)
   ·refine Qa ?_
    refine S_m E rfl rfl fun _ E1 => S_m E1 rfl rfl ?_
    clear E a E1; intro a E
    refine S_x (Qy (ys := [x_10]) E S rfl T22 rfl rfl rfl ?_)
    clear E a S; rintro a w v_20 E S
    replace S := S.front1
    replace S := S.front1
    refine S_x (QH (xs := ((QW x_2).take k).filter (allIn l0)) (ys := [x_10]) E S rfl rfl rfl T22 (by (simp; omega)) ?_)
    clear E a S; rintro a w v_21 E S
    refine S_a E rfl rfl fun _ E1 => Qc (B_n (T_n (Qa (S_v E1 rfl (Qq (m := ((k + 1 : Nat) : Int)) E1 rfl rfl (by omega) (by omega)) rfl fun _ E2 => S_m E2 rfl rfl ?_))))
    clear E a E1 E2; intro a E
    refine Qc (T_n ?_)
    replace S := S.re1 (l' := ((QW x_2).take (k + 1)).filter (allIn l0)) (by exact flt_yA (by assumption) (by assumption) (by omega))
    exact ⟨k + 1, ⟨M_12, _, (hM_8.trans hM_12), S, E.keep ⟨rfl, rfl, rfl, rfl, rfl, trivial⟩, by (omega)⟩, by omega⟩
   ·refine Qh ?_
    refine B_n (T_n (Qa (S_v E rfl (Qq (m := ((k + 1 : Nat) : Int)) E rfl rfl (by omega) (by omega)) rfl fun _ E1 => S_m E1 rfl rfl ?_)))
    clear E a E1; intro a E
    refine Qc (T_n ?_)
    replace S := S.re1 (l' := ((QW x_2).take (k + 1)).filter (allIn l0)) (by exact flt_nA (by assumption) (by assumption) (by omega))
    exact ⟨k + 1, ⟨M_12, _, (hM_8.trans hM_12), S, E.keep ⟨rfl, rfl, rfl, rfl, rfl, trivial⟩, by (omega)⟩, by omega⟩
 ·refine Qt (T_x (T_x (B_x (T_n (Qb (Qa (S_m E rfl rfl fun _ E1 => S_a E1 rfl rfl ?_)))))))
  clear E a E1; intro a E
  refine Qc (T_n (Qe ?_))
  have S0 := S; clear S
  obtain ⟨M_22, hM_22, hz_23, S⟩ := S0.freezeI (by (omega))
  clear S0
  exact Qg E Tryz.results127 rfl ⟨_, rfl, M_22, (hM_5.trans (hM_8.trans hM_22)), (RdS.eqL hz_23 (by (exact int_res hx_2 (by omega)))), S⟩
theorem laws_in {M : Hp} {v0 : Value} {l0 : List Int} (h0 : RdI M v0 l0){x1 : Int} :
  Pu Tryz.prog (.func (.func 215) #[] #[]) M [v0, .int .i64 x1] (fun r M' => r = .bool (decide (x1 ∈ l0))) := by
 refine Qk Tryz.func215 rfl Tryz.ntmps215 rfl Tryz.call215 ?_
 intro a w M1 H hM1 S E
 replace h0 := h0.le hM1
 have b0 := h0.bound
 refine Qb (Qa (S_a E rfl rfl fun _ E1 => Qc (T_n (Qb (Qb (Qa (S_m E1 rfl rfl fun _ E2 => S_v E2 rfl (Qp E2 rfl T22 h0.len) rfl fun _ E3 => S_m E3 rfl rfl ?_)))))))
 clear E a E1 E2 E3; intro a E
 refine Qc (T_n (Qi ?_))
 refine Qx (γ := Nat) (fun (k : Nat) a w => ∃ (M_1 : Hp), Hp.le M1 M_1 ∧ St w M_1 (H) ∧ Env a 17 [] [(1, .int .i64 x1), (7, v0), (8, .int .i64 (((l0).length : Nat) : Int)), (9, .int .i64 ((k : Nat) : Int))] ∧ (k ≤ (l0).length) ∧ (x1 ∉ l0.take k)) (fun k => ((l0).length) - k) 0 ⟨M1, Hp.le.refl _, S, E.keep ⟨rfl, rfl, rfl, rfl, trivial⟩, by (omega), by ((try clear S); (try clear E); (simp; done))⟩ ?_
 try clear E
 try clear S
 try clear a
 try clear w
 rintro k a w ⟨M_1, hM_1, S, E, hL0_0, hL0_1⟩
 replace h0 := h0.le hM_1
 refine Qb (Qa (S_v E rfl (QG E rfl rfl) rfl ?_))
 clear E a; intro a E
 refine Qc (T_n (Qb ?_))
 refine Qn E rfl (fun hc_2 => ?_) (fun hc_2 => ?_)
 ·refine Qh (T_n (Qb (Qi (Qb (Qa ?_)))))
  obtain ⟨x_3, hx_3⟩ : ∃ x, (l0)[k]? = some x := ⟨_, List.getElem?_eq_getElem (by omega)⟩
  obtain ⟨p_4, hp_4, qp_4⟩ := h0.at hx_3
  refine S_v E rfl (QB E rfl rfl T22 hp_4 rfl) rfl fun _ E1 => S_v E1 rfl (Qj E1 rfl Tryz.isAgg3 S.imm qp_4) rfl fun _ E2 => S_a E2 rfl rfl fun _ E3 => Qc (T_n (Qb (Qa (S_m E3 rfl rfl fun _ E4 => S_m E4 rfl rfl fun _ E5 => S_v E5 rfl (Qv E5 rfl rfl) rfl ?_))))
  clear E a E1 E2 E3 E4 E5; intro a E
  refine Qc (T_n ?_)
  refine Qn E rfl (fun hc_5 => ?_) (fun hc_5 => ?_)
  ·refine Qb (Qa (S_a E rfl rfl ?_))
   clear E a; intro a E
   refine Qc (T_n (Qe (B_r ?_)))
   refine T_r ?_
   refine T_r ?_
   refine B_r ?_
   refine T_r ?_
   exact Qg E Tryz.results215 rfl ⟨_, rfl, M_1, hM_1, (bT (by (refine List.mem_of_getElem? (i := k) ?_; simp_all))), S⟩
  ·refine Qh (B_n (T_n (Qa (S_v E rfl (Qq (m := ((k + 1 : Nat) : Int)) E rfl rfl (by omega) (by omega)) rfl fun _ E1 => S_m E1 rfl rfl ?_))))
   clear E a E1; intro a E
   refine Qc (T_n ?_)
   exact ⟨k + 1, ⟨M_1, hM_1, S, E.keep ⟨rfl, rfl, rfl, rfl, trivial⟩, by (omega), by ((try clear S); (try clear E); (simp [List.take_add_one, *]; done))⟩, by omega⟩
 ·refine Qt (T_x (T_x (B_x (T_n (Qb (Qa (S_a E rfl rfl ?_)))))))
  clear E a; intro a E
  refine Qc (T_n (Qe ?_))
  exact Qg E Tryz.results215 rfl ⟨_, rfl, M_1, hM_1, (bF (by (rw [List.take_of_length_le (by omega)] at hL0_1; exact hL0_1))), S⟩
theorem qk {M : Hp} {v0 : Value} {l0 : List Int} (h0 : RdI M v0 l0) (hb : l0.length ≤ 1000000000000) :
  Pu Tryz.prog (.func (.func 126) #[] #[]) M [v0] (fun r M' => RdI M' r (QW l0)) := by
 refine Qk Tryz.func126 rfl Tryz.ntmps126 rfl Tryz.call126 ?_
 intro a w M1 H hM1 S E
 replace h0 := h0.le hM1
 have b0 := h0.bound
 refine Qb (Qa (S_a E rfl rfl fun _ E1 => Qc (T_n (Qb (Qa (S_a E1 rfl rfl fun _ E2 => Qc (T_n (Qb (Qb (Qa (S_m E2 rfl rfl fun _ E3 => S_v E3 rfl (Qp E3 rfl T22 h0.len) rfl fun _ E4 => S_m E4 rfl rfl ?_)))))))))))
 clear E a E1 E2 E3 E4; intro a E
 refine Qc (T_n (Qi ?_))
 replace S := (S.ownNil (e := 3) (sz := 1)).made0
 replace S := S.re1 (l' := QW (l0.take 0)) (by (simp [QW]; done))
 refine Qx (γ := Nat) (fun (k : Nat) a w => ∃ (M_2 : Hp) (u3 : Value), Hp.le M1 M_2 ∧ St w M_2 (QR 3 u3 (QW (l0.take k)) :: H) ∧ Env a 57 [] [(3, u3), (7, v0), (8, .int .i64 (((l0).length : Nat) : Int)), (9, .int .i64 ((k : Nat) : Int))] ∧ (k ≤ (l0).length)) (fun k => ((l0).length) - k) 0 ⟨M1, _, Hp.le.refl _, S, E.keep ⟨rfl, rfl, rfl, rfl, trivial⟩, by (omega)⟩ ?_
 try clear E
 try clear S
 try clear a
 try clear w
 rintro k a w ⟨M_2, u3, hM_2, S, E, hL0_0⟩
 replace h0 := h0.le hM_2
 have hsu := Yn (l0.take k); have hsl := hsu.2.2; simp only [List.length_take] at hsl
 refine Qb (Qa (S_v E rfl (QG E rfl rfl) rfl ?_))
 clear E a; intro a E
 refine Qc (T_n (Qb ?_))
 refine Qn E rfl (fun hc_3 => ?_) (fun hc_3 => ?_)
 ·refine Qh (T_n (Qb (Qi (Qb (Qa ?_)))))
  obtain ⟨x_4, hx_4⟩ : ∃ x, (l0)[k]? = some x := ⟨_, List.getElem?_eq_getElem (by omega)⟩
  obtain ⟨p_5, hp_5, qp_5⟩ := h0.at hx_4
  refine S_v E rfl (QB E rfl rfl T22 hp_5 rfl) rfl fun _ E1 => S_v E1 rfl (Qj E1 rfl Tryz.isAgg3 S.imm qp_5) rfl fun _ E2 => S_a E2 rfl rfl fun _ E3 => Qc (T_n (Qb (Qb (Qa (S_m E3 rfl rfl fun _ E4 => S_m E4 rfl rfl ?_)))))
  clear E a E1 E2 E3 E4; intro a E
  obtain ⟨ML_6, hl_7, hv_8, S1, back⟩ := S.lendI (by omega)
  refine S_x (Qr E S1 rfl rfl rfl (laws_in hv_8) (Hp.le.refl _) ?_)
  clear E a S; rintro a _ w M_9 hM_10 rfl S E
  replace S := back _ _ hM_10 S
  clear back S1
  refine Qc (T_n ?_)
  refine Qn E rfl (fun hc_11 => ?_) (fun hc_11 => ?_)
  ·refine Qt (T_x (B_x (T_n (Qa (S_v E rfl (Qq (m := ((k + 1 : Nat) : Int)) E rfl rfl (by omega) (by omega)) rfl fun _ E1 => S_m E1 rfl rfl ?_)))))
   clear E a E1; intro a E
   refine Qc (T_n ?_)
   replace S := S.re1 (l' := QW (l0.take (k + 1))) (by (rw [WN (by assumption), GQ (by rw [show l0[k]? = some _ by assumption]; assumption)]; done))
   exact ⟨k + 1, ⟨M_2, _, hM_2, S, E.keep ⟨rfl, rfl, rfl, rfl, trivial⟩, by (omega)⟩, by omega⟩
  ·refine Qh (T_n (Qb (Qa (S_m E rfl rfl fun _ E1 => S_m E1 rfl rfl ?_))))
   clear E a E1; intro a E
   refine S_x (Qy (ys := [x_4]) E S rfl T22 rfl rfl rfl ?_)
   clear E a S; rintro a w v_12 E S
   replace S := S.front1
   replace S := S.front1
   refine S_x (QH (xs := QW (l0.take k)) (ys := [x_4]) E S rfl rfl rfl T22 (by (simp; omega)) ?_)
   clear E a S; rintro a w v_13 E S
   refine S_a E rfl rfl fun _ E1 => Qc (T_n (Qb (Qa (S_m E1 rfl rfl fun _ E2 => S_v E2 rfl (Qp E2 rfl T22 S.lenC) rfl fun _ E3 => S_v E3 rfl (Jg (m := ((((QW (l0.take k)) ++ [x_4]).length - 1 : Nat) : Int)) E3 rfl rfl (by (simp; done)) (by (simp; omega))) rfl fun _ E4 => S_a E4 rfl rfl ?_))))
   clear E a E1 E2 E3 E4; intro a E
   refine Qc (T_n (Qi ?_))
   replace S := S.re1 (l' := (QW (l0.take k)).take ((QW (l0.take k)).length - 0) ++ [(l0[k]?.getD 0)] ++ (QW (l0.take k)).drop ((QW (l0.take k)).length - 0)) (by (rw [show l0[k]? = some _ by assumption]; simp; done))
   refine Qx (γ := Nat) (fun (j : Nat) a w => ∃ (M_14 : Hp), Hp.le M_2 M_14 ∧ St w M_14 (QR 3 v_13 ((QW (l0.take k)).take ((QW (l0.take k)).length - j) ++ [(l0[k]?.getD 0)] ++ (QW (l0.take k)).drop ((QW (l0.take k)).length - j)) :: H) ∧ Env a 57 [] [(3, v_13), (6, .int .i64 (((QW (l0.take k)).length - j : Nat) : Int)), (7, v0), (8, .int .i64 (((l0).length : Nat) : Int)), (9, .int .i64 ((k : Nat) : Int))] ∧ (j ≤ (QW (l0.take k)).length) ∧ (∀ y ∈ (QW (l0.take k)).drop ((QW (l0.take k)).length - j), (l0[k]?.getD 0) < y)) (fun j => (QW (l0.take k)).length - j) 0 ⟨M_2, Hp.le.refl _, S, E.keep ⟨rfl, QM (i := ((QW (l0.take k)) ++ [x_4]).length - 1) rfl (by ((simp; done))), rfl, rfl, rfl, trivial⟩, (by omega), (by simp)⟩ ?_
   try clear E
   try clear S
   try clear a
   try clear w
   rintro j a w ⟨M_14, hM_14, S, E, hL1_0, hL1_1⟩
   refine Qb (Qb ?_)
   replace S := S.mono_heap (w' := World.drew _) rfl
   obtain ⟨p_15, hp_15⟩ := S.ptrC (k := (QW (l0.take k)).length - j) (by (simp; done))
   obtain ⟨x_16, hx_16⟩ : ∃ x, ((QW (l0.take k)).take ((QW (l0.take k)).length - j) ++ [(l0[k]?.getD 0)] ++ (QW (l0.take k)).drop ((QW (l0.take k)).length - j))[(QW (l0.take k)).length - j]? = some x := ⟨_, List.getElem?_eq_getElem (by (simp; done))⟩
   obtain ⟨p_17, hp_17⟩ := S.ptrC (k := (QW (l0.take k)).length - j - 1) (by (simp; omega))
   obtain ⟨x_18, hx_18⟩ : ∃ x, ((QW (l0.take k)).take ((QW (l0.take k)).length - j) ++ [(l0[k]?.getD 0)] ++ (QW (l0.take k)).drop ((QW (l0.take k)).length - j))[(QW (l0.take k)).length - j - 1]? = some x := ⟨_, List.getElem?_eq_getElem (by (simp; omega))⟩
   refine Jx (C := fun x w => agree M_14 w ∧ (x = 6 → w.cell? p_15 = some (.int .i64 x_16)) ∧ (x = 11 → w.cell? p_17 = some (.int .i64 x_18))) (bf := (fun i => [])) [0, 1, 2, 3, 4, 5, 6, 7, 8, 9, 10, 11, 12, 13] [0, 1, 2, 3, 4, 5, 6, 7, 8, 9, 10, 11, 12, 13] Tryz.mixed (by kernel_rfl) (fun x hq => ⟨S.imm, fun _ => S.cellI hp_15 hx_16, fun _ => S.cellI hp_17 hx_18⟩) ?_
   refine D_v E rfl rfl rfl (fun w hC => (Qu E rfl)) fun _ E1 => D_v E1 rfl rfl rfl (fun w hC => (JT E1 rfl rfl)) fun _ E2 => D_v E2 rfl rfl rfl (fun w hC => (Qu E2 rfl)) ?_
   clear E a E1 E2; intro a E
   refine QK (decide (0 < (((QW (l0.take k)).length - j : Nat) : Int))) (fun hc_19 => ?_) (fun hc_19 => ?_)
   ·replace E := E.val (t := 24) rfl hc_19
    replace E := E.val (t := 25) rfl hc_19
    replace hc_19 := of_decide_eq_true hc_19
    refine Zt E rfl rfl rfl rfl rfl (fun w hC => (Qu E rfl)) ?_
    clear E a; intro a E
    refine Zt E rfl rfl rfl rfl rfl (fun w hC => (Qu E rfl)) ?_
    clear E a; intro a E
    refine Zt E rfl rfl rfl rfl rfl (fun w hC => (QB E rfl rfl T22 hp_15 rfl)) ?_
    clear E a; intro a E
    refine Zt E rfl rfl rfl rfl rfl (fun w hC => (VK E rfl (Tryz.isAgg3 _) (hC.2.1 rfl))) ?_
    clear E a; intro a E
    refine Zt E rfl rfl rfl rfl rfl (fun w hC => (Qu E rfl)) ?_
    clear E a; intro a E
    refine Zt E rfl rfl rfl rfl rfl (fun w hC => (Qu E rfl)) ?_
    clear E a; intro a E
    refine Zt E rfl rfl rfl rfl rfl (fun w hC => (Jg (m := (((QW (l0.take k)).length - j - 1 : Nat) : Int)) E rfl rfl (by omega) (by omega))) ?_
    clear E a; intro a E
    refine Zt E rfl rfl rfl rfl rfl (fun w hC => (QB E rfl rfl T22 hp_17 rfl)) ?_
    clear E a; intro a E
    refine Zt E rfl rfl rfl rfl rfl (fun w hC => (VK E rfl (Tryz.isAgg3 _) (hC.2.2 rfl))) ?_
    clear E a; intro a E
    refine Zt E rfl rfl rfl rfl rfl (fun w hC => (QG E rfl rfl)) ?_
    clear E a; intro a E
    refine D_v E rfl rfl rfl (fun w hC => (QZ E rfl rfl)) ?_
    clear E a; intro a E
    refine Ze (Zd ?_)
    refine T_n ?_
    refine Qn E rfl (fun hc_20 => ?_) (fun hc_20 => ?_)
    ·refine Qh (T_n (Qb (Qi ?_)))
     replace S := S.mono_heap (w' := World.drew _) rfl
     refine Jx (C := fun x w => agree M_14 w ∧ (x = 9 → w.cell? p_17 = some (.int .i64 x_18)) ∧ (x = 13 → w.cell? p_15 = some (.int .i64 x_16))) (bf := (fun i => bif Nat.beq i 15 then [9, 13] else bif Nat.beq i 17 then [9, 13] else [])) [0, 1, 2, 3, 4, 5, 6, 7, 8, 9, 10, 11, 12, 13, 14, 16] [0, 1, 2, 3, 4, 5, 6, 7, 8, 9, 10, 11, 12, 13, 14, 15, 16, 17] Tryz.mixed (by kernel_rfl) (fun x hq => ⟨S.imm, fun _ => S.cellI hp_17 hx_18, fun _ => S.cellI hp_15 hx_16⟩) ?_
     refine D_v E rfl rfl rfl (fun w hC => (Qu E rfl)) fun _ E1 => D_v E1 rfl rfl rfl (fun w hC => (Qu E1 rfl)) fun _ E2 => D_v E2 rfl rfl rfl (fun w hC => (Qu E2 rfl)) fun _ E3 => D_v E3 rfl rfl rfl (fun w hC => (Qu E3 rfl)) fun _ E4 => D_v E4 rfl rfl rfl (fun w hC => (Jg (m := (((QW (l0.take k)).length - j - 1 : Nat) : Int)) E4 rfl rfl (by omega) (by omega))) fun _ E5 => D_v E5 rfl rfl rfl (fun w hC => (Qu E5 rfl)) ?_
     clear E a E1 E2 E3 E4 E5; intro a E
     refine D_v E rfl rfl rfl (fun w hC => (Qu E rfl)) fun _ E1 => D_v E1 rfl rfl rfl (fun w hC => (Jg (m := (((QW (l0.take k)).length - j - 1 : Nat) : Int)) E1 rfl rfl (by omega) (by omega))) fun _ E2 => D_v E2 rfl rfl rfl (fun w hC => (QB E2 rfl rfl T22 hp_17 rfl)) fun _ E3 => D_v E3 rfl rfl rfl (fun w hC => (VK E3 rfl (Tryz.isAgg3 _) (hC.2.1 rfl))) fun _ E4 => D_v E4 rfl rfl rfl (fun w hC => (Qu E4 rfl)) fun _ E5 => D_v E5 rfl rfl rfl (fun w hC => (Qu E5 rfl)) ?_
     clear E a E1 E2 E3 E4 E5; intro a E
     refine D_v E rfl rfl rfl (fun w hC => (QB E rfl rfl T22 hp_15 rfl)) fun _ E1 => D_v E1 rfl rfl rfl (fun w hC => (VK E1 rfl (Tryz.isAgg3 _) (hC.2.2 rfl))) fun _ E2 => D_v E2 rfl rfl rfl (fun w hC => (QB E2 rfl rfl T22 hp_15 rfl)) ?_
     clear E a E1 E2; intro a E
     refine D_x rfl rfl rfl (Vs E S rfl rfl (Tryz.sizeOf3 _) hp_15 ?_)
     clear E a S; rintro a w E S
     refine ⟨fun x hq hb => ⟨(Qz (Hp.le.refl _) S.imm), (fun e => by subst e; exact absurd hb (by decide)), (fun e => by subst e; exact absurd hb (by decide))⟩, ?_⟩
     refine D_v E rfl rfl rfl (fun w hC => (QB E rfl rfl T22 hp_17 rfl)) ?_
     clear E a; intro a E
     refine D_x rfl rfl rfl (Vs E S rfl rfl (Tryz.sizeOf3 _) hp_17 ?_)
     clear E a S; rintro a w E S
     refine ⟨fun x hq hb => ⟨(Qz (Hp.le.refl _) S.imm), (fun e => by subst e; exact absurd hb (by decide)), (fun e => by subst e; exact absurd hb (by decide))⟩, ?_⟩
     refine Ze (Zd ?_)
     refine B_n (T_n (Qa (S_m E rfl rfl fun _ E1 => S_v E1 rfl (Jg (m := (((QW (l0.take k)).length - j - 1 : Nat) : Int)) E1 rfl rfl (by omega) (by omega)) rfl fun _ E2 => S_a E2 rfl rfl ?_)))
     clear E a E1 E2; intro a E
     refine Qc (T_n ?_)
     replace S := S.re1 (l' := (QW (l0.take k)).take ((QW (l0.take k)).length - (j + 1)) ++ [(l0[k]?.getD 0)] ++ (QW (l0.take k)).drop ((QW (l0.take k)).length - (j + 1))) (by (have e1 := vh (s := QW (l0.take k)) (x := (l0[k]?.getD 0)) (i := (QW (l0.take k)).length - j) (by omega) (by assumption); have e2 := Gz (s := QW (l0.take k)) (x := (l0[k]?.getD 0)) (i := (QW (l0.take k)).length - j) (by omega) (by omega) (by assumption); rw [show (QW (l0.take k)).length - (j + 1) = (QW (l0.take k)).length - j - 1 by omega, bubble_step (by omega) (by omega) e2, e1]))
     exact ⟨j + 1, ⟨M_14, hM_14, S, E.keep ⟨rfl, QM (i := (QW (l0.take k)).length - j - 1) rfl (by (omega)), rfl, rfl, rfl, trivial⟩, (by omega), (by rw [show (QW (l0.take k)).length - (j + 1) = (QW (l0.take k)).length - j - 1 by omega]; exact drop_bub hL1_1 (by omega) (by omega) (Gz (s := QW (l0.take k)) (x := (l0[k]?.getD 0)) (i := (QW (l0.take k)).length - j) (by omega) (by omega) (by assumption)) (by rw [← vh (s := QW (l0.take k)) (x := (l0[k]?.getD 0)) (i := (QW (l0.take k)).length - j) (by omega) (by assumption)]; assumption))⟩, by omega⟩
    ·refine Qt (T_x (T_x (B_x (B_n (T_n (Qa (S_v E rfl (Qq (m := ((k + 1 : Nat) : Int)) E rfl rfl (by omega) (by omega)) rfl fun _ E1 => S_m E1 rfl rfl ?_)))))))
     clear E a E1; intro a E
     refine Qc (T_n ?_)
     replace S := S.re1 (l' := QW (l0.take (k + 1))) (by (rw [WN (by assumption)]; exact zk hsu.1 (by rw [show l0[k]? = some _ by assumption]; assumption) hL1_1 (by omega) (by first | (left; omega) | (right; exact ⟨_, Gz (s := QW (l0.take k)) (x := (l0[k]?.getD 0)) (i := (QW (l0.take k)).length - j) (by omega) (by omega) (by assumption), by rw [← vh (s := QW (l0.take k)) (x := (l0[k]?.getD 0)) (i := (QW (l0.take k)).length - j) (by omega) (by assumption)]; assumption⟩))))
     exact ⟨k + 1, ⟨M_14, _, (hM_2.trans hM_14), S, E.keep ⟨rfl, rfl, rfl, rfl, trivial⟩, by (omega)⟩, by omega⟩
   ·replace E := E.val (t := 24) rfl hc_19
    replace E := E.val (t := 25) rfl hc_19
    replace hc_19 := of_decide_eq_false hc_19
    refine Vu E rfl rfl rfl rfl rfl fun a E => ?_
    refine Vu E rfl rfl rfl rfl rfl fun a E => ?_
    refine Vu E rfl rfl rfl rfl rfl fun a E => ?_
    refine Vu E rfl rfl rfl rfl rfl fun a E => ?_
    refine Vu E rfl rfl rfl rfl rfl fun a E => ?_
    refine Vu E rfl rfl rfl rfl rfl fun a E => ?_
    refine Vu E rfl rfl rfl rfl rfl fun a E => ?_
    refine Vu E rfl rfl rfl rfl rfl fun a E => ?_
    refine Vu E rfl rfl rfl rfl rfl fun a E => ?_
    refine Vu E rfl rfl rfl rfl rfl fun a E => ?_
    refine D_v E rfl rfl rfl (fun w hC => (QQ E rfl rfl)) ?_
    clear E a; intro a E
    refine Ze (Zd ?_)
    refine T_n ?_
    refine Ja E rfl rfl ?_
    refine Qt (T_x (T_x (B_x (B_n (T_n (Qa (S_v E rfl (Qq (m := ((k + 1 : Nat) : Int)) E rfl rfl (by omega) (by omega)) rfl fun _ E1 => S_m E1 rfl rfl ?_)))))))
    clear E a E1; intro a E
    refine Qc (T_n ?_)
    replace S := S.re1 (l' := QW (l0.take (k + 1))) (by (rw [WN (by assumption)]; exact zk hsu.1 (by rw [show l0[k]? = some _ by assumption]; assumption) hL1_1 (by omega) (by first | (left; omega) | (right; exact ⟨_, Gz (s := QW (l0.take k)) (x := (l0[k]?.getD 0)) (i := (QW (l0.take k)).length - j) (by omega) (by omega) (by assumption), by rw [← vh (s := QW (l0.take k)) (x := (l0[k]?.getD 0)) (i := (QW (l0.take k)).length - j) (by omega) (by assumption)]; assumption⟩))))
    exact ⟨k + 1, ⟨M_14, _, (hM_2.trans hM_14), S, E.keep ⟨rfl, rfl, rfl, rfl, trivial⟩, by (omega)⟩, by omega⟩
 ·refine Qt (T_x (T_x (B_x (T_n (Qb (Qa (S_m E rfl rfl fun _ E1 => S_a E1 rfl rfl ?_)))))))
  clear E a E1; intro a E
  refine Qc (T_n (Qe ?_))
  have S0 := S; clear S
  obtain ⟨M_21, hM_21, hz_22, S⟩ := S0.freezeI (by (omega))
  clear S0
  exact Qg E Tryz.results126 rfl ⟨_, rfl, M_21, (hM_2.trans hM_21), (RdS.eqL hz_22 (by (rw [List.take_of_length_le (by omega)]))), S⟩
theorem yp {M : Hp} {v0 v1 : Value} {l0 l1 : List Int} (h0 : RdI M v0 l0) (h1 : RdI M v1 l1){x2 : Int} (g2 : -17592186044416 ≤ x2 ∧ x2 ≤ 17592186044416) :
  Pu Tryz.prog (.func (.func 237) #[] #[]) M [v0, v1, .int .i64 x2] (fun r M' => r = .bool (decide (0 ≤ x2 ∧ x2 + (l1.length : Int) ≤ (l0.length : Int) ∧ (l0.drop (x2).toNat).take l1.length = l1))) := by
 refine Qk Tryz.func237 rfl Tryz.ntmps237 rfl Tryz.call237 ?_
 intro a w M1 H hM1 S E
 replace h0 := h0.le hM1
 replace h1 := h1.le hM1
 have b0 := h0.bound
 have b1 := h1.bound
 refine Qb (Qa (S_a E rfl rfl fun _ E1 => Qc (T_n (Qb (Qa (S_m E1 rfl rfl fun _ E2 => S_v E2 rfl (YV E2 rfl rfl) rfl fun _ E3 => S_m E3 rfl rfl ?_))))))
 clear E a E1 E2 E3; intro a E
 refine QK (decide (0 ≤ x2)) (fun hc_1 => ?_) (fun hc_1 => ?_)
 ·replace E := E.val (t := 8) rfl hc_1
  replace E := E.val (t := 9) rfl hc_1
  replace hc_1 := of_decide_eq_true hc_1
  refine Qf E rfl rfl ?_
  refine S_m E rfl rfl ?_
  clear E a; intro a E
  refine Qf E rfl rfl ?_
  refine S_m E rfl rfl ?_
  clear E a; intro a E
  refine Qf E rfl rfl ?_
  refine S_v E rfl (Qp E rfl T22 h1.len) rfl ?_
  clear E a; intro a E
  refine Qf E rfl rfl ?_
  refine S_v E rfl (Qq (m := x2 + (((l1).length : Nat) : Int)) E rfl rfl (by omega) (by omega)) rfl ?_
  clear E a; intro a E
  refine Qf E rfl rfl ?_
  refine S_m E rfl rfl ?_
  clear E a; intro a E
  refine Qf E rfl rfl ?_
  refine S_v E rfl (Qp E rfl T22 h0.len) rfl ?_
  clear E a; intro a E
  refine Qf E rfl rfl ?_
  refine S_v E rfl (ZV E rfl rfl) rfl fun _ E1 => S_v E1 rfl (QZ E1 rfl rfl) rfl fun _ E2 => S_m E2 rfl rfl ?_
  clear E a E1 E2; intro a E
  refine QK (decide (x2 + (((l1).length : Nat) : Int) ≤ (((l0).length : Nat) : Int))) (fun hc_2 => ?_) (fun hc_2 => ?_)
  ·replace E := E.val (t := 16) rfl hc_2
   replace E := E.val (t := 17) rfl hc_2
   replace E := E.val (t := 18) rfl hc_2
   replace hc_2 := of_decide_eq_true hc_2
   refine Qf E rfl rfl ?_
   refine S_m E rfl rfl ?_
   clear E a; intro a E
   refine Qf E rfl rfl ?_
   refine S_m E rfl rfl ?_
   clear E a; intro a E
   refine Qf E rfl rfl ?_
   refine S_m E rfl rfl ?_
   clear E a; intro a E
   refine Qf E rfl rfl ?_
   refine S_m E rfl rfl ?_
   clear E a; intro a E
   refine Qf E rfl rfl ?_
   refine S_v E rfl (Qp E rfl T22 h1.len) rfl ?_
   clear E a; intro a E
   refine Qf E rfl rfl ?_
   refine S_v E rfl (Qq (m := x2 + (((l1).length : Nat) : Int)) E rfl rfl (by omega) (by omega)) rfl ?_
   clear E a; intro a E
   obtain ⟨v_3, sv_3, hv_3⟩ := h0.subv ((x2).toNat) ((x2 + (((l1).length : Nat) : Int)).toNat) (by omega) (by omega)
   replace hv_3 : RdI M1 v_3 (((l0).take ((x2 + (((l1).length : Nat) : Int)).toNat)).drop ((x2).toNat)) := hv_3
   refine Qf E rfl rfl ?_
   refine S_v E rfl (Je E rfl rfl rfl T22 sv_3 (by omega) (by omega)) rfl ?_
   clear E a; intro a E
   refine Qf E rfl rfl ?_
   refine S_m E rfl rfl ?_
   clear E a; intro a E
   refine Qf E rfl rfl ?_
   refine S_x (Qr E S rfl rfl rfl (zf hv_3 h1) (Hp.le.refl _) ?_)
   clear E a S; rintro a _ w M_4 hM_4 rfl S E
   refine S_v E rfl (QZ E rfl rfl) rfl fun _ E1 => S_a E1 rfl rfl ?_
   clear E a E1; intro a E
   refine Qc (T_n (Qe ?_))
   exact Qg E Tryz.results237 rfl ⟨_, rfl, M_4, hM_4, (congrArg Value.bool (by clear E S; first | (simp; omega) | (rw [show (x2 + ↑l1.length).toNat = x2.toNat + l1.length by omega, List.drop_take, Nat.add_sub_cancel_left]; exact decide_eq_decide.2 ⟨fun h => ⟨by omega, by omega, h⟩, fun h => h.2.2⟩))), S⟩
  ·replace E := E.val (t := 16) rfl hc_2
   replace E := E.val (t := 17) rfl hc_2
   replace E := E.val (t := 18) rfl hc_2
   replace hc_2 := of_decide_eq_false hc_2
   refine Qd E rfl rfl rfl rfl fun a E => ?_
   refine Qd E rfl rfl rfl rfl fun a E => ?_
   refine Qd E rfl rfl rfl rfl fun a E => ?_
   refine Qd E rfl rfl rfl rfl fun a E => ?_
   refine Qd E rfl rfl rfl rfl fun a E => ?_
   refine Qd E rfl rfl rfl rfl fun a E => ?_
   refine Qd E rfl rfl rfl rfl fun a E => ?_
   refine Qd E rfl rfl rfl rfl fun a E => ?_
   refine Qd E rfl rfl rfl rfl fun a E => ?_
   refine S_v E rfl (QQ E rfl rfl) rfl fun _ E1 => S_a E1 rfl rfl ?_
   clear E a E1; intro a E
   refine Qc (T_n (Qe ?_))
   exact Qg E Tryz.results237 rfl ⟨_, rfl, M1, (Hp.le.refl _), (bF (by clear E S; first | (simp; omega) | (rw [show (x2 + ↑l1.length).toNat = x2.toNat + l1.length by omega, List.drop_take, Nat.add_sub_cancel_left]; exact decide_eq_decide.2 ⟨fun h => ⟨by omega, by omega, h⟩, fun h => h.2.2⟩))), S⟩
 ·replace E := E.val (t := 8) rfl hc_1
  replace E := E.val (t := 9) rfl hc_1
  replace hc_1 := of_decide_eq_false hc_1
  refine Qd E rfl rfl rfl rfl fun a E => ?_
  refine Qd E rfl rfl rfl rfl fun a E => ?_
  refine Qd E rfl rfl rfl rfl fun a E => ?_
  refine Qd E rfl rfl rfl rfl fun a E => ?_
  refine Qd E rfl rfl rfl rfl fun a E => ?_
  refine Qd E rfl rfl rfl rfl fun a E => ?_
  refine Qd E rfl rfl rfl rfl fun a E => ?_
  refine S_v E rfl (QQ E rfl rfl) rfl fun _ E1 => S_m E1 rfl rfl ?_
  clear E a E1; intro a E
  refine Qd E rfl rfl rfl rfl fun a E => ?_
  refine Qd E rfl rfl rfl rfl fun a E => ?_
  refine Qd E rfl rfl rfl rfl fun a E => ?_
  refine Qd E rfl rfl rfl rfl fun a E => ?_
  refine Qd E rfl rfl rfl rfl fun a E => ?_
  refine Qd E rfl rfl rfl rfl fun a E => ?_
  refine Qd E rfl rfl rfl rfl fun a E => ?_
  refine Qd E rfl rfl rfl rfl fun a E => ?_
  refine Qd E rfl rfl rfl rfl fun a E => ?_
  refine S_v E rfl (QQ E rfl rfl) rfl fun _ E1 => S_a E1 rfl rfl ?_
  clear E a E1; intro a E
  refine Qc (T_n (Qe ?_))
  exact Qg E Tryz.results237 rfl ⟨_, rfl, M1, (Hp.le.refl _), (bF (by clear E S; first | (simp; omega) | (rw [show (x2 + ↑l1.length).toNat = x2.toNat + l1.length by omega, List.drop_take, Nat.add_sub_cancel_left]; exact decide_eq_decide.2 ⟨fun h => ⟨by omega, by omega, h⟩, fun h => h.2.2⟩))), S⟩
theorem spec_Cut {M : Hp} {v0 v1 : Value} {l0 l1 : List Int} (h0 : RdI M v0 l0) (h1 : RdI M v1 l1)(hb : l0.length ≤ 1000000000000) :
  Pu Tryz.prog (.func (.func 129) #[] #[]) M [v0, v1] (fun r M' => ∃ t0 t1, r = .tuple #[t0, t1, .bool ((Yd l0 l1).2.2)] ∧ RdI M' t0 ((Yd l0 l1).1) ∧ RdI M' t1 ((Yd l0 l1).2.1)) := by
 refine Qk Tryz.func129 rfl Tryz.ntmps129 rfl Tryz.call129 ?_
 intro a w M1 H hM1 S E
 replace h0 := h0.le hM1
 replace h1 := h1.le hM1
 have b0 := h0.bound
 have b1 := h1.bound
 refine Qb (Qa (S_a E rfl rfl fun _ E1 => S_a E1 rfl rfl fun _ E2 => S_a E2 rfl rfl fun _ E3 => Qc (T_n (Qb (Qb (Qa (S_a E3 rfl rfl ?_)))))))
 clear E a E1 E2 E3; intro a E
 refine Qc (T_n (Qi ?_))
 refine Qx (γ := Nat) (fun (k : Nat) a w => ∃ (M_1 : Hp), Hp.le M1 M_1 ∧ St w M_1 (H) ∧ Env a 31 [] [(0, v0), (1, v1), (7, .int .i64 ((k : Nat) : Int))] ∧ (k ≤ l0.length + 1) ∧ (∀ j, j < k → ¬ (l0.drop j).take l1.length = l1)) (fun k => l0.length + 1 - k) 0 ⟨M1, Hp.le.refl _, S, E.keep ⟨rfl, rfl, rfl, trivial⟩, by ((try clear S); (try clear E); first | assumption | omega | rfl | (simp; done) | (simp_all; done) | (simp [List.take_add_one, *]; done) | grind [List.take_add_one]), by ((try clear S); (try clear E); first | assumption | omega | rfl | (simp; done) | (simp_all; done) | (simp [List.take_add_one, *]; done) | grind [List.take_add_one])⟩ ?_
 try clear E
 try clear S
 try clear a
 try clear w
 rintro k a w ⟨M_1, hM_1, S, E, hL0_0, hL0_1⟩
 replace h0 := h0.le hM_1
 replace h1 := h1.le hM_1
 refine Qb (Qb (Qa (S_m E rfl rfl fun _ E1 => S_m E1 rfl rfl fun _ E2 => S_v E2 rfl (Qp E2 rfl T22 h1.len) rfl fun _ E3 => S_v E3 rfl (Qq (m := ((k + (l1).length : Nat) : Int)) E3 rfl rfl (by omega) (by omega)) rfl fun _ E4 => S_m E4 rfl rfl fun _ E5 => S_v E5 rfl (Qp E5 rfl T22 h0.len) rfl ?_)))
 clear E a E1 E2 E3 E4 E5; intro a E
 refine S_v E rfl (ZV E rfl rfl) rfl ?_
 clear E a; intro a E
 refine Qc (T_n ?_)
 refine Qn E rfl (fun hc_2 => ?_) (fun hc_2 => ?_)
 ·refine Qh (T_n (Qb (Qi (Qb (Qa (S_m E rfl rfl fun _ E1 => S_m E1 rfl rfl fun _ E2 => S_m E2 rfl rfl ?_))))))
  clear E a E1 E2; intro a E
  refine S_x (Qr E S rfl rfl rfl (yp h0 h1 (by omega)) (Hp.le.refl _) ?_)
  clear E a S; rintro a _ w M_3 hM_3 rfl S E
  replace h0 := h0.le hM_3
  replace h1 := h1.le hM_3
  refine Qc (T_n ?_)
  refine Qn E rfl (fun hc_4 => ?_) (fun hc_4 => ?_)
  ·refine Qb ?_
   replace S := S.mono_heap (w' := World.drew _) rfl
   refine Jx (C := fun x w => agree M_3 w) (bf := (fun i => [])) [0, 1, 2, 3, 4, 5, 6, 7, 8, 9, 10, 11] [0, 1, 2, 3, 4, 5, 6, 7, 8, 9, 10, 11] Tryz.mixed (by kernel_rfl) (fun x hq => S.imm) ?_
   refine D_v E rfl rfl rfl (fun w hC => (Qu E rfl)) fun _ E1 => D_v E1 rfl rfl rfl (fun w hC => (Qu E1 rfl)) ?_
   clear E a E1; intro a E
   obtain ⟨v_5, sv_5, hv_5⟩ := h0.subv 0 k (by first | omega | (simp; done) | (simp; omega) | (simp_all; omega)) (by first | omega | (simp; done) | (simp; omega) | (simp_all; omega))
   simp only [List.drop_zero] at hv_5
   replace hv_5 : RdI M_3 v_5 ((l0).take k) := hv_5
   refine D_v E rfl rfl rfl (fun w hC => (Jd E rfl rfl T22 sv_5 (by omega))) fun _ E1 => D_v E1 rfl rfl rfl (fun w hC => (Qu E1 rfl)) fun _ E2 => D_v E2 rfl rfl rfl (fun w hC => (Qu E2 rfl)) fun _ E3 => D_v E3 rfl rfl rfl (fun w hC => (Qu E3 rfl)) fun _ E4 => D_v E4 rfl rfl rfl (fun w hC => (Qp E4 rfl T22 h1.len)) fun _ E5 => D_v E5 rfl rfl rfl (fun w hC => (Qq (m := ((k + (l1).length : Nat) : Int)) E5 rfl rfl (by omega) (by omega))) ?_
   clear E a E1 E2 E3 E4 E5; intro a E
   obtain ⟨v_6, sv_6, hv_6⟩ := h0.subv (k + (l1).length) ((l0).length) (by first | omega | (simp; done) | (simp; omega) | (simp_all; omega)) (by first | omega | (simp; done) | (simp; omega) | (simp_all; omega))
   simp only [List.take_length] at hv_6
   replace hv_6 : RdI M_3 v_6 ((l0).drop (k + (l1).length)) := hv_6
   refine D_v E rfl rfl rfl (fun w hC => (Jq E rfl rfl T22 h0.len sv_6 (by omega))) fun _ E1 => D_v E1 rfl rfl rfl (fun w hC => (Jm E1 rfl)) fun _ E2 => D_v E2 rfl rfl rfl (fun w hC => (Jm E2 rfl)) fun _ E3 => D_v E3 rfl rfl rfl (fun w hC => (Jm E3 rfl)) ?_
   clear E a E1 E2 E3; intro a E
   refine Ze (Zd ?_)
   refine T_n (Qe (B_r ?_))
   refine T_r ?_
   refine T_r ?_
   refine B_r ?_
   refine T_r ?_
   exact GZ E Tryz.results129 rfl rfl rfl ⟨_, rfl, M_3, (hM_1.trans hM_3), ⟨_, _, (by rw [ZS (k := k) (by omega) (by simp_all) hL0_1]), (RdS.eqL hv_5 (by rw [ZS (k := k) (by omega) (by simp_all) hL0_1])), (RdS.eqL hv_6 (by rw [ZS (k := k) (by omega) (by simp_all) hL0_1]))⟩, S⟩
  ·refine Qh (B_n (T_n (Qa (S_m E rfl rfl fun _ E1 => S_v E1 rfl (Qq (m := ((k + 1 : Nat) : Int)) E1 rfl rfl (by omega) (by omega)) rfl fun _ E2 => S_a E2 rfl rfl ?_))))
   clear E a E1 E2; intro a E
   refine Qc (T_n ?_)
   exact ⟨k + 1, ⟨M_3, (hM_1.trans hM_3), S, E.keep ⟨rfl, rfl, rfl, trivial⟩, by ((try clear S); (try clear E); first | assumption | omega | rfl | (simp; done) | (simp_all; done) | (simp [List.take_add_one, *]; done) | grind [List.take_add_one]), by ((try clear S); (try clear E); first | assumption | omega | rfl | (simp; done) | (simp_all; done) | (simp [List.take_add_one, *]; done) | grind [List.take_add_one])⟩, by omega⟩
 ·refine Qt (T_x (T_x (B_x (T_n (Qb (Qa (S_m E rfl rfl fun _ E1 => S_a E1 rfl rfl fun _ E2 => S_a E2 rfl rfl fun _ E3 => S_a E3 rfl rfl ?_)))))))
  clear E a E1 E2 E3; intro a E
  refine Qc (T_n (Qe ?_))
  exact GZ E Tryz.results129 rfl rfl rfl ⟨_, rfl, M_1, hM_1, ⟨_, _, (by rw [Vk (k := k) (by omega) hL0_1]), (by rw [show ((Yd l0 l1).1) = l0 from by rw [Vk (k := k) (by omega) hL0_1]]; exact h0), (by rw [show (Yd l0 l1).2.1 = [] from by rw [Vk (k := k) (by omega) hL0_1]]; exact RdS.nil _)⟩, S⟩
theorem jW {M : Hp} {v0 v1 : Value} {l0 l1 : List Int} (h0 : RdI M v0 l0) (h1 : RdI M v1 l1)(hb : l0.length + l1.length ≤ 1000000000000) :
  Pu Tryz.prog (.func (.func 236) #[] #[]) M [v0, v1] (fun r M' => RdI M' r (l0 ++ l1)) := by
 refine Qk Tryz.func236 rfl Tryz.ntmps236 rfl Tryz.call236 ?_
 intro a w M1 H hM1 S E
 replace h0 := h0.le hM1
 replace h1 := h1.le hM1
 have b0 := h0.bound
 have b1 := h1.bound
 refine Qb (Qa (S_a E rfl rfl ?_))
 clear E a; intro a E
 refine Qc (T_n (Qb (Qa ?_)))
 refine S_x (Qy (ys := []) E S rfl T22 rfl rfl rfl ?_)
 clear E a S; rintro a w v_1 E S
 refine S_m E rfl rfl ?_
 clear E a; intro a E
 refine S_x (QJ (xs := ([] : List Int)) E S rfl rfl rfl T22 h0 (by (simp; omega)) ?_)
 clear E a S; rintro a w v_2 E S
 refine S_m E rfl rfl ?_
 clear E a; intro a E
 refine S_x (QJ (xs := [] ++ l0) E S rfl rfl rfl T22 h1 (by (simp; omega)) ?_)
 clear E a S; rintro a w v_3 E S
 refine S_a E rfl rfl ?_
 clear E a; intro a E
 refine Qc (T_n (Qe ?_))
 have S0 := S; clear S
 obtain ⟨M_4, hM_4, hz_5, S⟩ := S0.freezeI (by ((simp; omega)))
 clear S0
 exact Qg E Tryz.results236 rfl ⟨_, rfl, M_4, hM_4, (RdS.eqL hz_5 (by (rfl))), S⟩
theorem vU {M : Hp} {v0 v1 : Value} {l0 l1 : List Int} (h0 : RdI M v0 l0) (h1 : RdI M v1 l1){x2 : Bool} (hb : l0.length + l1.length ≤ 1000000000000) :
  Pu Tryz.prog (.func (.func 128) #[] #[]) M [v0, v1, .bool x2] (fun r M' => RdI M' r (if x2 = true then l0 ++ l1 else l1 ++ l0)) := by
 refine Qk Tryz.func128 rfl Tryz.ntmps128 rfl Tryz.call128 ?_
 intro a w M1 H hM1 S E
 replace h0 := h0.le hM1
 replace h1 := h1.le hM1
 have b0 := h0.bound
 have b1 := h1.bound
 refine Qb (Qa (S_a E rfl rfl fun _ E1 => Qc (T_n (Qb (Qb (Qa (S_m E1 rfl rfl ?_)))))))
 clear E a E1; intro a E
 refine Qc (T_n ?_)
 refine QL E rfl (fun hc_1 => ?_) (fun hc_1 => ?_)
 ·refine Qb ?_
  refine Qa (S_m E rfl rfl fun _ E1 => S_m E1 rfl rfl ?_)
  clear E a E1; intro a E
  refine S_x (Qr E S rfl rfl rfl (jW h0 h1 (by omega)) (Hp.le.refl _) ?_)
  clear E a S; rintro a v_3 w M_2 hM_2 hv_3 S E
  replace h0 := h0.le hM_2
  replace h1 := h1.le hM_2
  refine S_a E rfl rfl ?_
  clear E a; intro a E
  refine Qc (T_n (Qe ?_))
  refine T_r ?_
  exact Qg E Tryz.results128 rfl ⟨_, rfl, M_2, hM_2, (RdS.eqL hv_3 (by (simp_all; done))), S⟩
 ·refine Qh ?_
  refine T_n (Qb (Qa (S_m E rfl rfl fun _ E1 => S_m E1 rfl rfl ?_)))
  clear E a E1; intro a E
  refine S_x (Qr E S rfl rfl rfl (jW h1 h0 (by omega)) (Hp.le.refl _) ?_)
  clear E a S; rintro a v_5 w M_4 hM_4 hv_5 S E
  refine S_a E rfl rfl ?_
  clear E a; intro a E
  refine Qc (T_n (Qe ?_))
  exact Qg E Tryz.results128 rfl ⟨_, rfl, M_4, hM_4, (RdS.eqL hv_5 (by (simp_all; done))), S⟩
theorem Gq {M : Hp} {sd sn sm pk pn kk kn : Int} {wv cv : Value} {pl c : List Int} (hw : RdI M wv pl) (hc : RdI M cv c) {v1 : Value} {l : List Int} (h1 : RdI M v1 l) {na nb : Nat} (gd : -9223372036854775808 ≤ sd ∧ sd ≤ 9223372036854775807) (gn : -9223372036854775808 ≤ sn ∧ sn ≤ 9223372036854775807) (gm : -9223372036854775808 ≤ sm ∧ sm ≤ 9223372036854775807) (gpn : -9223372036854775808 ≤ pn ∧ pn ≤ 9223372036854775807) (gkn : -9223372036854775808 ≤ kn ∧ kn ≤ 9223372036854775807) (hb : l.length ≤ 10000) (hcb : c.length ≤ 10000) (hpb : pl.length ≤ 10000) (hr0 : (∀ x ∈ l, -9223372036854775808 ≤ x ∧ x ≤ 9223372036854775807)) (hrc : (∀ x ∈ c, -9223372036854775808 ≤ x ∧ x ≤ 9223372036854775807)) (ha : na < 12) (hbb : nb < 12) (hd24 : 24 ≤ (sd % 47).toNat)  :
  Pu Tryz.prog (.func (.func 45) #[] #[]) M [.agg #[.int .i64 sd, .int .i64 sn, .int .i64 sm, .int .i64 pk, .int .i64 pn, wv, .int .i64 kk, .int .i64 kn, cv], v1, .int .i64 ((na : Nat) : Int), .int .i64 ((nb : Nat) : Int)] (fun r M' => RdI M' r (Jo (sd % 47).toNat na nb sn sm pk pn pl kk kn c l)) := by
 refine Qk Tryz.func45 rfl Tryz.ntmps45 rfl Tryz.call45 ?_
 intro a w M1 H hM1 S E
 replace hw := hw.le hM1
 replace hc := hc.le hM1
 replace h1 := h1.le hM1
 have bw := hw.bound
 have bc := hc.bound
 have b1 := h1.bound
 have hdb : (sd % 47).toNat < 47 := by omega
 refine Qb (Qa ?_)
 refine S_x (Jc (cs := #[.int .i64 sd, .int .i64 sn, .int .i64 sm, .int .i64 pk, .int .i64 pn, wv, .int .i64 kk, .int .i64 kn, cv]) E S rfl rfl rfl ?_)
 clear E a S; rintro a w b_1 E S
 obtain ⟨M_2, hM_2, hb_1, S⟩ := S.freezeB
 replace hc := hc.le hM_2
 replace h1 := h1.le hM_2
 refine S_a E rfl rfl fun _ E1 => Qc (T_n (Qb (Qa (S_v E1 rfl (Ql E1 rfl (YZ _)) rfl fun _ E2 => S_v E2 rfl (Jj (off := 6) (part := [.int .i64 kk, .int .i64 kn]) E2 rfl (Tryz.isAgg30 _) (Tryz.sizeOf30 _) S.imm hb_1 rfl rfl) rfl ?_))))
 clear E a E1 E2; intro a E
 refine S_x (Jp (cs := #[.int .i64 0, .int .i64 0]) E S rfl Tryz.zeroValue42 rfl ?_)
 clear E a S; rintro a w b_3 E S
 refine Zr (Jz (us := [.int .i64 kk, .int .i64 kn]) E S rfl rfl (Tryz.sizeOf42 _) rfl (by intro u hu; simp only [List.mem_cons, List.not_mem_nil, or_false] at hu; rcases hu with rfl | rfl <;> first | exact rfl | exact rfl) ?_)
 clear E a S; rintro a w E S
 replace S : St w M_2 (blk b_3 (.cells #[.int .i64 kk, .int .i64 kn] 42) :: _) := S
 have S0 := S; clear S
 obtain ⟨M_4, hM_4, hb_5, S⟩ := S0.freezeB
 clear S0
 replace hc := hc.le hM_4
 replace h1 := h1.le hM_4
 replace hb_1 := hM_4.2 _ _ hb_1
 refine Qc (T_n (Qb (Qb (Qa (S_v E rfl (Ql E rfl (VL _)) rfl fun _ E1 => S_v E1 rfl (Qj E1 rfl Tryz.isAgg3 S.imm (Qo hb_1 rfl)) rfl ?_)))))
 clear E a E1; intro a E
 refine S_x (Qr E S rfl rfl rfl (JN (by first | omega | assumption | decide) (by first | omega | decide)) (Hp.le.refl _) ?_)
 clear E a S; rintro a _ w M_6 hM_6 rfl S E
 replace hc := hc.le hM_6
 replace h1 := h1.le hM_6
 replace hb_1 := hM_6.2 _ _ hb_1
 replace hb_5 := hM_6.2 _ _ hb_5
 refine Qc (T_n (Qi (Qb (Qa (S_v E rfl (Qv E rfl rfl) rfl fun _ E1 => S_a E1 rfl rfl ?_)))))
 clear E a E1; intro a E
 refine Qc (T_n ?_)
 refine Qn E rfl (fun hc_7 => ?_) (fun hc_7 => ?_)
 ·refine Qb (Qa (S_m E rfl rfl ?_))
  clear E a; intro a E
  refine S_x (Qr E S rfl rfl rfl (yq h1 (by (first | omega | (simp; omega) | (simp; done) | (simp_all; omega) | grind)) (by first | assumption | exact hr0 | exact hr1)) (Hp.le.refl _) ?_)
  clear E a S; rintro a v_9 w M_8 hM_8 hv_9 S E
  replace hc := hc.le hM_8
  replace h1 := h1.le hM_8
  replace hb_1 := hM_8.2 _ _ hb_1
  replace hb_5 := hM_8.2 _ _ hb_5
  refine S_a E rfl rfl ?_
  clear E a; intro a E
  refine Qc (T_n (Qe (B_r ?_)))
  refine T_r ?_
  exact Qg E Tryz.results45 rfl ⟨_, rfl, M_8, (hM_2.trans (hM_4.trans (hM_6.trans hM_8))), (RdS.eqL hv_9 (by (rw [show (sd % 47).toNat = 24 from by omega]; rfl))), S⟩
 ·refine Qb (Qa (S_v E rfl (Qv E rfl rfl) rfl fun _ E1 => S_a E1 rfl rfl ?_))
  clear E a E1; intro a E
  refine Qc (T_n ?_)
  refine Qn E rfl (fun hc_10 => ?_) (fun hc_10 => ?_)
  ·refine Qb (Qa (S_m E rfl rfl fun _ E1 => S_m E1 rfl rfl fun _ E2 => S_m E2 rfl rfl fun _ E3 => S_v E3 rfl (Qp E3 rfl T22 h1.len) rfl fun _ E4 => S_v E4 rfl (GC (m := ((min na ((l).length) : Nat) : Int)) E4 rfl rfl (by omega)) rfl fun _ E5 => S_v E5 rfl (Ql E5 rfl (Jl _)) rfl ?_))
   clear E a E1 E2 E3 E4 E5; intro a E
   refine S_v E rfl (Qj E rfl Tryz.isAgg22 S.imm (Qo hb_1 rfl)) rfl ?_
   clear E a; intro a E
   refine S_x (Qr E S rfl rfl rfl (vx h1 hc (by (first | omega | (simp; omega) | (simp; done) | (simp_all; omega) | grind)) (by (first | omega | (simp; omega) | (simp; done) | (simp_all; omega) | grind))) (Hp.le.refl _) ?_)
   clear E a S; rintro a v_12 w M_11 hM_11 hv_12 S E
   replace hc := hc.le hM_11
   replace h1 := h1.le hM_11
   replace hb_1 := hM_11.2 _ _ hb_1
   replace hb_5 := hM_11.2 _ _ hb_5
   refine S_a E rfl rfl ?_
   clear E a; intro a E
   refine Qc (T_n (Qe (B_r ?_)))
   refine T_r ?_
   exact Qg E Tryz.results45 rfl ⟨_, rfl, M_11, (hM_2.trans (hM_4.trans (hM_6.trans hM_11))), (RdS.eqL hv_12 (by (rw [show (sd % 47).toNat = 25 from by omega]; rfl))), S⟩
  ·refine Qb (Qa (S_v E rfl (Qv E rfl rfl) rfl fun _ E1 => S_a E1 rfl rfl ?_))
   clear E a E1; intro a E
   refine Qc (T_n ?_)
   refine Qn E rfl (fun hc_13 => ?_) (fun hc_13 => ?_)
   ·refine Qb (Qa (S_m E rfl rfl fun _ E1 => S_v E1 rfl (Ql E1 rfl (Jl _)) rfl fun _ E2 => S_v E2 rfl (Qj E2 rfl Tryz.isAgg22 S.imm (Qo hb_1 rfl)) rfl ?_))
    clear E a E1 E2; intro a E
    refine S_x (Qr E S rfl rfl rfl (WG h1 hc (by first | assumption | exact hr0 | exact hr1)) (Hp.le.refl _) ?_)
    clear E a S; rintro a v_15 w M_14 hM_14 hv_15 S E
    replace hc := hc.le hM_14
    replace h1 := h1.le hM_14
    replace hb_1 := hM_14.2 _ _ hb_1
    replace hb_5 := hM_14.2 _ _ hb_5
    refine S_a E rfl rfl ?_
    clear E a; intro a E
    refine Qc (T_n (Qe (B_r ?_)))
    refine T_r ?_
    exact Qg E Tryz.results45 rfl ⟨_, rfl, M_14, (hM_2.trans (hM_4.trans (hM_6.trans hM_14))), (RdS.eqL hv_15 (by (rw [show (sd % 47).toNat = 26 from by omega]; rfl))), S⟩
   ·refine Qb (Qa (S_v E rfl (Qv E rfl rfl) rfl fun _ E1 => S_a E1 rfl rfl ?_))
    clear E a E1; intro a E
    refine Qc (T_n ?_)
    refine Qn E rfl (fun hc_16 => ?_) (fun hc_16 => ?_)
    ·refine Qb (Qa (S_m E rfl rfl fun _ E1 => S_v E1 rfl (Ql E1 rfl (Jl _)) rfl fun _ E2 => S_v E2 rfl (Qj E2 rfl Tryz.isAgg22 S.imm (Qo hb_1 rfl)) rfl ?_))
     clear E a E1 E2; intro a E
     refine S_x (Qr E S rfl rfl rfl (UN h1 hc (by first | assumption | exact hr0 | exact hr1 | (intro x hx; exact hr0 x ((List.dropWhile_sublist _).subset hx)))) (Hp.le.refl _) ?_)
     clear E a S; rintro a v_18 w M_17 hM_17 hv_18 S E
     replace hc := hc.le hM_17
     replace h1 := h1.le hM_17
     replace hb_1 := hM_17.2 _ _ hb_1
     replace hb_5 := hM_17.2 _ _ hb_5
     refine S_a E rfl rfl ?_
     clear E a; intro a E
     refine Qc (T_n (Qe (B_r ?_)))
     refine T_r ?_
     exact Qg E Tryz.results45 rfl ⟨_, rfl, M_17, (hM_2.trans (hM_4.trans (hM_6.trans hM_17))), (RdS.eqL hv_18 (by (rw [show (sd % 47).toNat = 27 from by omega]; rfl))), S⟩
    ·refine Qb (Qa (S_v E rfl (Qv E rfl rfl) rfl fun _ E1 => S_a E1 rfl rfl ?_))
     clear E a E1; intro a E
     refine Qc (T_n ?_)
     refine Qn E rfl (fun hc_19 => ?_) (fun hc_19 => ?_)
     ·refine Qb (Qa (S_m E rfl rfl fun _ E1 => S_v E1 rfl (Ql E1 rfl (Jl _)) rfl fun _ E2 => S_v E2 rfl (Qj E2 rfl Tryz.isAgg22 S.imm (Qo hb_1 rfl)) rfl ?_))
      clear E a E1 E2; intro a E
      refine S_x (Qr E S rfl rfl rfl (spec_Trim h1 hc (by first | assumption | exact hr0 | exact hr1)) (Hp.le.refl _) ?_)
      clear E a S; rintro a v_21 w M_20 hM_20 hv_21 S E
      replace hc := hc.le hM_20
      replace h1 := h1.le hM_20
      replace hb_1 := hM_20.2 _ _ hb_1
      replace hb_5 := hM_20.2 _ _ hb_5
      refine S_a E rfl rfl ?_
      clear E a; intro a E
      refine Qc (T_n (Qe (B_r ?_)))
      refine T_r ?_
      exact Qg E Tryz.results45 rfl ⟨_, rfl, M_20, (hM_2.trans (hM_4.trans (hM_6.trans hM_20))), (RdS.eqL hv_21 (by (rw [show (sd % 47).toNat = 28 from by omega]; rfl))), S⟩
     ·refine Qb (Qa (S_v E rfl (Qv E rfl rfl) rfl fun _ E1 => S_a E1 rfl rfl ?_))
      clear E a E1; intro a E
      refine Qc (T_n ?_)
      refine Qn E rfl (fun hc_22 => ?_) (fun hc_22 => ?_)
      ·refine Qb (Qa (S_m E rfl rfl fun _ E1 => S_v E1 rfl (Ql E1 rfl (Jl _)) rfl fun _ E2 => S_v E2 rfl (Qj E2 rfl Tryz.isAgg22 S.imm (Qo hb_1 rfl)) rfl ?_))
       clear E a E1 E2; intro a E
       refine S_x (Qr E S rfl rfl rfl (qu h1 hc) (Hp.le.refl _) ?_)
       clear E a S; rintro a v_24 w M_23 hM_23 hv_24 S E
       replace hc := hc.le hM_23
       replace h1 := h1.le hM_23
       replace hb_1 := hM_23.2 _ _ hb_1
       replace hb_5 := hM_23.2 _ _ hb_5
       refine S_a E rfl rfl ?_
       clear E a; intro a E
       refine Qc (T_n (Qe (B_r ?_)))
       refine T_r ?_
       exact Qg E Tryz.results45 rfl ⟨_, rfl, M_23, (hM_2.trans (hM_4.trans (hM_6.trans hM_23))), (RdS.eqL hv_24 (by (rw [show (sd % 47).toNat = 29 from by omega]; rfl))), S⟩
      ·refine Qb (Qa (S_v E rfl (Qv E rfl rfl) rfl fun _ E1 => S_a E1 rfl rfl ?_))
       clear E a E1; intro a E
       refine Qc (T_n ?_)
       refine Qn E rfl (fun hc_25 => ?_) (fun hc_25 => ?_)
       ·refine Qb (Qa (S_m E rfl rfl fun _ E1 => S_v E1 rfl (Ql E1 rfl (Jl _)) rfl fun _ E2 => S_v E2 rfl (Qj E2 rfl Tryz.isAgg22 S.imm (Qo hb_1 rfl)) rfl ?_))
        clear E a E1 E2; intro a E
        refine S_x (Qr E S rfl rfl rfl (qt h1 hc) (Hp.le.refl _) ?_)
        clear E a S; rintro a v_27 w M_26 hM_26 hv_27 S E
        replace hc := hc.le hM_26
        replace h1 := h1.le hM_26
        replace hb_1 := hM_26.2 _ _ hb_1
        replace hb_5 := hM_26.2 _ _ hb_5
        refine S_a E rfl rfl ?_
        clear E a; intro a E
        refine Qc (T_n (Qe (B_r ?_)))
        refine T_r ?_
        exact Qg E Tryz.results45 rfl ⟨_, rfl, M_26, (hM_2.trans (hM_4.trans (hM_6.trans hM_26))), (RdS.eqL hv_27 (by (rw [show (sd % 47).toNat = 30 from by omega]; rfl))), S⟩
       ·refine Qb (Qa (S_v E rfl (Qv E rfl rfl) rfl fun _ E1 => S_a E1 rfl rfl ?_))
        clear E a E1; intro a E
        refine Qc (T_n ?_)
        refine Qn E rfl (fun hc_28 => ?_) (fun hc_28 => ?_)
        ·refine Qb (Qa (S_m E rfl rfl fun _ E1 => S_v E1 rfl (Ql E1 rfl (Jl _)) rfl fun _ E2 => S_v E2 rfl (Qj E2 rfl Tryz.isAgg22 S.imm (Qo hb_1 rfl)) rfl ?_))
         clear E a E1 E2; intro a E
         refine S_x (Qr E S rfl rfl rfl (zh h1 hc (by (first | omega | (simp; omega) | (simp; done) | (simp_all; omega) | grind))) (Hp.le.refl _) ?_)
         clear E a S; rintro a _ w M_29 hM_29 ⟨v_30, rfl, hv_30⟩ S E
         replace hc := hc.le hM_29
         replace h1 := h1.le hM_29
         replace hb_1 := hM_29.2 _ _ hb_1
         replace hb_5 := hM_29.2 _ _ hb_5
         refine S_v E rfl (Qm E rfl rfl) rfl fun _ E1 => S_v E1 rfl (Qm E1 rfl rfl) rfl ?_
         clear E a E1; intro a E
         refine S_x (Qr E S rfl rfl rfl (VB hv_30) (Hp.le.refl _) ?_)
         clear E a S; rintro a v_32 w M_31 hM_31 hv_32 S E
         replace hc := hc.le hM_31
         replace h1 := h1.le hM_31
         replace hb_1 := hM_31.2 _ _ hb_1
         replace hb_5 := hM_31.2 _ _ hb_5
         refine S_a E rfl rfl ?_
         clear E a; intro a E
         refine Qc (T_n (Qe (B_r ?_)))
         refine T_r ?_
         exact Qg E Tryz.results45 rfl ⟨_, rfl, M_31, (hM_2.trans (hM_4.trans (hM_6.trans (hM_29.trans hM_31)))), (RdS.eqL hv_32 (by (rw [show (sd % 47).toNat = 31 from by omega]; rfl))), S⟩
        ·refine Qb (Qa (S_v E rfl (Qv E rfl rfl) rfl fun _ E1 => S_a E1 rfl rfl ?_))
         clear E a E1; intro a E
         refine Qc (T_n ?_)
         refine Qn E rfl (fun hc_33 => ?_) (fun hc_33 => ?_)
         ·refine Qb (Qa (S_m E rfl rfl fun _ E1 => S_v E1 rfl (Ql E1 rfl (Jl _)) rfl fun _ E2 => S_v E2 rfl (Qj E2 rfl Tryz.isAgg22 S.imm (Qo hb_1 rfl)) rfl ?_))
          clear E a E1 E2; intro a E
          refine S_x (Qr E S rfl rfl rfl (zg h1 hc (by (first | omega | (simp; omega) | (simp; done) | (simp_all; omega) | grind))) (Hp.le.refl _) ?_)
          clear E a S; rintro a _ w M_34 hM_34 ⟨v_35, rfl, hv_35⟩ S E
          replace hc := hc.le hM_34
          replace h1 := h1.le hM_34
          replace hb_1 := hM_34.2 _ _ hb_1
          replace hb_5 := hM_34.2 _ _ hb_5
          refine S_v E rfl (Qm E rfl rfl) rfl fun _ E1 => S_v E1 rfl (Qm E1 rfl rfl) rfl ?_
          clear E a E1; intro a E
          refine S_x (Qr E S rfl rfl rfl (VB hv_35) (Hp.le.refl _) ?_)
          clear E a S; rintro a v_37 w M_36 hM_36 hv_37 S E
          replace hc := hc.le hM_36
          replace h1 := h1.le hM_36
          replace hb_1 := hM_36.2 _ _ hb_1
          replace hb_5 := hM_36.2 _ _ hb_5
          refine S_a E rfl rfl ?_
          clear E a; intro a E
          refine Qc (T_n (Qe (B_r ?_)))
          refine T_r ?_
          exact Qg E Tryz.results45 rfl ⟨_, rfl, M_36, (hM_2.trans (hM_4.trans (hM_6.trans (hM_34.trans hM_36)))), (RdS.eqL hv_37 (by (rw [show (sd % 47).toNat = 32 from by omega]; rfl))), S⟩
         ·refine Qb (Qa (S_v E rfl (Qv E rfl rfl) rfl fun _ E1 => S_a E1 rfl rfl ?_))
          clear E a E1; intro a E
          refine Qc (T_n ?_)
          refine Qn E rfl (fun hc_38 => ?_) (fun hc_38 => ?_)
          ·refine Qb (Qa (S_m E rfl rfl fun _ E1 => S_v E1 rfl (Ql E1 rfl (Jl _)) rfl fun _ E2 => S_v E2 rfl (Qj E2 rfl Tryz.isAgg22 S.imm (Qo hb_1 rfl)) rfl ?_))
           clear E a E1 E2; intro a E
           refine S_x (Qr E S rfl rfl rfl (Vd h1 hc (by (first | omega | (simp; omega) | (simp; done) | (simp_all; omega) | grind)) (by first | assumption | exact hr0 | exact hr1)) (Hp.le.refl _) ?_)
           clear E a S; rintro a v_40 w M_39 hM_39 hv_40 S E
           replace hc := hc.le hM_39
           replace h1 := h1.le hM_39
           replace hb_1 := hM_39.2 _ _ hb_1
           replace hb_5 := hM_39.2 _ _ hb_5
           refine S_a E rfl rfl ?_
           clear E a; intro a E
           refine Qc (T_n (Qe (B_r ?_)))
           refine T_r ?_
           exact Qg E Tryz.results45 rfl ⟨_, rfl, M_39, (hM_2.trans (hM_4.trans (hM_6.trans hM_39))), (RdS.eqL hv_40 (by (rw [show (sd % 47).toNat = 33 from by omega]; rfl))), S⟩
          ·refine Qb (Qa (S_v E rfl (Qv E rfl rfl) rfl fun _ E1 => S_a E1 rfl rfl ?_))
           clear E a E1; intro a E
           refine Qc (T_n ?_)
           refine Qn E rfl (fun hc_41 => ?_) (fun hc_41 => ?_)
           ·refine Qb (Qa (S_m E rfl rfl fun _ E1 => S_v E1 rfl (QA E1 rfl (Tryz.isAgg42 _) (Tryz.sizeOf42 _) S.imm hb_5) rfl fun _ E2 => S_v E2 rfl (Ql E2 rfl (Jl _)) rfl fun _ E3 => S_v E3 rfl (Qj E3 rfl Tryz.isAgg22 S.imm (Qo hb_1 rfl)) rfl ?_))
            clear E a E1 E2 E3; intro a E
            refine S_x (Qr E S rfl rfl rfl (UL h1 hc (by first | omega | decide) (by (first | omega | (simp; omega) | (simp; done) | (simp_all; omega) | grind)) (by first | assumption | exact hr0 | exact hr1)) (Hp.le.refl _) ?_)
            clear E a S; rintro a v_43 w M_42 hM_42 hv_43 S E
            replace hc := hc.le hM_42
            replace h1 := h1.le hM_42
            replace hb_1 := hM_42.2 _ _ hb_1
            replace hb_5 := hM_42.2 _ _ hb_5
            refine S_a E rfl rfl ?_
            clear E a; intro a E
            refine Qc (T_n (Qe (B_r ?_)))
            refine T_r ?_
            exact Qg E Tryz.results45 rfl ⟨_, rfl, M_42, (hM_2.trans (hM_4.trans (hM_6.trans hM_42))), (RdS.eqL hv_43 (by (rw [show (sd % 47).toNat = 34 from by omega]; rfl))), S⟩
           ·refine Qb (Qa (S_v E rfl (Qv E rfl rfl) rfl fun _ E1 => S_a E1 rfl rfl ?_))
            clear E a E1; intro a E
            refine Qc (T_n ?_)
            refine Qn E rfl (fun hc_44 => ?_) (fun hc_44 => ?_)
            ·refine Qb (Qa (S_m E rfl rfl fun _ E1 => S_v E1 rfl (Ql E1 rfl (Jl _)) rfl fun _ E2 => S_v E2 rfl (Qj E2 rfl Tryz.isAgg22 S.imm (Qo hb_1 rfl)) rfl ?_))
             clear E a E1 E2; intro a E
             refine S_x (JP (R := RSl 1 Jr) (vs := [v1, cv]) (xs := [l, c]) (QN QI) E S rfl T74 rfl rfl rfl (by intro u hu; simp only [List.mem_cons, List.not_mem_nil, or_false] at hu; rcases hu with rfl | rfl <;> first | exact RdI.one h1 | exact RdI.one hc | rfl) rfl (ZC (R := RSl 1 Jr) (RdI.row h1) (ZC (R := RSl 1 Jr) (RdI.row hc) YQ)) ?_)
             clear E a S; rintro a v_45 w M_46 hM_46 hv_45 S E
             replace hv_45 : Jy M_46 v_45 [l, c] := hv_45
             replace hc := hc.le hM_46
             replace h1 := h1.le hM_46
             replace hb_1 := hM_46.2 _ _ hb_1
             replace hb_5 := hM_46.2 _ _ hb_5
             refine S_x (Qr E S rfl rfl rfl (spec_Union hv_45 (by first | assumption | omega | (rw [Ga]; omega) | exact Nat.le_trans (JG _ _) (by omega) | exact Zp (by omega) (by omega) (by omega) (by omega) | exact JR (by omega) | (simp; done) | (simp; omega)) (by first | assumption | exact rng2 hr0 hrc)) (Hp.le.refl _) ?_)
             clear E a S; rintro a v_48 w M_47 hM_47 hv_48 S E
             replace hc := hc.le hM_47
             replace h1 := h1.le hM_47
             replace hb_1 := hM_47.2 _ _ hb_1
             replace hb_5 := hM_47.2 _ _ hb_5
             refine S_a E rfl rfl ?_
             clear E a; intro a E
             refine Qc (T_n (Qe (B_r ?_)))
             refine T_r ?_
             exact Qg E Tryz.results45 rfl ⟨_, rfl, M_47, (hM_2.trans (hM_4.trans (hM_6.trans (hM_46.trans hM_47)))), (RdS.eqL hv_48 (by (rw [show (sd % 47).toNat = 35 from by omega]; rfl))), S⟩
            ·refine Qb (Qa (S_v E rfl (Qv E rfl rfl) rfl fun _ E1 => S_a E1 rfl rfl ?_))
             clear E a E1; intro a E
             refine Qc (T_n ?_)
             refine Qn E rfl (fun hc_49 => ?_) (fun hc_49 => ?_)
             ·refine Qb (Qa (S_m E rfl rfl fun _ E1 => S_v E1 rfl (Ql E1 rfl (Jl _)) rfl fun _ E2 => S_v E2 rfl (Qj E2 rfl Tryz.isAgg22 S.imm (Qo hb_1 rfl)) rfl ?_))
              clear E a E1 E2; intro a E
              refine S_x (Qr E S rfl rfl rfl (UD h1 hc (by (first | omega | (simp; omega) | (simp; done) | (simp_all; omega) | grind)) (by (first | omega | (simp; omega) | (simp; done) | (simp_all; omega) | grind)) (by first | assumption | exact hr0 | exact hr1) (by first | assumption | exact hr0 | exact hr1)) (Hp.le.refl _) ?_)
              clear E a S; rintro a _ w M_50 hM_50 ⟨v_51, v_52, rfl, hv_51, hv_52⟩ S E
              replace hc := hc.le hM_50
              replace h1 := h1.le hM_50
              replace hb_1 := hM_50.2 _ _ hb_1
              replace hb_5 := hM_50.2 _ _ hb_5
              refine S_m E rfl rfl fun _ E1 => S_v E1 rfl (Qm E1 rfl rfl) rfl fun _ E2 => S_v E2 rfl (Qm E2 rfl rfl) rfl fun _ E3 => S_a E3 rfl rfl fun _ E4 => S_a E4 rfl rfl fun _ E5 => Qc (T_n (Qb (Qa (S_m E5 rfl rfl ?_))))
              clear E a E1 E2 E3 E4 E5; intro a E
              refine S_a E rfl rfl ?_
              clear E a; intro a E
              refine Qc (T_n (Qe (B_r ?_)))
              refine T_r ?_
              exact Qg E Tryz.results45 rfl ⟨_, rfl, M_50, (hM_2.trans (hM_4.trans (hM_6.trans hM_50))), (RdS.eqL hv_51 (by (rw [show (sd % 47).toNat = 36 from by omega]; rfl))), S⟩
             ·refine Qb (Qa (S_v E rfl (Qv E rfl rfl) rfl fun _ E1 => S_a E1 rfl rfl ?_))
              clear E a E1; intro a E
              refine Qc (T_n ?_)
              refine Qn E rfl (fun hc_53 => ?_) (fun hc_53 => ?_)
              ·refine Qb (Qa (S_m E rfl rfl fun _ E1 => S_v E1 rfl (Ql E1 rfl (Jl _)) rfl fun _ E2 => S_v E2 rfl (Qj E2 rfl Tryz.isAgg22 S.imm (Qo hb_1 rfl)) rfl ?_))
               clear E a E1 E2; intro a E
               refine S_x (Qr E S rfl rfl rfl (UD h1 hc (by (first | omega | (simp; omega) | (simp; done) | (simp_all; omega) | grind)) (by (first | omega | (simp; omega) | (simp; done) | (simp_all; omega) | grind)) (by first | assumption | exact hr0 | exact hr1) (by first | assumption | exact hr0 | exact hr1)) (Hp.le.refl _) ?_)
               clear E a S; rintro a _ w M_54 hM_54 ⟨v_55, v_56, rfl, hv_55, hv_56⟩ S E
               replace hc := hc.le hM_54
               replace h1 := h1.le hM_54
               replace hb_1 := hM_54.2 _ _ hb_1
               replace hb_5 := hM_54.2 _ _ hb_5
               refine S_m E rfl rfl fun _ E1 => S_v E1 rfl (Qm E1 rfl rfl) rfl fun _ E2 => S_v E2 rfl (Qm E2 rfl rfl) rfl fun _ E3 => S_a E3 rfl rfl fun _ E4 => S_a E4 rfl rfl fun _ E5 => Qc (T_n (Qb (Qa (S_m E5 rfl rfl ?_))))
               clear E a E1 E2 E3 E4 E5; intro a E
               refine S_a E rfl rfl ?_
               clear E a; intro a E
               refine Qc (T_n (Qe (B_r ?_)))
               refine T_r ?_
               exact Qg E Tryz.results45 rfl ⟨_, rfl, M_54, (hM_2.trans (hM_4.trans (hM_6.trans hM_54))), (RdS.eqL hv_56 (by (rw [show (sd % 47).toNat = 37 from by omega]; rfl))), S⟩
              ·refine Qb (Qa (S_v E rfl (Qv E rfl rfl) rfl fun _ E1 => S_a E1 rfl rfl ?_))
               clear E a E1; intro a E
               refine Qc (T_n ?_)
               refine Qn E rfl (fun hc_57 => ?_) (fun hc_57 => ?_)
               ·refine Qb (Qa (S_m E rfl rfl fun _ E1 => S_v E1 rfl (Ql E1 rfl (Jl _)) rfl fun _ E2 => S_v E2 rfl (Qj E2 rfl Tryz.isAgg22 S.imm (Qo hb_1 rfl)) rfl ?_))
                clear E a E1 E2; intro a E
                refine S_x (JP (R := RSl 1 Jr) (vs := [v1, cv]) (xs := [l, c]) (QN QI) E S rfl T74 rfl rfl rfl (by intro u hu; simp only [List.mem_cons, List.not_mem_nil, or_false] at hu; rcases hu with rfl | rfl <;> first | exact RdI.one h1 | exact RdI.one hc | rfl) rfl (ZC (R := RSl 1 Jr) (RdI.row h1) (ZC (R := RSl 1 Jr) (RdI.row hc) YQ)) ?_)
                clear E a S; rintro a v_58 w M_59 hM_59 hv_58 S E
                replace hv_58 : Jy M_59 v_58 [l, c] := hv_58
                replace hc := hc.le hM_59
                replace h1 := h1.le hM_59
                replace hb_1 := hM_59.2 _ _ hb_1
                replace hb_5 := hM_59.2 _ _ hb_5
                refine S_x (Qr E S rfl rfl rfl (qv hv_58 (by first | assumption | omega | (rw [Ga]; omega) | exact Nat.le_trans (JG _ _) (by omega) | exact Zp (by omega) (by omega) (by omega) (by omega) | exact JR (by omega) | (simp; done) | (simp; omega))) (Hp.le.refl _) ?_)
                clear E a S; rintro a v_61 w M_60 hM_60 hv_61 S E
                replace hc := hc.le hM_60
                replace h1 := h1.le hM_60
                replace hb_1 := hM_60.2 _ _ hb_1
                replace hb_5 := hM_60.2 _ _ hb_5
                refine S_a E rfl rfl ?_
                clear E a; intro a E
                refine Qc (T_n (Qe (B_r ?_)))
                refine T_r ?_
                exact Qg E Tryz.results45 rfl ⟨_, rfl, M_60, (hM_2.trans (hM_4.trans (hM_6.trans (hM_59.trans hM_60)))), (RdS.eqL hv_61 (by (rw [show (sd % 47).toNat = 38 from by omega]; rfl))), S⟩
               ·refine Qb (Qa (S_v E rfl (Qv E rfl rfl) rfl fun _ E1 => S_a E1 rfl rfl ?_))
                clear E a E1; intro a E
                refine Qc (T_n ?_)
                refine Qn E rfl (fun hc_62 => ?_) (fun hc_62 => ?_)
                ·refine Qb (Qa (S_m E rfl rfl fun _ E1 => S_m E1 rfl rfl ?_))
                 clear E a E1; intro a E
                 refine S_x (Qr E S rfl rfl rfl (vA h1 (by first | omega) (by first | omega)) (Hp.le.refl _) ?_)
                 clear E a S; rintro a _ w M_63 hM_63 ⟨v_64, rfl, hv_64⟩ S E
                 replace hc := hc.le hM_63
                 replace h1 := h1.le hM_63
                 replace hb_1 := hM_63.2 _ _ hb_1
                 replace hb_5 := hM_63.2 _ _ hb_5
                 refine S_v E rfl (Qm E rfl rfl) rfl fun _ E1 => S_v E1 rfl (Qm E1 rfl rfl) rfl ?_
                 clear E a E1; intro a E
                 refine S_x (Qr E S rfl rfl rfl (Vi hv_64 (by first | assumption | omega | (rw [Ga]; omega) | exact Nat.le_trans (JG _ _) (by omega) | exact Zp (by omega) (by omega) (by omega) (by omega) | exact JR (by omega) | (simp; done) | (simp; omega))) (Hp.le.refl _) ?_)
                 clear E a S; rintro a v_66 w M_65 hM_65 hv_66 S E
                 replace hc := hc.le hM_65
                 replace h1 := h1.le hM_65
                 replace hb_1 := hM_65.2 _ _ hb_1
                 replace hb_5 := hM_65.2 _ _ hb_5
                 refine S_a E rfl rfl ?_
                 clear E a; intro a E
                 refine Qc (T_n (Qe (B_r ?_)))
                 refine T_r ?_
                 exact Qg E Tryz.results45 rfl ⟨_, rfl, M_65, (hM_2.trans (hM_4.trans (hM_6.trans (hM_63.trans hM_65)))), (RdS.eqL hv_66 (by (rw [show (sd % 47).toNat = 39 from by omega]; rfl))), S⟩
                ·refine Qb (Qa (S_v E rfl (Qv E rfl rfl) rfl fun _ E1 => S_a E1 rfl rfl ?_))
                 clear E a E1; intro a E
                 refine Qc (T_n ?_)
                 refine Qn E rfl (fun hc_67 => ?_) (fun hc_67 => ?_)
                 ·refine Qb (Qa (S_m E rfl rfl fun _ E1 => S_v E1 rfl (QA E1 rfl (Tryz.isAgg42 _) (Tryz.sizeOf42 _) S.imm hb_5) rfl ?_))
                  clear E a E1; intro a E
                  refine S_x (Qr E S rfl rfl rfl (GF h1 (by omega) (by (first | omega | (simp; omega) | (simp; done) | (simp_all; omega) | grind)) (by first | assumption | exact (fun x hx => by rcases List.mem_append.1 hx with h | h; exact hr0 x h; exact hr1 x h))) (Hp.le.refl _) ?_)
                  clear E a S; rintro a v_69 w M_68 hM_68 hv_69 S E
                  replace hc := hc.le hM_68
                  replace h1 := h1.le hM_68
                  replace hb_1 := hM_68.2 _ _ hb_1
                  refine S_x (Qr E S rfl rfl rfl (UX hv_69 (by first | assumption | omega | (rw [Ga]; omega) | exact Nat.le_trans (JG _ _) (by omega) | exact Zp (by omega) (by omega) (by omega) (by omega) | exact JR (by omega) | (simp; done) | (simp; omega))) (Hp.le.refl _) ?_)
                  clear E a S; rintro a v_71 w M_70 hM_70 hv_71 S E
                  replace hc := hc.le hM_70
                  replace h1 := h1.le hM_70
                  replace hb_1 := hM_70.2 _ _ hb_1
                  refine S_a E rfl rfl ?_
                  clear E a; intro a E
                  refine Qc (T_n (Qe (B_r ?_)))
                  refine T_r ?_
                  exact Qg E Tryz.results45 rfl ⟨_, rfl, M_70, (hM_2.trans (hM_4.trans (hM_6.trans (hM_68.trans hM_70)))), (RdS.eqL hv_71 (by (rw [show (sd % 47).toNat = 40 from by omega]; rfl))), S⟩
                 ·refine Qb (Qa (S_v E rfl (Qv E rfl rfl) rfl fun _ E1 => S_a E1 rfl rfl ?_))
                  clear E a E1; intro a E
                  refine Qc (T_n ?_)
                  refine Qn E rfl (fun hc_72 => ?_) (fun hc_72 => ?_)
                  ·refine Qb (Qa (S_m E rfl rfl fun _ E1 => S_m E1 rfl rfl fun _ E2 => S_v E2 rfl (Qq (m := ((na + 1 : Nat) : Int)) E2 rfl rfl (by omega) (by omega)) rfl ?_))
                   clear E a E1 E2; intro a E
                   refine S_x (Qr E S rfl rfl rfl (vw h1 (by first | omega | (simp; done) | (simp; omega)) (by first | omega | (simp; done) | (simp; omega)) (by first | omega | (simp; done) | (simp; omega))) (Hp.le.refl _) ?_)
                   clear E a S; rintro a _ w M_73 hM_73 ⟨v_74, rfl, hv_74⟩ S E
                   replace hc := hc.le hM_73
                   replace h1 := h1.le hM_73
                   replace hb_1 := hM_73.2 _ _ hb_1
                   refine S_v E rfl (Qm E rfl rfl) rfl fun _ E1 => S_v E1 rfl (Qm E1 rfl rfl) rfl ?_
                   clear E a E1; intro a E
                   refine S_x (Qr E S rfl rfl rfl (Vi hv_74 (by first | assumption | omega | (rw [Ga]; omega) | exact Nat.le_trans (JG _ _) (by omega) | exact Zp (by omega) (by omega) (by omega) (by omega) | exact JR (by omega) | (simp; done) | (simp; omega))) (Hp.le.refl _) ?_)
                   clear E a S; rintro a v_76 w M_75 hM_75 hv_76 S E
                   replace hc := hc.le hM_75
                   replace h1 := h1.le hM_75
                   replace hb_1 := hM_75.2 _ _ hb_1
                   refine S_a E rfl rfl ?_
                   clear E a; intro a E
                   refine Qc (T_n (Qe (B_r ?_)))
                   refine T_r ?_
                   exact Qg E Tryz.results45 rfl ⟨_, rfl, M_75, (hM_2.trans (hM_4.trans (hM_6.trans (hM_73.trans hM_75)))), (RdS.eqL hv_76 (by (rw [show (sd % 47).toNat = 41 from by omega]; rfl))), S⟩
                  ·refine Qb (Qa (S_v E rfl (Qv E rfl rfl) rfl fun _ E1 => S_a E1 rfl rfl ?_))
                   clear E a E1; intro a E
                   refine Qc (T_n ?_)
                   refine Qn E rfl (fun hc_77 => ?_) (fun hc_77 => ?_)
                   ·refine Qb (Qa (S_m E rfl rfl fun _ E1 => S_m E1 rfl rfl fun _ E2 => S_v E2 rfl (Qq (m := ((na + 1 : Nat) : Int)) E2 rfl rfl (by omega) (by omega)) rfl fun _ E3 => S_m E3 rfl rfl fun _ E4 => S_v E4 rfl (Qq (m := ((nb + 1 : Nat) : Int)) E4 rfl rfl (by omega) (by omega)) rfl ?_))
                    clear E a E1 E2 E3 E4; intro a E
                    refine S_x (Qr E S rfl rfl rfl (Gb h1 (by first | omega | (simp; done) | (simp; omega)) (by first | omega | (simp; done) | (simp; omega)) (by first | omega | (simp; done) | (simp; omega)) (by first | omega | (simp; done) | (simp; omega)) (by first | omega | (simp; done) | (simp; omega))) (Hp.le.refl _) ?_)
                    clear E a S; rintro a _ w M_78 hM_78 ⟨v_79, rfl, hv_79⟩ S E
                    replace hc := hc.le hM_78
                    replace h1 := h1.le hM_78
                    replace hb_1 := hM_78.2 _ _ hb_1
                    refine S_v E rfl (Qm E rfl rfl) rfl fun _ E1 => S_v E1 rfl (Qm E1 rfl rfl) rfl ?_
                    clear E a E1; intro a E
                    refine S_x (Qr E S rfl rfl rfl (Vi hv_79 (by first | assumption | omega | (rw [Ga]; omega) | exact Nat.le_trans (JG _ _) (by omega) | exact Zp (by omega) (by omega) (by omega) (by omega) | exact JR (by omega) | (simp; done) | (simp; omega))) (Hp.le.refl _) ?_)
                    clear E a S; rintro a v_81 w M_80 hM_80 hv_81 S E
                    replace hc := hc.le hM_80
                    replace h1 := h1.le hM_80
                    replace hb_1 := hM_80.2 _ _ hb_1
                    refine S_a E rfl rfl ?_
                    clear E a; intro a E
                    refine Qc (T_n (Qe (B_r ?_)))
                    refine T_r ?_
                    exact Qg E Tryz.results45 rfl ⟨_, rfl, M_80, (hM_2.trans (hM_4.trans (hM_6.trans (hM_78.trans hM_80)))), (RdS.eqL hv_81 (by (rw [show (sd % 47).toNat = 42 from by omega]; rfl))), S⟩
                   ·refine Qb (Qa (S_v E rfl (Qv E rfl rfl) rfl fun _ E1 => S_a E1 rfl rfl ?_))
                    clear E a E1; intro a E
                    refine Qc (T_n ?_)
                    refine Qn E rfl (fun hc_82 => ?_) (fun hc_82 => ?_)
                    ·refine Qb (Qa (S_m E rfl rfl ?_))
                     clear E a; intro a E
                     refine S_x (Qr E S rfl rfl rfl (qf h1 (by first | (first | assumption | exact hr0 | exact keys_rng (by omega) hr0) | exact hrr _ (List.mem_of_getElem? (by assumption))) (by first | (have h9 := hb _ (List.mem_of_getElem? (by assumption)); omega) | first | (rw [List.length_map]; omega) | (first | omega | (simp; omega) | (simp; done) | (simp_all; omega) | grind))) (Hp.le.refl _) ?_)
                     clear E a S; rintro a v_84 w M_83 hM_83 hv_84 S E
                     replace hc := hc.le hM_83
                     replace h1 := h1.le hM_83
                     replace hb_1 := hM_83.2 _ _ hb_1
                     refine S_a E rfl rfl ?_
                     clear E a; intro a E
                     refine Qc (T_n (Qe (B_r ?_)))
                     refine T_r ?_
                     exact Qg E Tryz.results45 rfl ⟨_, rfl, M_83, (hM_2.trans (hM_4.trans (hM_6.trans hM_83))), (RdS.eqL hv_84 (by (rw [show (sd % 47).toNat = 43 from by omega]; exact srt_kl _))), S⟩
                    ·refine Qb (Qa (S_v E rfl (Qv E rfl rfl) rfl fun _ E1 => S_a E1 rfl rfl ?_))
                     clear E a E1; intro a E
                     refine Qc (T_n ?_)
                     refine Qn E rfl (fun hc_85 => ?_) (fun hc_85 => ?_)
                     ·refine Qb (Qa (S_m E rfl rfl fun _ E1 => S_v E1 rfl (Ql E1 rfl (Jl _)) rfl fun _ E2 => S_v E2 rfl (Qj E2 rfl Tryz.isAgg22 S.imm (Qo hb_1 rfl)) rfl ?_))
                      clear E a E1 E2; intro a E
                      refine S_x (JP (R := RSl 1 Jr) (vs := [v1, cv]) (xs := [l, c]) (QN QI) E S rfl T74 rfl rfl rfl (by intro u hu; simp only [List.mem_cons, List.not_mem_nil, or_false] at hu; rcases hu with rfl | rfl <;> first | exact RdI.one h1 | exact RdI.one hc | rfl) rfl (ZC (R := RSl 1 Jr) (RdI.row h1) (ZC (R := RSl 1 Jr) (RdI.row hc) YQ)) ?_)
                      clear E a S; rintro a v_86 w M_87 hM_87 hv_86 S E
                      replace hv_86 : Jy M_87 v_86 [l, c] := hv_86
                      replace hc := hc.le hM_87
                      replace h1 := h1.le hM_87
                      replace hb_1 := hM_87.2 _ _ hb_1
                      refine S_x (Qr E S rfl rfl rfl (Gd hv_86 (by first | assumption | omega | (rw [Ga]; omega) | exact Nat.le_trans (JG _ _) (by omega) | exact Zp (by omega) (by omega) (by omega) (by omega) | exact JR (by omega) | (simp; done) | (simp; omega))) (Hp.le.refl _) ?_)
                      clear E a S; rintro a v_89 w M_88 hM_88 hv_89 S E
                      replace hc := hc.le hM_88
                      replace h1 := h1.le hM_88
                      replace hb_1 := hM_88.2 _ _ hb_1
                      refine S_a E rfl rfl ?_
                      clear E a; intro a E
                      refine Qc (T_n (Qe (B_r ?_)))
                      refine T_r ?_
                      exact Qg E Tryz.results45 rfl ⟨_, rfl, M_88, (hM_2.trans (hM_4.trans (hM_6.trans (hM_87.trans hM_88)))), (RdS.eqL hv_89 (by (rw [show (sd % 47).toNat = 44 from by omega]; rfl))), S⟩
                     ·refine Qb (Qa (S_v E rfl (Qv E rfl rfl) rfl fun _ E1 => S_a E1 rfl rfl ?_))
                      clear E a E1; intro a E
                      refine Qc (T_n ?_)
                      refine Qn E rfl (fun hc_90 => ?_) (fun hc_90 => ?_)
                      ·refine Qb (Qa (S_m E rfl rfl fun _ E1 => S_v E1 rfl (Ql E1 rfl (Jl _)) rfl fun _ E2 => S_v E2 rfl (Qj E2 rfl Tryz.isAgg22 S.imm (Qo hb_1 rfl)) rfl ?_))
                       clear E a E1 E2; intro a E
                       refine S_x (JP (R := RSl 1 Jr) (vs := [v1, cv]) (xs := [l, c]) (QN QI) E S rfl T74 rfl rfl rfl (by intro u hu; simp only [List.mem_cons, List.not_mem_nil, or_false] at hu; rcases hu with rfl | rfl <;> first | exact RdI.one h1 | exact RdI.one hc | rfl) rfl (ZC (R := RSl 1 Jr) (RdI.row h1) (ZC (R := RSl 1 Jr) (RdI.row hc) YQ)) ?_)
                       clear E a S; rintro a v_91 w M_92 hM_92 hv_91 S E
                       replace hv_91 : Jy M_92 v_91 [l, c] := hv_91
                       replace hc := hc.le hM_92
                       replace h1 := h1.le hM_92
                       replace hb_1 := hM_92.2 _ _ hb_1
                       refine S_x (Qr E S rfl rfl rfl (ze hv_91 (by first | omega | (simp; done)) (by first | assumption | (intro x hx; simp only [List.mem_cons, List.not_mem_nil, or_false] at hx; rcases hx with rfl | rfl <;> omega)) (by first | assumption | (intro x hx; simp only [List.mem_cons, List.not_mem_nil, or_false] at hx; rcases hx with rfl | rfl <;> assumption))) (Hp.le.refl _) ?_)
                       clear E a S; rintro a v_94 w M_93 hM_93 hv_94 S E
                       replace hc := hc.le hM_93
                       replace h1 := h1.le hM_93
                       replace hb_1 := hM_93.2 _ _ hb_1
                       refine S_x (Qr E S rfl rfl rfl (qk hv_94 (by first | exact vY (by omega) | first | omega | exact jU (by omega) (by omega) | (first | omega | (simp; omega) | (simp; done) | (simp_all; omega) | grind))) (Hp.le.refl _) ?_)
                       clear E a S; rintro a v_96 w M_95 hM_95 hv_96 S E
                       replace hc := hc.le hM_95
                       replace h1 := h1.le hM_95
                       replace hb_1 := hM_95.2 _ _ hb_1
                       refine S_a E rfl rfl ?_
                       clear E a; intro a E
                       refine Qc (T_n (Qe (B_r ?_)))
                       refine T_r ?_
                       exact Qg E Tryz.results45 rfl ⟨_, rfl, M_95, (hM_2.trans (hM_4.trans (hM_6.trans (hM_92.trans (hM_93.trans hM_95))))), (RdS.eqL hv_96 (by (rw [show (sd % 47).toNat = 45 from by omega]; exact meet_set _ _))), S⟩
                      ·refine Qh (B_n (T_n (Qb (Qa (S_m E rfl rfl fun _ E1 => S_v E1 rfl (Ql E1 rfl (Jl _)) rfl fun _ E2 => S_v E2 rfl (Qj E2 rfl Tryz.isAgg22 S.imm (Qo hb_1 rfl)) rfl ?_)))))
                       clear E a E1 E2; intro a E
                       refine S_x (Qr E S rfl rfl rfl (spec_Cut h1 hc (by (first | omega | (simp; omega) | (simp; done) | (simp_all; omega) | grind))) (Hp.le.refl _) ?_)
                       clear E a S; rintro a _ w M_97 hM_97 ⟨v_98, v_99, rfl, hv_98, hv_99⟩ S E
                       refine S_v E rfl (Qm E rfl rfl) rfl fun _ E1 => S_v E1 rfl (Qm E1 rfl rfl) rfl fun _ E2 => S_v E2 rfl (Qm E2 rfl rfl) rfl ?_
                       clear E a E1 E2; intro a E
                       refine S_x (Qr E S rfl rfl rfl (vU hv_98 hv_99 (by first | assumption | omega | exact cut2_len (by omega))) (Hp.le.refl _) ?_)
                       clear E a S; rintro a v_101 w M_100 hM_100 hv_101 S E
                       refine S_a E rfl rfl ?_
                       clear E a; intro a E
                       refine Qc (T_n (Qe ?_))
                       exact Qg E Tryz.results45 rfl ⟨_, rfl, M_100, (hM_2.trans (hM_4.trans (hM_6.trans (hM_97.trans hM_100)))), (RdS.eqL hv_101 (by (rw [show (sd % 47).toNat = 46 from by omega]; rfl))), S⟩
theorem laws_due {M : Hp} {sd sn sm pk pn kk kn : Int} {wv cv : Value} {pl c : List Int} (hw : RdI M wv pl) (hc : RdI M cv c) {v1 : Value} {l : List Int} (h1 : RdI M v1 l) (gd : -9223372036854775808 ≤ sd ∧ sd ≤ 9223372036854775807) (gn : -9223372036854775808 ≤ sn ∧ sn ≤ 9223372036854775807) (gm : -9223372036854775808 ≤ sm ∧ sm ≤ 9223372036854775807) (gpn : -9223372036854775808 ≤ pn ∧ pn ≤ 9223372036854775807) (gkn : -9223372036854775808 ≤ kn ∧ kn ≤ 9223372036854775807) (hb : l.length ≤ 10000) (hcb : c.length ≤ 10000) (hpb : pl.length ≤ 10000) (hr0 : (∀ x ∈ l, -9223372036854775808 ≤ x ∧ x ≤ 9223372036854775807)) (hrc : (∀ x ∈ c, -9223372036854775808 ≤ x ∧ x ≤ 9223372036854775807))  :
  Pu Tryz.prog (.func (.func 9) #[] #[]) M [.agg #[.int .i64 sd, .int .i64 sn, .int .i64 sm, .int .i64 pk, .int .i64 pn, wv, .int .i64 kk, .int .i64 kn, cv], v1] (fun r M' => RdI M' r (Jo (sd % 47).toNat ((sn % 12).toNat) ((sm % 12).toNat) sn sm pk pn pl kk kn c l)) := by
 refine Qk Tryz.func9 rfl Tryz.ntmps9 rfl Tryz.call9 ?_
 intro a w M1 H hM1 S E
 replace hw := hw.le hM1
 replace hc := hc.le hM1
 replace h1 := h1.le hM1
 have bw := hw.bound
 have bc := hc.bound
 have b1 := h1.bound
 have hdb : (sd % 47).toNat < 47 := by omega
 have hab : (sn % 12).toNat < 12 := by omega
 have hbb : (sm % 12).toNat < 12 := by omega
 refine Qb (Qa ?_)
 refine S_x (Jc (cs := #[.int .i64 sd, .int .i64 sn, .int .i64 sm, .int .i64 pk, .int .i64 pn, wv, .int .i64 kk, .int .i64 kn, cv]) E S rfl rfl rfl ?_)
 clear E a S; rintro a w b_1 E S
 obtain ⟨M_2, hM_2, hb_1, S⟩ := S.freezeB
 replace hw := hw.le hM_2
 replace hc := hc.le hM_2
 replace h1 := h1.le hM_2
 refine S_a E rfl rfl ?_
 clear E a; intro a E
 refine Qc (T_n (Qb ?_))
 have hb_1k2 := hb_1
 replace S := S.mono_heap (w' := World.drew _) rfl
 refine Jx (C := fun x w => agree M_2 w) (bf := (fun i => [])) [0, 1, 3, 4, 6, 7] [0, 1, 3, 4, 2, 5, 6, 7] Tryz.mixed (by kernel_rfl) (fun x hq => S.imm) ?_
 refine D_v E rfl rfl rfl (fun w hC => (Ql E rfl (Wj _))) fun _ E1 => D_v E1 rfl rfl rfl (fun w hC => (Qj E1 rfl Tryz.isAgg3 hC (Qo hb_1k2 rfl))) fun _ E2 => D_v E2 rfl rfl rfl (fun w hC => (Ql E2 rfl (Wi _))) fun _ E3 => D_v E3 rfl rfl rfl (fun w hC => (Qj E3 rfl Tryz.isAgg3 hC (Qo hb_1k2 rfl))) ?_
 clear E a E1 E2 E3; intro a E
 refine D_x rfl rfl rfl (Qr E S rfl rfl rfl (JN (by omega) (by omega)) (Hp.le.refl _) ?_)
 clear E a S; rintro a _ w M_3 hM_3 rfl S E
 replace hw := hw.le hM_3
 replace hc := hc.le hM_3
 replace h1 := h1.le hM_3
 replace hb_1 := hM_3.2 _ _ hb_1
 refine ⟨fun x hq hb => (Qz hM_3 S.imm), ?_⟩
 refine D_x rfl rfl rfl (Qr E S rfl rfl rfl (JN (by omega) (by omega)) (Hp.le.refl _) ?_)
 clear E a S; rintro a _ w M_4 hM_4 rfl S E
 replace hw := hw.le hM_4
 replace hc := hc.le hM_4
 replace h1 := h1.le hM_4
 replace hb_1 := hM_4.2 _ _ hb_1
 refine ⟨fun x hq hb => (Qz (hM_3.trans hM_4) S.imm), ?_⟩
 refine D_v E rfl rfl rfl (fun w hC => (Jm E rfl)) fun _ E1 => D_v E1 rfl rfl rfl (fun w hC => (Jm E1 rfl)) ?_
 clear E a E1; intro a E
 refine Ze (Zd ?_)
 refine T_n (Qb ?_)
 refine jk Tryz.mixed ?_
 refine DG_split2 4 5 (by decide) (by kernel_rfl) ?_ ?_
 ·have hb_1k4 := hb_1
  replace S := S.mono_heap (w' := World.drew _) rfl
  refine Wk (C := fun x w => agree M_4 w) (bf := (fun i => [])) [0, 1, 2, 3] [0, 1, 2, 3, 4, 5, 6, 7] (by kernel_rfl) (fun x hq => S.imm) ?_
  refine D_v E rfl rfl rfl (fun w hC => (Ql E rfl (Vt _))) fun _ E1 => D_v E1 rfl rfl rfl (fun w hC => (Jj (off := 3) (part := [.int .i64 pk, .int .i64 pn, wv]) E1 rfl (Tryz.isAgg27 _) (Tryz.sizeOf27 _) hC hb_1k4 rfl rfl)) fun _ E2 => D_v E2 rfl rfl rfl (fun w hC => (Ql E2 rfl (YZ _))) fun _ E3 => D_v E3 rfl rfl rfl (fun w hC => (Jj (off := 6) (part := [.int .i64 kk, .int .i64 kn]) E3 rfl (Tryz.isAgg30 _) (Tryz.sizeOf30 _) hC hb_1k4 rfl rfl)) ?_
  clear E a E1 E2 E3; intro a E
  refine D_x rfl rfl rfl (Jp (cs := #[.int .i64 0, .int .i64 0, .slice none 0 0]) E S rfl Tryz.zeroValue41 rfl ?_)
  clear E a S; rintro a w b_5 E S
  refine ⟨fun x hq hb => (Qz (Hp.le.refl _) S.imm), ?_⟩
  refine D_x rfl rfl rfl (Jp (cs := #[.int .i64 0, .int .i64 0]) E S rfl Tryz.zeroValue42 rfl ?_)
  clear E a S; rintro a w b_6 E S
  refine ⟨fun x hq hb => (Qz (Hp.le.refl _) S.imm), ?_⟩
  replace S := S.front1
  refine D_x rfl rfl rfl (Jz (us := [.int .i64 pk, .int .i64 pn, wv]) E S rfl rfl (Tryz.sizeOf41 _) rfl (by intro u hu; simp only [List.mem_cons, List.not_mem_nil, or_false] at hu; rcases hu with rfl | rfl | rfl <;> first | exact rfl | exact rfl | exact (RdS.one' hw)) ?_)
  clear E a S; rintro a w E S
  replace S : St w M_4 (blk b_5 (.cells #[.int .i64 pk, .int .i64 pn, wv] 41) :: _) := S
  have S0 := S; clear S
  obtain ⟨M_7, hM_7, hb_8, S⟩ := S0.freezeB
  clear S0
  replace hw := hw.le hM_7
  replace hc := hc.le hM_7
  replace h1 := h1.le hM_7
  replace hb_1 := hM_7.2 _ _ hb_1
  refine ⟨fun x hq hb => (Qz hM_7 S.imm), ?_⟩
  refine D_x rfl rfl rfl (Jz (us := [.int .i64 kk, .int .i64 kn]) E S rfl rfl (Tryz.sizeOf42 _) rfl (by intro u hu; simp only [List.mem_cons, List.not_mem_nil, or_false] at hu; rcases hu with rfl | rfl <;> first | exact rfl | exact rfl) ?_)
  clear E a S; rintro a w E S
  replace S : St w M_7 (blk b_6 (.cells #[.int .i64 kk, .int .i64 kn] 42) :: _) := S
  have S0 := S; clear S
  obtain ⟨M_9, hM_9, hb_10, S⟩ := S0.freezeB
  clear S0
  replace hw := hw.le hM_9
  replace hc := hc.le hM_9
  replace h1 := h1.le hM_9
  replace hb_1 := hM_9.2 _ _ hb_1
  replace hb_8 := hM_9.2 _ _ hb_8
  refine ⟨fun x hq hb => (Qz (hM_7.trans hM_9) S.imm), ?_⟩
  refine Ze (Zd ?_)
  refine T_n (Qb (Qb (Qa (S_v E rfl (Ql E rfl (VL _)) rfl fun _ E1 => S_v E1 rfl (Qj E1 rfl Tryz.isAgg3 S.imm (Qo hb_1 rfl)) rfl ?_))))
  clear E a E1; intro a E
  refine S_x (Qr E S rfl rfl rfl (JN (by omega) (by omega)) (Hp.le.refl _) ?_)
  clear E a S; rintro a _ w M_11 hM_11 rfl S E
  replace hw := hw.le hM_11
  replace hc := hc.le hM_11
  replace h1 := h1.le hM_11
  replace hb_1 := hM_11.2 _ _ hb_1
  replace hb_8 := hM_11.2 _ _ hb_8
  replace hb_10 := hM_11.2 _ _ hb_10
  refine Qc (T_n (Qi (Qb (Qa (S_v E rfl (Qv E rfl rfl) rfl fun _ E1 => S_a E1 rfl rfl ?_)))))
  clear E a E1; intro a E
  refine Qc (T_n ?_)
  refine Qn E rfl (fun hc_12 => ?_) (fun hc_12 => ?_)
  ·refine Qb (Qa (S_m E rfl rfl fun _ E1 => S_v E1 rfl (QA E1 rfl (Tryz.isAgg41 _) (Tryz.sizeOf41 _) S.imm hb_8) rfl ?_))
   clear E a E1; intro a E
   refine S_x (Qr E S rfl rfl rfl (UR h1 hw (by omega) (by (omega)) (by assumption)) (Hp.le.refl _) ?_)
   clear E a S; rintro a v_14 w M_13 hM_13 hv_14 S E
   replace hw := hw.le hM_13
   replace hc := hc.le hM_13
   replace h1 := h1.le hM_13
   replace hb_1 := hM_13.2 _ _ hb_1
   replace hb_8 := hM_13.2 _ _ hb_8
   replace hb_10 := hM_13.2 _ _ hb_10
   refine S_a E rfl rfl ?_
   clear E a; intro a E
   refine Qc (T_n (Qe (B_r ?_)))
   refine T_r ?_
   exact Qg E Tryz.results9 rfl ⟨_, rfl, M_13, (hM_2.trans (hM_3.trans (hM_4.trans (hM_7.trans (hM_9.trans (hM_11.trans hM_13)))))), (RdS.eqL hv_14 (by ((rw [show (sd % 47).toNat = 0 from by omega]; first | rfl | (simp [Jo, QS]; done))))), S⟩
  ·refine Qb (Qa (S_v E rfl (Qv E rfl rfl) rfl fun _ E1 => S_a E1 rfl rfl ?_))
   clear E a E1; intro a E
   refine Qc (T_n ?_)
   refine Qn E rfl (fun hc_15 => ?_) (fun hc_15 => ?_)
   ·refine Qb (Qa (S_m E rfl rfl fun _ E1 => S_v E1 rfl (QA E1 rfl (Tryz.isAgg41 _) (Tryz.sizeOf41 _) S.imm hb_8) rfl ?_))
    clear E a E1; intro a E
    refine S_x (Qr E S rfl rfl rfl (qe h1 hw (by omega) (by (omega)) (by assumption)) (Hp.le.refl _) ?_)
    clear E a S; rintro a v_17 w M_16 hM_16 hv_17 S E
    replace hw := hw.le hM_16
    replace hc := hc.le hM_16
    replace h1 := h1.le hM_16
    replace hb_1 := hM_16.2 _ _ hb_1
    replace hb_8 := hM_16.2 _ _ hb_8
    replace hb_10 := hM_16.2 _ _ hb_10
    refine S_a E rfl rfl ?_
    clear E a; intro a E
    refine Qc (T_n (Qe (B_r ?_)))
    refine T_r ?_
    exact Qg E Tryz.results9 rfl ⟨_, rfl, M_16, (hM_2.trans (hM_3.trans (hM_4.trans (hM_7.trans (hM_9.trans (hM_11.trans hM_16)))))), (RdS.eqL hv_17 (by ((rw [show (sd % 47).toNat = 1 from by omega]; first | rfl | (simp [Jo, QS]; done))))), S⟩
   ·refine Qb (Qa (S_v E rfl (Qv E rfl rfl) rfl fun _ E1 => S_a E1 rfl rfl ?_))
    clear E a E1; intro a E
    refine Qc (T_n ?_)
    refine Qn E rfl (fun hc_18 => ?_) (fun hc_18 => ?_)
    ·refine Qb (Qa (S_m E rfl rfl fun _ E1 => S_v E1 rfl (QA E1 rfl (Tryz.isAgg42 _) (Tryz.sizeOf42 _) S.imm hb_10) rfl ?_))
     clear E a E1; intro a E
     refine S_x (Qr E S rfl rfl rfl (vz h1 (by omega) (by (omega)) (by assumption)) (Hp.le.refl _) ?_)
     clear E a S; rintro a v_20 w M_19 hM_19 hv_20 S E
     replace hw := hw.le hM_19
     replace hc := hc.le hM_19
     replace h1 := h1.le hM_19
     replace hb_1 := hM_19.2 _ _ hb_1
     replace hb_8 := hM_19.2 _ _ hb_8
     replace hb_10 := hM_19.2 _ _ hb_10
     refine S_a E rfl rfl ?_
     clear E a; intro a E
     refine Qc (T_n (Qe (B_r ?_)))
     refine T_r ?_
     exact Qg E Tryz.results9 rfl ⟨_, rfl, M_19, (hM_2.trans (hM_3.trans (hM_4.trans (hM_7.trans (hM_9.trans (hM_11.trans hM_19)))))), (RdS.eqL hv_20 (by ((rw [show (sd % 47).toNat = 2 from by omega]; first | rfl | (simp [Jo, QS]; done))))), S⟩
    ·refine Qb (Qa (S_v E rfl (Qv E rfl rfl) rfl fun _ E1 => S_a E1 rfl rfl ?_))
     clear E a E1; intro a E
     refine Qc (T_n ?_)
     refine Qn E rfl (fun hc_21 => ?_) (fun hc_21 => ?_)
     ·refine Qb (Qa (S_m E rfl rfl fun _ E1 => S_v E1 rfl (QA E1 rfl (Tryz.isAgg41 _) (Tryz.sizeOf41 _) S.imm hb_8) rfl fun _ E2 => S_v E2 rfl (QA E2 rfl (Tryz.isAgg42 _) (Tryz.sizeOf42 _) S.imm hb_10) rfl ?_))
      clear E a E1 E2; intro a E
      refine S_x (Qr E S rfl rfl rfl (UQ h1 hw (by omega) (by omega) (by (omega)) (by assumption)) (Hp.le.refl _) ?_)
      clear E a S; rintro a v_23 w M_22 hM_22 hv_23 S E
      replace hw := hw.le hM_22
      replace hc := hc.le hM_22
      replace h1 := h1.le hM_22
      replace hb_1 := hM_22.2 _ _ hb_1
      replace hb_8 := hM_22.2 _ _ hb_8
      replace hb_10 := hM_22.2 _ _ hb_10
      refine S_a E rfl rfl ?_
      clear E a; intro a E
      refine Qc (T_n (Qe (B_r ?_)))
      refine T_r ?_
      exact Qg E Tryz.results9 rfl ⟨_, rfl, M_22, (hM_2.trans (hM_3.trans (hM_4.trans (hM_7.trans (hM_9.trans (hM_11.trans hM_22)))))), (RdS.eqL hv_23 (by ((rw [show (sd % 47).toNat = 3 from by omega]; first | rfl | (simp [Jo, QS]; done))))), S⟩
     ·refine Qb (Qa (S_v E rfl (Qv E rfl rfl) rfl fun _ E1 => S_a E1 rfl rfl ?_))
      clear E a E1; intro a E
      refine Qc (T_n ?_)
      refine Qn E rfl (fun hc_24 => ?_) (fun hc_24 => ?_)
      ·refine Qb (Qa (S_m E rfl rfl fun _ E1 => S_v E1 rfl (QA E1 rfl (Tryz.isAgg42 _) (Tryz.sizeOf42 _) S.imm hb_10) rfl ?_))
       clear E a E1; intro a E
       refine S_x (Qr E S rfl rfl rfl (Ge h1 (by omega) (by (omega)) (by assumption)) (Hp.le.refl _) ?_)
       clear E a S; rintro a v_26 w M_25 hM_25 hv_26 S E
       replace hw := hw.le hM_25
       replace hc := hc.le hM_25
       replace h1 := h1.le hM_25
       replace hb_1 := hM_25.2 _ _ hb_1
       replace hb_8 := hM_25.2 _ _ hb_8
       replace hb_10 := hM_25.2 _ _ hb_10
       refine S_a E rfl rfl ?_
       clear E a; intro a E
       refine Qc (T_n (Qe (B_r ?_)))
       refine T_r ?_
       exact Qg E Tryz.results9 rfl ⟨_, rfl, M_25, (hM_2.trans (hM_3.trans (hM_4.trans (hM_7.trans (hM_9.trans (hM_11.trans hM_25)))))), (RdS.eqL hv_26 (by ((rw [show (sd % 47).toNat = 4 from by omega]; first | rfl | (simp [Jo, QS]; done))))), S⟩
      ·refine Qb (Qa (S_v E rfl (Qv E rfl rfl) rfl fun _ E1 => S_a E1 rfl rfl ?_))
       clear E a E1; intro a E
       refine Qc (T_n ?_)
       refine Qn E rfl (fun hc_27 => ?_) (fun hc_27 => ?_)
       ·refine Qb (Qa (S_m E rfl rfl ?_))
        clear E a; intro a E
        refine S_x (Qr E S rfl rfl rfl (Wr h1 (by assumption) (by omega)) (Hp.le.refl _) ?_)
        clear E a S; rintro a v_29 w M_28 hM_28 hv_29 S E
        replace hw := hw.le hM_28
        replace hc := hc.le hM_28
        replace h1 := h1.le hM_28
        replace hb_1 := hM_28.2 _ _ hb_1
        replace hb_8 := hM_28.2 _ _ hb_8
        replace hb_10 := hM_28.2 _ _ hb_10
        refine S_a E rfl rfl ?_
        clear E a; intro a E
        refine Qc (T_n (Qe (B_r ?_)))
        refine T_r ?_
        exact Qg E Tryz.results9 rfl ⟨_, rfl, M_28, (hM_2.trans (hM_3.trans (hM_4.trans (hM_7.trans (hM_9.trans (hM_11.trans hM_28)))))), (RdS.eqL hv_29 (by ((rw [show (sd % 47).toNat = 5 from by omega]; first | rfl | (simp [Jo, QS]; done))))), S⟩
       ·refine Qb (Qa (S_v E rfl (Qv E rfl rfl) rfl fun _ E1 => S_a E1 rfl rfl ?_))
        clear E a E1; intro a E
        refine Qc (T_n ?_)
        refine Qn E rfl (fun hc_30 => ?_) (fun hc_30 => ?_)
        ·refine Qb (Qa (S_m E rfl rfl fun _ E1 => S_v E1 rfl (QA E1 rfl (Tryz.isAgg42 _) (Tryz.sizeOf42 _) S.imm hb_10) rfl ?_))
         clear E a E1; intro a E
         refine S_x (Qr E S rfl rfl rfl (UM h1 (by omega) (by assumption) (by (omega))) (Hp.le.refl _) ?_)
         clear E a S; rintro a v_32 w M_31 hM_31 hv_32 S E
         replace hw := hw.le hM_31
         replace hc := hc.le hM_31
         replace h1 := h1.le hM_31
         replace hb_1 := hM_31.2 _ _ hb_1
         replace hb_8 := hM_31.2 _ _ hb_8
         replace hb_10 := hM_31.2 _ _ hb_10
         refine S_a E rfl rfl ?_
         clear E a; intro a E
         refine Qc (T_n (Qe (B_r ?_)))
         refine T_r ?_
         exact Qg E Tryz.results9 rfl ⟨_, rfl, M_31, (hM_2.trans (hM_3.trans (hM_4.trans (hM_7.trans (hM_9.trans (hM_11.trans hM_31)))))), (RdS.eqL hv_32 (by ((rw [show (sd % 47).toNat = 6 from by omega]; first | rfl | (simp [Jo, QS]; done))))), S⟩
        ·refine Qb (Qa (S_v E rfl (Qv E rfl rfl) rfl fun _ E1 => S_a E1 rfl rfl ?_))
         clear E a E1; intro a E
         refine Qc (T_n ?_)
         refine Qn E rfl (fun hc_33 => ?_) (fun hc_33 => ?_)
         ·refine Qb (Qa (S_m E rfl rfl ?_))
          clear E a; intro a E
          refine S_x (Qr E S rfl rfl rfl (VR h1 (by assumption) (by (omega))) (Hp.le.refl _) ?_)
          clear E a S; rintro a v_35 w M_34 hM_34 hv_35 S E
          replace hw := hw.le hM_34
          replace hc := hc.le hM_34
          replace h1 := h1.le hM_34
          replace hb_1 := hM_34.2 _ _ hb_1
          replace hb_8 := hM_34.2 _ _ hb_8
          replace hb_10 := hM_34.2 _ _ hb_10
          refine S_a E rfl rfl ?_
          clear E a; intro a E
          refine Qc (T_n (Qe (B_r ?_)))
          refine T_r ?_
          exact Qg E Tryz.results9 rfl ⟨_, rfl, M_34, (hM_2.trans (hM_3.trans (hM_4.trans (hM_7.trans (hM_9.trans (hM_11.trans hM_34)))))), (RdS.eqL hv_35 (by ((rw [show (sd % 47).toNat = 7 from by omega]; first | rfl | exact fu_eq _ _)))), S⟩
         ·refine Qb (Qa (S_v E rfl (Qv E rfl rfl) rfl fun _ E1 => S_a E1 rfl rfl ?_))
          clear E a E1; intro a E
          refine Qc (T_n ?_)
          refine Qn E rfl (fun hc_36 => ?_) (fun hc_36 => ?_)
          ·refine Qb (Qa (S_m E rfl rfl ?_))
           clear E a; intro a E
           refine S_x (Qr E S rfl rfl rfl (Vb h1 (by assumption) (by (omega))) (Hp.le.refl _) ?_)
           clear E a S; rintro a v_38 w M_37 hM_37 hv_38 S E
           replace hw := hw.le hM_37
           replace hc := hc.le hM_37
           replace h1 := h1.le hM_37
           replace hb_1 := hM_37.2 _ _ hb_1
           replace hb_8 := hM_37.2 _ _ hb_8
           replace hb_10 := hM_37.2 _ _ hb_10
           refine S_a E rfl rfl ?_
           clear E a; intro a E
           refine Qc (T_n (Qe (B_r ?_)))
           refine T_r ?_
           exact Qg E Tryz.results9 rfl ⟨_, rfl, M_37, (hM_2.trans (hM_3.trans (hM_4.trans (hM_7.trans (hM_9.trans (hM_11.trans hM_37)))))), (RdS.eqL hv_38 (by ((rw [show (sd % 47).toNat = 8 from by omega]; first | rfl | exact Wx _ _)))), S⟩
          ·refine Qb (Qa (S_v E rfl (Qv E rfl rfl) rfl fun _ E1 => S_a E1 rfl rfl ?_))
           clear E a E1; intro a E
           refine Qc (T_n ?_)
           refine Qn E rfl (fun hc_39 => ?_) (fun hc_39 => ?_)
           ·refine Qb (Qa (S_m E rfl rfl fun _ E1 => S_v E1 rfl (QA E1 rfl (Tryz.isAgg42 _) (Tryz.sizeOf42 _) S.imm hb_10) rfl ?_))
            clear E a E1; intro a E
            refine S_x (Qr E S rfl rfl rfl (ZY h1 (by omega) (by assumption) (by (omega))) (Hp.le.refl _) ?_)
            clear E a S; rintro a v_41 w M_40 hM_40 hv_41 S E
            replace hw := hw.le hM_40
            replace hc := hc.le hM_40
            replace h1 := h1.le hM_40
            replace hb_1 := hM_40.2 _ _ hb_1
            replace hb_8 := hM_40.2 _ _ hb_8
            replace hb_10 := hM_40.2 _ _ hb_10
            refine S_a E rfl rfl ?_
            clear E a; intro a E
            refine Qc (T_n (Qe (B_r ?_)))
            refine T_r ?_
            exact Qg E Tryz.results9 rfl ⟨_, rfl, M_40, (hM_2.trans (hM_3.trans (hM_4.trans (hM_7.trans (hM_9.trans (hM_11.trans hM_40)))))), (RdS.eqL hv_41 (by ((rw [show (sd % 47).toNat = 9 from by omega]; first | rfl | exact fu_eq _ _)))), S⟩
           ·refine Qb (Qa (S_v E rfl (Qv E rfl rfl) rfl fun _ E1 => S_a E1 rfl rfl ?_))
            clear E a E1; intro a E
            refine Qc (T_n ?_)
            refine Qn E rfl (fun hc_42 => ?_) (fun hc_42 => ?_)
            ·refine Qb (Qa (S_m E rfl rfl fun _ E1 => S_v E1 rfl (QA E1 rfl (Tryz.isAgg42 _) (Tryz.sizeOf42 _) S.imm hb_10) rfl ?_))
             clear E a E1; intro a E
             refine S_x (Qr E S rfl rfl rfl (Zy h1 (by omega) (by assumption) (by (omega))) (Hp.le.refl _) ?_)
             clear E a S; rintro a v_44 w M_43 hM_43 hv_44 S E
             replace hw := hw.le hM_43
             replace hc := hc.le hM_43
             replace h1 := h1.le hM_43
             replace hb_1 := hM_43.2 _ _ hb_1
             replace hb_8 := hM_43.2 _ _ hb_8
             refine S_a E rfl rfl ?_
             clear E a; intro a E
             refine Qc (T_n (Qe (B_r ?_)))
             refine T_r ?_
             exact Qg E Tryz.results9 rfl ⟨_, rfl, M_43, (hM_2.trans (hM_3.trans (hM_4.trans (hM_7.trans (hM_9.trans (hM_11.trans hM_43)))))), (RdS.eqL hv_44 (by ((rw [show (sd % 47).toNat = 10 from by omega]; first | rfl | exact Wx _ _)))), S⟩
            ·refine Qb (Qa (S_v E rfl (Qv E rfl rfl) rfl fun _ E1 => S_a E1 rfl rfl ?_))
             clear E a E1; intro a E
             refine Qc (T_n ?_)
             refine Qn E rfl (fun hc_45 => ?_) (fun hc_45 => ?_)
             ·refine Qb (Qa (S_m E rfl rfl ?_))
              clear E a; intro a E
              refine S_x (Qr E S rfl rfl rfl (Gc h1 (by (omega))) (Hp.le.refl _) ?_)
              clear E a S; rintro a v_47 w M_46 hM_46 hv_47 S E
              replace hw := hw.le hM_46
              replace hc := hc.le hM_46
              replace h1 := h1.le hM_46
              replace hb_1 := hM_46.2 _ _ hb_1
              replace hb_8 := hM_46.2 _ _ hb_8
              refine S_a E rfl rfl ?_
              clear E a; intro a E
              refine Qc (T_n (Qe (B_r ?_)))
              refine T_r ?_
              exact Qg E Tryz.results9 rfl ⟨_, rfl, M_46, (hM_2.trans (hM_3.trans (hM_4.trans (hM_7.trans (hM_9.trans (hM_11.trans hM_46)))))), (RdS.eqL hv_47 (by ((rw [show (sd % 47).toNat = 11 from by omega]; first | rfl | (simp [Jo, QS]; done))))), S⟩
             ·refine Qb (Qa (S_v E rfl (Qv E rfl rfl) rfl fun _ E1 => S_a E1 rfl rfl ?_))
              clear E a E1; intro a E
              refine Qc (T_n ?_)
              refine Qn E rfl (fun hc_48 => ?_) (fun hc_48 => ?_)
              ·refine Qb (Qa (S_m E rfl rfl fun _ E1 => S_m E1 rfl rfl ?_))
               clear E a E1; intro a E
               refine S_x (Qr E S rfl rfl rfl (GE h1 (by omega)) (Hp.le.refl _) ?_)
               clear E a S; rintro a _ w M_49 hM_49 ⟨v_50, rfl, hv_50⟩ S E
               replace hw := hw.le hM_49
               replace hc := hc.le hM_49
               replace h1 := h1.le hM_49
               replace hb_1 := hM_49.2 _ _ hb_1
               replace hb_8 := hM_49.2 _ _ hb_8
               refine S_v E rfl (Qm E rfl rfl) rfl fun _ E1 => S_v E1 rfl (Qm E1 rfl rfl) rfl ?_
               clear E a E1; intro a E
               refine S_x (Qr E S rfl rfl rfl (JW hv_50) (Hp.le.refl _) ?_)
               clear E a S; rintro a v_52 w M_51 hM_51 hv_52 S E
               replace hw := hw.le hM_51
               replace hc := hc.le hM_51
               replace h1 := h1.le hM_51
               replace hb_1 := hM_51.2 _ _ hb_1
               replace hb_8 := hM_51.2 _ _ hb_8
               refine S_a E rfl rfl ?_
               clear E a; intro a E
               refine Qc (T_n (Qe (B_r ?_)))
               refine T_r ?_
               exact Qg E Tryz.results9 rfl ⟨_, rfl, M_51, (hM_2.trans (hM_3.trans (hM_4.trans (hM_7.trans (hM_9.trans (hM_11.trans (hM_49.trans hM_51))))))), (RdS.eqL hv_52 (by ((rw [show (sd % 47).toNat = 12 from by omega]; first | rfl | (simp [Jo, QS]; done))))), S⟩
              ·refine Qb (Qa (S_v E rfl (Qv E rfl rfl) rfl fun _ E1 => S_a E1 rfl rfl ?_))
               clear E a E1; intro a E
               refine Qc (T_n ?_)
               refine Qn E rfl (fun hc_53 => ?_) (fun hc_53 => ?_)
               ·refine Qb (Qa (S_m E rfl rfl fun _ E1 => S_m E1 rfl rfl ?_))
                clear E a E1; intro a E
                refine S_x (Qr E S rfl rfl rfl (jN h1 (by omega)) (Hp.le.refl _) ?_)
                clear E a S; rintro a _ w M_54 hM_54 ⟨v_55, rfl, hv_55⟩ S E
                replace hw := hw.le hM_54
                replace hc := hc.le hM_54
                replace h1 := h1.le hM_54
                replace hb_1 := hM_54.2 _ _ hb_1
                replace hb_8 := hM_54.2 _ _ hb_8
                refine S_v E rfl (Qm E rfl rfl) rfl fun _ E1 => S_v E1 rfl (Qm E1 rfl rfl) rfl ?_
                clear E a E1; intro a E
                refine S_x (Qr E S rfl rfl rfl (JW hv_55) (Hp.le.refl _) ?_)
                clear E a S; rintro a v_57 w M_56 hM_56 hv_57 S E
                replace hw := hw.le hM_56
                replace hc := hc.le hM_56
                replace h1 := h1.le hM_56
                replace hb_1 := hM_56.2 _ _ hb_1
                replace hb_8 := hM_56.2 _ _ hb_8
                refine S_a E rfl rfl ?_
                clear E a; intro a E
                refine Qc (T_n (Qe (B_r ?_)))
                refine T_r ?_
                exact Qg E Tryz.results9 rfl ⟨_, rfl, M_56, (hM_2.trans (hM_3.trans (hM_4.trans (hM_7.trans (hM_9.trans (hM_11.trans (hM_54.trans hM_56))))))), (RdS.eqL hv_57 (by ((rw [show (sd % 47).toNat = 13 from by omega]; first | rfl | (simp [Jo, QS]; done))))), S⟩
               ·refine Qb (Qa (S_v E rfl (Qv E rfl rfl) rfl fun _ E1 => S_a E1 rfl rfl ?_))
                clear E a E1; intro a E
                refine Qc (T_n ?_)
                refine Qn E rfl (fun hc_58 => ?_) (fun hc_58 => ?_)
                ·refine Qb (Qa (S_m E rfl rfl fun _ E1 => S_m E1 rfl rfl ?_))
                 clear E a E1; intro a E
                 refine S_x (Qr E S rfl rfl rfl (US h1 (by omega)) (Hp.le.refl _) ?_)
                 clear E a S; rintro a _ w M_59 hM_59 ⟨v_60, rfl, hv_60⟩ S E
                 replace hw := hw.le hM_59
                 replace hc := hc.le hM_59
                 replace h1 := h1.le hM_59
                 replace hb_1 := hM_59.2 _ _ hb_1
                 replace hb_8 := hM_59.2 _ _ hb_8
                 refine S_v E rfl (Qm E rfl rfl) rfl fun _ E1 => S_v E1 rfl (Qm E1 rfl rfl) rfl ?_
                 clear E a E1; intro a E
                 refine S_x (Qr E S rfl rfl rfl (JW hv_60) (Hp.le.refl _) ?_)
                 clear E a S; rintro a v_62 w M_61 hM_61 hv_62 S E
                 replace hw := hw.le hM_61
                 replace hc := hc.le hM_61
                 replace h1 := h1.le hM_61
                 replace hb_1 := hM_61.2 _ _ hb_1
                 replace hb_8 := hM_61.2 _ _ hb_8
                 refine S_a E rfl rfl ?_
                 clear E a; intro a E
                 refine Qc (T_n (Qe (B_r ?_)))
                 refine T_r ?_
                 exact Qg E Tryz.results9 rfl ⟨_, rfl, M_61, (hM_2.trans (hM_3.trans (hM_4.trans (hM_7.trans (hM_9.trans (hM_11.trans (hM_59.trans hM_61))))))), (RdS.eqL hv_62 (by ((rw [show (sd % 47).toNat = 14 from by omega]; first | rfl | (simp [Jo, QS]; done))))), S⟩
                ·refine Qb (Qa (S_v E rfl (Qv E rfl rfl) rfl fun _ E1 => S_a E1 rfl rfl ?_))
                 clear E a E1; intro a E
                 refine Qc (T_n ?_)
                 refine Qn E rfl (fun hc_63 => ?_) (fun hc_63 => ?_)
                 ·refine Qb (Qa (S_m E rfl rfl fun _ E1 => S_v E1 rfl (QA E1 rfl (Tryz.isAgg41 _) (Tryz.sizeOf41 _) S.imm hb_8) rfl ?_))
                  clear E a E1; intro a E
                  refine S_x (Qr E S rfl rfl rfl (Vn h1 hw (by omega) (by assumption)) (Hp.le.refl _) ?_)
                  clear E a S; rintro a v_65 w M_64 hM_64 hv_65 S E
                  replace hw := hw.le hM_64
                  replace hc := hc.le hM_64
                  replace h1 := h1.le hM_64
                  replace hb_1 := hM_64.2 _ _ hb_1
                  replace hb_8 := hM_64.2 _ _ hb_8
                  refine S_a E rfl rfl ?_
                  clear E a; intro a E
                  refine Qc (T_n (Qe (B_r ?_)))
                  refine T_r ?_
                  exact Qg E Tryz.results9 rfl ⟨_, rfl, M_64, (hM_2.trans (hM_3.trans (hM_4.trans (hM_7.trans (hM_9.trans (hM_11.trans hM_64)))))), (RdS.eqL hv_65 (by ((rw [show (sd % 47).toNat = 15 from by omega]; first | rfl | (simp [Jo, QS]; done))))), S⟩
                 ·refine Qb (Qa (S_v E rfl (Qv E rfl rfl) rfl fun _ E1 => S_a E1 rfl rfl ?_))
                  clear E a E1; intro a E
                  refine Qc (T_n ?_)
                  refine Qn E rfl (fun hc_66 => ?_) (fun hc_66 => ?_)
                  ·refine Qb (Qa (S_m E rfl rfl fun _ E1 => S_v E1 rfl (QA E1 rfl (Tryz.isAgg41 _) (Tryz.sizeOf41 _) S.imm hb_8) rfl ?_))
                   clear E a E1; intro a E
                   refine S_x (Qr E S rfl rfl rfl (Vo h1 hw (by omega) (by assumption)) (Hp.le.refl _) ?_)
                   clear E a S; rintro a v_68 w M_67 hM_67 hv_68 S E
                   replace hw := hw.le hM_67
                   replace hc := hc.le hM_67
                   replace h1 := h1.le hM_67
                   replace hb_1 := hM_67.2 _ _ hb_1
                   replace hb_8 := hM_67.2 _ _ hb_8
                   refine S_a E rfl rfl ?_
                   clear E a; intro a E
                   refine Qc (T_n (Qe (B_r ?_)))
                   refine T_r ?_
                   exact Qg E Tryz.results9 rfl ⟨_, rfl, M_67, (hM_2.trans (hM_3.trans (hM_4.trans (hM_7.trans (hM_9.trans (hM_11.trans hM_67)))))), (RdS.eqL hv_68 (by ((rw [show (sd % 47).toNat = 16 from by omega]; first | rfl | (simp [Jo, QS]; done))))), S⟩
                  ·refine Qb (Qa (S_v E rfl (Qv E rfl rfl) rfl fun _ E1 => S_a E1 rfl rfl ?_))
                   clear E a E1; intro a E
                   refine Qc (T_n ?_)
                   refine Qn E rfl (fun hc_69 => ?_) (fun hc_69 => ?_)
                   ·refine Qb (Qa (S_m E rfl rfl fun _ E1 => S_v E1 rfl (QA E1 rfl (Tryz.isAgg41 _) (Tryz.sizeOf41 _) S.imm hb_8) rfl ?_))
                    clear E a E1; intro a E
                    refine S_x (Qr E S rfl rfl rfl (ZZ h1 hw (by omega) (by assumption)) (Hp.le.refl _) ?_)
                    clear E a S; rintro a v_71 w M_70 hM_70 hv_71 S E
                    replace hw := hw.le hM_70
                    replace hc := hc.le hM_70
                    replace h1 := h1.le hM_70
                    replace hb_1 := hM_70.2 _ _ hb_1
                    replace hb_8 := hM_70.2 _ _ hb_8
                    refine S_a E rfl rfl ?_
                    clear E a; intro a E
                    refine Qc (T_n (Qe (B_r ?_)))
                    refine T_r ?_
                    exact Qg E Tryz.results9 rfl ⟨_, rfl, M_70, (hM_2.trans (hM_3.trans (hM_4.trans (hM_7.trans (hM_9.trans (hM_11.trans hM_70)))))), (RdS.eqL hv_71 (by ((rw [show (sd % 47).toNat = 17 from by omega]; first | rfl | (simp [Jo, QS]; done))))), S⟩
                   ·refine Qb (Qa (S_v E rfl (Qv E rfl rfl) rfl fun _ E1 => S_a E1 rfl rfl ?_))
                    clear E a E1; intro a E
                    refine Qc (T_n ?_)
                    refine Qn E rfl (fun hc_72 => ?_) (fun hc_72 => ?_)
                    ·refine Qb (Qa (S_m E rfl rfl fun _ E1 => S_m E1 rfl rfl fun _ E2 => S_v E2 rfl (QA E2 rfl (Tryz.isAgg41 _) (Tryz.sizeOf41 _) S.imm hb_8) rfl ?_))
                     clear E a E1 E2; intro a E
                     refine S_x (Qr E S rfl rfl rfl (UB h1 hw (by omega) (by omega) (by (omega)) (by assumption)) (Hp.le.refl _) ?_)
                     clear E a S; rintro a _ w M_73 hM_73 ⟨v_74, rfl, hv_74⟩ S E
                     replace hw := hw.le hM_73
                     replace hc := hc.le hM_73
                     replace h1 := h1.le hM_73
                     replace hb_1 := hM_73.2 _ _ hb_1
                     refine S_v E rfl (Qm E rfl rfl) rfl fun _ E1 => S_v E1 rfl (Qm E1 rfl rfl) rfl ?_
                     clear E a E1; intro a E
                     refine S_x (Qr E S rfl rfl rfl (JW hv_74) (Hp.le.refl _) ?_)
                     clear E a S; rintro a v_76 w M_75 hM_75 hv_76 S E
                     replace hw := hw.le hM_75
                     replace hc := hc.le hM_75
                     replace h1 := h1.le hM_75
                     replace hb_1 := hM_75.2 _ _ hb_1
                     refine S_a E rfl rfl ?_
                     clear E a; intro a E
                     refine Qc (T_n (Qe (B_r ?_)))
                     refine T_r ?_
                     exact Qg E Tryz.results9 rfl ⟨_, rfl, M_75, (hM_2.trans (hM_3.trans (hM_4.trans (hM_7.trans (hM_9.trans (hM_11.trans (hM_73.trans hM_75))))))), (RdS.eqL hv_76 (by ((rw [show (sd % 47).toNat = 18 from by omega]; first | rfl | (simp [Jo, QS]; done))))), S⟩
                    ·refine Qb (Qa (S_v E rfl (Qv E rfl rfl) rfl fun _ E1 => S_a E1 rfl rfl ?_))
                     clear E a E1; intro a E
                     refine Qc (T_n ?_)
                     refine Qn E rfl (fun hc_77 => ?_) (fun hc_77 => ?_)
                     ·refine Qb (Qa (S_m E rfl rfl fun _ E1 => S_m E1 rfl rfl fun _ E2 => S_m E2 rfl rfl ?_))
                      clear E a E1 E2; intro a E
                      refine S_x (Qy (ys := [(((sn % 12).toNat : Nat) : Int), (((sm % 12).toNat : Nat) : Int)]) E S rfl T22 rfl rfl rfl ?_)
                      clear E a S; rintro a w v_78 E S
                      have S0 := S; clear S
                      obtain ⟨M_79, hM_79, hz_80, S⟩ := S0.freezeI (by ((simp; done)))
                      clear S0
                      replace hw := hw.le hM_79
                      replace hc := hc.le hM_79
                      replace h1 := h1.le hM_79
                      replace hb_1 := hM_79.2 _ _ hb_1
                      refine S_x (Qr E S rfl rfl rfl (UA h1 hz_80 (by (omega))) (Hp.le.refl _) ?_)
                      clear E a S; rintro a v_82 w M_81 hM_81 hv_82 S E
                      replace hw := hw.le hM_81
                      replace hc := hc.le hM_81
                      replace h1 := h1.le hM_81
                      replace hb_1 := hM_81.2 _ _ hb_1
                      refine S_a E rfl rfl ?_
                      clear E a; intro a E
                      refine Qc (T_n (Qe (B_r ?_)))
                      refine T_r ?_
                      exact Qg E Tryz.results9 rfl ⟨_, rfl, M_81, (hM_2.trans (hM_3.trans (hM_4.trans (hM_7.trans (hM_9.trans (hM_11.trans (hM_79.trans hM_81))))))), (RdS.eqL hv_82 (by ((rw [show (sd % 47).toNat = 19 from by omega]; first | rfl | (simp [Jo, QS]; done))))), S⟩
                     ·refine Qb (Qa (S_v E rfl (Qv E rfl rfl) rfl fun _ E1 => S_a E1 rfl rfl ?_))
                      clear E a E1; intro a E
                      refine Qc (T_n ?_)
                      refine Qn E rfl (fun hc_83 => ?_) (fun hc_83 => ?_)
                      ·refine Qb (Qa (S_m E rfl rfl fun _ E1 => S_m E1 rfl rfl fun _ E2 => S_m E2 rfl rfl ?_))
                       clear E a E1 E2; intro a E
                       refine S_x (Qr E S rfl rfl rfl (zd h1 (by omega) (by omega)) (Hp.le.refl _) ?_)
                       clear E a S; rintro a v_85 w M_84 hM_84 hv_85 S E
                       replace hw := hw.le hM_84
                       replace hc := hc.le hM_84
                       replace h1 := h1.le hM_84
                       replace hb_1 := hM_84.2 _ _ hb_1
                       refine S_a E rfl rfl ?_
                       clear E a; intro a E
                       refine Qc (T_n (Qe (B_r ?_)))
                       refine T_r ?_
                       exact Qg E Tryz.results9 rfl ⟨_, rfl, M_84, (hM_2.trans (hM_3.trans (hM_4.trans (hM_7.trans (hM_9.trans (hM_11.trans hM_84)))))), (RdS.eqL hv_85 (by ((rw [show (sd % 47).toNat = 20 from by omega]; first | rfl | (simp [Jo, QS]; done))))), S⟩
                      ·refine Qb (Qa (S_v E rfl (Qv E rfl rfl) rfl fun _ E1 => S_a E1 rfl rfl ?_))
                       clear E a E1; intro a E
                       refine Qc (T_n ?_)
                       refine Qn E rfl (fun hc_86 => ?_) (fun hc_86 => ?_)
                       ·refine Qb (Qa (S_m E rfl rfl fun _ E1 => S_m E1 rfl rfl fun _ E2 => S_m E2 rfl rfl fun _ E3 => S_v E3 rfl (Zf (m := (((sm % 12).toNat : Nat) : Int)) E3 rfl Tryz.underlying3 Tryz.underlying54 (by (rw [Jh]; omega))) rfl ?_))
                        clear E a E1 E2 E3; intro a E
                        refine S_x (Qr E S rfl rfl rfl (qc h1 (by omega) (by omega)) (Hp.le.refl _) ?_)
                        clear E a S; rintro a v_88 w M_87 hM_87 hv_88 S E
                        replace hw := hw.le hM_87
                        replace hc := hc.le hM_87
                        replace h1 := h1.le hM_87
                        replace hb_1 := hM_87.2 _ _ hb_1
                        refine S_a E rfl rfl ?_
                        clear E a; intro a E
                        refine Qc (T_n (Qe (B_r ?_)))
                        refine T_r ?_
                        exact Qg E Tryz.results9 rfl ⟨_, rfl, M_87, (hM_2.trans (hM_3.trans (hM_4.trans (hM_7.trans (hM_9.trans (hM_11.trans hM_87)))))), (RdS.eqL hv_88 (by ((rw [show (sd % 47).toNat = 21 from by omega]; first | rfl | (simp [Jo, QS]; done))))), S⟩
                       ·refine Qb (Qa (S_v E rfl (Qv E rfl rfl) rfl fun _ E1 => S_a E1 rfl rfl ?_))
                        clear E a E1; intro a E
                        refine Qc (T_n ?_)
                        refine Qn E rfl (fun hc_89 => ?_) (fun hc_89 => ?_)
                        ·refine Qb (Qa (S_m E rfl rfl fun _ E1 => S_v E1 rfl (Ql E1 rfl (Wj _)) rfl fun _ E2 => S_v E2 rfl (Qj E2 rfl Tryz.isAgg3 S.imm (Qo hb_1 rfl)) rfl fun _ E3 => S_v E3 rfl (Ql E3 rfl (Wi _)) rfl fun _ E4 => S_v E4 rfl (Qj E4 rfl Tryz.isAgg3 S.imm (Qo hb_1 rfl)) rfl fun _ E5 => S_m E5 rfl rfl ?_))
                         clear E a E1 E2 E3 E4 E5; intro a E
                         refine S_x (Qr E S rfl rfl rfl (Un h1 (by (omega))) (Hp.le.refl _) ?_)
                         clear E a S; rintro a v_91 w M_90 hM_90 hv_91 S E
                         replace hw := hw.le hM_90
                         replace hc := hc.le hM_90
                         replace h1 := h1.le hM_90
                         replace hb_1 := hM_90.2 _ _ hb_1
                         refine S_a E rfl rfl ?_
                         clear E a; intro a E
                         refine Qc (T_n (Qe (B_r ?_)))
                         refine T_r ?_
                         exact Qg E Tryz.results9 rfl ⟨_, rfl, M_90, (hM_2.trans (hM_3.trans (hM_4.trans (hM_7.trans (hM_9.trans (hM_11.trans hM_90)))))), (RdS.eqL hv_91 (by ((rw [show (sd % 47).toNat = 22 from by omega]; first | rfl | (simp [Jo, QS]; done))))), S⟩
                        ·refine Qb (Qa (S_v E rfl (Qv E rfl rfl) rfl fun _ E1 => S_a E1 rfl rfl ?_))
                         clear E a E1; intro a E
                         refine Qc (T_n ?_)
                         refine Qn E rfl (fun hc_92 => ?_) (fun hc_92 => ?_)
                         ·refine Qb (Qa (S_m E rfl rfl fun _ E1 => S_v E1 rfl (Ql E1 rfl (Wj _)) rfl fun _ E2 => S_v E2 rfl (Qj E2 rfl Tryz.isAgg3 S.imm (Qo hb_1 rfl)) rfl fun _ E3 => S_v E3 rfl (Ql E3 rfl (Wi _)) rfl fun _ E4 => S_v E4 rfl (Qj E4 rfl Tryz.isAgg3 S.imm (Qo hb_1 rfl)) rfl ?_))
                          clear E a E1 E2 E3 E4; intro a E
                          refine S_x (Qr E S rfl rfl rfl (UC h1 (by (omega))) (Hp.le.refl _) ?_)
                          clear E a S; rintro a v_94 w M_93 hM_93 hv_94 S E
                          replace hw := hw.le hM_93
                          replace hc := hc.le hM_93
                          replace h1 := h1.le hM_93
                          replace hb_1 := hM_93.2 _ _ hb_1
                          refine S_a E rfl rfl ?_
                          clear E a; intro a E
                          refine Qc (T_n (Qe (B_r ?_)))
                          refine T_r ?_
                          exact Qg E Tryz.results9 rfl ⟨_, rfl, M_93, (hM_2.trans (hM_3.trans (hM_4.trans (hM_7.trans (hM_9.trans (hM_11.trans hM_93)))))), (RdS.eqL hv_94 (by ((rw [show (sd % 47).toNat = 23 from by omega]; first | rfl | (simp [Jo, QS]; done))))), S⟩
                         ·refine Qh (B_n (T_n (Qb (Qa (S_v E rfl (QA E rfl (Tryz.isAgg32 _) (Tryz.sizeOf32 _) S.imm hb_1) rfl fun _ E1 => S_m E1 rfl rfl fun _ E2 => S_m E2 rfl rfl fun _ E3 => S_m E3 rfl rfl ?_)))))
                          clear E a E1 E2 E3; intro a E
                          refine S_x (Qr E S rfl rfl rfl (Gq hw hc h1 (by assumption) (by assumption) (by assumption) (by assumption) (by assumption) (by assumption) (by assumption) (by assumption) (by assumption) (by assumption) (by assumption) (by assumption) (by omega)) (Hp.le.refl _) ?_)
                          clear E a S; rintro a v_96 w M_95 hM_95 hv_96 S E
                          replace hw := hw.le hM_95
                          replace hc := hc.le hM_95
                          replace h1 := h1.le hM_95
                          replace hb_1 := hM_95.2 _ _ hb_1
                          refine S_a E rfl rfl ?_
                          clear E a; intro a E
                          refine Qc (T_n (Qe ?_))
                          exact Qg E Tryz.results9 rfl ⟨_, rfl, M_95, (hM_2.trans (hM_3.trans (hM_4.trans (hM_7.trans (hM_9.trans (hM_11.trans hM_95)))))), hv_96, S⟩
 ·have hb_1k96 := hb_1
  replace S := S.mono_heap (w' := World.drew _) rfl
  refine Wk (C := fun x w => agree M_4 w) (bf := (fun i => [])) [0, 1, 2, 3] [0, 1, 2, 3, 5, 4, 6, 7] (by kernel_rfl) (fun x hq => S.imm) ?_
  refine D_v E rfl rfl rfl (fun w hC => (Ql E rfl (Vt _))) fun _ E1 => D_v E1 rfl rfl rfl (fun w hC => (Jj (off := 3) (part := [.int .i64 pk, .int .i64 pn, wv]) E1 rfl (Tryz.isAgg27 _) (Tryz.sizeOf27 _) hC hb_1k96 rfl rfl)) fun _ E2 => D_v E2 rfl rfl rfl (fun w hC => (Ql E2 rfl (YZ _))) fun _ E3 => D_v E3 rfl rfl rfl (fun w hC => (Jj (off := 6) (part := [.int .i64 kk, .int .i64 kn]) E3 rfl (Tryz.isAgg30 _) (Tryz.sizeOf30 _) hC hb_1k96 rfl rfl)) ?_
  clear E a E1 E2 E3; intro a E
  refine D_x rfl rfl rfl (Jp (cs := #[.int .i64 0, .int .i64 0]) E S rfl Tryz.zeroValue42 rfl ?_)
  clear E a S; rintro a w b_97 E S
  refine ⟨fun x hq hb => (Qz (Hp.le.refl _) S.imm), ?_⟩
  refine D_x rfl rfl rfl (Jp (cs := #[.int .i64 0, .int .i64 0, .slice none 0 0]) E S rfl Tryz.zeroValue41 rfl ?_)
  clear E a S; rintro a w b_98 E S
  refine ⟨fun x hq hb => (Qz (Hp.le.refl _) S.imm), ?_⟩
  refine D_x rfl rfl rfl (Jz (us := [.int .i64 pk, .int .i64 pn, wv]) E S rfl rfl (Tryz.sizeOf41 _) rfl (by intro u hu; simp only [List.mem_cons, List.not_mem_nil, or_false] at hu; rcases hu with rfl | rfl | rfl <;> first | exact rfl | exact rfl | exact (RdS.one' hw)) ?_)
  clear E a S; rintro a w E S
  replace S : St w M_4 (blk b_98 (.cells #[.int .i64 pk, .int .i64 pn, wv] 41) :: _) := S
  have S0 := S; clear S
  obtain ⟨M_99, hM_99, hb_100, S⟩ := S0.freezeB
  clear S0
  replace hw := hw.le hM_99
  replace hc := hc.le hM_99
  replace h1 := h1.le hM_99
  replace hb_1 := hM_99.2 _ _ hb_1
  refine ⟨fun x hq hb => (Qz hM_99 S.imm), ?_⟩
  refine D_x rfl rfl rfl (Jz (us := [.int .i64 kk, .int .i64 kn]) E S rfl rfl (Tryz.sizeOf42 _) rfl (by intro u hu; simp only [List.mem_cons, List.not_mem_nil, or_false] at hu; rcases hu with rfl | rfl <;> first | exact rfl | exact rfl) ?_)
  clear E a S; rintro a w E S
  replace S : St w M_99 (blk b_97 (.cells #[.int .i64 kk, .int .i64 kn] 42) :: _) := S
  have S0 := S; clear S
  obtain ⟨M_101, hM_101, hb_102, S⟩ := S0.freezeB
  clear S0
  replace hw := hw.le hM_101
  replace hc := hc.le hM_101
  replace h1 := h1.le hM_101
  replace hb_1 := hM_101.2 _ _ hb_1
  replace hb_100 := hM_101.2 _ _ hb_100
  refine ⟨fun x hq hb => (Qz (hM_99.trans hM_101) S.imm), ?_⟩
  refine Ze (Zd ?_)
  refine T_n (Qb (Qb (Qa (S_v E rfl (Ql E rfl (VL _)) rfl fun _ E1 => S_v E1 rfl (Qj E1 rfl Tryz.isAgg3 S.imm (Qo hb_1 rfl)) rfl ?_))))
  clear E a E1; intro a E
  refine S_x (Qr E S rfl rfl rfl (JN (by omega) (by omega)) (Hp.le.refl _) ?_)
  clear E a S; rintro a _ w M_103 hM_103 rfl S E
  replace hw := hw.le hM_103
  replace hc := hc.le hM_103
  replace h1 := h1.le hM_103
  replace hb_1 := hM_103.2 _ _ hb_1
  replace hb_100 := hM_103.2 _ _ hb_100
  replace hb_102 := hM_103.2 _ _ hb_102
  refine Qc (T_n (Qi (Qb (Qa (S_v E rfl (Qv E rfl rfl) rfl fun _ E1 => S_a E1 rfl rfl ?_)))))
  clear E a E1; intro a E
  refine Qc (T_n ?_)
  refine Qn E rfl (fun hc_104 => ?_) (fun hc_104 => ?_)
  ·refine Qb (Qa (S_m E rfl rfl fun _ E1 => S_v E1 rfl (QA E1 rfl (Tryz.isAgg41 _) (Tryz.sizeOf41 _) S.imm hb_100) rfl ?_))
   clear E a E1; intro a E
   refine S_x (Qr E S rfl rfl rfl (UR h1 hw (by omega) (by (omega)) (by assumption)) (Hp.le.refl _) ?_)
   clear E a S; rintro a v_106 w M_105 hM_105 hv_106 S E
   replace hw := hw.le hM_105
   replace hc := hc.le hM_105
   replace h1 := h1.le hM_105
   replace hb_1 := hM_105.2 _ _ hb_1
   replace hb_100 := hM_105.2 _ _ hb_100
   replace hb_102 := hM_105.2 _ _ hb_102
   refine S_a E rfl rfl ?_
   clear E a; intro a E
   refine Qc (T_n (Qe (B_r ?_)))
   refine T_r ?_
   exact Qg E Tryz.results9 rfl ⟨_, rfl, M_105, (hM_2.trans (hM_3.trans (hM_4.trans (hM_99.trans (hM_101.trans (hM_103.trans hM_105)))))), (RdS.eqL hv_106 (by ((rw [show (sd % 47).toNat = 0 from by omega]; first | rfl | (simp [Jo, QS]; done))))), S⟩
  ·refine Qb (Qa (S_v E rfl (Qv E rfl rfl) rfl fun _ E1 => S_a E1 rfl rfl ?_))
   clear E a E1; intro a E
   refine Qc (T_n ?_)
   refine Qn E rfl (fun hc_107 => ?_) (fun hc_107 => ?_)
   ·refine Qb (Qa (S_m E rfl rfl fun _ E1 => S_v E1 rfl (QA E1 rfl (Tryz.isAgg41 _) (Tryz.sizeOf41 _) S.imm hb_100) rfl ?_))
    clear E a E1; intro a E
    refine S_x (Qr E S rfl rfl rfl (qe h1 hw (by omega) (by (omega)) (by assumption)) (Hp.le.refl _) ?_)
    clear E a S; rintro a v_109 w M_108 hM_108 hv_109 S E
    replace hw := hw.le hM_108
    replace hc := hc.le hM_108
    replace h1 := h1.le hM_108
    replace hb_1 := hM_108.2 _ _ hb_1
    replace hb_100 := hM_108.2 _ _ hb_100
    replace hb_102 := hM_108.2 _ _ hb_102
    refine S_a E rfl rfl ?_
    clear E a; intro a E
    refine Qc (T_n (Qe (B_r ?_)))
    refine T_r ?_
    exact Qg E Tryz.results9 rfl ⟨_, rfl, M_108, (hM_2.trans (hM_3.trans (hM_4.trans (hM_99.trans (hM_101.trans (hM_103.trans hM_108)))))), (RdS.eqL hv_109 (by ((rw [show (sd % 47).toNat = 1 from by omega]; first | rfl | (simp [Jo, QS]; done))))), S⟩
   ·refine Qb (Qa (S_v E rfl (Qv E rfl rfl) rfl fun _ E1 => S_a E1 rfl rfl ?_))
    clear E a E1; intro a E
    refine Qc (T_n ?_)
    refine Qn E rfl (fun hc_110 => ?_) (fun hc_110 => ?_)
    ·refine Qb (Qa (S_m E rfl rfl fun _ E1 => S_v E1 rfl (QA E1 rfl (Tryz.isAgg42 _) (Tryz.sizeOf42 _) S.imm hb_102) rfl ?_))
     clear E a E1; intro a E
     refine S_x (Qr E S rfl rfl rfl (vz h1 (by omega) (by (omega)) (by assumption)) (Hp.le.refl _) ?_)
     clear E a S; rintro a v_112 w M_111 hM_111 hv_112 S E
     replace hw := hw.le hM_111
     replace hc := hc.le hM_111
     replace h1 := h1.le hM_111
     replace hb_1 := hM_111.2 _ _ hb_1
     replace hb_100 := hM_111.2 _ _ hb_100
     replace hb_102 := hM_111.2 _ _ hb_102
     refine S_a E rfl rfl ?_
     clear E a; intro a E
     refine Qc (T_n (Qe (B_r ?_)))
     refine T_r ?_
     exact Qg E Tryz.results9 rfl ⟨_, rfl, M_111, (hM_2.trans (hM_3.trans (hM_4.trans (hM_99.trans (hM_101.trans (hM_103.trans hM_111)))))), (RdS.eqL hv_112 (by ((rw [show (sd % 47).toNat = 2 from by omega]; first | rfl | (simp [Jo, QS]; done))))), S⟩
    ·refine Qb (Qa (S_v E rfl (Qv E rfl rfl) rfl fun _ E1 => S_a E1 rfl rfl ?_))
     clear E a E1; intro a E
     refine Qc (T_n ?_)
     refine Qn E rfl (fun hc_113 => ?_) (fun hc_113 => ?_)
     ·refine Qb (Qa (S_m E rfl rfl fun _ E1 => S_v E1 rfl (QA E1 rfl (Tryz.isAgg41 _) (Tryz.sizeOf41 _) S.imm hb_100) rfl fun _ E2 => S_v E2 rfl (QA E2 rfl (Tryz.isAgg42 _) (Tryz.sizeOf42 _) S.imm hb_102) rfl ?_))
      clear E a E1 E2; intro a E
      refine S_x (Qr E S rfl rfl rfl (UQ h1 hw (by omega) (by omega) (by (omega)) (by assumption)) (Hp.le.refl _) ?_)
      clear E a S; rintro a v_115 w M_114 hM_114 hv_115 S E
      replace hw := hw.le hM_114
      replace hc := hc.le hM_114
      replace h1 := h1.le hM_114
      replace hb_1 := hM_114.2 _ _ hb_1
      replace hb_100 := hM_114.2 _ _ hb_100
      replace hb_102 := hM_114.2 _ _ hb_102
      refine S_a E rfl rfl ?_
      clear E a; intro a E
      refine Qc (T_n (Qe (B_r ?_)))
      refine T_r ?_
      exact Qg E Tryz.results9 rfl ⟨_, rfl, M_114, (hM_2.trans (hM_3.trans (hM_4.trans (hM_99.trans (hM_101.trans (hM_103.trans hM_114)))))), (RdS.eqL hv_115 (by ((rw [show (sd % 47).toNat = 3 from by omega]; first | rfl | (simp [Jo, QS]; done))))), S⟩
     ·refine Qb (Qa (S_v E rfl (Qv E rfl rfl) rfl fun _ E1 => S_a E1 rfl rfl ?_))
      clear E a E1; intro a E
      refine Qc (T_n ?_)
      refine Qn E rfl (fun hc_116 => ?_) (fun hc_116 => ?_)
      ·refine Qb (Qa (S_m E rfl rfl fun _ E1 => S_v E1 rfl (QA E1 rfl (Tryz.isAgg42 _) (Tryz.sizeOf42 _) S.imm hb_102) rfl ?_))
       clear E a E1; intro a E
       refine S_x (Qr E S rfl rfl rfl (Ge h1 (by omega) (by (omega)) (by assumption)) (Hp.le.refl _) ?_)
       clear E a S; rintro a v_118 w M_117 hM_117 hv_118 S E
       replace hw := hw.le hM_117
       replace hc := hc.le hM_117
       replace h1 := h1.le hM_117
       replace hb_1 := hM_117.2 _ _ hb_1
       replace hb_100 := hM_117.2 _ _ hb_100
       replace hb_102 := hM_117.2 _ _ hb_102
       refine S_a E rfl rfl ?_
       clear E a; intro a E
       refine Qc (T_n (Qe (B_r ?_)))
       refine T_r ?_
       exact Qg E Tryz.results9 rfl ⟨_, rfl, M_117, (hM_2.trans (hM_3.trans (hM_4.trans (hM_99.trans (hM_101.trans (hM_103.trans hM_117)))))), (RdS.eqL hv_118 (by ((rw [show (sd % 47).toNat = 4 from by omega]; first | rfl | (simp [Jo, QS]; done))))), S⟩
      ·refine Qb (Qa (S_v E rfl (Qv E rfl rfl) rfl fun _ E1 => S_a E1 rfl rfl ?_))
       clear E a E1; intro a E
       refine Qc (T_n ?_)
       refine Qn E rfl (fun hc_119 => ?_) (fun hc_119 => ?_)
       ·refine Qb (Qa (S_m E rfl rfl ?_))
        clear E a; intro a E
        refine S_x (Qr E S rfl rfl rfl (Wr h1 (by assumption) (by omega)) (Hp.le.refl _) ?_)
        clear E a S; rintro a v_121 w M_120 hM_120 hv_121 S E
        replace hw := hw.le hM_120
        replace hc := hc.le hM_120
        replace h1 := h1.le hM_120
        replace hb_1 := hM_120.2 _ _ hb_1
        replace hb_100 := hM_120.2 _ _ hb_100
        replace hb_102 := hM_120.2 _ _ hb_102
        refine S_a E rfl rfl ?_
        clear E a; intro a E
        refine Qc (T_n (Qe (B_r ?_)))
        refine T_r ?_
        exact Qg E Tryz.results9 rfl ⟨_, rfl, M_120, (hM_2.trans (hM_3.trans (hM_4.trans (hM_99.trans (hM_101.trans (hM_103.trans hM_120)))))), (RdS.eqL hv_121 (by ((rw [show (sd % 47).toNat = 5 from by omega]; first | rfl | (simp [Jo, QS]; done))))), S⟩
       ·refine Qb (Qa (S_v E rfl (Qv E rfl rfl) rfl fun _ E1 => S_a E1 rfl rfl ?_))
        clear E a E1; intro a E
        refine Qc (T_n ?_)
        refine Qn E rfl (fun hc_122 => ?_) (fun hc_122 => ?_)
        ·refine Qb (Qa (S_m E rfl rfl fun _ E1 => S_v E1 rfl (QA E1 rfl (Tryz.isAgg42 _) (Tryz.sizeOf42 _) S.imm hb_102) rfl ?_))
         clear E a E1; intro a E
         refine S_x (Qr E S rfl rfl rfl (UM h1 (by omega) (by assumption) (by (omega))) (Hp.le.refl _) ?_)
         clear E a S; rintro a v_124 w M_123 hM_123 hv_124 S E
         replace hw := hw.le hM_123
         replace hc := hc.le hM_123
         replace h1 := h1.le hM_123
         replace hb_1 := hM_123.2 _ _ hb_1
         replace hb_100 := hM_123.2 _ _ hb_100
         replace hb_102 := hM_123.2 _ _ hb_102
         refine S_a E rfl rfl ?_
         clear E a; intro a E
         refine Qc (T_n (Qe (B_r ?_)))
         refine T_r ?_
         exact Qg E Tryz.results9 rfl ⟨_, rfl, M_123, (hM_2.trans (hM_3.trans (hM_4.trans (hM_99.trans (hM_101.trans (hM_103.trans hM_123)))))), (RdS.eqL hv_124 (by ((rw [show (sd % 47).toNat = 6 from by omega]; first | rfl | (simp [Jo, QS]; done))))), S⟩
        ·refine Qb (Qa (S_v E rfl (Qv E rfl rfl) rfl fun _ E1 => S_a E1 rfl rfl ?_))
         clear E a E1; intro a E
         refine Qc (T_n ?_)
         refine Qn E rfl (fun hc_125 => ?_) (fun hc_125 => ?_)
         ·refine Qb (Qa (S_m E rfl rfl ?_))
          clear E a; intro a E
          refine S_x (Qr E S rfl rfl rfl (VR h1 (by assumption) (by (omega))) (Hp.le.refl _) ?_)
          clear E a S; rintro a v_127 w M_126 hM_126 hv_127 S E
          replace hw := hw.le hM_126
          replace hc := hc.le hM_126
          replace h1 := h1.le hM_126
          replace hb_1 := hM_126.2 _ _ hb_1
          replace hb_100 := hM_126.2 _ _ hb_100
          replace hb_102 := hM_126.2 _ _ hb_102
          refine S_a E rfl rfl ?_
          clear E a; intro a E
          refine Qc (T_n (Qe (B_r ?_)))
          refine T_r ?_
          exact Qg E Tryz.results9 rfl ⟨_, rfl, M_126, (hM_2.trans (hM_3.trans (hM_4.trans (hM_99.trans (hM_101.trans (hM_103.trans hM_126)))))), (RdS.eqL hv_127 (by ((rw [show (sd % 47).toNat = 7 from by omega]; first | rfl | exact fu_eq _ _)))), S⟩
         ·refine Qb (Qa (S_v E rfl (Qv E rfl rfl) rfl fun _ E1 => S_a E1 rfl rfl ?_))
          clear E a E1; intro a E
          refine Qc (T_n ?_)
          refine Qn E rfl (fun hc_128 => ?_) (fun hc_128 => ?_)
          ·refine Qb (Qa (S_m E rfl rfl ?_))
           clear E a; intro a E
           refine S_x (Qr E S rfl rfl rfl (Vb h1 (by assumption) (by (omega))) (Hp.le.refl _) ?_)
           clear E a S; rintro a v_130 w M_129 hM_129 hv_130 S E
           replace hw := hw.le hM_129
           replace hc := hc.le hM_129
           replace h1 := h1.le hM_129
           replace hb_1 := hM_129.2 _ _ hb_1
           replace hb_100 := hM_129.2 _ _ hb_100
           replace hb_102 := hM_129.2 _ _ hb_102
           refine S_a E rfl rfl ?_
           clear E a; intro a E
           refine Qc (T_n (Qe (B_r ?_)))
           refine T_r ?_
           exact Qg E Tryz.results9 rfl ⟨_, rfl, M_129, (hM_2.trans (hM_3.trans (hM_4.trans (hM_99.trans (hM_101.trans (hM_103.trans hM_129)))))), (RdS.eqL hv_130 (by ((rw [show (sd % 47).toNat = 8 from by omega]; first | rfl | exact Wx _ _)))), S⟩
          ·refine Qb (Qa (S_v E rfl (Qv E rfl rfl) rfl fun _ E1 => S_a E1 rfl rfl ?_))
           clear E a E1; intro a E
           refine Qc (T_n ?_)
           refine Qn E rfl (fun hc_131 => ?_) (fun hc_131 => ?_)
           ·refine Qb (Qa (S_m E rfl rfl fun _ E1 => S_v E1 rfl (QA E1 rfl (Tryz.isAgg42 _) (Tryz.sizeOf42 _) S.imm hb_102) rfl ?_))
            clear E a E1; intro a E
            refine S_x (Qr E S rfl rfl rfl (ZY h1 (by omega) (by assumption) (by (omega))) (Hp.le.refl _) ?_)
            clear E a S; rintro a v_133 w M_132 hM_132 hv_133 S E
            replace hw := hw.le hM_132
            replace hc := hc.le hM_132
            replace h1 := h1.le hM_132
            replace hb_1 := hM_132.2 _ _ hb_1
            replace hb_100 := hM_132.2 _ _ hb_100
            replace hb_102 := hM_132.2 _ _ hb_102
            refine S_a E rfl rfl ?_
            clear E a; intro a E
            refine Qc (T_n (Qe (B_r ?_)))
            refine T_r ?_
            exact Qg E Tryz.results9 rfl ⟨_, rfl, M_132, (hM_2.trans (hM_3.trans (hM_4.trans (hM_99.trans (hM_101.trans (hM_103.trans hM_132)))))), (RdS.eqL hv_133 (by ((rw [show (sd % 47).toNat = 9 from by omega]; first | rfl | exact fu_eq _ _)))), S⟩
           ·refine Qb (Qa (S_v E rfl (Qv E rfl rfl) rfl fun _ E1 => S_a E1 rfl rfl ?_))
            clear E a E1; intro a E
            refine Qc (T_n ?_)
            refine Qn E rfl (fun hc_134 => ?_) (fun hc_134 => ?_)
            ·refine Qb (Qa (S_m E rfl rfl fun _ E1 => S_v E1 rfl (QA E1 rfl (Tryz.isAgg42 _) (Tryz.sizeOf42 _) S.imm hb_102) rfl ?_))
             clear E a E1; intro a E
             refine S_x (Qr E S rfl rfl rfl (Zy h1 (by omega) (by assumption) (by (omega))) (Hp.le.refl _) ?_)
             clear E a S; rintro a v_136 w M_135 hM_135 hv_136 S E
             replace hw := hw.le hM_135
             replace hc := hc.le hM_135
             replace h1 := h1.le hM_135
             replace hb_1 := hM_135.2 _ _ hb_1
             replace hb_100 := hM_135.2 _ _ hb_100
             refine S_a E rfl rfl ?_
             clear E a; intro a E
             refine Qc (T_n (Qe (B_r ?_)))
             refine T_r ?_
             exact Qg E Tryz.results9 rfl ⟨_, rfl, M_135, (hM_2.trans (hM_3.trans (hM_4.trans (hM_99.trans (hM_101.trans (hM_103.trans hM_135)))))), (RdS.eqL hv_136 (by ((rw [show (sd % 47).toNat = 10 from by omega]; first | rfl | exact Wx _ _)))), S⟩
            ·refine Qb (Qa (S_v E rfl (Qv E rfl rfl) rfl fun _ E1 => S_a E1 rfl rfl ?_))
             clear E a E1; intro a E
             refine Qc (T_n ?_)
             refine Qn E rfl (fun hc_137 => ?_) (fun hc_137 => ?_)
             ·refine Qb (Qa (S_m E rfl rfl ?_))
              clear E a; intro a E
              refine S_x (Qr E S rfl rfl rfl (Gc h1 (by (omega))) (Hp.le.refl _) ?_)
              clear E a S; rintro a v_139 w M_138 hM_138 hv_139 S E
              replace hw := hw.le hM_138
              replace hc := hc.le hM_138
              replace h1 := h1.le hM_138
              replace hb_1 := hM_138.2 _ _ hb_1
              replace hb_100 := hM_138.2 _ _ hb_100
              refine S_a E rfl rfl ?_
              clear E a; intro a E
              refine Qc (T_n (Qe (B_r ?_)))
              refine T_r ?_
              exact Qg E Tryz.results9 rfl ⟨_, rfl, M_138, (hM_2.trans (hM_3.trans (hM_4.trans (hM_99.trans (hM_101.trans (hM_103.trans hM_138)))))), (RdS.eqL hv_139 (by ((rw [show (sd % 47).toNat = 11 from by omega]; first | rfl | (simp [Jo, QS]; done))))), S⟩
             ·refine Qb (Qa (S_v E rfl (Qv E rfl rfl) rfl fun _ E1 => S_a E1 rfl rfl ?_))
              clear E a E1; intro a E
              refine Qc (T_n ?_)
              refine Qn E rfl (fun hc_140 => ?_) (fun hc_140 => ?_)
              ·refine Qb (Qa (S_m E rfl rfl fun _ E1 => S_m E1 rfl rfl ?_))
               clear E a E1; intro a E
               refine S_x (Qr E S rfl rfl rfl (GE h1 (by omega)) (Hp.le.refl _) ?_)
               clear E a S; rintro a _ w M_141 hM_141 ⟨v_142, rfl, hv_142⟩ S E
               replace hw := hw.le hM_141
               replace hc := hc.le hM_141
               replace h1 := h1.le hM_141
               replace hb_1 := hM_141.2 _ _ hb_1
               replace hb_100 := hM_141.2 _ _ hb_100
               refine S_v E rfl (Qm E rfl rfl) rfl fun _ E1 => S_v E1 rfl (Qm E1 rfl rfl) rfl ?_
               clear E a E1; intro a E
               refine S_x (Qr E S rfl rfl rfl (JW hv_142) (Hp.le.refl _) ?_)
               clear E a S; rintro a v_144 w M_143 hM_143 hv_144 S E
               replace hw := hw.le hM_143
               replace hc := hc.le hM_143
               replace h1 := h1.le hM_143
               replace hb_1 := hM_143.2 _ _ hb_1
               replace hb_100 := hM_143.2 _ _ hb_100
               refine S_a E rfl rfl ?_
               clear E a; intro a E
               refine Qc (T_n (Qe (B_r ?_)))
               refine T_r ?_
               exact Qg E Tryz.results9 rfl ⟨_, rfl, M_143, (hM_2.trans (hM_3.trans (hM_4.trans (hM_99.trans (hM_101.trans (hM_103.trans (hM_141.trans hM_143))))))), (RdS.eqL hv_144 (by ((rw [show (sd % 47).toNat = 12 from by omega]; first | rfl | (simp [Jo, QS]; done))))), S⟩
              ·refine Qb (Qa (S_v E rfl (Qv E rfl rfl) rfl fun _ E1 => S_a E1 rfl rfl ?_))
               clear E a E1; intro a E
               refine Qc (T_n ?_)
               refine Qn E rfl (fun hc_145 => ?_) (fun hc_145 => ?_)
               ·refine Qb (Qa (S_m E rfl rfl fun _ E1 => S_m E1 rfl rfl ?_))
                clear E a E1; intro a E
                refine S_x (Qr E S rfl rfl rfl (jN h1 (by omega)) (Hp.le.refl _) ?_)
                clear E a S; rintro a _ w M_146 hM_146 ⟨v_147, rfl, hv_147⟩ S E
                replace hw := hw.le hM_146
                replace hc := hc.le hM_146
                replace h1 := h1.le hM_146
                replace hb_1 := hM_146.2 _ _ hb_1
                replace hb_100 := hM_146.2 _ _ hb_100
                refine S_v E rfl (Qm E rfl rfl) rfl fun _ E1 => S_v E1 rfl (Qm E1 rfl rfl) rfl ?_
                clear E a E1; intro a E
                refine S_x (Qr E S rfl rfl rfl (JW hv_147) (Hp.le.refl _) ?_)
                clear E a S; rintro a v_149 w M_148 hM_148 hv_149 S E
                replace hw := hw.le hM_148
                replace hc := hc.le hM_148
                replace h1 := h1.le hM_148
                replace hb_1 := hM_148.2 _ _ hb_1
                replace hb_100 := hM_148.2 _ _ hb_100
                refine S_a E rfl rfl ?_
                clear E a; intro a E
                refine Qc (T_n (Qe (B_r ?_)))
                refine T_r ?_
                exact Qg E Tryz.results9 rfl ⟨_, rfl, M_148, (hM_2.trans (hM_3.trans (hM_4.trans (hM_99.trans (hM_101.trans (hM_103.trans (hM_146.trans hM_148))))))), (RdS.eqL hv_149 (by ((rw [show (sd % 47).toNat = 13 from by omega]; first | rfl | (simp [Jo, QS]; done))))), S⟩
               ·refine Qb (Qa (S_v E rfl (Qv E rfl rfl) rfl fun _ E1 => S_a E1 rfl rfl ?_))
                clear E a E1; intro a E
                refine Qc (T_n ?_)
                refine Qn E rfl (fun hc_150 => ?_) (fun hc_150 => ?_)
                ·refine Qb (Qa (S_m E rfl rfl fun _ E1 => S_m E1 rfl rfl ?_))
                 clear E a E1; intro a E
                 refine S_x (Qr E S rfl rfl rfl (US h1 (by omega)) (Hp.le.refl _) ?_)
                 clear E a S; rintro a _ w M_151 hM_151 ⟨v_152, rfl, hv_152⟩ S E
                 replace hw := hw.le hM_151
                 replace hc := hc.le hM_151
                 replace h1 := h1.le hM_151
                 replace hb_1 := hM_151.2 _ _ hb_1
                 replace hb_100 := hM_151.2 _ _ hb_100
                 refine S_v E rfl (Qm E rfl rfl) rfl fun _ E1 => S_v E1 rfl (Qm E1 rfl rfl) rfl ?_
                 clear E a E1; intro a E
                 refine S_x (Qr E S rfl rfl rfl (JW hv_152) (Hp.le.refl _) ?_)
                 clear E a S; rintro a v_154 w M_153 hM_153 hv_154 S E
                 replace hw := hw.le hM_153
                 replace hc := hc.le hM_153
                 replace h1 := h1.le hM_153
                 replace hb_1 := hM_153.2 _ _ hb_1
                 replace hb_100 := hM_153.2 _ _ hb_100
                 refine S_a E rfl rfl ?_
                 clear E a; intro a E
                 refine Qc (T_n (Qe (B_r ?_)))
                 refine T_r ?_
                 exact Qg E Tryz.results9 rfl ⟨_, rfl, M_153, (hM_2.trans (hM_3.trans (hM_4.trans (hM_99.trans (hM_101.trans (hM_103.trans (hM_151.trans hM_153))))))), (RdS.eqL hv_154 (by ((rw [show (sd % 47).toNat = 14 from by omega]; first | rfl | (simp [Jo, QS]; done))))), S⟩
                ·refine Qb (Qa (S_v E rfl (Qv E rfl rfl) rfl fun _ E1 => S_a E1 rfl rfl ?_))
                 clear E a E1; intro a E
                 refine Qc (T_n ?_)
                 refine Qn E rfl (fun hc_155 => ?_) (fun hc_155 => ?_)
                 ·refine Qb (Qa (S_m E rfl rfl fun _ E1 => S_v E1 rfl (QA E1 rfl (Tryz.isAgg41 _) (Tryz.sizeOf41 _) S.imm hb_100) rfl ?_))
                  clear E a E1; intro a E
                  refine S_x (Qr E S rfl rfl rfl (Vn h1 hw (by omega) (by assumption)) (Hp.le.refl _) ?_)
                  clear E a S; rintro a v_157 w M_156 hM_156 hv_157 S E
                  replace hw := hw.le hM_156
                  replace hc := hc.le hM_156
                  replace h1 := h1.le hM_156
                  replace hb_1 := hM_156.2 _ _ hb_1
                  replace hb_100 := hM_156.2 _ _ hb_100
                  refine S_a E rfl rfl ?_
                  clear E a; intro a E
                  refine Qc (T_n (Qe (B_r ?_)))
                  refine T_r ?_
                  exact Qg E Tryz.results9 rfl ⟨_, rfl, M_156, (hM_2.trans (hM_3.trans (hM_4.trans (hM_99.trans (hM_101.trans (hM_103.trans hM_156)))))), (RdS.eqL hv_157 (by ((rw [show (sd % 47).toNat = 15 from by omega]; first | rfl | (simp [Jo, QS]; done))))), S⟩
                 ·refine Qb (Qa (S_v E rfl (Qv E rfl rfl) rfl fun _ E1 => S_a E1 rfl rfl ?_))
                  clear E a E1; intro a E
                  refine Qc (T_n ?_)
                  refine Qn E rfl (fun hc_158 => ?_) (fun hc_158 => ?_)
                  ·refine Qb (Qa (S_m E rfl rfl fun _ E1 => S_v E1 rfl (QA E1 rfl (Tryz.isAgg41 _) (Tryz.sizeOf41 _) S.imm hb_100) rfl ?_))
                   clear E a E1; intro a E
                   refine S_x (Qr E S rfl rfl rfl (Vo h1 hw (by omega) (by assumption)) (Hp.le.refl _) ?_)
                   clear E a S; rintro a v_160 w M_159 hM_159 hv_160 S E
                   replace hw := hw.le hM_159
                   replace hc := hc.le hM_159
                   replace h1 := h1.le hM_159
                   replace hb_1 := hM_159.2 _ _ hb_1
                   replace hb_100 := hM_159.2 _ _ hb_100
                   refine S_a E rfl rfl ?_
                   clear E a; intro a E
                   refine Qc (T_n (Qe (B_r ?_)))
                   refine T_r ?_
                   exact Qg E Tryz.results9 rfl ⟨_, rfl, M_159, (hM_2.trans (hM_3.trans (hM_4.trans (hM_99.trans (hM_101.trans (hM_103.trans hM_159)))))), (RdS.eqL hv_160 (by ((rw [show (sd % 47).toNat = 16 from by omega]; first | rfl | (simp [Jo, QS]; done))))), S⟩
                  ·refine Qb (Qa (S_v E rfl (Qv E rfl rfl) rfl fun _ E1 => S_a E1 rfl rfl ?_))
                   clear E a E1; intro a E
                   refine Qc (T_n ?_)
                   refine Qn E rfl (fun hc_161 => ?_) (fun hc_161 => ?_)
                   ·refine Qb (Qa (S_m E rfl rfl fun _ E1 => S_v E1 rfl (QA E1 rfl (Tryz.isAgg41 _) (Tryz.sizeOf41 _) S.imm hb_100) rfl ?_))
                    clear E a E1; intro a E
                    refine S_x (Qr E S rfl rfl rfl (ZZ h1 hw (by omega) (by assumption)) (Hp.le.refl _) ?_)
                    clear E a S; rintro a v_163 w M_162 hM_162 hv_163 S E
                    replace hw := hw.le hM_162
                    replace hc := hc.le hM_162
                    replace h1 := h1.le hM_162
                    replace hb_1 := hM_162.2 _ _ hb_1
                    replace hb_100 := hM_162.2 _ _ hb_100
                    refine S_a E rfl rfl ?_
                    clear E a; intro a E
                    refine Qc (T_n (Qe (B_r ?_)))
                    refine T_r ?_
                    exact Qg E Tryz.results9 rfl ⟨_, rfl, M_162, (hM_2.trans (hM_3.trans (hM_4.trans (hM_99.trans (hM_101.trans (hM_103.trans hM_162)))))), (RdS.eqL hv_163 (by ((rw [show (sd % 47).toNat = 17 from by omega]; first | rfl | (simp [Jo, QS]; done))))), S⟩
                   ·refine Qb (Qa (S_v E rfl (Qv E rfl rfl) rfl fun _ E1 => S_a E1 rfl rfl ?_))
                    clear E a E1; intro a E
                    refine Qc (T_n ?_)
                    refine Qn E rfl (fun hc_164 => ?_) (fun hc_164 => ?_)
                    ·refine Qb (Qa (S_m E rfl rfl fun _ E1 => S_m E1 rfl rfl fun _ E2 => S_v E2 rfl (QA E2 rfl (Tryz.isAgg41 _) (Tryz.sizeOf41 _) S.imm hb_100) rfl ?_))
                     clear E a E1 E2; intro a E
                     refine S_x (Qr E S rfl rfl rfl (UB h1 hw (by omega) (by omega) (by (omega)) (by assumption)) (Hp.le.refl _) ?_)
                     clear E a S; rintro a _ w M_165 hM_165 ⟨v_166, rfl, hv_166⟩ S E
                     replace hw := hw.le hM_165
                     replace hc := hc.le hM_165
                     replace h1 := h1.le hM_165
                     replace hb_1 := hM_165.2 _ _ hb_1
                     refine S_v E rfl (Qm E rfl rfl) rfl fun _ E1 => S_v E1 rfl (Qm E1 rfl rfl) rfl ?_
                     clear E a E1; intro a E
                     refine S_x (Qr E S rfl rfl rfl (JW hv_166) (Hp.le.refl _) ?_)
                     clear E a S; rintro a v_168 w M_167 hM_167 hv_168 S E
                     replace hw := hw.le hM_167
                     replace hc := hc.le hM_167
                     replace h1 := h1.le hM_167
                     replace hb_1 := hM_167.2 _ _ hb_1
                     refine S_a E rfl rfl ?_
                     clear E a; intro a E
                     refine Qc (T_n (Qe (B_r ?_)))
                     refine T_r ?_
                     exact Qg E Tryz.results9 rfl ⟨_, rfl, M_167, (hM_2.trans (hM_3.trans (hM_4.trans (hM_99.trans (hM_101.trans (hM_103.trans (hM_165.trans hM_167))))))), (RdS.eqL hv_168 (by ((rw [show (sd % 47).toNat = 18 from by omega]; first | rfl | (simp [Jo, QS]; done))))), S⟩
                    ·refine Qb (Qa (S_v E rfl (Qv E rfl rfl) rfl fun _ E1 => S_a E1 rfl rfl ?_))
                     clear E a E1; intro a E
                     refine Qc (T_n ?_)
                     refine Qn E rfl (fun hc_169 => ?_) (fun hc_169 => ?_)
                     ·refine Qb (Qa (S_m E rfl rfl fun _ E1 => S_m E1 rfl rfl fun _ E2 => S_m E2 rfl rfl ?_))
                      clear E a E1 E2; intro a E
                      refine S_x (Qy (ys := [(((sn % 12).toNat : Nat) : Int), (((sm % 12).toNat : Nat) : Int)]) E S rfl T22 rfl rfl rfl ?_)
                      clear E a S; rintro a w v_170 E S
                      have S0 := S; clear S
                      obtain ⟨M_171, hM_171, hz_172, S⟩ := S0.freezeI (by ((simp; done)))
                      clear S0
                      replace hw := hw.le hM_171
                      replace hc := hc.le hM_171
                      replace h1 := h1.le hM_171
                      replace hb_1 := hM_171.2 _ _ hb_1
                      refine S_x (Qr E S rfl rfl rfl (UA h1 hz_172 (by (omega))) (Hp.le.refl _) ?_)
                      clear E a S; rintro a v_174 w M_173 hM_173 hv_174 S E
                      replace hw := hw.le hM_173
                      replace hc := hc.le hM_173
                      replace h1 := h1.le hM_173
                      replace hb_1 := hM_173.2 _ _ hb_1
                      refine S_a E rfl rfl ?_
                      clear E a; intro a E
                      refine Qc (T_n (Qe (B_r ?_)))
                      refine T_r ?_
                      exact Qg E Tryz.results9 rfl ⟨_, rfl, M_173, (hM_2.trans (hM_3.trans (hM_4.trans (hM_99.trans (hM_101.trans (hM_103.trans (hM_171.trans hM_173))))))), (RdS.eqL hv_174 (by ((rw [show (sd % 47).toNat = 19 from by omega]; first | rfl | (simp [Jo, QS]; done))))), S⟩
                     ·refine Qb (Qa (S_v E rfl (Qv E rfl rfl) rfl fun _ E1 => S_a E1 rfl rfl ?_))
                      clear E a E1; intro a E
                      refine Qc (T_n ?_)
                      refine Qn E rfl (fun hc_175 => ?_) (fun hc_175 => ?_)
                      ·refine Qb (Qa (S_m E rfl rfl fun _ E1 => S_m E1 rfl rfl fun _ E2 => S_m E2 rfl rfl ?_))
                       clear E a E1 E2; intro a E
                       refine S_x (Qr E S rfl rfl rfl (zd h1 (by omega) (by omega)) (Hp.le.refl _) ?_)
                       clear E a S; rintro a v_177 w M_176 hM_176 hv_177 S E
                       replace hw := hw.le hM_176
                       replace hc := hc.le hM_176
                       replace h1 := h1.le hM_176
                       replace hb_1 := hM_176.2 _ _ hb_1
                       refine S_a E rfl rfl ?_
                       clear E a; intro a E
                       refine Qc (T_n (Qe (B_r ?_)))
                       refine T_r ?_
                       exact Qg E Tryz.results9 rfl ⟨_, rfl, M_176, (hM_2.trans (hM_3.trans (hM_4.trans (hM_99.trans (hM_101.trans (hM_103.trans hM_176)))))), (RdS.eqL hv_177 (by ((rw [show (sd % 47).toNat = 20 from by omega]; first | rfl | (simp [Jo, QS]; done))))), S⟩
                      ·refine Qb (Qa (S_v E rfl (Qv E rfl rfl) rfl fun _ E1 => S_a E1 rfl rfl ?_))
                       clear E a E1; intro a E
                       refine Qc (T_n ?_)
                       refine Qn E rfl (fun hc_178 => ?_) (fun hc_178 => ?_)
                       ·refine Qb (Qa (S_m E rfl rfl fun _ E1 => S_m E1 rfl rfl fun _ E2 => S_m E2 rfl rfl fun _ E3 => S_v E3 rfl (Zf (m := (((sm % 12).toNat : Nat) : Int)) E3 rfl Tryz.underlying3 Tryz.underlying54 (by (rw [Jh]; omega))) rfl ?_))
                        clear E a E1 E2 E3; intro a E
                        refine S_x (Qr E S rfl rfl rfl (qc h1 (by omega) (by omega)) (Hp.le.refl _) ?_)
                        clear E a S; rintro a v_180 w M_179 hM_179 hv_180 S E
                        replace hw := hw.le hM_179
                        replace hc := hc.le hM_179
                        replace h1 := h1.le hM_179
                        replace hb_1 := hM_179.2 _ _ hb_1
                        refine S_a E rfl rfl ?_
                        clear E a; intro a E
                        refine Qc (T_n (Qe (B_r ?_)))
                        refine T_r ?_
                        exact Qg E Tryz.results9 rfl ⟨_, rfl, M_179, (hM_2.trans (hM_3.trans (hM_4.trans (hM_99.trans (hM_101.trans (hM_103.trans hM_179)))))), (RdS.eqL hv_180 (by ((rw [show (sd % 47).toNat = 21 from by omega]; first | rfl | (simp [Jo, QS]; done))))), S⟩
                       ·refine Qb (Qa (S_v E rfl (Qv E rfl rfl) rfl fun _ E1 => S_a E1 rfl rfl ?_))
                        clear E a E1; intro a E
                        refine Qc (T_n ?_)
                        refine Qn E rfl (fun hc_181 => ?_) (fun hc_181 => ?_)
                        ·refine Qb (Qa (S_m E rfl rfl fun _ E1 => S_v E1 rfl (Ql E1 rfl (Wj _)) rfl fun _ E2 => S_v E2 rfl (Qj E2 rfl Tryz.isAgg3 S.imm (Qo hb_1 rfl)) rfl fun _ E3 => S_v E3 rfl (Ql E3 rfl (Wi _)) rfl fun _ E4 => S_v E4 rfl (Qj E4 rfl Tryz.isAgg3 S.imm (Qo hb_1 rfl)) rfl fun _ E5 => S_m E5 rfl rfl ?_))
                         clear E a E1 E2 E3 E4 E5; intro a E
                         refine S_x (Qr E S rfl rfl rfl (Un h1 (by (omega))) (Hp.le.refl _) ?_)
                         clear E a S; rintro a v_183 w M_182 hM_182 hv_183 S E
                         replace hw := hw.le hM_182
                         replace hc := hc.le hM_182
                         replace h1 := h1.le hM_182
                         replace hb_1 := hM_182.2 _ _ hb_1
                         refine S_a E rfl rfl ?_
                         clear E a; intro a E
                         refine Qc (T_n (Qe (B_r ?_)))
                         refine T_r ?_
                         exact Qg E Tryz.results9 rfl ⟨_, rfl, M_182, (hM_2.trans (hM_3.trans (hM_4.trans (hM_99.trans (hM_101.trans (hM_103.trans hM_182)))))), (RdS.eqL hv_183 (by ((rw [show (sd % 47).toNat = 22 from by omega]; first | rfl | (simp [Jo, QS]; done))))), S⟩
                        ·refine Qb (Qa (S_v E rfl (Qv E rfl rfl) rfl fun _ E1 => S_a E1 rfl rfl ?_))
                         clear E a E1; intro a E
                         refine Qc (T_n ?_)
                         refine Qn E rfl (fun hc_184 => ?_) (fun hc_184 => ?_)
                         ·refine Qb (Qa (S_m E rfl rfl fun _ E1 => S_v E1 rfl (Ql E1 rfl (Wj _)) rfl fun _ E2 => S_v E2 rfl (Qj E2 rfl Tryz.isAgg3 S.imm (Qo hb_1 rfl)) rfl fun _ E3 => S_v E3 rfl (Ql E3 rfl (Wi _)) rfl fun _ E4 => S_v E4 rfl (Qj E4 rfl Tryz.isAgg3 S.imm (Qo hb_1 rfl)) rfl ?_))
                          clear E a E1 E2 E3 E4; intro a E
                          refine S_x (Qr E S rfl rfl rfl (UC h1 (by (omega))) (Hp.le.refl _) ?_)
                          clear E a S; rintro a v_186 w M_185 hM_185 hv_186 S E
                          replace hw := hw.le hM_185
                          replace hc := hc.le hM_185
                          replace h1 := h1.le hM_185
                          replace hb_1 := hM_185.2 _ _ hb_1
                          refine S_a E rfl rfl ?_
                          clear E a; intro a E
                          refine Qc (T_n (Qe (B_r ?_)))
                          refine T_r ?_
                          exact Qg E Tryz.results9 rfl ⟨_, rfl, M_185, (hM_2.trans (hM_3.trans (hM_4.trans (hM_99.trans (hM_101.trans (hM_103.trans hM_185)))))), (RdS.eqL hv_186 (by ((rw [show (sd % 47).toNat = 23 from by omega]; first | rfl | (simp [Jo, QS]; done))))), S⟩
                         ·refine Qh (B_n (T_n (Qb (Qa (S_v E rfl (QA E rfl (Tryz.isAgg32 _) (Tryz.sizeOf32 _) S.imm hb_1) rfl fun _ E1 => S_m E1 rfl rfl fun _ E2 => S_m E2 rfl rfl fun _ E3 => S_m E3 rfl rfl ?_)))))
                          clear E a E1 E2 E3; intro a E
                          refine S_x (Qr E S rfl rfl rfl (Gq hw hc h1 (by assumption) (by assumption) (by assumption) (by assumption) (by assumption) (by assumption) (by assumption) (by assumption) (by assumption) (by assumption) (by assumption) (by assumption) (by omega)) (Hp.le.refl _) ?_)
                          clear E a S; rintro a v_188 w M_187 hM_187 hv_188 S E
                          refine S_a E rfl rfl ?_
                          clear E a; intro a E
                          refine Qc (T_n (Qe ?_))
                          exact Qg E Tryz.results9 rfl ⟨_, rfl, M_187, (hM_2.trans (hM_3.trans (hM_4.trans (hM_99.trans (hM_101.trans (hM_103.trans hM_187)))))), hv_188, S⟩
theorem lo_Reject {M : Hp} {v0 : Value} {l0 : List Int} (h0 : RdI M v0 l0){v1 : Value} {f1 : Int → Int → Bool} (h1 : PF2B Tryz.prog v1 M f1) (hb : l0.length ≤ 1000000000000) :
  Pu Tryz.prog (.func (.func 130) #[] #[]) M [v0, v1] (fun r M' => RdI M' r (QP (fun x i => !f1 x i) 0 l0)) := by
 refine Qk Tryz.func130 rfl Tryz.ntmps130 rfl Tryz.call130 ?_
 intro a w M1 H hM1 S E
 replace h0 := h0.le hM1
 replace h1 := h1.le hM1
 have b0 := h0.bound
 refine Qb (Qa (S_a E rfl rfl ?_))
 clear E a; intro a E
 refine Qc (T_n (Qb (Qa ?_)))
 refine S_x (Qy (ys := []) E S rfl T22 rfl rfl rfl ?_)
 clear E a S; rintro a w v_1 E S
 refine S_a E rfl rfl fun _ E1 => Qc (T_n (Qb (Qb (Qa (S_m E1 rfl rfl fun _ E2 => S_v E2 rfl (Qp E2 rfl T22 h0.len) rfl fun _ E3 => S_m E3 rfl rfl ?_)))))
 clear E a E1 E2 E3; intro a E
 refine Qc (T_n (Qi ?_))
 replace S := S.re1 (l' := QP (fun x i => !f1 x i) 0 (l0.take 0)) (by (simp [QP]; done))
 refine Qx (γ := Nat) (fun (k : Nat) a w => ∃ (M_2 : Hp) (u5 : Value), Hp.le M1 M_2 ∧ St w M_2 (QR 3 u5 (QP (fun x i => !f1 x i) 0 (l0.take k)) :: H) ∧ Env a 30 [] [(0, v0), (1, v1), (5, u5), (9, .int .i64 (((l0).length : Nat) : Int)), (10, .int .i64 ((k : Nat) : Int))] ∧ (k ≤ (l0).length)) (fun k => ((l0).length) - k) 0 ⟨M1, _, Hp.le.refl _, S, E.keep ⟨rfl, rfl, rfl, rfl, rfl, trivial⟩, by (omega)⟩ ?_
 try clear E
 try clear S
 try clear a
 try clear w
 rintro k a w ⟨M_2, u5, hM_2, S, E, hL0_0⟩
 replace h0 := h0.le hM_2
 replace h1 := h1.le hM_2
 have hfl := Jv (fun x i => !f1 x i) (l0.take k) 0; simp only [List.length_take] at hfl
 refine Qb (Qa (S_v E rfl (QG E rfl rfl) rfl ?_))
 clear E a; intro a E
 refine Qc (T_n (Qb ?_))
 refine Qn E rfl (fun hc_3 => ?_) (fun hc_3 => ?_)
 ·refine Qh (T_n (Qb (Qi (Qb (Qa (S_m E rfl rfl fun _ E1 => S_a E1 rfl rfl fun _ E2 => Qc (T_n (Qb (Qa (S_m E2 rfl rfl fun _ E3 => S_m E3 rfl rfl fun _ E4 => S_m E4 rfl rfl ?_))))))))))
  clear E a E1 E2 E3 E4; intro a E
  obtain ⟨x_4, hx_4⟩ : ∃ x, (l0)[k]? = some x := ⟨_, List.getElem?_eq_getElem (by omega)⟩
  obtain ⟨p_5, hp_5, qp_5⟩ := h0.at hx_4
  refine S_v E rfl (QB E rfl rfl T22 hp_5 rfl) rfl fun _ E1 => S_v E1 rfl (Qj E1 rfl Tryz.isAgg3 S.imm qp_5) rfl fun _ E2 => S_m E2 rfl rfl ?_
  clear E a E1 E2; intro a E
  refine S_x (Qr E S rfl rfl rfl (h1.2 x_4 ((k : Nat) : Int)) (Hp.le.refl _) ?_)
  clear E a S; rintro a _ w M_6 hM_6 rfl S E
  replace h0 := h0.le hM_6
  refine S_v E rfl (Zk E rfl) rfl ?_
  clear E a; intro a E
  refine Qc (T_n ?_)
  refine QL E rfl (fun hc_7 => ?_) (fun hc_7 => ?_)
  ·refine Qa ?_
   refine S_m E rfl rfl fun _ E1 => S_m E1 rfl rfl fun _ E2 => S_m E2 rfl rfl ?_
   clear E a E1 E2; intro a E
   obtain ⟨p_8, hp_8, qp_8⟩ := h0.at hx_4
   refine S_v E rfl (QB E rfl rfl T22 hp_8 rfl) rfl fun _ E1 => S_v E1 rfl (Qj E1 rfl Tryz.isAgg3 S.imm qp_8) rfl ?_
   clear E a E1; intro a E
   refine S_x (Qy (ys := [x_4]) E S rfl T22 rfl rfl rfl ?_)
   clear E a S; rintro a w v_9 E S
   replace S := S.front1
   replace S := S.front1
   refine S_x (QH (xs := QP (fun x i => !f1 x i) 0 (l0.take k)) (ys := [x_4]) E S rfl rfl rfl T22 (by (simp; omega)) ?_)
   clear E a S; rintro a w v_10 E S
   refine S_a E rfl rfl fun _ E1 => Qc (B_n (T_n (Qa (S_v E1 rfl (Qq (m := ((k + 1 : Nat) : Int)) E1 rfl rfl (by omega) (by omega)) rfl fun _ E2 => S_m E2 rfl rfl ?_))))
   clear E a E1 E2; intro a E
   refine Qc (T_n ?_)
   replace S := S.re1 (l' := QP (fun x i => !f1 x i) 0 (l0.take (k + 1))) (by (rw [Jb (by assumption)]; simp [*]; done))
   exact ⟨k + 1, ⟨M_6, _, (hM_2.trans hM_6), S, E.keep ⟨rfl, rfl, rfl, rfl, rfl, trivial⟩, by (omega)⟩, by omega⟩
  ·refine Qh ?_
   refine B_n (T_n (Qa (S_v E rfl (Qq (m := ((k + 1 : Nat) : Int)) E rfl rfl (by omega) (by omega)) rfl fun _ E1 => S_m E1 rfl rfl ?_)))
   clear E a E1; intro a E
   refine Qc (T_n ?_)
   replace S := S.re1 (l' := QP (fun x i => !f1 x i) 0 (l0.take (k + 1))) (by (rw [Jb (by assumption)]; simp [*]; done))
   exact ⟨k + 1, ⟨M_6, _, (hM_2.trans hM_6), S, E.keep ⟨rfl, rfl, rfl, rfl, rfl, trivial⟩, by (omega)⟩, by omega⟩
 ·refine Qt (T_x (T_x (B_x (T_n (Qb (Qa (S_m E rfl rfl fun _ E1 => S_a E1 rfl rfl ?_)))))))
  clear E a E1; intro a E
  refine Qc (T_n (Qe ?_))
  have S0 := S; clear S
  obtain ⟨M_11, hM_11, hz_12, S⟩ := S0.freezeI (by (have hfl := Jv (fun x i => !f1 x i) (l0.take k) 0; simp only [List.length_take] at hfl; omega))
  clear S0
  exact Qg E Tryz.results130 rfl ⟨_, rfl, M_11, (hM_2.trans hM_11), (RdS.eqL hz_12 (by (rw [List.take_of_length_le (by omega)]))), S⟩
theorem impl_Reject {M : Hp} {v0 : Value} {l0 : List Int} (h0 : RdI M v0 l0){pk1 pn1 : Int} {w1 : Value} {pl1 : List Int} (hw1 : RdI M w1 pl1) (gn1 : -9223372036854775808 ≤ pn1 ∧ pn1 ≤ 9223372036854775807) (hb : l0.length ≤ 1000000000000) :
  Pu Tryz.prog (.func (.func 46) #[] #[]) M [v0, .agg #[.int .i64 pk1, .int .i64 pn1, w1]] (fun r M' => RdI M' r (QP (fun x i => !(QF pk1 pn1 pl1) x i) 0 l0)) := by
 refine Qk Tryz.func46 rfl Tryz.ntmps46 rfl Tryz.call46 ?_
 intro a w M1 H hM1 S E
 replace h0 := h0.le hM1
 replace hw1 := hw1.le hM1
 have b0 := h0.bound
 refine Qb (Qa ?_)
 refine S_x (Jc (cs := #[.int .i64 pk1, .int .i64 pn1, w1]) E S rfl rfl rfl ?_)
 clear E a S; rintro a w b_1 E S
 obtain ⟨M_2, hM_2, hb_1, S⟩ := S.freezeB
 replace h0 := h0.le hM_2
 replace hw1 := hw1.le hM_2
 refine S_a E rfl rfl fun _ E1 => Qc (T_n (Qb (Qa (S_m E1 rfl rfl fun _ E2 => S_v E2 rfl (QA E2 rfl (Tryz.isAgg27 _) (Tryz.sizeOf27 _) S.imm hb_1) rfl fun _ E3 => S_v E3 rfl (QT E3 rfl rfl) rfl ?_))))
 clear E a E1 E2 E3; intro a E
 refine S_x (Qr E S rfl rfl rfl (lo_Reject h0 ⟨rfl, fun zx1 zx2 => vm (x1 := zx1) (x2 := zx2) hw1 (by omega)⟩ (by (omega))) (Hp.le.refl _) ?_)
 clear E a S; rintro a v_4 w M_3 hM_3 hv_4 S E
 refine S_a E rfl rfl ?_
 clear E a; intro a E
 refine Qc (T_n (Qe ?_))
 exact Qg E Tryz.results46 rfl ⟨_, rfl, M_3, (hM_2.trans hM_3), hv_4, S⟩
theorem lo_Map {M : Hp} {v0 : Value} {l0 : List Int} (h0 : RdI M v0 l0){v1 : Value} {f1 : Int → Int → Int} (h1 : PF2I Tryz.prog v1 M f1) (hb : l0.length ≤ 1000000000000) :
  Pu Tryz.prog (.func (.func 131) #[] #[]) M [v0, v1] (fun r M' => RdI M' r (ZN f1 0 l0)) := by
 refine Qk Tryz.func131 rfl Tryz.ntmps131 rfl Tryz.call131 ?_
 intro a w M1 H hM1 S E
 replace h0 := h0.le hM1
 replace h1 := h1.le hM1
 have b0 := h0.bound
 refine Qb (Qa (S_a E rfl rfl fun _ E1 => Qc (T_n (Qb (Qa (S_m E1 rfl rfl fun _ E2 => S_v E2 rfl (Qp E2 rfl T22 h0.len) rfl ?_))))))
 clear E a E1 E2; intro a E
 refine S_x (Yk (k := (l0).length) E S rfl rfl rfl T22 (by omega) (by omega) (by omega) (by omega) ?_)
 clear E a S; rintro a w v_1 E S
 replace S := S.madeI
 refine S_a E rfl rfl fun _ E1 => Qc (T_n (Qb (Qb (Qa (S_m E1 rfl rfl fun _ E2 => S_v E2 rfl (Qp E2 rfl T22 h0.len) rfl fun _ E3 => S_m E3 rfl rfl ?_)))))
 clear E a E1 E2 E3; intro a E
 refine Qc (T_n (Qi ?_))
 replace S := S.re1 (l' := ZN f1 0 (l0.take 0) ++ List.replicate (l0.length - (ZN f1 0 (l0.take 0)).length) 0) (by (simp [ZN]; done))
 refine Qx (γ := Nat) (fun (k : Nat) a w => ∃ (M_2 : Hp), Hp.le M1 M_2 ∧ St w M_2 (QR 3 v_1 (ZN f1 0 (l0.take k) ++ List.replicate (l0.length - (ZN f1 0 (l0.take k)).length) 0) :: H) ∧ Env a 27 [] [(0, v0), (1, v1), (5, v_1), (11, .int .i64 (((l0).length : Nat) : Int)), (12, .int .i64 ((k : Nat) : Int))] ∧ (k ≤ (l0).length)) (fun k => ((l0).length) - k) 0 ⟨M1, Hp.le.refl _, S, E.keep ⟨rfl, rfl, rfl, rfl, rfl, trivial⟩, by (omega)⟩ ?_
 try clear E
 try clear S
 try clear a
 try clear w
 rintro k a w ⟨M_2, hM_2, S, E, hL0_0⟩
 replace h0 := h0.le hM_2
 replace h1 := h1.le hM_2
 have hml := VZ f1 (l0.take k) 0; simp only [List.length_take] at hml; have hml2 : (ZN f1 0 (l0.take k)).length = k := by omega
 refine Qb (Qa (S_v E rfl (QG E rfl rfl) rfl ?_))
 clear E a; intro a E
 refine Qc (T_n (Qb ?_))
 refine Qn E rfl (fun hc_3 => ?_) (fun hc_3 => ?_)
 ·refine Qh (T_n (Qb (Qi (Qb (Qa (S_m E rfl rfl fun _ E1 => S_a E1 rfl rfl fun _ E2 => Qc (T_n (Qa (S_m E2 rfl rfl fun _ E3 => S_m E3 rfl rfl fun _ E4 => S_m E4 rfl rfl fun _ E5 => S_m E5 rfl rfl ?_)))))))))
  clear E a E1 E2 E3 E4 E5; intro a E
  refine S_m E rfl rfl ?_
  clear E a; intro a E
  obtain ⟨x_4, hx_4⟩ : ∃ x, (l0)[k]? = some x := ⟨_, List.getElem?_eq_getElem (by omega)⟩
  obtain ⟨p_5, hp_5, qp_5⟩ := h0.at hx_4
  refine S_v E rfl (QB E rfl rfl T22 hp_5 rfl) rfl fun _ E1 => S_v E1 rfl (Qj E1 rfl Tryz.isAgg3 S.imm qp_5) rfl fun _ E2 => S_m E2 rfl rfl ?_
  clear E a E1 E2; intro a E
  refine S_x (Qr E S rfl rfl rfl (h1.2 x_4 ((k : Nat) : Int)) (Hp.le.refl _) ?_)
  clear E a S; rintro a _ w M_6 hM_6 rfl S E
  obtain ⟨p_7, hp_7⟩ := S.ptrC (k := k) (by (simp; omega))
  refine S_v E rfl (QB E rfl rfl T22 hp_7 rfl) rfl ?_
  clear E a; intro a E
  refine Zr (Vs E S rfl rfl (Tryz.sizeOf3 _) hp_7 ?_)
  clear E a S; rintro a w E S
  refine Qc (B_n (T_n (Qa (S_v E rfl (Qq (m := ((k + 1 : Nat) : Int)) E rfl rfl (by omega) (by omega)) rfl fun _ E1 => S_m E1 rfl rfl ?_))))
  clear E a E1; intro a E
  refine Qc (T_n ?_)
  replace S := S.re1 (l' := ZN f1 0 (l0.take (k + 1)) ++ List.replicate (l0.length - (ZN f1 0 (l0.take (k + 1))).length) 0) (by (have e := Gf (p := ZN f1 0 (l0.take k)) (n := l0.length) (by omega) (GM (f := f1) (by assumption)); rw [hml2] at e; rw [hml2]; exact e))
  exact ⟨k + 1, ⟨M_6, (hM_2.trans hM_6), S, E.keep ⟨rfl, rfl, rfl, rfl, rfl, trivial⟩, by (omega)⟩, by omega⟩
 ·refine Qt (T_x (T_x (B_x (T_n (Qb (Qa (S_m E rfl rfl fun _ E1 => S_a E1 rfl rfl ?_)))))))
  clear E a E1; intro a E
  refine Qc (T_n (Qe ?_))
  have S0 := S; clear S
  obtain ⟨M_8, hM_8, hz_9, S⟩ := S0.freezeI (by (have hml := VZ f1 (l0.take k) 0; simp only [List.length_take] at hml; simp; omega))
  clear S0
  exact Qg E Tryz.results131 rfl ⟨_, rfl, M_8, (hM_2.trans hM_8), (RdS.eqL hz_9 (by (have hml := VZ f1 (l0.take k) 0; simp only [List.length_take] at hml; rw [show l0.length - (ZN f1 0 (l0.take k)).length = 0 by omega, List.take_of_length_le (by omega)]; simp))), S⟩
theorem Key_at_c {M : Hp} {kk0 kn0 : Int} (gk0 : -9223372036854775808 ≤ kn0 ∧ kn0 ≤ 9223372036854775807){x1 x2 : Int} :
  PuC Tryz.prog 132 M [.agg #[.int .i64 kk0, .int .i64 kn0], .int .i64 x1, .int .i64 x2] (fun r M' => r = .int .i64 (Qs kk0 kn0 x1 x2)) := by
 refine YJ Tryz.func132 rfl Tryz.ntmps132 rfl ?_
 intro a w M1 H hM1 S E
 refine Qb (Qa ?_)
 refine S_x (Jc (cs := #[.int .i64 kk0, .int .i64 kn0]) E S rfl rfl rfl ?_)
 clear E a S; rintro a w b_1 E S
 obtain ⟨M_2, hM_2, hb_1, S⟩ := S.freezeB
 refine S_a E rfl rfl fun _ E1 => Qc (T_n (Qb (Qb (Qa (S_v E1 rfl (Ql E1 rfl (FA30_0 _)) rfl fun _ E2 => S_v E2 rfl (Qj E2 rfl Tryz.isAgg3 S.imm (Qo hb_1 rfl)) rfl fun _ E3 => Qc (T_n (Qi (Qb (Qa (S_v E3 rfl (Qv E3 rfl rfl) rfl fun _ E4 => S_a E4 rfl rfl ?_))))))))))
 clear E a E1 E2 E3 E4; intro a E
 refine Qc (T_n ?_)
 refine Qn E rfl (fun hc_3 => ?_) (fun hc_3 => ?_)
 ·refine Qb (Qa (S_m E rfl rfl fun _ E1 => S_v E1 rfl (Ql E1 rfl (WW _)) rfl fun _ E2 => S_v E2 rfl (Qj E2 rfl Tryz.isAgg3 S.imm (Qo hb_1 rfl)) rfl fun _ E3 => S_v E3 rfl (R_add E3 rfl rfl) rfl fun _ E4 => S_a E4 rfl rfl ?_))
  clear E a E1 E2 E3 E4; intro a E
  refine Qc (T_n (Qe (B_r ?_)))
  refine T_r ?_
  exact Qg E Tryz.results132 rfl ⟨_, rfl, M_2, hM_2, (congrArg (Value.int .i64) (by (clear E S; unfold Qs w64; first | (simp [*]; done) | (simp_all; done)))), S⟩
 ·refine Qb (Qa (S_v E rfl (Qv E rfl rfl) rfl fun _ E1 => S_a E1 rfl rfl ?_))
  clear E a E1; intro a E
  refine Qc (T_n ?_)
  refine Qn E rfl (fun hc_4 => ?_) (fun hc_4 => ?_)
  ·refine Qb (Qa (S_m E rfl rfl fun _ E1 => S_v E1 rfl (Ql E1 rfl (WW _)) rfl fun _ E2 => S_v E2 rfl (Qj E2 rfl Tryz.isAgg3 S.imm (Qo hb_1 rfl)) rfl fun _ E3 => S_v E3 rfl (R_mul E3 rfl rfl) rfl fun _ E4 => S_a E4 rfl rfl ?_))
   clear E a E1 E2 E3 E4; intro a E
   refine Qc (T_n (Qe (B_r ?_)))
   refine T_r ?_
   exact Qg E Tryz.results132 rfl ⟨_, rfl, M_2, hM_2, (congrArg (Value.int .i64) (by (clear E S; unfold Qs w64; first | (simp [*]; done) | (simp_all; done)))), S⟩
  ·refine Qb (Qa (S_v E rfl (Qv E rfl rfl) rfl fun _ E1 => S_a E1 rfl rfl ?_))
   clear E a E1; intro a E
   refine Qc (T_n ?_)
   refine Qn E rfl (fun hc_5 => ?_) (fun hc_5 => ?_)
   ·refine Qb (Qa (S_v E rfl (Ql E rfl (WW _)) rfl fun _ E1 => S_v E1 rfl (Qj E1 rfl Tryz.isAgg3 S.imm (Qo hb_1 rfl)) rfl fun _ E2 => S_v E2 rfl (Yv E2 rfl rfl) rfl ?_))
    clear E a E1 E2; intro a E
    refine Qc (T_n ?_)
    refine Qn E rfl (fun hc_6 => ?_) (fun hc_6 => ?_)
    ·refine Qb (Qa (S_m E rfl rfl fun _ E1 => S_v E1 rfl (Ql E1 rfl (WW _)) rfl fun _ E2 => S_v E2 rfl (Qj E2 rfl Tryz.isAgg3 S.imm (Qo hb_1 rfl)) rfl ?_))
     clear E a E1 E2; intro a E
     refine S_x (Qr E S rfl rfl rfl (zF (by omega) (by omega)) (Hp.le.refl _) ?_)
     clear E a S; rintro a _ w M_7 hM_7 rfl S E
     replace hb_1 := hM_7.2 _ _ hb_1
     refine S_a E rfl rfl ?_
     clear E a; intro a E
     refine Qc (T_n (Qe (B_r ?_)))
     refine T_r ?_
     exact Qg E Tryz.results132 rfl ⟨_, rfl, M_7, (hM_2.trans hM_7), (congrArg (Value.int .i64) (by (clear E S; unfold Qs w64; first | (simp [*]; done) | (simp_all; done)))), S⟩
    ·refine Qh (B_n (T_n (Qb (Qa (S_m E rfl rfl fun _ E1 => S_a E1 rfl rfl ?_)))))
     clear E a E1; intro a E
     refine Qc (T_n (Qe ?_))
     exact Qg E Tryz.results132 rfl ⟨_, rfl, M_2, hM_2, (congrArg (Value.int .i64) (by (clear E S; unfold Qs w64; first | (simp [*]; done) | (simp_all; done)))), S⟩
   ·refine Qb (Qa (S_v E rfl (Qv E rfl rfl) rfl fun _ E1 => S_a E1 rfl rfl ?_))
    clear E a E1; intro a E
    refine Qc (T_n ?_)
    refine Qn E rfl (fun hc_8 => ?_) (fun hc_8 => ?_)
    ·refine Qb (Qa (S_v E rfl (Ql E rfl (WW _)) rfl fun _ E1 => S_v E1 rfl (Qj E1 rfl Tryz.isAgg3 S.imm (Qo hb_1 rfl)) rfl fun _ E2 => S_a E2 rfl rfl ?_))
     clear E a E1 E2; intro a E
     refine Qc (T_n (Qe (B_r ?_)))
     refine T_r ?_
     exact Qg E Tryz.results132 rfl ⟨_, rfl, M_2, hM_2, (congrArg (Value.int .i64) (by (clear E S; unfold Qs w64; first | (simp [*]; done) | (simp_all; done)))), S⟩
    ·refine Qb (Qa (S_v E rfl (Qv E rfl rfl) rfl fun _ E1 => S_a E1 rfl rfl ?_))
     clear E a E1; intro a E
     refine Qc (T_n ?_)
     refine Qn E rfl (fun hc_9 => ?_) (fun hc_9 => ?_)
     ·refine Qb (Qa (S_m E rfl rfl fun _ E1 => S_a E1 rfl rfl ?_))
      clear E a E1; intro a E
      refine Qc (T_n (Qe (B_r ?_)))
      refine T_r ?_
      exact Qg E Tryz.results132 rfl ⟨_, rfl, M_2, hM_2, (congrArg (Value.int .i64) (by (clear E S; unfold Qs w64; first | (simp [*]; done) | (simp_all; done)))), S⟩
     ·refine Qh (B_n (T_n (Qb (Qa (S_m E rfl rfl fun _ E1 => S_a E1 rfl rfl ?_)))))
      clear E a E1; intro a E
      refine Qc (T_n (Qe ?_))
      exact Qg E Tryz.results132 rfl ⟨_, rfl, M_2, hM_2, (congrArg (Value.int .i64) (by (clear E S; unfold Qs w64; first | (simp [*]; done) | (simp_all; done)))), S⟩
theorem Key_at {M : Hp} {kk0 kn0 : Int} (gk0 : -9223372036854775808 ≤ kn0 ∧ kn0 ≤ 9223372036854775807){x1 x2 : Int} :
  Pu Tryz.prog (.func (.func 132) #[.agg #[.int .i64 kk0, .int .i64 kn0]] #[]) M [.int .i64 x1, .int .i64 x2] (fun r M' => r = .int .i64 (Qs kk0 kn0 x1 x2)) := PuC.pu Tryz.call132 rfl (Key_at_c gk0)
theorem jf {M : Hp} {kk0 kn0 : Int} (gk0 : -9223372036854775808 ≤ kn0 ∧ kn0 ≤ 9223372036854775807){x1 x2 : Int} :
  Pu Tryz.prog (.func (.func 132) #[] #[]) M [.agg #[.int .i64 kk0, .int .i64 kn0], .int .i64 x1, .int .i64 x2] (fun r M' => r = .int .i64 (Qs kk0 kn0 x1 x2)) := PuC.pu Tryz.call132 rfl (Key_at_c gk0)
theorem impl_Map {M : Hp} {v0 : Value} {l0 : List Int} (h0 : RdI M v0 l0){kk1 kn1 : Int} (gk1 : -9223372036854775808 ≤ kn1 ∧ kn1 ≤ 9223372036854775807) (hb : l0.length ≤ 1000000000000) :
  Pu Tryz.prog (.func (.func 47) #[] #[]) M [v0, .agg #[.int .i64 kk1, .int .i64 kn1]] (fun r M' => RdI M' r (ZN (Qs kk1 kn1) 0 l0)) := by
 refine Qk Tryz.func47 rfl Tryz.ntmps47 rfl Tryz.call47 ?_
 intro a w M1 H hM1 S E
 replace h0 := h0.le hM1
 have b0 := h0.bound
 refine Qb (Qa ?_)
 refine S_x (Jc (cs := #[.int .i64 kk1, .int .i64 kn1]) E S rfl rfl rfl ?_)
 clear E a S; rintro a w b_1 E S
 obtain ⟨M_2, hM_2, hb_1, S⟩ := S.freezeB
 replace h0 := h0.le hM_2
 refine S_a E rfl rfl fun _ E1 => Qc (T_n (Qb (Qa (S_m E1 rfl rfl fun _ E2 => S_v E2 rfl (QA E2 rfl (Tryz.isAgg30 _) (Tryz.sizeOf30 _) S.imm hb_1) rfl fun _ E3 => S_v E3 rfl (QT E3 rfl rfl) rfl ?_))))
 clear E a E1 E2 E3; intro a E
 refine S_x (Qr E S rfl rfl rfl (lo_Map h0 ⟨rfl, fun zx1 zx2 => Key_at (x1 := zx1) (x2 := zx2) (by omega)⟩ (by (omega))) (Hp.le.refl _) ?_)
 clear E a S; rintro a v_4 w M_3 hM_3 hv_4 S E
 refine S_a E rfl rfl ?_
 clear E a; intro a E
 refine Qc (T_n (Qe ?_))
 exact Qg E Tryz.results47 rfl ⟨_, rfl, M_3, (hM_2.trans hM_3), hv_4, S⟩
theorem yG {M : Hp} {v0 : Value} {l0 : List Int} (h0 : RdI M v0 l0){v1 : Value} {f1 : Int → Int → Int × Bool} (h1 : PF2T Tryz.prog v1 M f1) (hb : l0.length ≤ 1000000000000) :
  Pu Tryz.prog (.func (.func 133) #[] #[]) M [v0, v1] (fun r M' => RdI M' r (Zb f1 0 l0)) := by
 refine Qk Tryz.func133 rfl Tryz.ntmps133 rfl Tryz.call133 ?_
 intro a w M1 H hM1 S E
 replace h0 := h0.le hM1
 replace h1 := h1.le hM1
 have b0 := h0.bound
 refine Qb (Qa (S_a E rfl rfl fun _ E1 => Qc (T_n (Qb (Qa (S_m E1 rfl rfl fun _ E2 => S_v E2 rfl (Qp E2 rfl T22 h0.len) rfl ?_))))))
 clear E a E1 E2; intro a E
 refine S_x (Jf (k := (l0).length) E S rfl rfl rfl T22 rfl (by omega) (by omega) (by omega) ?_)
 clear E a S; rintro a w v_1 E S
 replace S := S.made0
 refine S_a E rfl rfl fun _ E1 => Qc (T_n (Qb (Qb (Qa (S_m E1 rfl rfl fun _ E2 => S_v E2 rfl (Qp E2 rfl T22 h0.len) rfl fun _ E3 => S_m E3 rfl rfl ?_)))))
 clear E a E1 E2 E3; intro a E
 refine Qc (T_n (Qi ?_))
 replace S := S.re1 (l' := Zb f1 0 (l0.take 0)) (by (simp [Zb]; done))
 refine Qx (γ := Nat) (fun (k : Nat) a w => ∃ (M_2 : Hp) (u5 : Value), Hp.le M1 M_2 ∧ St w M_2 (QR 3 u5 (Zb f1 0 (l0.take k)) :: H) ∧ Env a 34 [] [(0, v0), (1, v1), (5, u5), (13, .int .i64 (((l0).length : Nat) : Int)), (14, .int .i64 ((k : Nat) : Int))] ∧ (k ≤ (l0).length)) (fun k => ((l0).length) - k) 0 ⟨M1, _, Hp.le.refl _, S, E.keep ⟨rfl, rfl, rfl, rfl, rfl, trivial⟩, by (omega)⟩ ?_
 try clear E
 try clear S
 try clear a
 try clear w
 rintro k a w ⟨M_2, u5, hM_2, S, E, hL0_0⟩
 replace h0 := h0.le hM_2
 replace h1 := h1.le hM_2
 have hfl := Uh f1 (l0.take k) 0; simp only [List.length_take] at hfl
 refine Qb (Qa (S_v E rfl (QG E rfl rfl) rfl ?_))
 clear E a; intro a E
 refine Qc (T_n (Qb ?_))
 refine Qn E rfl (fun hc_3 => ?_) (fun hc_3 => ?_)
 ·refine Qh (T_n (Qb (Qi (Qb (Qa (S_m E rfl rfl fun _ E1 => S_a E1 rfl rfl fun _ E2 => Qc (T_n (Qb (Qa (S_m E2 rfl rfl fun _ E3 => S_m E3 rfl rfl fun _ E4 => S_m E4 rfl rfl ?_))))))))))
  clear E a E1 E2 E3 E4; intro a E
  obtain ⟨x_4, hx_4⟩ : ∃ x, (l0)[k]? = some x := ⟨_, List.getElem?_eq_getElem (by omega)⟩
  obtain ⟨p_5, hp_5, qp_5⟩ := h0.at hx_4
  refine S_v E rfl (QB E rfl rfl T22 hp_5 rfl) rfl fun _ E1 => S_v E1 rfl (Qj E1 rfl Tryz.isAgg3 S.imm qp_5) rfl fun _ E2 => S_m E2 rfl rfl ?_
  clear E a E1 E2; intro a E
  refine S_x (Qr E S rfl rfl rfl (h1.2 x_4 ((k : Nat) : Int)) (Hp.le.refl _) ?_)
  clear E a S; rintro a _ w M_6 hM_6 rfl S E
  refine S_m E rfl rfl fun _ E1 => S_v E1 rfl (Qm E1 rfl rfl) rfl fun _ E2 => S_v E2 rfl (Qm E2 rfl rfl) rfl fun _ E3 => S_a E3 rfl rfl fun _ E4 => S_a E4 rfl rfl fun _ E5 => Qc (T_n (Qb (Qa (S_m E5 rfl rfl ?_))))
  clear E a E1 E2 E3 E4 E5; intro a E
  refine Qc (T_n ?_)
  refine QL E rfl (fun hc_7 => ?_) (fun hc_7 => ?_)
  ·refine Qa ?_
   refine S_m E rfl rfl fun _ E1 => S_m E1 rfl rfl ?_
   clear E a E1; intro a E
   refine S_x (Qy (ys := [(f1 x_4 ((k : Nat) : Int)).1]) E S rfl T22 rfl rfl rfl ?_)
   clear E a S; rintro a w v_8 E S
   replace S := S.front1
   replace S := S.front1
   refine S_x (QH (xs := Zb f1 0 (l0.take k)) (ys := [(f1 x_4 ((k : Nat) : Int)).1]) E S rfl rfl rfl T22 (by (simp; omega)) ?_)
   clear E a S; rintro a w v_9 E S
   refine S_a E rfl rfl fun _ E1 => Qc (B_n (T_n (Qa (S_v E1 rfl (Qq (m := ((k + 1 : Nat) : Int)) E1 rfl rfl (by omega) (by omega)) rfl fun _ E2 => S_m E2 rfl rfl ?_))))
   clear E a E1 E2; intro a E
   refine Qc (T_n ?_)
   replace S := S.re1 (l' := Zb f1 0 (l0.take (k + 1))) (by (rw [Uv (by assumption)]; simp [*]; done))
   exact ⟨k + 1, ⟨M_6, _, (hM_2.trans hM_6), S, E.keep ⟨rfl, rfl, rfl, rfl, rfl, trivial⟩, by (omega)⟩, by omega⟩
  ·refine Qh ?_
   refine B_n (T_n (Qa (S_v E rfl (Qq (m := ((k + 1 : Nat) : Int)) E rfl rfl (by omega) (by omega)) rfl fun _ E1 => S_m E1 rfl rfl ?_)))
   clear E a E1; intro a E
   refine Qc (T_n ?_)
   replace S := S.re1 (l' := Zb f1 0 (l0.take (k + 1))) (by (rw [Uv (by assumption)]; simp [*]; done))
   exact ⟨k + 1, ⟨M_6, _, (hM_2.trans hM_6), S, E.keep ⟨rfl, rfl, rfl, rfl, rfl, trivial⟩, by (omega)⟩, by omega⟩
 ·refine Qt (T_x (T_x (B_x (T_n (Qb (Qa (S_m E rfl rfl fun _ E1 => S_a E1 rfl rfl ?_)))))))
  clear E a E1; intro a E
  refine Qc (T_n (Qe ?_))
  have S0 := S; clear S
  obtain ⟨M_10, hM_10, hz_11, S⟩ := S0.freezeI (by (have hfl := Uh f1 (l0.take k) 0; simp only [List.length_take] at hfl; omega))
  clear S0
  exact Qg E Tryz.results133 rfl ⟨_, rfl, M_10, (hM_2.trans hM_10), (RdS.eqL hz_11 (by (rw [List.take_of_length_le (by omega)]))), S⟩
theorem qF {M : Hp} {kk8 kn8 : Int} (gk8 : -9223372036854775808 ≤ kn8 ∧ kn8 ≤ 9223372036854775807) {bx8 : Nat} (hbx8 : M bx8 = some (.cells #[.int .i64 kk8, .int .i64 kn8] 30)) {pk9 pn9 : Int} {w9 : Value} {pl9 : List Int} (hw9 : RdI M w9 pl9) (gn9 : -9223372036854775808 ≤ pn9 ∧ pn9 ≤ 9223372036854775807) {bx9 : Nat} (hbx9 : M bx9 = some (.cells #[.int .i64 pk9, .int .i64 pn9, w9] 27)) {x0 x1 : Int} :
  Pu Tryz.prog (.func (.func 134) #[] #[.pointer (some ⟨bx8, 0, none⟩), .pointer (some ⟨bx9, 0, none⟩)]) M [.int .i64 x0, .int .i64 x1] (fun r M' => r = .tuple #[.int .i64 (Qs kk8 kn8 x0 x1), .bool (QF pk9 pn9 pl9 x0 x1)]) := by
 refine Qk Tryz.func134 rfl Tryz.ntmps134 rfl Tryz.call134 ?_
 intro a w M1 H hM1 S E
 replace hbx8 := hM1.2 _ _ hbx8
 replace hbx9 := hM1.2 _ _ hbx9
 replace hw9 := hw9.le hM1
 refine Qb (Qa (S_a E rfl rfl fun _ E1 => S_a E1 rfl rfl ?_))
 clear E a E1; intro a E
 refine Qc (T_n (Qb ?_))
 have hbx8k0 := hbx8
 have hbx9k0 := hbx9
 replace S := S.mono_heap (w' := World.drew _) rfl
 refine Jx (C := fun x w => agree M1 w) (bf := (fun i => [])) [0, 1, 2, 4, 5, 6, 8, 9] [0, 1, 2, 4, 5, 6, 3, 7, 8, 9] Tryz.mixed (by kernel_rfl) (fun x hq => S.imm) ?_
 refine D_v E rfl rfl rfl (fun w hC => (QA E rfl (Tryz.isAgg30 _) (Tryz.sizeOf30 _) hC hbx8k0)) fun _ E1 => D_v E1 rfl rfl rfl (fun w hC => (Qu E1 rfl)) fun _ E2 => D_v E2 rfl rfl rfl (fun w hC => (Qu E2 rfl)) fun _ E3 => D_v E3 rfl rfl rfl (fun w hC => (QA E3 rfl (Tryz.isAgg27 _) (Tryz.sizeOf27 _) hC hbx9k0)) fun _ E4 => D_v E4 rfl rfl rfl (fun w hC => (Qu E4 rfl)) fun _ E5 => D_v E5 rfl rfl rfl (fun w hC => (Qu E5 rfl)) ?_
 clear E a E1 E2 E3 E4 E5; intro a E
 refine D_x rfl rfl rfl (Qr E S rfl rfl rfl (jf (by omega)) (Hp.le.refl _) ?_)
 clear E a S; rintro a _ w M_1 hM_1 rfl S E
 replace hw9 := hw9.le hM_1
 refine ⟨fun x hq hb => (Qz hM_1 S.imm), ?_⟩
 refine D_x rfl rfl rfl (Qr E S rfl rfl rfl (yj hw9 (by omega)) (Hp.le.refl _) ?_)
 clear E a S; rintro a _ w M_2 hM_2 rfl S E
 refine ⟨fun x hq hb => (Qz (hM_1.trans hM_2) S.imm), ?_⟩
 refine D_v E rfl rfl rfl (fun w hC => (Jm E rfl)) fun _ E1 => D_v E1 rfl rfl rfl (fun w hC => (Jm E1 rfl)) ?_
 clear E a E1; intro a E
 refine Ze (Zd ?_)
 refine T_n (Qe ?_)
 exact Jt E Tryz.results134 rfl rfl ⟨_, rfl, M_2, (hM_1.trans hM_2), (by rfl), S⟩
theorem zK {M : Hp} {v0 : Value} {l0 : List Int} (h0 : RdI M v0 l0){pk1 pn1 : Int} {w1 : Value} {pl1 : List Int} (hw1 : RdI M w1 pl1) (gn1 : -9223372036854775808 ≤ pn1 ∧ pn1 ≤ 9223372036854775807) {kk2 kn2 : Int} (gk2 : -9223372036854775808 ≤ kn2 ∧ kn2 ≤ 9223372036854775807) (hb : l0.length ≤ 1000000000000) :
  Pu Tryz.prog (.func (.func 48) #[] #[]) M [v0, .agg #[.int .i64 pk1, .int .i64 pn1, w1], .agg #[.int .i64 kk2, .int .i64 kn2]] (fun r M' => RdI M' r (Zb (fun x i => (Qs kk2 kn2 x i, QF pk1 pn1 pl1 x i)) 0 l0)) := by
 refine Qk Tryz.func48 rfl Tryz.ntmps48 rfl Tryz.call48 ?_
 intro a w M1 H hM1 S E
 replace h0 := h0.le hM1
 replace hw1 := hw1.le hM1
 have b0 := h0.bound
 refine Qb (Qa ?_)
 refine S_x (Jc (cs := #[.int .i64 pk1, .int .i64 pn1, w1]) E S rfl rfl rfl ?_)
 clear E a S; rintro a w b_1 E S
 obtain ⟨M_2, hM_2, hb_1, S⟩ := S.freezeB
 replace h0 := h0.le hM_2
 replace hw1 := hw1.le hM_2
 refine S_x (Jc (cs := #[.int .i64 kk2, .int .i64 kn2]) E S rfl rfl rfl ?_)
 clear E a S; rintro a w b_3 E S
 obtain ⟨M_4, hM_4, hb_3, S⟩ := S.freezeB
 replace h0 := h0.le hM_4
 replace hw1 := hw1.le hM_4
 replace hb_1 := hM_4.2 _ _ hb_1
 refine S_a E rfl rfl fun _ E1 => Qc (T_n (Qb (Qa (S_m E1 rfl rfl fun _ E2 => S_v E2 rfl (QT E2 rfl rfl) rfl ?_))))
 clear E a E1 E2; intro a E
 refine S_x (Qr E S rfl rfl rfl (yG h0 (f1 := (fun x i => (Qs kk2 kn2 x i, QF pk1 pn1 pl1 x i))) ⟨rfl, fun zx0 zx1 => qF (x0 := zx0) (x1 := zx1) (by omega) hb_3 hw1 (by omega) hb_1⟩ (by (omega))) (Hp.le.refl _) ?_)
 clear E a S; rintro a v_6 w M_5 hM_5 hv_6 S E
 refine S_a E rfl rfl ?_
 clear E a; intro a E
 refine Qc (T_n (Qe ?_))
 exact Qg E Tryz.results48 rfl ⟨_, rfl, M_5, (hM_2.trans (hM_4.trans hM_5)), hv_6, S⟩
theorem lo_FlatMap {M : Hp} {v0 : Value} {l0 : List Int} (h0 : RdI M v0 l0){v1 : Value} {f1 : Int → Int → List Int} (h1 : PF2L Tryz.prog v1 M f1) (hb : l0.length ≤ 1000000000) (hf2 : ∀ x i, (f1 x i).length = 2) :
  Pu Tryz.prog (.func (.func 135) #[] #[]) M [v0, v1] (fun r M' => RdI M' r (Zl f1 0 l0)) := by
 refine Qk Tryz.func135 rfl Tryz.ntmps135 rfl Tryz.call135 ?_
 intro a w M1 H hM1 S E
 replace h0 := h0.le hM1
 replace h1 := h1.le hM1
 have b0 := h0.bound
 refine Qb (Qa (S_a E rfl rfl fun _ E1 => Qc (T_n (Qb (Qa (S_m E1 rfl rfl fun _ E2 => S_v E2 rfl (Qp E2 rfl T22 h0.len) rfl ?_))))))
 clear E a E1 E2; intro a E
 refine S_x (Jf (k := (l0).length) E S rfl rfl rfl T22 rfl (by omega) (by omega) (by omega) ?_)
 clear E a S; rintro a w v_1 E S
 replace S := S.made0
 refine S_a E rfl rfl fun _ E1 => Qc (T_n (Qb (Qb (Qa (S_m E1 rfl rfl fun _ E2 => S_v E2 rfl (Qp E2 rfl T22 h0.len) rfl fun _ E3 => S_m E3 rfl rfl ?_)))))
 clear E a E1 E2 E3; intro a E
 refine Qc (T_n (Qi ?_))
 replace S := S.re1 (l' := Zl f1 0 (l0.take 0)) (by (simp [Zl]; done))
 refine Qx (γ := Nat) (fun (k : Nat) a w => ∃ (M_2 : Hp) (u5 : Value), Hp.le M1 M_2 ∧ St w M_2 (QR 3 u5 (Zl f1 0 (l0.take k)) :: H) ∧ Env a 26 [] [(0, v0), (1, v1), (5, u5), (11, .int .i64 (((l0).length : Nat) : Int)), (12, .int .i64 ((k : Nat) : Int))] ∧ (k ≤ (l0).length)) (fun k => ((l0).length) - k) 0 ⟨M1, _, Hp.le.refl _, S, E.keep ⟨rfl, rfl, rfl, rfl, rfl, trivial⟩, by (omega)⟩ ?_
 try clear E
 try clear S
 try clear a
 try clear w
 rintro k a w ⟨M_2, u5, hM_2, S, E, hL0_0⟩
 replace h0 := h0.le hM_2
 replace h1 := h1.le hM_2
 have hfl := Ui hf2 (l0.take k) 0; simp only [List.length_take] at hfl
 refine Qb (Qa (S_v E rfl (QG E rfl rfl) rfl ?_))
 clear E a; intro a E
 refine Qc (T_n (Qb ?_))
 refine Qn E rfl (fun hc_3 => ?_) (fun hc_3 => ?_)
 ·refine Qh (T_n (Qb (Qi (Qb (Qa (S_m E rfl rfl fun _ E1 => S_a E1 rfl rfl fun _ E2 => Qc (T_n (Qa (S_m E2 rfl rfl fun _ E3 => S_m E3 rfl rfl fun _ E4 => S_m E4 rfl rfl fun _ E5 => S_m E5 rfl rfl ?_)))))))))
  clear E a E1 E2 E3 E4 E5; intro a E
  obtain ⟨x_4, hx_4⟩ : ∃ x, (l0)[k]? = some x := ⟨_, List.getElem?_eq_getElem (by omega)⟩
  obtain ⟨p_5, hp_5, qp_5⟩ := h0.at hx_4
  refine S_v E rfl (QB E rfl rfl T22 hp_5 rfl) rfl fun _ E1 => S_v E1 rfl (Qj E1 rfl Tryz.isAgg3 S.imm qp_5) rfl fun _ E2 => S_m E2 rfl rfl ?_
  clear E a E1 E2; intro a E
  refine S_x (Qr E S rfl rfl rfl (h1.2 x_4 ((k : Nat) : Int)) (Hp.le.refl _) ?_)
  clear E a S; rintro a v_7 w M_6 hM_6 hv_7 S E
  refine S_x (QJ (xs := Zl f1 0 (l0.take k)) E S rfl rfl rfl T22 hv_7 (by (rw [hf2]; omega)) ?_)
  clear E a S; rintro a w v_8 E S
  refine S_a E rfl rfl fun _ E1 => Qc (B_n (T_n (Qa (S_v E1 rfl (Qq (m := ((k + 1 : Nat) : Int)) E1 rfl rfl (by omega) (by omega)) rfl fun _ E2 => S_m E2 rfl rfl ?_))))
  clear E a E1 E2; intro a E
  refine Qc (T_n ?_)
  replace S := S.re1 (l' := Zl f1 0 (l0.take (k + 1))) (by (rw [zR (by assumption)]; done))
  exact ⟨k + 1, ⟨M_6, _, (hM_2.trans hM_6), S, E.keep ⟨rfl, rfl, rfl, rfl, rfl, trivial⟩, by (omega)⟩, by omega⟩
 ·refine Qt (T_x (T_x (B_x (T_n (Qb (Qa (S_m E rfl rfl fun _ E1 => S_a E1 rfl rfl ?_)))))))
  clear E a E1; intro a E
  refine Qc (T_n (Qe ?_))
  have S0 := S; clear S
  obtain ⟨M_9, hM_9, hz_10, S⟩ := S0.freezeI (by (have hfl := Ui hf2 (l0.take k) 0; simp only [List.length_take] at hfl; omega))
  clear S0
  exact Qg E Tryz.results135 rfl ⟨_, rfl, M_9, (hM_2.trans hM_9), (RdS.eqL hz_10 (by (rw [List.take_of_length_le (by omega)]))), S⟩
theorem jG {M : Hp} {kk9 kn9 : Int} (gk9 : -9223372036854775808 ≤ kn9 ∧ kn9 ≤ 9223372036854775807) {bx9 : Nat} (hbx9 : M bx9 = some (.cells #[.int .i64 kk9, .int .i64 kn9] 30)) {x0 x1 : Int} :
  Pu Tryz.prog (.func (.func 136) #[] #[.pointer (some ⟨bx9, 0, none⟩)]) M [.int .i64 x0, .int .i64 x1] (fun r M' => RdI M' r [x0, Qs kk9 kn9 x0 x1]) := by
 refine Qk Tryz.func136 rfl Tryz.ntmps136 rfl Tryz.call136 ?_
 intro a w M1 H hM1 S E
 replace hbx9 := hM1.2 _ _ hbx9
 refine Qb (Qa (S_a E rfl rfl fun _ E1 => Qc (T_n (Qb (Qa (S_m E1 rfl rfl fun _ E2 => S_v E2 rfl (QA E2 rfl (Tryz.isAgg30 _) (Tryz.sizeOf30 _) S.imm hbx9) rfl fun _ E3 => S_m E3 rfl rfl fun _ E4 => S_m E4 rfl rfl ?_))))))
 clear E a E1 E2 E3 E4; intro a E
 refine S_x (Qr E S rfl rfl rfl (jf (by omega)) (Hp.le.refl _) ?_)
 clear E a S; rintro a _ w M_1 hM_1 rfl S E
 refine S_x (Qy (ys := [x0, Qs kk9 kn9 x0 x1]) E S rfl T22 rfl rfl rfl ?_)
 clear E a S; rintro a w v_2 E S
 refine S_a E rfl rfl ?_
 clear E a; intro a E
 refine Qc (T_n (Qe ?_))
 have S0 := S; clear S
 obtain ⟨M_3, hM_3, hz_4, S⟩ := S0.freezeI (by ((simp; done)))
 clear S0
 exact Qg E Tryz.results136 rfl ⟨_, rfl, M_3, (hM_1.trans hM_3), hz_4, S⟩
theorem yW {M : Hp} {v0 : Value} {l0 : List Int} (h0 : RdI M v0 l0){kk1 kn1 : Int} (gk1 : -9223372036854775808 ≤ kn1 ∧ kn1 ≤ 9223372036854775807) (hb : l0.length ≤ 1000000000) :
  Pu Tryz.prog (.func (.func 49) #[] #[]) M [v0, .agg #[.int .i64 kk1, .int .i64 kn1]] (fun r M' => RdI M' r (Zl (fun x i => [x, Qs kk1 kn1 x i]) 0 l0)) := by
 refine Qk Tryz.func49 rfl Tryz.ntmps49 rfl Tryz.call49 ?_
 intro a w M1 H hM1 S E
 replace h0 := h0.le hM1
 have b0 := h0.bound
 refine Qb (Qa ?_)
 refine S_x (Jc (cs := #[.int .i64 kk1, .int .i64 kn1]) E S rfl rfl rfl ?_)
 clear E a S; rintro a w b_1 E S
 obtain ⟨M_2, hM_2, hb_1, S⟩ := S.freezeB
 replace h0 := h0.le hM_2
 refine S_a E rfl rfl fun _ E1 => Qc (T_n (Qb (Qa (S_m E1 rfl rfl fun _ E2 => S_v E2 rfl (QT E2 rfl rfl) rfl ?_))))
 clear E a E1 E2; intro a E
 refine S_x (Qr E S rfl rfl rfl (lo_FlatMap h0 (f1 := (fun x i => [x, Qs kk1 kn1 x i])) ⟨rfl, fun zx0 zx1 => jG (x0 := zx0) (x1 := zx1) (by omega) hb_1⟩ (by (omega)) (by exact fun _ _ => rfl)) (Hp.le.refl _) ?_)
 clear E a S; rintro a v_4 w M_3 hM_3 hv_4 S E
 refine S_a E rfl rfl ?_
 clear E a; intro a E
 refine Qc (T_n (Qe ?_))
 exact Qg E Tryz.results49 rfl ⟨_, rfl, M_3, (hM_2.trans hM_3), hv_4, S⟩
theorem lo_Uniq {M : Hp} {v0 : Value} {l0 : List Int} (h0 : RdI M v0 l0) (hb : l0.length ≤ 1000000000000) :
  Pu Tryz.prog (.func (.func 137) #[] #[]) M [v0] (fun r M' => RdI M' r (QC l0)) := by
 refine Qk Tryz.func137 rfl Tryz.ntmps137 rfl Tryz.call137 ?_
 intro a w M1 H hM1 S E
 replace h0 := h0.le hM1
 have b0 := h0.bound
 refine Qb (Qa (S_a E rfl rfl fun _ E1 => Qc (T_n (Qb (Qa (S_m E1 rfl rfl fun _ E2 => S_v E2 rfl (Qp E2 rfl T22 h0.len) rfl ?_))))))
 clear E a E1 E2; intro a E
 refine S_x (Jf (k := (l0).length) E S rfl rfl rfl T22 rfl (by omega) (by omega) (by omega) ?_)
 clear E a S; rintro a w v_1 E S
 replace S := S.made0
 refine S_a E rfl rfl fun _ E1 => Qc (T_n (Qb (Qa (S_m E1 rfl rfl fun _ E2 => S_v E2 rfl (Qp E2 rfl T22 h0.len) rfl ?_))))
 clear E a E1 E2; intro a E
 refine S_x (ZB E S rfl Yg rfl ?_)
 clear E a S; rintro a w b_2 E S
 replace S : St w M1 (Zs b_2 ([] : List Int) :: _) := S
 refine S_a E rfl rfl fun _ E1 => Qc (T_n (Qb (Qb (Qa (S_m E1 rfl rfl fun _ E2 => S_v E2 rfl (Qp E2 rfl T22 h0.len) rfl fun _ E3 => S_m E3 rfl rfl ?_)))))
 clear E a E1 E2 E3; intro a E
 refine Qc (T_n (Qi ?_))
 replace S := S.front1
 replace S := S.front1
 replace S := S.reM (L' := (Sl.encS (QC (l0.take 0)))) (congrArg Sl.encS (show ([] : List Int) = QC (l0.take 0) by first | (simp [QC]; done) | rfl | (rw [qO (by assumption) (by assumption)]; done) | (rw [Gr (by assumption) (by assumption)]; done) | (rw [YF (by assumption)]; done)))
 replace S := S.front1
 replace S := S.re1 (l' := QC (l0.take 0)) (by (simp [QC]; done))
 refine Qx (γ := Nat) (fun (k : Nat) a w => ∃ (M_3 : Hp) (u3 : Value), Hp.le M1 M_3 ∧ St w M_3 (QR 3 u3 (QC (l0.take k)) :: Zs b_2 (QC (l0.take k)) :: H) ∧ Env a 44 [] [(0, v0), (3, u3), (4, .map (some b_2)), (15, .int .i64 (((l0).length : Nat) : Int)), (16, .int .i64 ((k : Nat) : Int))] ∧ (k ≤ (l0).length)) (fun k => ((l0).length) - k) 0 ⟨M1, _, Hp.le.refl _, S, E.keep ⟨rfl, rfl, rfl, rfl, rfl, trivial⟩, by (omega)⟩ ?_
 try clear E
 try clear S
 try clear a
 try clear w
 rintro k a w ⟨M_3, u3, hM_3, S, E, hL0_0⟩
 replace h0 := h0.le hM_3
 have hkl := Ue (l0.take k); simp only [List.length_take] at hkl
 refine Qb (Qa (S_v E rfl (QG E rfl rfl) rfl ?_))
 clear E a; intro a E
 refine Qc (T_n (Qb ?_))
 refine Qn E rfl (fun hc_4 => ?_) (fun hc_4 => ?_)
 ·refine Qh (T_n (Qb (Qi (Qb (Qa (S_m E rfl rfl fun _ E1 => S_a E1 rfl rfl fun _ E2 => Qc (T_n (Qb (Qb (Qa (S_m E2 rfl rfl fun _ E3 => S_m E3 rfl rfl fun _ E4 => S_m E4 rfl rfl ?_)))))))))))
  clear E a E1 E2 E3 E4; intro a E
  obtain ⟨x_5, hx_5⟩ : ∃ x, (l0)[k]? = some x := ⟨_, List.getElem?_eq_getElem (by omega)⟩
  obtain ⟨p_6, hp_6, qp_6⟩ := h0.at hx_5
  refine S_v E rfl (QB E rfl rfl T22 hp_6 rfl) rfl fun _ E1 => S_v E1 rfl (Qj E1 rfl Tryz.isAgg3 S.imm qp_6) rfl ?_
  clear E a E1; intro a E
  replace S := S.front1
  refine S_x (ZF E S rfl Yg rfl rfl ?_)
  clear E a S; rintro a w E S
  replace S : St w M_3 (Zs b_2 (QC (l0.take k)) :: _) := S
  refine S_m E rfl rfl fun _ E1 => S_v E1 rfl (Qm E1 rfl rfl) rfl fun _ E2 => S_v E2 rfl (Qm E2 rfl rfl) rfl ?_
  clear E a E1 E2; intro a E
  refine S_x (Jp (cs := #[]) E S rfl Tryz.zeroValue117 rfl ?_)
  clear E a S; rintro a w b_7 E S
  refine Zr (Jz (us := []) E S rfl rfl (Tryz.sizeOf117 _) rfl (by intro u hu; cases hu) ?_)
  clear E a S; rintro a w E S
  replace S : St w M_3 (blk b_7 (.cells #[] 117) :: _) := S
  have S0 := S; clear S
  obtain ⟨M_8, hM_8, hb_9, S⟩ := S0.freezeB
  clear S0
  replace h0 := h0.le hM_8
  refine S_a E rfl rfl fun _ E1 => Qc (T_n (Qb (Qa (S_m E1 rfl rfl ?_))))
  clear E a E1; intro a E
  refine Qc (T_n ?_)
  refine Qn E rfl (fun hc_10 => ?_) (fun hc_10 => ?_)
  ·refine Qt (T_x (B_x (T_n (Qa (S_v E rfl (Qq (m := ((k + 1 : Nat) : Int)) E rfl rfl (by omega) (by omega)) rfl fun _ E1 => S_m E1 rfl rfl ?_)))))
   clear E a E1; intro a E
   refine Qc (T_n ?_)
   replace S := S.front1
   replace S := S.front1
   replace S := S.reM (L' := (Sl.encS (QC (l0.take (k + 1))))) (congrArg Sl.encS (show QC (l0.take k) = QC (l0.take (k + 1)) by first | (simp [QC]; done) | rfl | (rw [qO (by assumption) (by assumption)]; done) | (rw [Gr (by assumption) (by assumption)]; done) | (rw [YF (by assumption)]; done)))
   replace S := S.front1
   replace S := S.re1 (l' := QC (l0.take (k + 1))) (by (rw [qO (by assumption) (by assumption)]; done))
   exact ⟨k + 1, ⟨M_8, _, (hM_3.trans hM_8), S, E.keep ⟨rfl, rfl, rfl, rfl, rfl, trivial⟩, by (omega)⟩, by omega⟩
  ·refine Qh (T_n (Qb (Qa (S_m E rfl rfl fun _ E1 => S_m E1 rfl rfl fun _ E2 => S_m E2 rfl rfl ?_))))
   clear E a E1 E2; intro a E
   obtain ⟨p_11, hp_11, qp_11⟩ := h0.at hx_5
   refine S_v E rfl (QB E rfl rfl T22 hp_11 rfl) rfl fun _ E1 => S_v E1 rfl (Qj E1 rfl Tryz.isAgg3 S.imm qp_11) rfl fun _ E2 => S_v E2 rfl (VE (u := .agg #[]) (vs := []) E2 rfl (fun w => qQ  w)) rfl ?_
   clear E a E1 E2; intro a E
   refine Zr (Wz E S Yg rfl rfl rfl ?_)
   clear E a S; rintro a w E S
   refine Qc (T_n (Qa (S_m E rfl rfl fun _ E1 => S_m E1 rfl rfl fun _ E2 => S_m E2 rfl rfl ?_)))
   clear E a E1 E2; intro a E
   obtain ⟨p_12, hp_12, qp_12⟩ := h0.at hx_5
   refine S_v E rfl (QB E rfl rfl T22 hp_12 rfl) rfl fun _ E1 => S_v E1 rfl (Qj E1 rfl Tryz.isAgg3 S.imm qp_12) rfl ?_
   clear E a E1; intro a E
   refine S_x (Qy (ys := [x_5]) E S rfl T22 rfl rfl rfl ?_)
   clear E a S; rintro a w v_13 E S
   replace S := S.front2
   replace S := S.front1
   refine S_x (QH (xs := QC (l0.take k)) (ys := [x_5]) E S rfl rfl rfl T22 (by (simp; omega)) ?_)
   clear E a S; rintro a w v_14 E S
   refine S_a E rfl rfl fun _ E1 => Qc (B_n (T_n (Qa (S_v E1 rfl (Qq (m := ((k + 1 : Nat) : Int)) E1 rfl rfl (by omega) (by omega)) rfl fun _ E2 => S_m E2 rfl rfl ?_))))
   clear E a E1 E2; intro a E
   refine Qc (T_n ?_)
   replace S := S.front1
   replace S := S.reM (L' := (Sl.encS (QC (l0.take (k + 1))))) (congrArg Sl.encS (show Ye (QC (l0.take k)) x_5 = QC (l0.take (k + 1)) by first | (simp [QC]; done) | rfl | (rw [qO (by assumption) (by assumption)]; done) | (rw [Gr (by assumption) (by assumption)]; done) | (rw [YF (by assumption)]; done)))
   replace S := S.front1
   replace S := S.re1 (l' := QC (l0.take (k + 1))) (by (rw [Gr (by assumption) (by assumption)]; done))
   exact ⟨k + 1, ⟨M_8, _, (hM_3.trans hM_8), S, E.keep ⟨rfl, rfl, rfl, rfl, rfl, trivial⟩, by (omega)⟩, by omega⟩
 ·refine Qt (T_x (T_x (B_x (T_n (Qb (Qa (S_m E rfl rfl fun _ E1 => S_a E1 rfl rfl ?_)))))))
  clear E a E1; intro a E
  refine Qc (T_n (Qe ?_))
  have S0 := S; clear S
  obtain ⟨M_15, hM_15, hz_16, S⟩ := S0.freezeI (by (omega))
  clear S0
  exact Qg E Tryz.results137 rfl ⟨_, rfl, M_15, (hM_3.trans hM_15), (RdS.eqL hz_16 (by (rw [List.take_of_length_le (by omega)]))), S.drop⟩
theorem impl_Uniq {M : Hp} {v0 : Value} {l0 : List Int} (h0 : RdI M v0 l0) (hb : l0.length ≤ 1000000000000) :
  Pu Tryz.prog (.func (.func 50) #[] #[]) M [v0] (fun r M' => RdI M' r (QC l0)) := by
 refine Qk Tryz.func50 rfl Tryz.ntmps50 rfl Tryz.call50 ?_
 intro a w M1 H hM1 S E
 replace h0 := h0.le hM1
 have b0 := h0.bound
 have hkl := Ue l0
 refine Qb (Qa (S_a E rfl rfl fun _ E1 => Qc (T_n (Qb (Qa (S_m E1 rfl rfl ?_))))))
 clear E a E1; intro a E
 refine S_x (Qr E S rfl rfl rfl (lo_Uniq h0 (by (omega))) (Hp.le.refl _) ?_)
 clear E a S; rintro a v_2 w M_1 hM_1 hv_2 S E
 refine S_a E rfl rfl ?_
 clear E a; intro a E
 refine Qc (T_n (Qe ?_))
 exact Qg E Tryz.results50 rfl ⟨_, rfl, M_1, hM_1, hv_2, S⟩
end Go.Proofs.YtgceicmfefpngaaGreat.wFnScript
