/- Walks through the functions that laws.FnTurnedMaps reaches: what each computes; no conditions beyond what each theorem states. -/
import Derived.Test.YtahbobhbookehaaWFnTurnedMapsc
set_option linter.unusedVariables false
set_option linter.unusedSimpArgs false
namespace Go.Proofs.Ytahbobhbookehaa.wFnTurnedMaps
open Go Go.Sl
set_option maxRecDepth 100000 in
set_option maxHeartbeats 4000000 in
theorem laws_FnTurnedMaps {M : Hp} {v0 : Value} {l0 : List (Int × Int)} (h0 : RdS 2 RP2 M v0 l0){kk1 kn1 : Int} (gk1 : -9223372036854775808 ≤ kn1 ∧ kn1 ≤ 9223372036854775807) (hr0 : ∀ x ∈ l0, (-9223372036854775808 ≤ x.1 ∧ x.1 ≤ 9223372036854775807) ∧ (-9223372036854775808 ≤ x.2 ∧ x.2 ≤ 9223372036854775807)) :
  PuC Try.prog 10 M [v0, .agg #[.int .i64 kk1, .int .i64 kn1]] (fun r M' => r = .bool true) := by
 refine PuC_enter Try.func10 rfl Try.ntmps10 rfl ?_
 intro a w M1 H hM1 S E
 replace h0 := h0.le RP2_mono hM1
 have b0 := h0.bound
 refine WP_seq ?_
 refine WP_region ?_
 refine S_x (X_box (cs := #[.int .i64 kk1, .int .i64 kn1]) E S rfl rfl rfl ?_)
 clear E a S; rintro a w b_1 E S
 obtain ⟨M_2, hM_2, hb_1, S⟩ := S.freezeB
 replace h0 := h0.le RP2_mono hM_2
 refine S_v E rfl (R_assign E rfl) rfl ?_
 clear E a; intro a E
 refine WL_nil ?_
 refine T_n ?_
 refine WP_seq ?_
 refine WP_seq ?_
 refine WP_region ?_
 refine S_v E rfl (R_move E rfl) rfl ?_
 clear E a; intro a E
 refine S_v E rfl (R_lenV E rfl T33 h0.len) rfl ?_
 clear E a; intro a E
 refine S_v E rfl (R_gtr E rfl rfl) rfl ?_
 clear E a; intro a E
 refine WL_nil ?_
 refine T_n ?_
 refine WP_cond E rfl (fun hc_3 => ?_) (fun hc_3 => ?_)
 ·
  replace hc_3 := of_decide_eq_true hc_3
  refine WP_seq ?_
  refine WP_region ?_
  refine S_v E rfl (R_assign E rfl) rfl ?_
  clear E a; intro a E
  refine WL_nil ?_
  refine T_n ?_
  refine WP_ret ?_
  refine T_r ?_
  exact F_ret1 E Try.results10 rfl ⟨_, rfl, M_2, hM_2, rfl, S⟩
 ·
  replace hc_3 := of_decide_eq_false hc_3
  refine WP_skip ?_
  refine T_n ?_
  refine WP_seq ?_
  refine WP_seq ?_
  refine WP_region ?_
  refine S_v E rfl (R_build (u := .agg #[.int .i64 1, .int .i64 2]) (vs := [.int .i64 1, .int .i64 2]) E rfl (fun w => FB59_0_1_ii 1 2 w)) rfl ?_
  clear E a; intro a E
  refine S_x (X_buildA1 (R := RP2) (cs := [.int .i64 1, .int .i64 2]) (x0 := (1, 2)) RP2_mono E S rfl T33 rfl rfl rfl rfl ?_)
  clear E a S; rintro a v_4 w M_5 hM_5 hv_4 S E
  replace h0 := h0.le RP2_mono hM_5
  replace hb_1 := hM_5.2 _ _ hb_1
  refine S_x (X_pu E S rfl rfl rfl (impl_Invert hv_4 (by first | assumption | (simp [mkE, putK, swp]; done) | exact inj_yes (by assumption) | exact inv_back_nd (inj_yes (by assumption))) (by first | omega | (simp; done) | (simp; omega) | exact Nat.le_trans (mkE_len _) (by omega))) (Hp.le.refl _) ?_)
  clear E a S; rintro a v_7 w M_6 hM_6 hv_7 S E
  replace h0 := h0.le RP2_mono hM_6
  replace hb_1 := hM_6.2 _ _ hb_1
  replace hv_4 := hv_4.le RP2_mono hM_6
  refine S_v E rfl (R_lenV E rfl T33 hv_7.len) rfl ?_
  clear E a; intro a E
  refine S_v E rfl (R_neq E rfl rfl) rfl ?_
  clear E a; intro a E
  refine WL_nil ?_
  refine T_n ?_
  have hc_8 : (decide ((((entE ((mkE [(1, 2)]).map swp)).length : Nat) : Int) ≠ 1)) = false := by (clear S E; first | (simp; done) | decide | (simp [entE, mkE, putK, swp, srtK_len]; done) | (first | refine dec_t ?_ | refine dec_f ?_ | skip); first | exact inj_L (by assumption) | exact inv_back (inj_yes (by assumption)) | exact rv_keys _ _ | rfl)
  refine WP_condF E rfl hc_8 ?_
  refine WP_skip ?_
  refine T_n ?_
  refine WP_seq ?_
  refine WP_seq ?_
  refine WP_region ?_
  refine S_v E rfl (R_move E rfl) rfl ?_
  clear E a; intro a E
  refine S_x (X_buildM (R := (RSl 2 RP2)) (vs := [v0]) (xs := [l0]) (RSl_mono RP2_mono) E S rfl T70 rfl rfl rfl (by intro u hu; simp only [List.mem_cons, List.not_mem_nil, or_false] at hu; rcases hu with rfl <;> first | exact RdS.one' h0) rfl (rowsC (R := (RSl 2 RP2)) ⟨_, rfl, h0⟩ rowsN) ?_)
  clear E a S; rintro a v_9 w M_10 hM_10 hv_9 S E
  replace h0 := h0.le RP2_mono hM_10
  replace hb_1 := hM_10.2 _ _ hb_1
  replace hv_4 := hv_4.le RP2_mono hM_10
  replace hv_7 := hv_7.le RP2_mono hM_10
  refine S_x (X_pu E S rfl rfl rfl (laws_brief hv_9) (Hp.le.refl _) ?_)
  clear E a S; rintro a _ w M_11 hM_11 rfl S E
  replace h0 := h0.le RP2_mono hM_11
  replace hb_1 := hM_11.2 _ _ hb_1
  replace hv_4 := hv_4.le RP2_mono hM_11
  replace hv_7 := hv_7.le RP2_mono hM_11
  replace hv_9 := hv_9.le (RSl_mono RP2_mono) hM_11
  refine S_v E rfl (R_not E rfl) rfl ?_
  clear E a; intro a E
  refine S_v E rfl (R_move E rfl) rfl ?_
  clear E a; intro a E
  refine split_bool (!(decide ((∀ x ∈ [l0], x.length ≤ 200) ∧ ([l0]).length ≤ 20))) (fun hc_12 => ?_) (fun hc_12 => ?_)
  ·
   replace E := E.val (t := 20) rfl hc_12
   replace E := E.val (t := 21) rfl hc_12
   refine WL_guard_no E rfl rfl rfl rfl fun a E => ?_
   refine WL_guard_no E rfl rfl rfl rfl fun a E => ?_
   refine WL_guard_no E rfl rfl rfl rfl fun a E => ?_
   refine S_v E rfl (R_pickT E rfl rfl) rfl ?_
   clear E a; intro a E
   refine WL_nil ?_
   refine T_n ?_
   refine WP_condT E rfl rfl ?_
   refine WP_seq ?_
   refine WP_region ?_
   refine S_v E rfl (R_assign E rfl) rfl ?_
   clear E a; intro a E
   refine WL_nil ?_
   refine T_n ?_
   refine WP_ret ?_
   refine T_r ?_
   exact F_ret1 E Try.results10 rfl ⟨_, rfl, M_11, (hM_2.trans (hM_5.trans (hM_6.trans (hM_10.trans hM_11)))), rfl, S⟩
  ·
   replace E := E.val (t := 20) rfl hc_12
   replace E := E.val (t := 21) rfl hc_12
   refine WL_guard_yes E rfl rfl ?_
   refine S_v E rfl (R_loadGM E rfl (Try.isAgg24 _) (Try.sizeOf24 _) S.imm hb_1) rfl ?_
   clear E a; intro a E
   refine WL_guard_yes E rfl rfl ?_
   refine S_x (X_pu E S rfl rfl rfl (laws_just (by omega)) (Hp.le.refl _) ?_)
   clear E a S; rintro a _ w M_13 hM_13 rfl S E
   replace h0 := h0.le RP2_mono hM_13
   replace hb_1 := hM_13.2 _ _ hb_1
   replace hv_4 := hv_4.le RP2_mono hM_13
   replace hv_7 := hv_7.le RP2_mono hM_13
   replace hv_9 := hv_9.le (RSl_mono RP2_mono) hM_13
   refine WL_guard_yes E rfl rfl ?_
   refine S_v E rfl (R_not E rfl) rfl ?_
   clear E a; intro a E
   refine S_v E rfl (R_pickF E rfl rfl) rfl ?_
   clear E a; intro a E
   refine WL_nil ?_
   refine T_n ?_
   refine WP_cond E rfl (fun hc_14 => ?_) (fun hc_14 => ?_)
   ·
    refine WP_seq ?_
    refine WP_region ?_
    refine S_v E rfl (R_assign E rfl) rfl ?_
    clear E a; intro a E
    refine WL_nil ?_
    refine T_n ?_
    refine WP_ret ?_
    refine T_r ?_
    exact F_ret1 E Try.results10 rfl ⟨_, rfl, M_13, (hM_2.trans (hM_5.trans (hM_6.trans (hM_10.trans (hM_11.trans hM_13))))), rfl, S⟩
   ·
    have hbr : l0.length ≤ 200 := by simp_all
    have hkj : -1099511627776 < kn1 ∧ kn1 < 1099511627776 := (by simp_all)
    have hA1 := entE_len ((mkE l0).map swp)
    have hA2 := mkl_len swp l0
    have hA3 := entE_len ((mkE l0).map (rvv (fun v x => keyAt kk1 kn1 v x)))
    have hA4 := mkl_len (rvv (fun v x => keyAt kk1 kn1 v x)) l0
    refine WP_skip ?_
    refine T_n ?_
    refine WP_seq ?_
    refine WP_region ?_
    refine S_v E rfl (R_move E rfl) rfl ?_
    clear E a; intro a E
    refine S_x (X_pu E S rfl rfl rfl (laws_pairs h0 (by first | omega | (simp [ixm_len]; done) | (simp [ixm_len]; omega) | (have h9 := kpix_len _ _ _; exact Nat.le_trans h9 (by omega)) | exact Nat.le_trans (kpix_len _ _ _) (by first | omega | (simp; omega)))) (Hp.le.refl _) ?_)
    clear E a S; rintro a v_16 w M_15 hM_15 hv_16 S E
    replace h0 := h0.le RP2_mono hM_15
    replace hb_1 := hM_15.2 _ _ hb_1
    replace hv_4 := hv_4.le RP2_mono hM_15
    replace hv_7 := hv_7.le RP2_mono hM_15
    replace hv_9 := hv_9.le (RSl_mono RP2_mono) hM_15
    refine S_x (X_pu E S rfl rfl rfl (spec_Invert hv_16 (by first | omega | (simp [ixm_len]; done) | (simp [ixm_len]; omega) | (have h9 := kpix_len _ _ _; exact Nat.le_trans h9 (by omega)) | exact Nat.le_trans (kpix_len _ _ _) (by first | omega | (simp; omega)))) (Hp.le.refl _) ?_)
    clear E a S; rintro a _ w M_17 hM_17 ⟨v_18, rfl, hv_18⟩ S E
    replace h0 := h0.le RP2_mono hM_17
    replace hb_1 := hM_17.2 _ _ hb_1
    replace hv_4 := hv_4.le RP2_mono hM_17
    replace hv_7 := hv_7.le RP2_mono hM_17
    replace hv_9 := hv_9.le (RSl_mono RP2_mono) hM_17
    replace hv_16 := hv_16.le RP2_mono hM_17
    refine S_v E rfl (R_move E rfl) rfl ?_
    clear E a; intro a E
    refine S_v E rfl (R_extract E rfl rfl) rfl ?_
    clear E a; intro a E
    refine S_v E rfl (R_extract E rfl rfl) rfl ?_
    clear E a; intro a E
    refine S_v E rfl (R_assign E rfl) rfl ?_
    clear E a; intro a E
    refine S_v E rfl (R_assign E rfl) rfl ?_
    clear E a; intro a E
    refine WL_nil ?_
    refine T_n ?_
    refine WP_seq ?_
    refine WP_seq ?_
    refine WP_region ?_
    refine S_v E rfl (R_move E rfl) rfl ?_
    clear E a; intro a E
    refine S_v E rfl (R_eql E rfl rfl) rfl ?_
    clear E a; intro a E
    refine S_v E rfl (R_move E rfl) rfl ?_
    clear E a; intro a E
    refine split_bool (decide (injS swp l0 = 1)) (fun hc_19 => ?_) (fun hc_19 => ?_)
    ·
     replace E := E.val (t := 33) rfl hc_19
     replace E := E.val (t := 34) rfl hc_19
     replace hc_19 := of_decide_eq_true hc_19
     refine WL_guard_yes E rfl rfl ?_
     refine S_v E rfl (R_move E rfl) rfl ?_
     clear E a; intro a E
     refine WL_guard_yes E rfl rfl ?_
     refine S_x (X_pu E S rfl rfl rfl (impl_Invert h0 (by first | assumption | (simp [mkE, putK, swp]; done) | exact inj_yes (by assumption) | exact inv_back_nd (inj_yes (by assumption))) (by first | omega | (simp; done) | (simp; omega) | exact Nat.le_trans (mkE_len _) (by omega))) (Hp.le.refl _) ?_)
     clear E a S; rintro a v_21 w M_20 hM_20 hv_21 S E
     replace h0 := h0.le RP2_mono hM_20
     replace hb_1 := hM_20.2 _ _ hb_1
     replace hv_4 := hv_4.le RP2_mono hM_20
     replace hv_7 := hv_7.le RP2_mono hM_20
     replace hv_9 := hv_9.le (RSl_mono RP2_mono) hM_20
     replace hv_16 := hv_16.le RP2_mono hM_20
     replace hv_18 := hv_18.le RP2_mono hM_20
     refine WL_guard_yes E rfl rfl ?_
     refine S_v E rfl (R_move E rfl) rfl ?_
     clear E a; intro a E
     refine WL_guard_yes E rfl rfl ?_
     refine S_x (X_pu E S rfl rfl rfl (laws_eqRef hv_21 hv_18) (Hp.le.refl _) ?_)
     clear E a S; rintro a _ w M_22 hM_22 rfl S E
     replace h0 := h0.le RP2_mono hM_22
     replace hb_1 := hM_22.2 _ _ hb_1
     replace hv_4 := hv_4.le RP2_mono hM_22
     replace hv_7 := hv_7.le RP2_mono hM_22
     replace hv_9 := hv_9.le (RSl_mono RP2_mono) hM_22
     replace hv_16 := hv_16.le RP2_mono hM_22
     replace hv_18 := hv_18.le RP2_mono hM_22
     replace hv_21 := hv_21.le RP2_mono hM_22
     refine WL_guard_yes E rfl rfl ?_
     refine S_v E rfl (R_not E rfl) rfl ?_
     clear E a; intro a E
     refine WL_guard_yes E rfl rfl ?_
     refine S_v E rfl (R_move E rfl) rfl ?_
     clear E a; intro a E
     have hc_23 : (!(decide (entE ((mkE l0).map swp) = injL swp l0))) = false := by (clear S E; first | (simp; done) | decide | (simp [entE, mkE, putK, swp, srtK_len]; done) | (first | refine dec_t ?_ | refine dec_f ?_ | skip); first | exact inj_L (by assumption) | exact inv_back (inj_yes (by assumption)) | exact rv_keys _ _ | rfl)
     replace E := E.val (t := 39) rfl hc_23
     replace E := E.val (t := 40) rfl hc_23
     refine WL_guard_yes E rfl rfl ?_
     refine S_v E rfl (R_move E rfl) rfl ?_
     clear E a; intro a E
     refine WL_guard_yes E rfl rfl ?_
     refine S_x (X_pu E S rfl rfl rfl (impl_Invert h0 (by first | assumption | (simp [mkE, putK, swp]; done) | exact inj_yes (by assumption) | exact inv_back_nd (inj_yes (by assumption))) (by first | omega | (simp; done) | (simp; omega) | exact Nat.le_trans (mkE_len _) (by omega))) (Hp.le.refl _) ?_)
     clear E a S; rintro a v_25 w M_24 hM_24 hv_25 S E
     replace h0 := h0.le RP2_mono hM_24
     replace hb_1 := hM_24.2 _ _ hb_1
     replace hv_4 := hv_4.le RP2_mono hM_24
     replace hv_7 := hv_7.le RP2_mono hM_24
     replace hv_9 := hv_9.le (RSl_mono RP2_mono) hM_24
     replace hv_16 := hv_16.le RP2_mono hM_24
     replace hv_18 := hv_18.le RP2_mono hM_24
     replace hv_21 := hv_21.le RP2_mono hM_24
     refine WL_guard_yes E rfl rfl ?_
     refine S_x (X_pu E S rfl rfl rfl (impl_Invert hv_25 (by first | assumption | (simp [mkE, putK, swp]; done) | exact inj_yes (by assumption) | exact inv_back_nd (inj_yes (by assumption))) (by first | omega | (simp; done) | (simp; omega) | exact Nat.le_trans (mkE_len _) (by omega))) (Hp.le.refl _) ?_)
     clear E a S; rintro a v_27 w M_26 hM_26 hv_27 S E
     replace h0 := h0.le RP2_mono hM_26
     replace hb_1 := hM_26.2 _ _ hb_1
     replace hv_4 := hv_4.le RP2_mono hM_26
     replace hv_7 := hv_7.le RP2_mono hM_26
     replace hv_9 := hv_9.le (RSl_mono RP2_mono) hM_26
     replace hv_16 := hv_16.le RP2_mono hM_26
     replace hv_18 := hv_18.le RP2_mono hM_26
     replace hv_21 := hv_21.le RP2_mono hM_26
     replace hv_25 := hv_25.le RP2_mono hM_26
     refine WL_guard_yes E rfl rfl ?_
     refine S_v E rfl (R_move E rfl) rfl ?_
     clear E a; intro a E
     refine WL_guard_yes E rfl rfl ?_
     refine S_x (X_pu E S rfl rfl rfl (impl_Entries h0 (by first | omega | (simp [ixm_len]; done) | (simp [ixm_len]; omega) | (have h9 := kpix_len _ _ _; exact Nat.le_trans h9 (by omega)) | exact Nat.le_trans (kpix_len _ _ _) (by first | omega | (simp; omega)))) (Hp.le.refl _) ?_)
     clear E a S; rintro a v_29 w M_28 hM_28 hv_29 S E
     replace h0 := h0.le RP2_mono hM_28
     replace hb_1 := hM_28.2 _ _ hb_1
     replace hv_4 := hv_4.le RP2_mono hM_28
     replace hv_7 := hv_7.le RP2_mono hM_28
     replace hv_9 := hv_9.le (RSl_mono RP2_mono) hM_28
     replace hv_16 := hv_16.le RP2_mono hM_28
     replace hv_18 := hv_18.le RP2_mono hM_28
     replace hv_21 := hv_21.le RP2_mono hM_28
     replace hv_25 := hv_25.le RP2_mono hM_28
     replace hv_27 := hv_27.le RP2_mono hM_28
     refine WL_guard_yes E rfl rfl ?_
     refine S_x (X_pu E S rfl rfl rfl (laws_eqPairs hv_27 hv_29) (Hp.le.refl _) ?_)
     clear E a S; rintro a _ w M_30 hM_30 rfl S E
     replace h0 := h0.le RP2_mono hM_30
     replace hb_1 := hM_30.2 _ _ hb_1
     replace hv_4 := hv_4.le RP2_mono hM_30
     replace hv_7 := hv_7.le RP2_mono hM_30
     replace hv_9 := hv_9.le (RSl_mono RP2_mono) hM_30
     replace hv_16 := hv_16.le RP2_mono hM_30
     replace hv_18 := hv_18.le RP2_mono hM_30
     replace hv_21 := hv_21.le RP2_mono hM_30
     replace hv_25 := hv_25.le RP2_mono hM_30
     replace hv_27 := hv_27.le RP2_mono hM_30
     replace hv_29 := hv_29.le RP2_mono hM_30
     refine WL_guard_yes E rfl rfl ?_
     refine S_v E rfl (R_not E rfl) rfl ?_
     clear E a; intro a E
     refine WL_guard_yes E rfl rfl ?_
     refine S_v E rfl (R_pickF E rfl rfl) rfl ?_
     clear E a; intro a E
     refine S_v E rfl (R_pickT E rfl rfl) rfl ?_
     clear E a; intro a E
     refine WL_nil ?_
     refine T_n ?_
     have hc_31 : (!(decide (entE ((mkE (entE ((mkE l0).map swp))).map swp) = entE l0))) = false := by (clear S E; first | (simp; done) | decide | (simp [entE, mkE, putK, swp, srtK_len]; done) | (first | refine dec_t ?_ | refine dec_f ?_ | skip); first | exact inj_L (by assumption) | exact inv_back (inj_yes (by assumption)) | exact rv_keys _ _ | rfl)
     refine WP_condF E rfl hc_31 ?_
     refine WP_skip ?_
     refine T_n ?_
     refine WP_seq ?_
     have hb_1k31 := hb_1
     replace S := S.mono_heap (w' := World.drew _) rfl
     refine WP_drawn (C := fun x w => agree M_30 w) (bf := (fun i => [])) [0, 2, 4, 5, 6, 7, 8] [0, 2, 1, 3, 4, 5, 6, 7, 8] Try.mixed (by kernel_rfl) (fun x hq => S.imm) ?_
     refine D_v E rfl rfl rfl (fun w hC => (R_move E rfl)) ?_
     clear E a; intro a E
     refine D_v E rfl rfl rfl (fun w hC => (R_loadGM E rfl (Try.isAgg24 _) (Try.sizeOf24 _) hC hb_1k31)) ?_
     clear E a; intro a E
     refine D_x rfl rfl rfl (X_pu E S rfl rfl rfl (laws_pairs h0 (by first | omega | (simp [ixm_len]; done) | (simp [ixm_len]; omega) | (have h9 := kpix_len _ _ _; exact Nat.le_trans h9 (by omega)) | exact Nat.le_trans (kpix_len _ _ _) (by first | omega | (simp; omega)))) (Hp.le.refl _) ?_)
     clear E a S; rintro a v_33 w M_32 hM_32 hv_33 S E
     replace h0 := h0.le RP2_mono hM_32
     replace hb_1 := hM_32.2 _ _ hb_1
     replace hv_4 := hv_4.le RP2_mono hM_32
     replace hv_7 := hv_7.le RP2_mono hM_32
     replace hv_9 := hv_9.le (RSl_mono RP2_mono) hM_32
     replace hv_16 := hv_16.le RP2_mono hM_32
     replace hv_18 := hv_18.le RP2_mono hM_32
     replace hv_21 := hv_21.le RP2_mono hM_32
     replace hv_25 := hv_25.le RP2_mono hM_32
     replace hv_27 := hv_27.le RP2_mono hM_32
     replace hv_29 := hv_29.le RP2_mono hM_32
     refine ⟨fun x hq hb => (agree_le hM_32 S.imm), ?_⟩
     refine D_x rfl rfl rfl (X_pu E S rfl rfl rfl (spec_MapKeys hv_33 (by omega) (by assumption) (by first | omega | (simp [ixm_len]; done) | (simp [ixm_len]; omega) | (have h9 := kpix_len _ _ _; exact Nat.le_trans h9 (by omega)) | exact Nat.le_trans (kpix_len _ _ _) (by first | omega | (simp; omega)))) (Hp.le.refl _) ?_)
     clear E a S; rintro a _ w M_34 hM_34 ⟨v_35, rfl, hv_35⟩ S E
     replace h0 := h0.le RP2_mono hM_34
     replace hb_1 := hM_34.2 _ _ hb_1
     replace hv_4 := hv_4.le RP2_mono hM_34
     replace hv_7 := hv_7.le RP2_mono hM_34
     replace hv_9 := hv_9.le (RSl_mono RP2_mono) hM_34
     replace hv_16 := hv_16.le RP2_mono hM_34
     replace hv_18 := hv_18.le RP2_mono hM_34
     replace hv_21 := hv_21.le RP2_mono hM_34
     replace hv_25 := hv_25.le RP2_mono hM_34
     replace hv_27 := hv_27.le RP2_mono hM_34
     replace hv_29 := hv_29.le RP2_mono hM_34
     replace hv_33 := hv_33.le RP2_mono hM_34
     refine ⟨fun x hq hb => (agree_le (hM_32.trans hM_34) S.imm), ?_⟩
     refine D_v E rfl rfl rfl (fun w hC => (R_move E rfl)) ?_
     clear E a; intro a E
     refine D_v E rfl rfl rfl (fun w hC => (R_extract E rfl rfl)) ?_
     clear E a; intro a E
     refine D_v E rfl rfl rfl (fun w hC => (R_extract E rfl rfl)) ?_
     clear E a; intro a E
     refine D_v E rfl rfl rfl (fun w hC => (R_assign E rfl)) ?_
     clear E a; intro a E
     refine D_v E rfl rfl rfl (fun w hC => (R_assign E rfl)) ?_
     clear E a; intro a E
     refine D_end (NoP_n ?_)
     refine T_n ?_
     refine WP_seq ?_
     refine WP_seq ?_
     refine WP_region ?_
     refine S_v E rfl (R_move E rfl) rfl ?_
     clear E a; intro a E
     refine S_v E rfl (R_eql E rfl rfl) rfl ?_
     clear E a; intro a E
     refine S_v E rfl (R_move E rfl) rfl ?_
     clear E a; intro a E
     refine split_bool (decide (injS (rek (fun v x => keyAt kk1 kn1 x v)) l0 = 1)) (fun hc_36 => ?_) (fun hc_36 => ?_)
     ·
      replace E := E.val (t := 58) rfl hc_36
      replace E := E.val (t := 59) rfl hc_36
      replace hc_36 := of_decide_eq_true hc_36
      refine WL_guard_yes E rfl rfl ?_
      refine S_v E rfl (R_move E rfl) rfl ?_
      clear E a; intro a E
      refine WL_guard_yes E rfl rfl ?_
      refine S_v E rfl (R_loadGM E rfl (Try.isAgg24 _) (Try.sizeOf24 _) S.imm hb_1) rfl ?_
      clear E a; intro a E
      refine WL_guard_yes E rfl rfl ?_
      refine S_x (X_pu E S rfl rfl rfl (impl_MapKeys h0 (by omega) (by first | assumption | exact inj_yes (by assumption)) (by first | omega | (simp; done) | (simp; omega) | exact Nat.le_trans (mkE_len _) (by omega))) (Hp.le.refl _) ?_)
      clear E a S; rintro a v_38 w M_37 hM_37 hv_38 S E
      replace h0 := h0.le RP2_mono hM_37
      replace hb_1 := hM_37.2 _ _ hb_1
      replace hv_4 := hv_4.le RP2_mono hM_37
      replace hv_7 := hv_7.le RP2_mono hM_37
      replace hv_9 := hv_9.le (RSl_mono RP2_mono) hM_37
      replace hv_16 := hv_16.le RP2_mono hM_37
      replace hv_18 := hv_18.le RP2_mono hM_37
      replace hv_21 := hv_21.le RP2_mono hM_37
      replace hv_25 := hv_25.le RP2_mono hM_37
      replace hv_27 := hv_27.le RP2_mono hM_37
      replace hv_29 := hv_29.le RP2_mono hM_37
      replace hv_33 := hv_33.le RP2_mono hM_37
      replace hv_35 := hv_35.le RP2_mono hM_37
      refine WL_guard_yes E rfl rfl ?_
      refine S_v E rfl (R_move E rfl) rfl ?_
      clear E a; intro a E
      refine WL_guard_yes E rfl rfl ?_
      refine S_x (X_pu E S rfl rfl rfl (laws_eqRef hv_38 hv_35) (Hp.le.refl _) ?_)
      clear E a S; rintro a _ w M_39 hM_39 rfl S E
      replace h0 := h0.le RP2_mono hM_39
      replace hb_1 := hM_39.2 _ _ hb_1
      replace hv_4 := hv_4.le RP2_mono hM_39
      replace hv_7 := hv_7.le RP2_mono hM_39
      replace hv_9 := hv_9.le (RSl_mono RP2_mono) hM_39
      replace hv_16 := hv_16.le RP2_mono hM_39
      replace hv_18 := hv_18.le RP2_mono hM_39
      replace hv_21 := hv_21.le RP2_mono hM_39
      replace hv_25 := hv_25.le RP2_mono hM_39
      replace hv_27 := hv_27.le RP2_mono hM_39
      replace hv_29 := hv_29.le RP2_mono hM_39
      replace hv_33 := hv_33.le RP2_mono hM_39
      replace hv_35 := hv_35.le RP2_mono hM_39
      replace hv_38 := hv_38.le RP2_mono hM_39
      refine WL_guard_yes E rfl rfl ?_
      refine S_v E rfl (R_not E rfl) rfl ?_
      clear E a; intro a E
      refine S_v E rfl (R_pickT E rfl rfl) rfl ?_
      clear E a; intro a E
      refine WL_nil ?_
      refine T_n ?_
      have hc_40 : (!(decide (entE ((mkE l0).map (rek (fun v x => keyAt kk1 kn1 x v))) = injL (rek (fun v x => keyAt kk1 kn1 x v)) l0))) = false := by (clear S E; first | (simp; done) | decide | (simp [entE, mkE, putK, swp, srtK_len]; done) | (first | refine dec_t ?_ | refine dec_f ?_ | skip); first | exact inj_L (by assumption) | exact inv_back (inj_yes (by assumption)) | exact rv_keys _ _ | rfl)
      refine WP_condF E rfl hc_40 ?_
      refine WP_skip ?_
      refine T_n ?_
      refine WP_seq ?_
      refine DG_start Try.mixed ?_
      have hb_1k40 := hb_1
      replace S := S.mono_heap (w' := World.drew _) rfl
      refine DG_take (C := fun x w => agree M_39 w) (bf := (fun i => [])) [0, 1, 3, 5] [0, 1, 3, 5, 2, 4, 6, 7] [8, 9, 10, 11, 12, 13, 14, 15, 16, 17, 18, 19] 7 (by kernel_rfl) (fun x hq => S.imm) ?_
      refine D_v E rfl rfl rfl (fun w hC => (R_move E rfl)) ?_
      clear E a; intro a E
      refine D_v E rfl rfl rfl (fun w hC => (R_loadGM E rfl (Try.isAgg24 _) (Try.sizeOf24 _) hC hb_1k40)) ?_
      clear E a; intro a E
      refine D_v E rfl rfl rfl (fun w hC => (R_move E rfl)) ?_
      clear E a; intro a E
      refine D_v E rfl rfl rfl (fun w hC => (R_loadGM E rfl (Try.isAgg24 _) (Try.sizeOf24 _) hC hb_1k40)) ?_
      clear E a; intro a E
      refine D_x rfl rfl rfl (X_pu E S rfl rfl rfl (impl_MapValues h0 (by omega) (by first | omega | (simp; done) | (simp; omega) | exact Nat.le_trans (mkE_len _) (by omega))) (Hp.le.refl _) ?_)
      clear E a S; rintro a v_42 w M_41 hM_41 hv_42 S E
      replace h0 := h0.le RP2_mono hM_41
      replace hb_1 := hM_41.2 _ _ hb_1
      replace hv_4 := hv_4.le RP2_mono hM_41
      replace hv_7 := hv_7.le RP2_mono hM_41
      replace hv_9 := hv_9.le (RSl_mono RP2_mono) hM_41
      replace hv_16 := hv_16.le RP2_mono hM_41
      replace hv_18 := hv_18.le RP2_mono hM_41
      replace hv_21 := hv_21.le RP2_mono hM_41
      replace hv_25 := hv_25.le RP2_mono hM_41
      replace hv_27 := hv_27.le RP2_mono hM_41
      replace hv_29 := hv_29.le RP2_mono hM_41
      replace hv_33 := hv_33.le RP2_mono hM_41
      replace hv_35 := hv_35.le RP2_mono hM_41
      replace hv_38 := hv_38.le RP2_mono hM_41
      refine ⟨fun x hq hb => (agree_le hM_41 S.imm), ?_⟩
      refine D_x rfl rfl rfl (X_pu E S rfl rfl rfl (laws_pairs h0 (by first | omega | (simp [ixm_len]; done) | (simp [ixm_len]; omega) | (have h9 := kpix_len _ _ _; exact Nat.le_trans h9 (by omega)) | exact Nat.le_trans (kpix_len _ _ _) (by first | omega | (simp; omega)))) (Hp.le.refl _) ?_)
      clear E a S; rintro a v_44 w M_43 hM_43 hv_44 S E
      replace h0 := h0.le RP2_mono hM_43
      replace hb_1 := hM_43.2 _ _ hb_1
      replace hv_4 := hv_4.le RP2_mono hM_43
      replace hv_7 := hv_7.le RP2_mono hM_43
      replace hv_9 := hv_9.le (RSl_mono RP2_mono) hM_43
      replace hv_16 := hv_16.le RP2_mono hM_43
      replace hv_18 := hv_18.le RP2_mono hM_43
      replace hv_21 := hv_21.le RP2_mono hM_43
      replace hv_25 := hv_25.le RP2_mono hM_43
      replace hv_27 := hv_27.le RP2_mono hM_43
      replace hv_29 := hv_29.le RP2_mono hM_43
      replace hv_33 := hv_33.le RP2_mono hM_43
      replace hv_35 := hv_35.le RP2_mono hM_43
      replace hv_38 := hv_38.le RP2_mono hM_43
      replace hv_42 := hv_42.le RP2_mono hM_43
      refine ⟨fun x hq hb => (agree_le (hM_41.trans hM_43) S.imm), ?_⟩
      refine D_x rfl rfl rfl (X_pu E S rfl rfl rfl (spec_MapValues hv_44 (by omega) (by assumption) (by first | omega | (simp [ixm_len]; done) | (simp [ixm_len]; omega) | (have h9 := kpix_len _ _ _; exact Nat.le_trans h9 (by omega)) | exact Nat.le_trans (kpix_len _ _ _) (by first | omega | (simp; omega)))) (Hp.le.refl _) ?_)
      clear E a S; rintro a v_46 w M_45 hM_45 hv_46 S E
      replace h0 := h0.le RP2_mono hM_45
      replace hb_1 := hM_45.2 _ _ hb_1
      replace hv_4 := hv_4.le RP2_mono hM_45
      replace hv_7 := hv_7.le RP2_mono hM_45
      replace hv_9 := hv_9.le (RSl_mono RP2_mono) hM_45
      replace hv_16 := hv_16.le RP2_mono hM_45
      replace hv_18 := hv_18.le RP2_mono hM_45
      replace hv_21 := hv_21.le RP2_mono hM_45
      replace hv_25 := hv_25.le RP2_mono hM_45
      replace hv_27 := hv_27.le RP2_mono hM_45
      replace hv_29 := hv_29.le RP2_mono hM_45
      replace hv_33 := hv_33.le RP2_mono hM_45
      replace hv_35 := hv_35.le RP2_mono hM_45
      replace hv_38 := hv_38.le RP2_mono hM_45
      replace hv_42 := hv_42.le RP2_mono hM_45
      replace hv_44 := hv_44.le RP2_mono hM_45
      refine ⟨fun x hq hb => (agree_le (hM_41.trans (hM_43.trans hM_45)) S.imm), ?_⟩
      refine D_x rfl rfl rfl (X_pu E S rfl rfl rfl (laws_eqRef hv_42 hv_46) (Hp.le.refl _) ?_)
      clear E a S; rintro a _ w M_47 hM_47 rfl S E
      replace h0 := h0.le RP2_mono hM_47
      replace hb_1 := hM_47.2 _ _ hb_1
      replace hv_4 := hv_4.le RP2_mono hM_47
      replace hv_7 := hv_7.le RP2_mono hM_47
      replace hv_9 := hv_9.le (RSl_mono RP2_mono) hM_47
      replace hv_16 := hv_16.le RP2_mono hM_47
      replace hv_18 := hv_18.le RP2_mono hM_47
      replace hv_21 := hv_21.le RP2_mono hM_47
      replace hv_25 := hv_25.le RP2_mono hM_47
      replace hv_27 := hv_27.le RP2_mono hM_47
      replace hv_29 := hv_29.le RP2_mono hM_47
      replace hv_33 := hv_33.le RP2_mono hM_47
      replace hv_35 := hv_35.le RP2_mono hM_47
      replace hv_38 := hv_38.le RP2_mono hM_47
      replace hv_42 := hv_42.le RP2_mono hM_47
      replace hv_44 := hv_44.le RP2_mono hM_47
      replace hv_46 := hv_46.le RP2_mono hM_47
      refine ⟨fun x hq hb => (agree_le (hM_41.trans (hM_43.trans (hM_45.trans hM_47))) S.imm), ?_⟩
      refine D_end (DT_n ?_)
      refine DG_splitT 11 15 (by decide) (by kernel_rfl) ?_ ?_
      ·
       refine DG_splitT 14 11 (by decide) (by kernel_rfl) ?_ ?_
       ·
        have hb_1k47 := hb_1
        refine DG_takeT (C := fun x w => agree M_47 w) (bf := (fun i => [])) [8, 9, 10, 14] [8, 9, 10, 14, 11] [12, 13, 15, 16, 17, 18, 19] 11 (by kernel_rfl) (fun x hq => S.imm) ?_
        refine D_v E rfl rfl rfl (fun w hC => (R_move E rfl)) ?_
        clear E a; intro a E
        have hc_48 : (decide (entE ((mkE l0).map (rvv (fun v x => keyAt kk1 kn1 v x))) = entE ((mkE l0).map (rvv (fun v x => keyAt kk1 kn1 v x))))) = true := by (clear S E; first | (simp; done) | decide | (simp [entE, mkE, putK, swp, srtK_len]; done) | (first | refine dec_t ?_ | refine dec_f ?_ | skip); first | exact inj_L (by assumption) | exact inv_back (inj_yes (by assumption)) | exact rv_keys _ _ | rfl)
        replace E := E.val (t := 74) rfl hc_48
        replace E := E.val (t := 75) rfl hc_48
        refine D_vyes E rfl rfl rfl rfl rfl (fun w hC => (R_move E rfl)) ?_
        clear E a; intro a E
        refine D_vyes E rfl rfl rfl rfl rfl (fun w hC => (R_loadGM E rfl (Try.isAgg24 _) (Try.sizeOf24 _) hC hb_1k47)) ?_
        clear E a; intro a E
        refine D_vyes E rfl rfl rfl rfl rfl (fun w hC => (R_move E rfl)) ?_
        clear E a; intro a E
        refine D_yes E rfl rfl rfl rfl (X_pu E S rfl rfl rfl (impl_MapValues h0 (by omega) (by first | omega | (simp; done) | (simp; omega) | exact Nat.le_trans (mkE_len _) (by omega))) (Hp.le.refl _) ?_)
        clear E a S; rintro a v_50 w M_49 hM_49 hv_50 S E
        replace h0 := h0.le RP2_mono hM_49
        replace hb_1 := hM_49.2 _ _ hb_1
        replace hv_4 := hv_4.le RP2_mono hM_49
        replace hv_7 := hv_7.le RP2_mono hM_49
        replace hv_9 := hv_9.le (RSl_mono RP2_mono) hM_49
        replace hv_16 := hv_16.le RP2_mono hM_49
        replace hv_18 := hv_18.le RP2_mono hM_49
        replace hv_21 := hv_21.le RP2_mono hM_49
        replace hv_25 := hv_25.le RP2_mono hM_49
        replace hv_27 := hv_27.le RP2_mono hM_49
        replace hv_29 := hv_29.le RP2_mono hM_49
        replace hv_33 := hv_33.le RP2_mono hM_49
        replace hv_35 := hv_35.le RP2_mono hM_49
        replace hv_38 := hv_38.le RP2_mono hM_49
        replace hv_42 := hv_42.le RP2_mono hM_49
        replace hv_44 := hv_44.le RP2_mono hM_49
        replace hv_46 := hv_46.le RP2_mono hM_49
        refine ⟨fun x hq hb => (agree_le hM_49 S.imm), ?_⟩
        refine D_end (DT_n ?_)
        refine DG_splitT 12 15 (by decide) (by kernel_rfl) ?_ ?_
        ·
         refine DG_splitT 13 15 (by decide) (by kernel_rfl) ?_ ?_
         ·
          have hb_1k50 := hb_1
          refine DG_endT (C := fun x w => agree M_49 w) (bf := (fun i => [])) [18, 19] [12, 13, 15, 16, 17, 18, 19] (by kernel_rfl) (fun x hq => S.imm) ?_
          refine D_yes E rfl rfl rfl rfl (X_buildM (R := (RSl 2 RP2)) (vs := [v_50]) (xs := [entE ((mkE l0).map (rvv (fun v x => keyAt kk1 kn1 v x)))]) (RSl_mono RP2_mono) E S rfl T70 rfl rfl rfl (by intro u hu; simp only [List.mem_cons, List.not_mem_nil, or_false] at hu; rcases hu with rfl <;> first | exact RdS.one' hv_50) rfl (rowsC (R := (RSl 2 RP2)) ⟨_, rfl, hv_50⟩ rowsN) ?_)
          clear E a S; rintro a v_51 w M_52 hM_52 hv_51 S E
          replace h0 := h0.le RP2_mono hM_52
          replace hb_1 := hM_52.2 _ _ hb_1
          replace hv_4 := hv_4.le RP2_mono hM_52
          replace hv_7 := hv_7.le RP2_mono hM_52
          replace hv_9 := hv_9.le (RSl_mono RP2_mono) hM_52
          replace hv_16 := hv_16.le RP2_mono hM_52
          replace hv_18 := hv_18.le RP2_mono hM_52
          replace hv_21 := hv_21.le RP2_mono hM_52
          replace hv_25 := hv_25.le RP2_mono hM_52
          replace hv_27 := hv_27.le RP2_mono hM_52
          replace hv_29 := hv_29.le RP2_mono hM_52
          replace hv_33 := hv_33.le RP2_mono hM_52
          replace hv_35 := hv_35.le RP2_mono hM_52
          replace hv_38 := hv_38.le RP2_mono hM_52
          replace hv_42 := hv_42.le RP2_mono hM_52
          replace hv_44 := hv_44.le RP2_mono hM_52
          replace hv_46 := hv_46.le RP2_mono hM_52
          replace hv_50 := hv_50.le RP2_mono hM_52
          refine ⟨fun x hq hb => (agree_le hM_52 S.imm), ?_⟩
          refine D_yes E rfl rfl rfl rfl (X_pu E S rfl rfl rfl (impl_Keys hv_51 (by first | omega | (simp; done) | (simp; omega)) (by first | omega | (simp; done) | (simp; omega))) (Hp.le.refl _) ?_)
          clear E a S; rintro a v_54 w M_53 hM_53 hv_54 S E
          replace h0 := h0.le RP2_mono hM_53
          replace hb_1 := hM_53.2 _ _ hb_1
          replace hv_4 := hv_4.le RP2_mono hM_53
          replace hv_7 := hv_7.le RP2_mono hM_53
          replace hv_9 := hv_9.le (RSl_mono RP2_mono) hM_53
          replace hv_16 := hv_16.le RP2_mono hM_53
          replace hv_18 := hv_18.le RP2_mono hM_53
          replace hv_21 := hv_21.le RP2_mono hM_53
          replace hv_25 := hv_25.le RP2_mono hM_53
          replace hv_27 := hv_27.le RP2_mono hM_53
          replace hv_29 := hv_29.le RP2_mono hM_53
          replace hv_33 := hv_33.le RP2_mono hM_53
          replace hv_35 := hv_35.le RP2_mono hM_53
          replace hv_38 := hv_38.le RP2_mono hM_53
          replace hv_42 := hv_42.le RP2_mono hM_53
          replace hv_44 := hv_44.le RP2_mono hM_53
          replace hv_46 := hv_46.le RP2_mono hM_53
          replace hv_50 := hv_50.le RP2_mono hM_53
          replace hv_51 := hv_51.le (RSl_mono RP2_mono) hM_53
          refine ⟨fun x hq hb => (agree_le (hM_52.trans hM_53) S.imm), ?_⟩
          refine D_yes E rfl rfl rfl rfl (X_buildM (R := (RSl 2 RP2)) (vs := [v0]) (xs := [l0]) (RSl_mono RP2_mono) E S rfl T70 rfl rfl rfl (by intro u hu; simp only [List.mem_cons, List.not_mem_nil, or_false] at hu; rcases hu with rfl <;> first | exact RdS.one' h0) rfl (rowsC (R := (RSl 2 RP2)) ⟨_, rfl, h0⟩ rowsN) ?_)
          clear E a S; rintro a v_55 w M_56 hM_56 hv_55 S E
          replace h0 := h0.le RP2_mono hM_56
          replace hb_1 := hM_56.2 _ _ hb_1
          replace hv_4 := hv_4.le RP2_mono hM_56
          replace hv_7 := hv_7.le RP2_mono hM_56
          replace hv_9 := hv_9.le (RSl_mono RP2_mono) hM_56
          replace hv_16 := hv_16.le RP2_mono hM_56
          replace hv_18 := hv_18.le RP2_mono hM_56
          replace hv_21 := hv_21.le RP2_mono hM_56
          replace hv_25 := hv_25.le RP2_mono hM_56
          replace hv_27 := hv_27.le RP2_mono hM_56
          replace hv_29 := hv_29.le RP2_mono hM_56
          replace hv_33 := hv_33.le RP2_mono hM_56
          replace hv_35 := hv_35.le RP2_mono hM_56
          replace hv_38 := hv_38.le RP2_mono hM_56
          replace hv_42 := hv_42.le RP2_mono hM_56
          replace hv_44 := hv_44.le RP2_mono hM_56
          replace hv_46 := hv_46.le RP2_mono hM_56
          replace hv_50 := hv_50.le RP2_mono hM_56
          replace hv_51 := hv_51.le (RSl_mono RP2_mono) hM_56
          replace hv_54 := hv_54.le hM_56
          refine ⟨fun x hq hb => (agree_le (hM_52.trans (hM_53.trans hM_56)) S.imm), ?_⟩
          refine D_yes E rfl rfl rfl rfl (X_pu E S rfl rfl rfl (impl_Keys hv_55 (by first | omega | (simp; done) | (simp; omega)) (by first | omega | (simp; done) | (simp; omega))) (Hp.le.refl _) ?_)
          clear E a S; rintro a v_58 w M_57 hM_57 hv_58 S E
          replace h0 := h0.le RP2_mono hM_57
          replace hb_1 := hM_57.2 _ _ hb_1
          replace hv_4 := hv_4.le RP2_mono hM_57
          replace hv_7 := hv_7.le RP2_mono hM_57
          replace hv_9 := hv_9.le (RSl_mono RP2_mono) hM_57
          replace hv_16 := hv_16.le RP2_mono hM_57
          replace hv_18 := hv_18.le RP2_mono hM_57
          replace hv_21 := hv_21.le RP2_mono hM_57
          replace hv_25 := hv_25.le RP2_mono hM_57
          replace hv_27 := hv_27.le RP2_mono hM_57
          replace hv_29 := hv_29.le RP2_mono hM_57
          replace hv_33 := hv_33.le RP2_mono hM_57
          replace hv_35 := hv_35.le RP2_mono hM_57
          replace hv_38 := hv_38.le RP2_mono hM_57
          replace hv_42 := hv_42.le RP2_mono hM_57
          replace hv_44 := hv_44.le RP2_mono hM_57
          replace hv_46 := hv_46.le RP2_mono hM_57
          replace hv_50 := hv_50.le RP2_mono hM_57
          replace hv_51 := hv_51.le (RSl_mono RP2_mono) hM_57
          replace hv_54 := hv_54.le hM_57
          replace hv_55 := hv_55.le (RSl_mono RP2_mono) hM_57
          refine ⟨fun x hq hb => (agree_le (hM_52.trans (hM_53.trans (hM_56.trans hM_57))) S.imm), ?_⟩
          refine D_yes E rfl rfl rfl rfl (X_pu E S rfl rfl rfl (laws_eq hv_54 hv_58) (Hp.le.refl _) ?_)
          clear E a S; rintro a _ w M_59 hM_59 rfl S E
          replace h0 := h0.le RP2_mono hM_59
          replace hb_1 := hM_59.2 _ _ hb_1
          replace hv_4 := hv_4.le RP2_mono hM_59
          replace hv_7 := hv_7.le RP2_mono hM_59
          replace hv_9 := hv_9.le (RSl_mono RP2_mono) hM_59
          replace hv_16 := hv_16.le RP2_mono hM_59
          replace hv_18 := hv_18.le RP2_mono hM_59
          replace hv_21 := hv_21.le RP2_mono hM_59
          replace hv_25 := hv_25.le RP2_mono hM_59
          replace hv_27 := hv_27.le RP2_mono hM_59
          replace hv_29 := hv_29.le RP2_mono hM_59
          replace hv_33 := hv_33.le RP2_mono hM_59
          replace hv_35 := hv_35.le RP2_mono hM_59
          replace hv_38 := hv_38.le RP2_mono hM_59
          replace hv_42 := hv_42.le RP2_mono hM_59
          replace hv_44 := hv_44.le RP2_mono hM_59
          replace hv_46 := hv_46.le RP2_mono hM_59
          replace hv_50 := hv_50.le RP2_mono hM_59
          replace hv_51 := hv_51.le (RSl_mono RP2_mono) hM_59
          replace hv_54 := hv_54.le hM_59
          replace hv_55 := hv_55.le (RSl_mono RP2_mono) hM_59
          replace hv_58 := hv_58.le hM_59
          refine ⟨fun x hq hb => (agree_le (hM_52.trans (hM_53.trans (hM_56.trans (hM_57.trans hM_59)))) S.imm), ?_⟩
          refine D_v E rfl rfl rfl (fun w hC => (R_pickT E rfl rfl)) ?_
          clear E a; intro a E
          refine D_v E rfl rfl rfl (fun w hC => (R_assign E rfl)) ?_
          clear E a; intro a E
          refine D_end (NoP_n ?_)
          refine T_n ?_
          refine WP_ret ?_
          exact F_ret1 E Try.results10 rfl ⟨_, rfl, M_59, (hM_2.trans (hM_5.trans (hM_6.trans (hM_10.trans (hM_11.trans (hM_13.trans (hM_15.trans (hM_17.trans (hM_20.trans (hM_22.trans (hM_24.trans (hM_26.trans (hM_28.trans (hM_30.trans (hM_32.trans (hM_34.trans (hM_37.trans (hM_39.trans (hM_41.trans (hM_43.trans (hM_45.trans (hM_47.trans (hM_49.trans (hM_52.trans (hM_53.trans (hM_56.trans (hM_57.trans hM_59))))))))))))))))))))))))))), (congrArg Value.bool (by (clear S E; first | (simp; done) | decide | (simp [entE, mkE, putK, swp, srtK_len]; done) | (first | refine dec_t ?_ | refine dec_f ?_ | skip); first | exact inj_L (by assumption) | exact inv_back (inj_yes (by assumption)) | exact rv_keys _ _ | rfl))), S⟩
         ·
          have hb_1k59 := hb_1
          refine DG_endT (C := fun x w => agree M_49 w) (bf := (fun i => [])) [18, 19] [12, 15, 13, 16, 17, 18, 19] (by kernel_rfl) (fun x hq => S.imm) ?_
          refine D_yes E rfl rfl rfl rfl (X_buildM (R := (RSl 2 RP2)) (vs := [v_50]) (xs := [entE ((mkE l0).map (rvv (fun v x => keyAt kk1 kn1 v x)))]) (RSl_mono RP2_mono) E S rfl T70 rfl rfl rfl (by intro u hu; simp only [List.mem_cons, List.not_mem_nil, or_false] at hu; rcases hu with rfl <;> first | exact RdS.one' hv_50) rfl (rowsC (R := (RSl 2 RP2)) ⟨_, rfl, hv_50⟩ rowsN) ?_)
          clear E a S; rintro a v_60 w M_61 hM_61 hv_60 S E
          replace h0 := h0.le RP2_mono hM_61
          replace hb_1 := hM_61.2 _ _ hb_1
          replace hv_4 := hv_4.le RP2_mono hM_61
          replace hv_7 := hv_7.le RP2_mono hM_61
          replace hv_9 := hv_9.le (RSl_mono RP2_mono) hM_61
          replace hv_16 := hv_16.le RP2_mono hM_61
          replace hv_18 := hv_18.le RP2_mono hM_61
          replace hv_21 := hv_21.le RP2_mono hM_61
          replace hv_25 := hv_25.le RP2_mono hM_61
          replace hv_27 := hv_27.le RP2_mono hM_61
          replace hv_29 := hv_29.le RP2_mono hM_61
          replace hv_33 := hv_33.le RP2_mono hM_61
          replace hv_35 := hv_35.le RP2_mono hM_61
          replace hv_38 := hv_38.le RP2_mono hM_61
          replace hv_42 := hv_42.le RP2_mono hM_61
          replace hv_44 := hv_44.le RP2_mono hM_61
          replace hv_46 := hv_46.le RP2_mono hM_61
          replace hv_50 := hv_50.le RP2_mono hM_61
          refine ⟨fun x hq hb => (agree_le hM_61 S.imm), ?_⟩
          refine D_yes E rfl rfl rfl rfl (X_buildM (R := (RSl 2 RP2)) (vs := [v0]) (xs := [l0]) (RSl_mono RP2_mono) E S rfl T70 rfl rfl rfl (by intro u hu; simp only [List.mem_cons, List.not_mem_nil, or_false] at hu; rcases hu with rfl <;> first | exact RdS.one' h0) rfl (rowsC (R := (RSl 2 RP2)) ⟨_, rfl, h0⟩ rowsN) ?_)
          clear E a S; rintro a v_62 w M_63 hM_63 hv_62 S E
          replace h0 := h0.le RP2_mono hM_63
          replace hb_1 := hM_63.2 _ _ hb_1
          replace hv_4 := hv_4.le RP2_mono hM_63
          replace hv_7 := hv_7.le RP2_mono hM_63
          replace hv_9 := hv_9.le (RSl_mono RP2_mono) hM_63
          replace hv_16 := hv_16.le RP2_mono hM_63
          replace hv_18 := hv_18.le RP2_mono hM_63
          replace hv_21 := hv_21.le RP2_mono hM_63
          replace hv_25 := hv_25.le RP2_mono hM_63
          replace hv_27 := hv_27.le RP2_mono hM_63
          replace hv_29 := hv_29.le RP2_mono hM_63
          replace hv_33 := hv_33.le RP2_mono hM_63
          replace hv_35 := hv_35.le RP2_mono hM_63
          replace hv_38 := hv_38.le RP2_mono hM_63
          replace hv_42 := hv_42.le RP2_mono hM_63
          replace hv_44 := hv_44.le RP2_mono hM_63
          replace hv_46 := hv_46.le RP2_mono hM_63
          replace hv_50 := hv_50.le RP2_mono hM_63
          replace hv_60 := hv_60.le (RSl_mono RP2_mono) hM_63
          refine ⟨fun x hq hb => (agree_le (hM_61.trans hM_63) S.imm), ?_⟩
          refine D_yes E rfl rfl rfl rfl (X_pu E S rfl rfl rfl (impl_Keys hv_60 (by first | omega | (simp; done) | (simp; omega)) (by first | omega | (simp; done) | (simp; omega))) (Hp.le.refl _) ?_)
          clear E a S; rintro a v_65 w M_64 hM_64 hv_65 S E
          replace h0 := h0.le RP2_mono hM_64
          replace hb_1 := hM_64.2 _ _ hb_1
          replace hv_4 := hv_4.le RP2_mono hM_64
          replace hv_7 := hv_7.le RP2_mono hM_64
          replace hv_9 := hv_9.le (RSl_mono RP2_mono) hM_64
          replace hv_16 := hv_16.le RP2_mono hM_64
          replace hv_18 := hv_18.le RP2_mono hM_64
          replace hv_21 := hv_21.le RP2_mono hM_64
          replace hv_25 := hv_25.le RP2_mono hM_64
          replace hv_27 := hv_27.le RP2_mono hM_64
          replace hv_29 := hv_29.le RP2_mono hM_64
          replace hv_33 := hv_33.le RP2_mono hM_64
          replace hv_35 := hv_35.le RP2_mono hM_64
          replace hv_38 := hv_38.le RP2_mono hM_64
          replace hv_42 := hv_42.le RP2_mono hM_64
          replace hv_44 := hv_44.le RP2_mono hM_64
          replace hv_46 := hv_46.le RP2_mono hM_64
          replace hv_50 := hv_50.le RP2_mono hM_64
          replace hv_60 := hv_60.le (RSl_mono RP2_mono) hM_64
          replace hv_62 := hv_62.le (RSl_mono RP2_mono) hM_64
          refine ⟨fun x hq hb => (agree_le (hM_61.trans (hM_63.trans hM_64)) S.imm), ?_⟩
          refine D_yes E rfl rfl rfl rfl (X_pu E S rfl rfl rfl (impl_Keys hv_62 (by first | omega | (simp; done) | (simp; omega)) (by first | omega | (simp; done) | (simp; omega))) (Hp.le.refl _) ?_)
          clear E a S; rintro a v_67 w M_66 hM_66 hv_67 S E
          replace h0 := h0.le RP2_mono hM_66
          replace hb_1 := hM_66.2 _ _ hb_1
          replace hv_4 := hv_4.le RP2_mono hM_66
          replace hv_7 := hv_7.le RP2_mono hM_66
          replace hv_9 := hv_9.le (RSl_mono RP2_mono) hM_66
          replace hv_16 := hv_16.le RP2_mono hM_66
          replace hv_18 := hv_18.le RP2_mono hM_66
          replace hv_21 := hv_21.le RP2_mono hM_66
          replace hv_25 := hv_25.le RP2_mono hM_66
          replace hv_27 := hv_27.le RP2_mono hM_66
          replace hv_29 := hv_29.le RP2_mono hM_66
          replace hv_33 := hv_33.le RP2_mono hM_66
          replace hv_35 := hv_35.le RP2_mono hM_66
          replace hv_38 := hv_38.le RP2_mono hM_66
          replace hv_42 := hv_42.le RP2_mono hM_66
          replace hv_44 := hv_44.le RP2_mono hM_66
          replace hv_46 := hv_46.le RP2_mono hM_66
          replace hv_50 := hv_50.le RP2_mono hM_66
          replace hv_60 := hv_60.le (RSl_mono RP2_mono) hM_66
          replace hv_62 := hv_62.le (RSl_mono RP2_mono) hM_66
          replace hv_65 := hv_65.le hM_66
          refine ⟨fun x hq hb => (agree_le (hM_61.trans (hM_63.trans (hM_64.trans hM_66))) S.imm), ?_⟩
          refine D_yes E rfl rfl rfl rfl (X_pu E S rfl rfl rfl (laws_eq hv_65 hv_67) (Hp.le.refl _) ?_)
          clear E a S; rintro a _ w M_68 hM_68 rfl S E
          replace h0 := h0.le RP2_mono hM_68
          replace hb_1 := hM_68.2 _ _ hb_1
          replace hv_4 := hv_4.le RP2_mono hM_68
          replace hv_7 := hv_7.le RP2_mono hM_68
          replace hv_9 := hv_9.le (RSl_mono RP2_mono) hM_68
          replace hv_16 := hv_16.le RP2_mono hM_68
          replace hv_18 := hv_18.le RP2_mono hM_68
          replace hv_21 := hv_21.le RP2_mono hM_68
          replace hv_25 := hv_25.le RP2_mono hM_68
          replace hv_27 := hv_27.le RP2_mono hM_68
          replace hv_29 := hv_29.le RP2_mono hM_68
          replace hv_33 := hv_33.le RP2_mono hM_68
          replace hv_35 := hv_35.le RP2_mono hM_68
          replace hv_38 := hv_38.le RP2_mono hM_68
          replace hv_42 := hv_42.le RP2_mono hM_68
          replace hv_44 := hv_44.le RP2_mono hM_68
          replace hv_46 := hv_46.le RP2_mono hM_68
          replace hv_50 := hv_50.le RP2_mono hM_68
          replace hv_60 := hv_60.le (RSl_mono RP2_mono) hM_68
          replace hv_62 := hv_62.le (RSl_mono RP2_mono) hM_68
          replace hv_65 := hv_65.le hM_68
          replace hv_67 := hv_67.le hM_68
          refine ⟨fun x hq hb => (agree_le (hM_61.trans (hM_63.trans (hM_64.trans (hM_66.trans hM_68)))) S.imm), ?_⟩
          refine D_v E rfl rfl rfl (fun w hC => (R_pickT E rfl rfl)) ?_
          clear E a; intro a E
          refine D_v E rfl rfl rfl (fun w hC => (R_assign E rfl)) ?_
          clear E a; intro a E
          refine D_end (NoP_n ?_)
          refine T_n ?_
          refine WP_ret ?_
          exact F_ret1 E Try.results10 rfl ⟨_, rfl, M_68, (hM_2.trans (hM_5.trans (hM_6.trans (hM_10.trans (hM_11.trans (hM_13.trans (hM_15.trans (hM_17.trans (hM_20.trans (hM_22.trans (hM_24.trans (hM_26.trans (hM_28.trans (hM_30.trans (hM_32.trans (hM_34.trans (hM_37.trans (hM_39.trans (hM_41.trans (hM_43.trans (hM_45.trans (hM_47.trans (hM_49.trans (hM_61.trans (hM_63.trans (hM_64.trans (hM_66.trans hM_68))))))))))))))))))))))))))), (congrArg Value.bool (by (clear S E; first | (simp; done) | decide | (simp [entE, mkE, putK, swp, srtK_len]; done) | (first | refine dec_t ?_ | refine dec_f ?_ | skip); first | exact inj_L (by assumption) | exact inv_back (inj_yes (by assumption)) | exact rv_keys _ _ | rfl))), S⟩
        ·
         have hb_1k68 := hb_1
         refine DG_endT (C := fun x w => agree M_49 w) (bf := (fun i => [])) [18, 19] [15, 12, 13, 16, 17, 18, 19] (by kernel_rfl) (fun x hq => S.imm) ?_
         refine D_yes E rfl rfl rfl rfl (X_buildM (R := (RSl 2 RP2)) (vs := [v0]) (xs := [l0]) (RSl_mono RP2_mono) E S rfl T70 rfl rfl rfl (by intro u hu; simp only [List.mem_cons, List.not_mem_nil, or_false] at hu; rcases hu with rfl <;> first | exact RdS.one' h0) rfl (rowsC (R := (RSl 2 RP2)) ⟨_, rfl, h0⟩ rowsN) ?_)
         clear E a S; rintro a v_69 w M_70 hM_70 hv_69 S E
         replace h0 := h0.le RP2_mono hM_70
         replace hb_1 := hM_70.2 _ _ hb_1
         replace hv_4 := hv_4.le RP2_mono hM_70
         replace hv_7 := hv_7.le RP2_mono hM_70
         replace hv_9 := hv_9.le (RSl_mono RP2_mono) hM_70
         replace hv_16 := hv_16.le RP2_mono hM_70
         replace hv_18 := hv_18.le RP2_mono hM_70
         replace hv_21 := hv_21.le RP2_mono hM_70
         replace hv_25 := hv_25.le RP2_mono hM_70
         replace hv_27 := hv_27.le RP2_mono hM_70
         replace hv_29 := hv_29.le RP2_mono hM_70
         replace hv_33 := hv_33.le RP2_mono hM_70
         replace hv_35 := hv_35.le RP2_mono hM_70
         replace hv_38 := hv_38.le RP2_mono hM_70
         replace hv_42 := hv_42.le RP2_mono hM_70
         replace hv_44 := hv_44.le RP2_mono hM_70
         replace hv_46 := hv_46.le RP2_mono hM_70
         replace hv_50 := hv_50.le RP2_mono hM_70
         refine ⟨fun x hq hb => (agree_le hM_70 S.imm), ?_⟩
         refine D_yes E rfl rfl rfl rfl (X_buildM (R := (RSl 2 RP2)) (vs := [v_50]) (xs := [entE ((mkE l0).map (rvv (fun v x => keyAt kk1 kn1 v x)))]) (RSl_mono RP2_mono) E S rfl T70 rfl rfl rfl (by intro u hu; simp only [List.mem_cons, List.not_mem_nil, or_false] at hu; rcases hu with rfl <;> first | exact RdS.one' hv_50) rfl (rowsC (R := (RSl 2 RP2)) ⟨_, rfl, hv_50⟩ rowsN) ?_)
         clear E a S; rintro a v_71 w M_72 hM_72 hv_71 S E
         replace h0 := h0.le RP2_mono hM_72
         replace hb_1 := hM_72.2 _ _ hb_1
         replace hv_4 := hv_4.le RP2_mono hM_72
         replace hv_7 := hv_7.le RP2_mono hM_72
         replace hv_9 := hv_9.le (RSl_mono RP2_mono) hM_72
         replace hv_16 := hv_16.le RP2_mono hM_72
         replace hv_18 := hv_18.le RP2_mono hM_72
         replace hv_21 := hv_21.le RP2_mono hM_72
         replace hv_25 := hv_25.le RP2_mono hM_72
         replace hv_27 := hv_27.le RP2_mono hM_72
         replace hv_29 := hv_29.le RP2_mono hM_72
         replace hv_33 := hv_33.le RP2_mono hM_72
         replace hv_35 := hv_35.le RP2_mono hM_72
         replace hv_38 := hv_38.le RP2_mono hM_72
         replace hv_42 := hv_42.le RP2_mono hM_72
         replace hv_44 := hv_44.le RP2_mono hM_72
         replace hv_46 := hv_46.le RP2_mono hM_72
         replace hv_50 := hv_50.le RP2_mono hM_72
         replace hv_69 := hv_69.le (RSl_mono RP2_mono) hM_72
         refine ⟨fun x hq hb => (agree_le (hM_70.trans hM_72) S.imm), ?_⟩
         refine D_yes E rfl rfl rfl rfl (X_pu E S rfl rfl rfl (impl_Keys hv_71 (by first | omega | (simp; done) | (simp; omega)) (by first | omega | (simp; done) | (simp; omega))) (Hp.le.refl _) ?_)
         clear E a S; rintro a v_74 w M_73 hM_73 hv_74 S E
         replace h0 := h0.le RP2_mono hM_73
         replace hb_1 := hM_73.2 _ _ hb_1
         replace hv_4 := hv_4.le RP2_mono hM_73
         replace hv_7 := hv_7.le RP2_mono hM_73
         replace hv_9 := hv_9.le (RSl_mono RP2_mono) hM_73
         replace hv_16 := hv_16.le RP2_mono hM_73
         replace hv_18 := hv_18.le RP2_mono hM_73
         replace hv_21 := hv_21.le RP2_mono hM_73
         replace hv_25 := hv_25.le RP2_mono hM_73
         replace hv_27 := hv_27.le RP2_mono hM_73
         replace hv_29 := hv_29.le RP2_mono hM_73
         replace hv_33 := hv_33.le RP2_mono hM_73
         replace hv_35 := hv_35.le RP2_mono hM_73
         replace hv_38 := hv_38.le RP2_mono hM_73
         replace hv_42 := hv_42.le RP2_mono hM_73
         replace hv_44 := hv_44.le RP2_mono hM_73
         replace hv_46 := hv_46.le RP2_mono hM_73
         replace hv_50 := hv_50.le RP2_mono hM_73
         replace hv_69 := hv_69.le (RSl_mono RP2_mono) hM_73
         replace hv_71 := hv_71.le (RSl_mono RP2_mono) hM_73
         refine ⟨fun x hq hb => (agree_le (hM_70.trans (hM_72.trans hM_73)) S.imm), ?_⟩
         refine D_yes E rfl rfl rfl rfl (X_pu E S rfl rfl rfl (impl_Keys hv_69 (by first | omega | (simp; done) | (simp; omega)) (by first | omega | (simp; done) | (simp; omega))) (Hp.le.refl _) ?_)
         clear E a S; rintro a v_76 w M_75 hM_75 hv_76 S E
         replace h0 := h0.le RP2_mono hM_75
         replace hb_1 := hM_75.2 _ _ hb_1
         replace hv_4 := hv_4.le RP2_mono hM_75
         replace hv_7 := hv_7.le RP2_mono hM_75
         replace hv_9 := hv_9.le (RSl_mono RP2_mono) hM_75
         replace hv_16 := hv_16.le RP2_mono hM_75
         replace hv_18 := hv_18.le RP2_mono hM_75
         replace hv_21 := hv_21.le RP2_mono hM_75
         replace hv_25 := hv_25.le RP2_mono hM_75
         replace hv_27 := hv_27.le RP2_mono hM_75
         replace hv_29 := hv_29.le RP2_mono hM_75
         replace hv_33 := hv_33.le RP2_mono hM_75
         replace hv_35 := hv_35.le RP2_mono hM_75
         replace hv_38 := hv_38.le RP2_mono hM_75
         replace hv_42 := hv_42.le RP2_mono hM_75
         replace hv_44 := hv_44.le RP2_mono hM_75
         replace hv_46 := hv_46.le RP2_mono hM_75
         replace hv_50 := hv_50.le RP2_mono hM_75
         replace hv_69 := hv_69.le (RSl_mono RP2_mono) hM_75
         replace hv_71 := hv_71.le (RSl_mono RP2_mono) hM_75
         replace hv_74 := hv_74.le hM_75
         refine ⟨fun x hq hb => (agree_le (hM_70.trans (hM_72.trans (hM_73.trans hM_75))) S.imm), ?_⟩
         refine D_yes E rfl rfl rfl rfl (X_pu E S rfl rfl rfl (laws_eq hv_74 hv_76) (Hp.le.refl _) ?_)
         clear E a S; rintro a _ w M_77 hM_77 rfl S E
         replace h0 := h0.le RP2_mono hM_77
         replace hb_1 := hM_77.2 _ _ hb_1
         replace hv_4 := hv_4.le RP2_mono hM_77
         replace hv_7 := hv_7.le RP2_mono hM_77
         replace hv_9 := hv_9.le (RSl_mono RP2_mono) hM_77
         replace hv_16 := hv_16.le RP2_mono hM_77
         replace hv_18 := hv_18.le RP2_mono hM_77
         replace hv_21 := hv_21.le RP2_mono hM_77
         replace hv_25 := hv_25.le RP2_mono hM_77
         replace hv_27 := hv_27.le RP2_mono hM_77
         replace hv_29 := hv_29.le RP2_mono hM_77
         replace hv_33 := hv_33.le RP2_mono hM_77
         replace hv_35 := hv_35.le RP2_mono hM_77
         replace hv_38 := hv_38.le RP2_mono hM_77
         replace hv_42 := hv_42.le RP2_mono hM_77
         replace hv_44 := hv_44.le RP2_mono hM_77
         replace hv_46 := hv_46.le RP2_mono hM_77
         replace hv_50 := hv_50.le RP2_mono hM_77
         replace hv_69 := hv_69.le (RSl_mono RP2_mono) hM_77
         replace hv_71 := hv_71.le (RSl_mono RP2_mono) hM_77
         replace hv_74 := hv_74.le hM_77
         replace hv_76 := hv_76.le hM_77
         refine ⟨fun x hq hb => (agree_le (hM_70.trans (hM_72.trans (hM_73.trans (hM_75.trans hM_77)))) S.imm), ?_⟩
         refine D_v E rfl rfl rfl (fun w hC => (R_pickT E rfl rfl)) ?_
         clear E a; intro a E
         refine D_v E rfl rfl rfl (fun w hC => (R_assign E rfl)) ?_
         clear E a; intro a E
         refine D_end (NoP_n ?_)
         refine T_n ?_
         refine WP_ret ?_
         exact F_ret1 E Try.results10 rfl ⟨_, rfl, M_77, (hM_2.trans (hM_5.trans (hM_6.trans (hM_10.trans (hM_11.trans (hM_13.trans (hM_15.trans (hM_17.trans (hM_20.trans (hM_22.trans (hM_24.trans (hM_26.trans (hM_28.trans (hM_30.trans (hM_32.trans (hM_34.trans (hM_37.trans (hM_39.trans (hM_41.trans (hM_43.trans (hM_45.trans (hM_47.trans (hM_49.trans (hM_70.trans (hM_72.trans (hM_73.trans (hM_75.trans hM_77))))))))))))))))))))))))))), (congrArg Value.bool (by (clear S E; first | (simp; done) | decide | (simp [entE, mkE, putK, swp, srtK_len]; done) | (first | refine dec_t ?_ | refine dec_f ?_ | skip); first | exact inj_L (by assumption) | exact inv_back (inj_yes (by assumption)) | exact rv_keys _ _ | rfl))), S⟩
       ·
        have hb_1k77 := hb_1
        refine DG_takeT (C := fun x w => agree M_47 w) (bf := (fun i => [])) [8, 9, 10] [8, 9, 10, 11] [12, 13, 14, 15, 16, 17, 18, 19] 11 (by kernel_rfl) (fun x hq => S.imm) ?_
        refine D_v E rfl rfl rfl (fun w hC => (R_move E rfl)) ?_
        clear E a; intro a E
        have hc_78 : (decide (entE ((mkE l0).map (rvv (fun v x => keyAt kk1 kn1 v x))) = entE ((mkE l0).map (rvv (fun v x => keyAt kk1 kn1 v x))))) = true := by (clear S E; first | (simp; done) | decide | (simp [entE, mkE, putK, swp, srtK_len]; done) | (first | refine dec_t ?_ | refine dec_f ?_ | skip); first | exact inj_L (by assumption) | exact inv_back (inj_yes (by assumption)) | exact rv_keys _ _ | rfl)
        replace E := E.val (t := 74) rfl hc_78
        replace E := E.val (t := 75) rfl hc_78
        refine D_vyes E rfl rfl rfl rfl rfl (fun w hC => (R_move E rfl)) ?_
        clear E a; intro a E
        refine D_vyes E rfl rfl rfl rfl rfl (fun w hC => (R_loadGM E rfl (Try.isAgg24 _) (Try.sizeOf24 _) hC hb_1k77)) ?_
        clear E a; intro a E
        refine D_yes E rfl rfl rfl rfl (X_pu E S rfl rfl rfl (impl_MapValues h0 (by omega) (by first | omega | (simp; done) | (simp; omega) | exact Nat.le_trans (mkE_len _) (by omega))) (Hp.le.refl _) ?_)
        clear E a S; rintro a v_80 w M_79 hM_79 hv_80 S E
        replace h0 := h0.le RP2_mono hM_79
        replace hb_1 := hM_79.2 _ _ hb_1
        replace hv_4 := hv_4.le RP2_mono hM_79
        replace hv_7 := hv_7.le RP2_mono hM_79
        replace hv_9 := hv_9.le (RSl_mono RP2_mono) hM_79
        replace hv_16 := hv_16.le RP2_mono hM_79
        replace hv_18 := hv_18.le RP2_mono hM_79
        replace hv_21 := hv_21.le RP2_mono hM_79
        replace hv_25 := hv_25.le RP2_mono hM_79
        replace hv_27 := hv_27.le RP2_mono hM_79
        replace hv_29 := hv_29.le RP2_mono hM_79
        replace hv_33 := hv_33.le RP2_mono hM_79
        replace hv_35 := hv_35.le RP2_mono hM_79
        replace hv_38 := hv_38.le RP2_mono hM_79
        replace hv_42 := hv_42.le RP2_mono hM_79
        replace hv_44 := hv_44.le RP2_mono hM_79
        replace hv_46 := hv_46.le RP2_mono hM_79
        refine ⟨fun x hq hb => (agree_le hM_79 S.imm), ?_⟩
        refine D_end (DT_n ?_)
        refine DG_splitT 12 15 (by decide) (by kernel_rfl) ?_ ?_
        ·
         refine DG_splitT 13 15 (by decide) (by kernel_rfl) ?_ ?_
         ·
          have hb_1k80 := hb_1
          refine DG_endT (C := fun x w => agree M_79 w) (bf := (fun i => [])) [14, 18, 19] [14, 12, 13, 15, 16, 17, 18, 19] (by kernel_rfl) (fun x hq => S.imm) ?_
          refine D_vyes E rfl rfl rfl rfl rfl (fun w hC => (R_move E rfl)) ?_
          clear E a; intro a E
          refine D_yes E rfl rfl rfl rfl (X_buildM (R := (RSl 2 RP2)) (vs := [v_80]) (xs := [entE ((mkE l0).map (rvv (fun v x => keyAt kk1 kn1 v x)))]) (RSl_mono RP2_mono) E S rfl T70 rfl rfl rfl (by intro u hu; simp only [List.mem_cons, List.not_mem_nil, or_false] at hu; rcases hu with rfl <;> first | exact RdS.one' hv_80) rfl (rowsC (R := (RSl 2 RP2)) ⟨_, rfl, hv_80⟩ rowsN) ?_)
          clear E a S; rintro a v_81 w M_82 hM_82 hv_81 S E
          replace h0 := h0.le RP2_mono hM_82
          replace hb_1 := hM_82.2 _ _ hb_1
          replace hv_4 := hv_4.le RP2_mono hM_82
          replace hv_7 := hv_7.le RP2_mono hM_82
          replace hv_9 := hv_9.le (RSl_mono RP2_mono) hM_82
          replace hv_16 := hv_16.le RP2_mono hM_82
          replace hv_18 := hv_18.le RP2_mono hM_82
          replace hv_21 := hv_21.le RP2_mono hM_82
          replace hv_25 := hv_25.le RP2_mono hM_82
          replace hv_27 := hv_27.le RP2_mono hM_82
          replace hv_29 := hv_29.le RP2_mono hM_82
          replace hv_33 := hv_33.le RP2_mono hM_82
          replace hv_35 := hv_35.le RP2_mono hM_82
          replace hv_38 := hv_38.le RP2_mono hM_82
          replace hv_42 := hv_42.le RP2_mono hM_82
          replace hv_44 := hv_44.le RP2_mono hM_82
          replace hv_46 := hv_46.le RP2_mono hM_82
          replace hv_80 := hv_80.le RP2_mono hM_82
          refine ⟨fun x hq hb => (agree_le hM_82 S.imm), ?_⟩
          refine D_yes E rfl rfl rfl rfl (X_pu E S rfl rfl rfl (impl_Keys hv_81 (by first | omega | (simp; done) | (simp; omega)) (by first | omega | (simp; done) | (simp; omega))) (Hp.le.refl _) ?_)
          clear E a S; rintro a v_84 w M_83 hM_83 hv_84 S E
          replace h0 := h0.le RP2_mono hM_83
          replace hb_1 := hM_83.2 _ _ hb_1
          replace hv_4 := hv_4.le RP2_mono hM_83
          replace hv_7 := hv_7.le RP2_mono hM_83
          replace hv_9 := hv_9.le (RSl_mono RP2_mono) hM_83
          replace hv_16 := hv_16.le RP2_mono hM_83
          replace hv_18 := hv_18.le RP2_mono hM_83
          replace hv_21 := hv_21.le RP2_mono hM_83
          replace hv_25 := hv_25.le RP2_mono hM_83
          replace hv_27 := hv_27.le RP2_mono hM_83
          replace hv_29 := hv_29.le RP2_mono hM_83
          replace hv_33 := hv_33.le RP2_mono hM_83
          replace hv_35 := hv_35.le RP2_mono hM_83
          replace hv_38 := hv_38.le RP2_mono hM_83
          replace hv_42 := hv_42.le RP2_mono hM_83
          replace hv_44 := hv_44.le RP2_mono hM_83
          replace hv_46 := hv_46.le RP2_mono hM_83
          replace hv_80 := hv_80.le RP2_mono hM_83
          replace hv_81 := hv_81.le (RSl_mono RP2_mono) hM_83
          refine ⟨fun x hq hb => (agree_le (hM_82.trans hM_83) S.imm), ?_⟩
          refine D_yes E rfl rfl rfl rfl (X_buildM (R := (RSl 2 RP2)) (vs := [v0]) (xs := [l0]) (RSl_mono RP2_mono) E S rfl T70 rfl rfl rfl (by intro u hu; simp only [List.mem_cons, List.not_mem_nil, or_false] at hu; rcases hu with rfl <;> first | exact RdS.one' h0) rfl (rowsC (R := (RSl 2 RP2)) ⟨_, rfl, h0⟩ rowsN) ?_)
          clear E a S; rintro a v_85 w M_86 hM_86 hv_85 S E
          replace h0 := h0.le RP2_mono hM_86
          replace hb_1 := hM_86.2 _ _ hb_1
          replace hv_4 := hv_4.le RP2_mono hM_86
          replace hv_7 := hv_7.le RP2_mono hM_86
          replace hv_9 := hv_9.le (RSl_mono RP2_mono) hM_86
          replace hv_16 := hv_16.le RP2_mono hM_86
          replace hv_18 := hv_18.le RP2_mono hM_86
          replace hv_21 := hv_21.le RP2_mono hM_86
          replace hv_25 := hv_25.le RP2_mono hM_86
          replace hv_27 := hv_27.le RP2_mono hM_86
          replace hv_29 := hv_29.le RP2_mono hM_86
          replace hv_33 := hv_33.le RP2_mono hM_86
          replace hv_35 := hv_35.le RP2_mono hM_86
          replace hv_38 := hv_38.le RP2_mono hM_86
          replace hv_42 := hv_42.le RP2_mono hM_86
          replace hv_44 := hv_44.le RP2_mono hM_86
          replace hv_46 := hv_46.le RP2_mono hM_86
          replace hv_80 := hv_80.le RP2_mono hM_86
          replace hv_81 := hv_81.le (RSl_mono RP2_mono) hM_86
          replace hv_84 := hv_84.le hM_86
          refine ⟨fun x hq hb => (agree_le (hM_82.trans (hM_83.trans hM_86)) S.imm), ?_⟩
          refine D_yes E rfl rfl rfl rfl (X_pu E S rfl rfl rfl (impl_Keys hv_85 (by first | omega | (simp; done) | (simp; omega)) (by first | omega | (simp; done) | (simp; omega))) (Hp.le.refl _) ?_)
          clear E a S; rintro a v_88 w M_87 hM_87 hv_88 S E
          replace h0 := h0.le RP2_mono hM_87
          replace hb_1 := hM_87.2 _ _ hb_1
          replace hv_4 := hv_4.le RP2_mono hM_87
          replace hv_7 := hv_7.le RP2_mono hM_87
          replace hv_9 := hv_9.le (RSl_mono RP2_mono) hM_87
          replace hv_16 := hv_16.le RP2_mono hM_87
          replace hv_18 := hv_18.le RP2_mono hM_87
          replace hv_21 := hv_21.le RP2_mono hM_87
          replace hv_25 := hv_25.le RP2_mono hM_87
          replace hv_27 := hv_27.le RP2_mono hM_87
          replace hv_29 := hv_29.le RP2_mono hM_87
          replace hv_33 := hv_33.le RP2_mono hM_87
          replace hv_35 := hv_35.le RP2_mono hM_87
          replace hv_38 := hv_38.le RP2_mono hM_87
          replace hv_42 := hv_42.le RP2_mono hM_87
          replace hv_44 := hv_44.le RP2_mono hM_87
          replace hv_46 := hv_46.le RP2_mono hM_87
          replace hv_80 := hv_80.le RP2_mono hM_87
          replace hv_81 := hv_81.le (RSl_mono RP2_mono) hM_87
          replace hv_84 := hv_84.le hM_87
          replace hv_85 := hv_85.le (RSl_mono RP2_mono) hM_87
          refine ⟨fun x hq hb => (agree_le (hM_82.trans (hM_83.trans (hM_86.trans hM_87))) S.imm), ?_⟩
          refine D_yes E rfl rfl rfl rfl (X_pu E S rfl rfl rfl (laws_eq hv_84 hv_88) (Hp.le.refl _) ?_)
          clear E a S; rintro a _ w M_89 hM_89 rfl S E
          replace h0 := h0.le RP2_mono hM_89
          replace hb_1 := hM_89.2 _ _ hb_1
          replace hv_4 := hv_4.le RP2_mono hM_89
          replace hv_7 := hv_7.le RP2_mono hM_89
          replace hv_9 := hv_9.le (RSl_mono RP2_mono) hM_89
          replace hv_16 := hv_16.le RP2_mono hM_89
          replace hv_18 := hv_18.le RP2_mono hM_89
          replace hv_21 := hv_21.le RP2_mono hM_89
          replace hv_25 := hv_25.le RP2_mono hM_89
          replace hv_27 := hv_27.le RP2_mono hM_89
          replace hv_29 := hv_29.le RP2_mono hM_89
          replace hv_33 := hv_33.le RP2_mono hM_89
          replace hv_35 := hv_35.le RP2_mono hM_89
          replace hv_38 := hv_38.le RP2_mono hM_89
          replace hv_42 := hv_42.le RP2_mono hM_89
          replace hv_44 := hv_44.le RP2_mono hM_89
          replace hv_46 := hv_46.le RP2_mono hM_89
          replace hv_80 := hv_80.le RP2_mono hM_89
          replace hv_81 := hv_81.le (RSl_mono RP2_mono) hM_89
          replace hv_84 := hv_84.le hM_89
          replace hv_85 := hv_85.le (RSl_mono RP2_mono) hM_89
          replace hv_88 := hv_88.le hM_89
          refine ⟨fun x hq hb => (agree_le (hM_82.trans (hM_83.trans (hM_86.trans (hM_87.trans hM_89)))) S.imm), ?_⟩
          refine D_v E rfl rfl rfl (fun w hC => (R_pickT E rfl rfl)) ?_
          clear E a; intro a E
          refine D_v E rfl rfl rfl (fun w hC => (R_assign E rfl)) ?_
          clear E a; intro a E
          refine D_end (NoP_n ?_)
          refine T_n ?_
          refine WP_ret ?_
          exact F_ret1 E Try.results10 rfl ⟨_, rfl, M_89, (hM_2.trans (hM_5.trans (hM_6.trans (hM_10.trans (hM_11.trans (hM_13.trans (hM_15.trans (hM_17.trans (hM_20.trans (hM_22.trans (hM_24.trans (hM_26.trans (hM_28.trans (hM_30.trans (hM_32.trans (hM_34.trans (hM_37.trans (hM_39.trans (hM_41.trans (hM_43.trans (hM_45.trans (hM_47.trans (hM_79.trans (hM_82.trans (hM_83.trans (hM_86.trans (hM_87.trans hM_89))))))))))))))))))))))))))), (congrArg Value.bool (by (clear S E; first | (simp; done) | decide | (simp [entE, mkE, putK, swp, srtK_len]; done) | (first | refine dec_t ?_ | refine dec_f ?_ | skip); first | exact inj_L (by assumption) | exact inv_back (inj_yes (by assumption)) | exact rv_keys _ _ | rfl))), S⟩
         ·
          have hb_1k89 := hb_1
          refine DG_endT (C := fun x w => agree M_79 w) (bf := (fun i => [])) [14, 18, 19] [14, 12, 15, 13, 16, 17, 18, 19] (by kernel_rfl) (fun x hq => S.imm) ?_
          refine D_vyes E rfl rfl rfl rfl rfl (fun w hC => (R_move E rfl)) ?_
          clear E a; intro a E
          refine D_yes E rfl rfl rfl rfl (X_buildM (R := (RSl 2 RP2)) (vs := [v_80]) (xs := [entE ((mkE l0).map (rvv (fun v x => keyAt kk1 kn1 v x)))]) (RSl_mono RP2_mono) E S rfl T70 rfl rfl rfl (by intro u hu; simp only [List.mem_cons, List.not_mem_nil, or_false] at hu; rcases hu with rfl <;> first | exact RdS.one' hv_80) rfl (rowsC (R := (RSl 2 RP2)) ⟨_, rfl, hv_80⟩ rowsN) ?_)
          clear E a S; rintro a v_90 w M_91 hM_91 hv_90 S E
          replace h0 := h0.le RP2_mono hM_91
          replace hb_1 := hM_91.2 _ _ hb_1
          replace hv_4 := hv_4.le RP2_mono hM_91
          replace hv_7 := hv_7.le RP2_mono hM_91
          replace hv_9 := hv_9.le (RSl_mono RP2_mono) hM_91
          replace hv_16 := hv_16.le RP2_mono hM_91
          replace hv_18 := hv_18.le RP2_mono hM_91
          replace hv_21 := hv_21.le RP2_mono hM_91
          replace hv_25 := hv_25.le RP2_mono hM_91
          replace hv_27 := hv_27.le RP2_mono hM_91
          replace hv_29 := hv_29.le RP2_mono hM_91
          replace hv_33 := hv_33.le RP2_mono hM_91
          replace hv_35 := hv_35.le RP2_mono hM_91
          replace hv_38 := hv_38.le RP2_mono hM_91
          replace hv_42 := hv_42.le RP2_mono hM_91
          replace hv_44 := hv_44.le RP2_mono hM_91
          replace hv_46 := hv_46.le RP2_mono hM_91
          replace hv_80 := hv_80.le RP2_mono hM_91
          refine ⟨fun x hq hb => (agree_le hM_91 S.imm), ?_⟩
          refine D_yes E rfl rfl rfl rfl (X_buildM (R := (RSl 2 RP2)) (vs := [v0]) (xs := [l0]) (RSl_mono RP2_mono) E S rfl T70 rfl rfl rfl (by intro u hu; simp only [List.mem_cons, List.not_mem_nil, or_false] at hu; rcases hu with rfl <;> first | exact RdS.one' h0) rfl (rowsC (R := (RSl 2 RP2)) ⟨_, rfl, h0⟩ rowsN) ?_)
          clear E a S; rintro a v_92 w M_93 hM_93 hv_92 S E
          replace h0 := h0.le RP2_mono hM_93
          replace hb_1 := hM_93.2 _ _ hb_1
          replace hv_4 := hv_4.le RP2_mono hM_93
          replace hv_7 := hv_7.le RP2_mono hM_93
          replace hv_9 := hv_9.le (RSl_mono RP2_mono) hM_93
          replace hv_16 := hv_16.le RP2_mono hM_93
          replace hv_18 := hv_18.le RP2_mono hM_93
          replace hv_21 := hv_21.le RP2_mono hM_93
          replace hv_25 := hv_25.le RP2_mono hM_93
          replace hv_27 := hv_27.le RP2_mono hM_93
          replace hv_29 := hv_29.le RP2_mono hM_93
          replace hv_33 := hv_33.le RP2_mono hM_93
          replace hv_35 := hv_35.le RP2_mono hM_93
          replace hv_38 := hv_38.le RP2_mono hM_93
          replace hv_42 := hv_42.le RP2_mono hM_93
          replace hv_44 := hv_44.le RP2_mono hM_93
          replace hv_46 := hv_46.le RP2_mono hM_93
          replace hv_80 := hv_80.le RP2_mono hM_93
          replace hv_90 := hv_90.le (RSl_mono RP2_mono) hM_93
          refine ⟨fun x hq hb => (agree_le (hM_91.trans hM_93) S.imm), ?_⟩
          refine D_yes E rfl rfl rfl rfl (X_pu E S rfl rfl rfl (impl_Keys hv_90 (by first | omega | (simp; done) | (simp; omega)) (by first | omega | (simp; done) | (simp; omega))) (Hp.le.refl _) ?_)
          clear E a S; rintro a v_95 w M_94 hM_94 hv_95 S E
          replace h0 := h0.le RP2_mono hM_94
          replace hb_1 := hM_94.2 _ _ hb_1
          replace hv_4 := hv_4.le RP2_mono hM_94
          replace hv_7 := hv_7.le RP2_mono hM_94
          replace hv_9 := hv_9.le (RSl_mono RP2_mono) hM_94
          replace hv_16 := hv_16.le RP2_mono hM_94
          replace hv_18 := hv_18.le RP2_mono hM_94
          replace hv_21 := hv_21.le RP2_mono hM_94
          replace hv_25 := hv_25.le RP2_mono hM_94
          replace hv_27 := hv_27.le RP2_mono hM_94
          replace hv_29 := hv_29.le RP2_mono hM_94
          replace hv_33 := hv_33.le RP2_mono hM_94
          replace hv_35 := hv_35.le RP2_mono hM_94
          replace hv_38 := hv_38.le RP2_mono hM_94
          replace hv_42 := hv_42.le RP2_mono hM_94
          replace hv_44 := hv_44.le RP2_mono hM_94
          replace hv_46 := hv_46.le RP2_mono hM_94
          replace hv_80 := hv_80.le RP2_mono hM_94
          replace hv_90 := hv_90.le (RSl_mono RP2_mono) hM_94
          replace hv_92 := hv_92.le (RSl_mono RP2_mono) hM_94
          refine ⟨fun x hq hb => (agree_le (hM_91.trans (hM_93.trans hM_94)) S.imm), ?_⟩
          refine D_yes E rfl rfl rfl rfl (X_pu E S rfl rfl rfl (impl_Keys hv_92 (by first | omega | (simp; done) | (simp; omega)) (by first | omega | (simp; done) | (simp; omega))) (Hp.le.refl _) ?_)
          clear E a S; rintro a v_97 w M_96 hM_96 hv_97 S E
          replace h0 := h0.le RP2_mono hM_96
          replace hb_1 := hM_96.2 _ _ hb_1
          replace hv_4 := hv_4.le RP2_mono hM_96
          replace hv_7 := hv_7.le RP2_mono hM_96
          replace hv_9 := hv_9.le (RSl_mono RP2_mono) hM_96
          replace hv_16 := hv_16.le RP2_mono hM_96
          replace hv_18 := hv_18.le RP2_mono hM_96
          replace hv_21 := hv_21.le RP2_mono hM_96
          replace hv_25 := hv_25.le RP2_mono hM_96
          replace hv_27 := hv_27.le RP2_mono hM_96
          replace hv_29 := hv_29.le RP2_mono hM_96
          replace hv_33 := hv_33.le RP2_mono hM_96
          replace hv_35 := hv_35.le RP2_mono hM_96
          replace hv_38 := hv_38.le RP2_mono hM_96
          replace hv_42 := hv_42.le RP2_mono hM_96
          replace hv_44 := hv_44.le RP2_mono hM_96
          replace hv_46 := hv_46.le RP2_mono hM_96
          replace hv_80 := hv_80.le RP2_mono hM_96
          replace hv_90 := hv_90.le (RSl_mono RP2_mono) hM_96
          replace hv_92 := hv_92.le (RSl_mono RP2_mono) hM_96
          replace hv_95 := hv_95.le hM_96
          refine ⟨fun x hq hb => (agree_le (hM_91.trans (hM_93.trans (hM_94.trans hM_96))) S.imm), ?_⟩
          refine D_yes E rfl rfl rfl rfl (X_pu E S rfl rfl rfl (laws_eq hv_95 hv_97) (Hp.le.refl _) ?_)
          clear E a S; rintro a _ w M_98 hM_98 rfl S E
          replace h0 := h0.le RP2_mono hM_98
          replace hb_1 := hM_98.2 _ _ hb_1
          replace hv_4 := hv_4.le RP2_mono hM_98
          replace hv_7 := hv_7.le RP2_mono hM_98
          replace hv_9 := hv_9.le (RSl_mono RP2_mono) hM_98
          replace hv_16 := hv_16.le RP2_mono hM_98
          replace hv_18 := hv_18.le RP2_mono hM_98
          replace hv_21 := hv_21.le RP2_mono hM_98
          replace hv_25 := hv_25.le RP2_mono hM_98
          replace hv_27 := hv_27.le RP2_mono hM_98
          replace hv_29 := hv_29.le RP2_mono hM_98
          replace hv_33 := hv_33.le RP2_mono hM_98
          replace hv_35 := hv_35.le RP2_mono hM_98
          replace hv_38 := hv_38.le RP2_mono hM_98
          replace hv_42 := hv_42.le RP2_mono hM_98
          replace hv_44 := hv_44.le RP2_mono hM_98
          replace hv_46 := hv_46.le RP2_mono hM_98
          replace hv_80 := hv_80.le RP2_mono hM_98
          replace hv_90 := hv_90.le (RSl_mono RP2_mono) hM_98
          replace hv_92 := hv_92.le (RSl_mono RP2_mono) hM_98
          replace hv_95 := hv_95.le hM_98
          replace hv_97 := hv_97.le hM_98
          refine ⟨fun x hq hb => (agree_le (hM_91.trans (hM_93.trans (hM_94.trans (hM_96.trans hM_98)))) S.imm), ?_⟩
          refine D_v E rfl rfl rfl (fun w hC => (R_pickT E rfl rfl)) ?_
          clear E a; intro a E
          refine D_v E rfl rfl rfl (fun w hC => (R_assign E rfl)) ?_
          clear E a; intro a E
          refine D_end (NoP_n ?_)
          refine T_n ?_
          refine WP_ret ?_
          exact F_ret1 E Try.results10 rfl ⟨_, rfl, M_98, (hM_2.trans (hM_5.trans (hM_6.trans (hM_10.trans (hM_11.trans (hM_13.trans (hM_15.trans (hM_17.trans (hM_20.trans (hM_22.trans (hM_24.trans (hM_26.trans (hM_28.trans (hM_30.trans (hM_32.trans (hM_34.trans (hM_37.trans (hM_39.trans (hM_41.trans (hM_43.trans (hM_45.trans (hM_47.trans (hM_79.trans (hM_91.trans (hM_93.trans (hM_94.trans (hM_96.trans hM_98))))))))))))))))))))))))))), (congrArg Value.bool (by (clear S E; first | (simp; done) | decide | (simp [entE, mkE, putK, swp, srtK_len]; done) | (first | refine dec_t ?_ | refine dec_f ?_ | skip); first | exact inj_L (by assumption) | exact inv_back (inj_yes (by assumption)) | exact rv_keys _ _ | rfl))), S⟩
        ·
         have hb_1k98 := hb_1
         refine DG_endT (C := fun x w => agree M_79 w) (bf := (fun i => [])) [14, 18, 19] [14, 15, 12, 13, 16, 17, 18, 19] (by kernel_rfl) (fun x hq => S.imm) ?_
         refine D_vyes E rfl rfl rfl rfl rfl (fun w hC => (R_move E rfl)) ?_
         clear E a; intro a E
         refine D_yes E rfl rfl rfl rfl (X_buildM (R := (RSl 2 RP2)) (vs := [v0]) (xs := [l0]) (RSl_mono RP2_mono) E S rfl T70 rfl rfl rfl (by intro u hu; simp only [List.mem_cons, List.not_mem_nil, or_false] at hu; rcases hu with rfl <;> first | exact RdS.one' h0) rfl (rowsC (R := (RSl 2 RP2)) ⟨_, rfl, h0⟩ rowsN) ?_)
         clear E a S; rintro a v_99 w M_100 hM_100 hv_99 S E
         replace h0 := h0.le RP2_mono hM_100
         replace hb_1 := hM_100.2 _ _ hb_1
         replace hv_4 := hv_4.le RP2_mono hM_100
         replace hv_7 := hv_7.le RP2_mono hM_100
         replace hv_9 := hv_9.le (RSl_mono RP2_mono) hM_100
         replace hv_16 := hv_16.le RP2_mono hM_100
         replace hv_18 := hv_18.le RP2_mono hM_100
         replace hv_21 := hv_21.le RP2_mono hM_100
         replace hv_25 := hv_25.le RP2_mono hM_100
         replace hv_27 := hv_27.le RP2_mono hM_100
         replace hv_29 := hv_29.le RP2_mono hM_100
         replace hv_33 := hv_33.le RP2_mono hM_100
         replace hv_35 := hv_35.le RP2_mono hM_100
         replace hv_38 := hv_38.le RP2_mono hM_100
         replace hv_42 := hv_42.le RP2_mono hM_100
         replace hv_44 := hv_44.le RP2_mono hM_100
         replace hv_46 := hv_46.le RP2_mono hM_100
         replace hv_80 := hv_80.le RP2_mono hM_100
         refine ⟨fun x hq hb => (agree_le hM_100 S.imm), ?_⟩
         refine D_yes E rfl rfl rfl rfl (X_buildM (R := (RSl 2 RP2)) (vs := [v_80]) (xs := [entE ((mkE l0).map (rvv (fun v x => keyAt kk1 kn1 v x)))]) (RSl_mono RP2_mono) E S rfl T70 rfl rfl rfl (by intro u hu; simp only [List.mem_cons, List.not_mem_nil, or_false] at hu; rcases hu with rfl <;> first | exact RdS.one' hv_80) rfl (rowsC (R := (RSl 2 RP2)) ⟨_, rfl, hv_80⟩ rowsN) ?_)
         clear E a S; rintro a v_101 w M_102 hM_102 hv_101 S E
         replace h0 := h0.le RP2_mono hM_102
         replace hb_1 := hM_102.2 _ _ hb_1
         replace hv_4 := hv_4.le RP2_mono hM_102
         replace hv_7 := hv_7.le RP2_mono hM_102
         replace hv_9 := hv_9.le (RSl_mono RP2_mono) hM_102
         replace hv_16 := hv_16.le RP2_mono hM_102
         replace hv_18 := hv_18.le RP2_mono hM_102
         replace hv_21 := hv_21.le RP2_mono hM_102
         replace hv_25 := hv_25.le RP2_mono hM_102
         replace hv_27 := hv_27.le RP2_mono hM_102
         replace hv_29 := hv_29.le RP2_mono hM_102
         replace hv_33 := hv_33.le RP2_mono hM_102
         replace hv_35 := hv_35.le RP2_mono hM_102
         replace hv_38 := hv_38.le RP2_mono hM_102
         replace hv_42 := hv_42.le RP2_mono hM_102
         replace hv_44 := hv_44.le RP2_mono hM_102
         replace hv_46 := hv_46.le RP2_mono hM_102
         replace hv_80 := hv_80.le RP2_mono hM_102
         replace hv_99 := hv_99.le (RSl_mono RP2_mono) hM_102
         refine ⟨fun x hq hb => (agree_le (hM_100.trans hM_102) S.imm), ?_⟩
         refine D_yes E rfl rfl rfl rfl (X_pu E S rfl rfl rfl (impl_Keys hv_101 (by first | omega | (simp; done) | (simp; omega)) (by first | omega | (simp; done) | (simp; omega))) (Hp.le.refl _) ?_)
         clear E a S; rintro a v_104 w M_103 hM_103 hv_104 S E
         replace h0 := h0.le RP2_mono hM_103
         replace hb_1 := hM_103.2 _ _ hb_1
         replace hv_4 := hv_4.le RP2_mono hM_103
         replace hv_7 := hv_7.le RP2_mono hM_103
         replace hv_9 := hv_9.le (RSl_mono RP2_mono) hM_103
         replace hv_16 := hv_16.le RP2_mono hM_103
         replace hv_18 := hv_18.le RP2_mono hM_103
         replace hv_21 := hv_21.le RP2_mono hM_103
         replace hv_25 := hv_25.le RP2_mono hM_103
         replace hv_27 := hv_27.le RP2_mono hM_103
         replace hv_29 := hv_29.le RP2_mono hM_103
         replace hv_33 := hv_33.le RP2_mono hM_103
         replace hv_35 := hv_35.le RP2_mono hM_103
         replace hv_38 := hv_38.le RP2_mono hM_103
         replace hv_42 := hv_42.le RP2_mono hM_103
         replace hv_44 := hv_44.le RP2_mono hM_103
         replace hv_46 := hv_46.le RP2_mono hM_103
         replace hv_80 := hv_80.le RP2_mono hM_103
         replace hv_99 := hv_99.le (RSl_mono RP2_mono) hM_103
         replace hv_101 := hv_101.le (RSl_mono RP2_mono) hM_103
         refine ⟨fun x hq hb => (agree_le (hM_100.trans (hM_102.trans hM_103)) S.imm), ?_⟩
         refine D_yes E rfl rfl rfl rfl (X_pu E S rfl rfl rfl (impl_Keys hv_99 (by first | omega | (simp; done) | (simp; omega)) (by first | omega | (simp; done) | (simp; omega))) (Hp.le.refl _) ?_)
         clear E a S; rintro a v_106 w M_105 hM_105 hv_106 S E
         replace h0 := h0.le RP2_mono hM_105
         replace hb_1 := hM_105.2 _ _ hb_1
         replace hv_4 := hv_4.le RP2_mono hM_105
         replace hv_7 := hv_7.le RP2_mono hM_105
         replace hv_9 := hv_9.le (RSl_mono RP2_mono) hM_105
         replace hv_16 := hv_16.le RP2_mono hM_105
         replace hv_18 := hv_18.le RP2_mono hM_105
         replace hv_21 := hv_21.le RP2_mono hM_105
         replace hv_25 := hv_25.le RP2_mono hM_105
         replace hv_27 := hv_27.le RP2_mono hM_105
         replace hv_29 := hv_29.le RP2_mono hM_105
         replace hv_33 := hv_33.le RP2_mono hM_105
         replace hv_35 := hv_35.le RP2_mono hM_105
         replace hv_38 := hv_38.le RP2_mono hM_105
         replace hv_42 := hv_42.le RP2_mono hM_105
         replace hv_44 := hv_44.le RP2_mono hM_105
         replace hv_46 := hv_46.le RP2_mono hM_105
         replace hv_80 := hv_80.le RP2_mono hM_105
         replace hv_99 := hv_99.le (RSl_mono RP2_mono) hM_105
         replace hv_101 := hv_101.le (RSl_mono RP2_mono) hM_105
         replace hv_104 := hv_104.le hM_105
         refine ⟨fun x hq hb => (agree_le (hM_100.trans (hM_102.trans (hM_103.trans hM_105))) S.imm), ?_⟩
         refine D_yes E rfl rfl rfl rfl (X_pu E S rfl rfl rfl (laws_eq hv_104 hv_106) (Hp.le.refl _) ?_)
         clear E a S; rintro a _ w M_107 hM_107 rfl S E
         replace h0 := h0.le RP2_mono hM_107
         replace hb_1 := hM_107.2 _ _ hb_1
         replace hv_4 := hv_4.le RP2_mono hM_107
         replace hv_7 := hv_7.le RP2_mono hM_107
         replace hv_9 := hv_9.le (RSl_mono RP2_mono) hM_107
         replace hv_16 := hv_16.le RP2_mono hM_107
         replace hv_18 := hv_18.le RP2_mono hM_107
         replace hv_21 := hv_21.le RP2_mono hM_107
         replace hv_25 := hv_25.le RP2_mono hM_107
         replace hv_27 := hv_27.le RP2_mono hM_107
         replace hv_29 := hv_29.le RP2_mono hM_107
         replace hv_33 := hv_33.le RP2_mono hM_107
         replace hv_35 := hv_35.le RP2_mono hM_107
         replace hv_38 := hv_38.le RP2_mono hM_107
         replace hv_42 := hv_42.le RP2_mono hM_107
         replace hv_44 := hv_44.le RP2_mono hM_107
         replace hv_46 := hv_46.le RP2_mono hM_107
         replace hv_80 := hv_80.le RP2_mono hM_107
         replace hv_99 := hv_99.le (RSl_mono RP2_mono) hM_107
         replace hv_101 := hv_101.le (RSl_mono RP2_mono) hM_107
         replace hv_104 := hv_104.le hM_107
         replace hv_106 := hv_106.le hM_107
         refine ⟨fun x hq hb => (agree_le (hM_100.trans (hM_102.trans (hM_103.trans (hM_105.trans hM_107)))) S.imm), ?_⟩
         refine D_v E rfl rfl rfl (fun w hC => (R_pickT E rfl rfl)) ?_
         clear E a; intro a E
         refine D_v E rfl rfl rfl (fun w hC => (R_assign E rfl)) ?_
         clear E a; intro a E
         refine D_end (NoP_n ?_)
         refine T_n ?_
         refine WP_ret ?_
         exact F_ret1 E Try.results10 rfl ⟨_, rfl, M_107, (hM_2.trans (hM_5.trans (hM_6.trans (hM_10.trans (hM_11.trans (hM_13.trans (hM_15.trans (hM_17.trans (hM_20.trans (hM_22.trans (hM_24.trans (hM_26.trans (hM_28.trans (hM_30.trans (hM_32.trans (hM_34.trans (hM_37.trans (hM_39.trans (hM_41.trans (hM_43.trans (hM_45.trans (hM_47.trans (hM_79.trans (hM_100.trans (hM_102.trans (hM_103.trans (hM_105.trans hM_107))))))))))))))))))))))))))), (congrArg Value.bool (by (clear S E; first | (simp; done) | decide | (simp [entE, mkE, putK, swp, srtK_len]; done) | (first | refine dec_t ?_ | refine dec_f ?_ | skip); first | exact inj_L (by assumption) | exact inv_back (inj_yes (by assumption)) | exact rv_keys _ _ | rfl))), S⟩
      ·
       have hb_1k107 := hb_1
       refine DG_endT (C := fun x w => agree M_47 w) (bf := (fun i => [])) [8, 9, 10, 14, 18, 19] [8, 9, 10, 14, 15, 11, 12, 13, 16, 17, 18, 19] (by kernel_rfl) (fun x hq => S.imm) ?_
       refine D_v E rfl rfl rfl (fun w hC => (R_move E rfl)) ?_
       clear E a; intro a E
       have hc_108 : (decide (entE ((mkE l0).map (rvv (fun v x => keyAt kk1 kn1 v x))) = entE ((mkE l0).map (rvv (fun v x => keyAt kk1 kn1 v x))))) = true := by (clear S E; first | (simp; done) | decide | (simp [entE, mkE, putK, swp, srtK_len]; done) | (first | refine dec_t ?_ | refine dec_f ?_ | skip); first | exact inj_L (by assumption) | exact inv_back (inj_yes (by assumption)) | exact rv_keys _ _ | rfl)
       replace E := E.val (t := 74) rfl hc_108
       replace E := E.val (t := 75) rfl hc_108
       refine D_vyes E rfl rfl rfl rfl rfl (fun w hC => (R_move E rfl)) ?_
       clear E a; intro a E
       refine D_vyes E rfl rfl rfl rfl rfl (fun w hC => (R_loadGM E rfl (Try.isAgg24 _) (Try.sizeOf24 _) hC hb_1k107)) ?_
       clear E a; intro a E
       refine D_vyes E rfl rfl rfl rfl rfl (fun w hC => (R_move E rfl)) ?_
       clear E a; intro a E
       refine D_yes E rfl rfl rfl rfl (X_buildM (R := (RSl 2 RP2)) (vs := [v0]) (xs := [l0]) (RSl_mono RP2_mono) E S rfl T70 rfl rfl rfl (by intro u hu; simp only [List.mem_cons, List.not_mem_nil, or_false] at hu; rcases hu with rfl <;> first | exact RdS.one' h0) rfl (rowsC (R := (RSl 2 RP2)) ⟨_, rfl, h0⟩ rowsN) ?_)
       clear E a S; rintro a v_109 w M_110 hM_110 hv_109 S E
       replace h0 := h0.le RP2_mono hM_110
       replace hb_1 := hM_110.2 _ _ hb_1
       replace hv_4 := hv_4.le RP2_mono hM_110
       replace hv_7 := hv_7.le RP2_mono hM_110
       replace hv_9 := hv_9.le (RSl_mono RP2_mono) hM_110
       replace hv_16 := hv_16.le RP2_mono hM_110
       replace hv_18 := hv_18.le RP2_mono hM_110
       replace hv_21 := hv_21.le RP2_mono hM_110
       replace hv_25 := hv_25.le RP2_mono hM_110
       replace hv_27 := hv_27.le RP2_mono hM_110
       replace hv_29 := hv_29.le RP2_mono hM_110
       replace hv_33 := hv_33.le RP2_mono hM_110
       replace hv_35 := hv_35.le RP2_mono hM_110
       replace hv_38 := hv_38.le RP2_mono hM_110
       replace hv_42 := hv_42.le RP2_mono hM_110
       replace hv_44 := hv_44.le RP2_mono hM_110
       replace hv_46 := hv_46.le RP2_mono hM_110
       refine ⟨fun x hq hb => (agree_le hM_110 S.imm), ?_⟩
       refine D_yes E rfl rfl rfl rfl (X_pu E S rfl rfl rfl (impl_MapValues h0 (by omega) (by first | omega | (simp; done) | (simp; omega) | exact Nat.le_trans (mkE_len _) (by omega))) (Hp.le.refl _) ?_)
       clear E a S; rintro a v_112 w M_111 hM_111 hv_112 S E
       replace h0 := h0.le RP2_mono hM_111
       replace hb_1 := hM_111.2 _ _ hb_1
       replace hv_4 := hv_4.le RP2_mono hM_111
       replace hv_7 := hv_7.le RP2_mono hM_111
       replace hv_9 := hv_9.le (RSl_mono RP2_mono) hM_111
       replace hv_16 := hv_16.le RP2_mono hM_111
       replace hv_18 := hv_18.le RP2_mono hM_111
       replace hv_21 := hv_21.le RP2_mono hM_111
       replace hv_25 := hv_25.le RP2_mono hM_111
       replace hv_27 := hv_27.le RP2_mono hM_111
       replace hv_29 := hv_29.le RP2_mono hM_111
       replace hv_33 := hv_33.le RP2_mono hM_111
       replace hv_35 := hv_35.le RP2_mono hM_111
       replace hv_38 := hv_38.le RP2_mono hM_111
       replace hv_42 := hv_42.le RP2_mono hM_111
       replace hv_44 := hv_44.le RP2_mono hM_111
       replace hv_46 := hv_46.le RP2_mono hM_111
       replace hv_109 := hv_109.le (RSl_mono RP2_mono) hM_111
       refine ⟨fun x hq hb => (agree_le (hM_110.trans hM_111) S.imm), ?_⟩
       refine D_yes E rfl rfl rfl rfl (X_buildM (R := (RSl 2 RP2)) (vs := [v_112]) (xs := [entE ((mkE l0).map (rvv (fun v x => keyAt kk1 kn1 v x)))]) (RSl_mono RP2_mono) E S rfl T70 rfl rfl rfl (by intro u hu; simp only [List.mem_cons, List.not_mem_nil, or_false] at hu; rcases hu with rfl <;> first | exact RdS.one' hv_112) rfl (rowsC (R := (RSl 2 RP2)) ⟨_, rfl, hv_112⟩ rowsN) ?_)
       clear E a S; rintro a v_113 w M_114 hM_114 hv_113 S E
       replace h0 := h0.le RP2_mono hM_114
       replace hb_1 := hM_114.2 _ _ hb_1
       replace hv_4 := hv_4.le RP2_mono hM_114
       replace hv_7 := hv_7.le RP2_mono hM_114
       replace hv_9 := hv_9.le (RSl_mono RP2_mono) hM_114
       replace hv_16 := hv_16.le RP2_mono hM_114
       replace hv_18 := hv_18.le RP2_mono hM_114
       replace hv_21 := hv_21.le RP2_mono hM_114
       replace hv_25 := hv_25.le RP2_mono hM_114
       replace hv_27 := hv_27.le RP2_mono hM_114
       replace hv_29 := hv_29.le RP2_mono hM_114
       replace hv_33 := hv_33.le RP2_mono hM_114
       replace hv_35 := hv_35.le RP2_mono hM_114
       replace hv_38 := hv_38.le RP2_mono hM_114
       replace hv_42 := hv_42.le RP2_mono hM_114
       replace hv_44 := hv_44.le RP2_mono hM_114
       replace hv_46 := hv_46.le RP2_mono hM_114
       replace hv_109 := hv_109.le (RSl_mono RP2_mono) hM_114
       replace hv_112 := hv_112.le RP2_mono hM_114
       refine ⟨fun x hq hb => (agree_le (hM_110.trans (hM_111.trans hM_114)) S.imm), ?_⟩
       refine D_yes E rfl rfl rfl rfl (X_pu E S rfl rfl rfl (impl_Keys hv_113 (by first | omega | (simp; done) | (simp; omega)) (by first | omega | (simp; done) | (simp; omega))) (Hp.le.refl _) ?_)
       clear E a S; rintro a v_116 w M_115 hM_115 hv_116 S E
       replace h0 := h0.le RP2_mono hM_115
       replace hb_1 := hM_115.2 _ _ hb_1
       replace hv_4 := hv_4.le RP2_mono hM_115
       replace hv_7 := hv_7.le RP2_mono hM_115
       replace hv_9 := hv_9.le (RSl_mono RP2_mono) hM_115
       replace hv_16 := hv_16.le RP2_mono hM_115
       replace hv_18 := hv_18.le RP2_mono hM_115
       replace hv_21 := hv_21.le RP2_mono hM_115
       replace hv_25 := hv_25.le RP2_mono hM_115
       replace hv_27 := hv_27.le RP2_mono hM_115
       replace hv_29 := hv_29.le RP2_mono hM_115
       replace hv_33 := hv_33.le RP2_mono hM_115
       replace hv_35 := hv_35.le RP2_mono hM_115
       replace hv_38 := hv_38.le RP2_mono hM_115
       replace hv_42 := hv_42.le RP2_mono hM_115
       replace hv_44 := hv_44.le RP2_mono hM_115
       replace hv_46 := hv_46.le RP2_mono hM_115
       replace hv_109 := hv_109.le (RSl_mono RP2_mono) hM_115
       replace hv_112 := hv_112.le RP2_mono hM_115
       replace hv_113 := hv_113.le (RSl_mono RP2_mono) hM_115
       refine ⟨fun x hq hb => (agree_le (hM_110.trans (hM_111.trans (hM_114.trans hM_115))) S.imm), ?_⟩
       refine D_yes E rfl rfl rfl rfl (X_pu E S rfl rfl rfl (impl_Keys hv_109 (by first | omega | (simp; done) | (simp; omega)) (by first | omega | (simp; done) | (simp; omega))) (Hp.le.refl _) ?_)
       clear E a S; rintro a v_118 w M_117 hM_117 hv_118 S E
       replace h0 := h0.le RP2_mono hM_117
       replace hb_1 := hM_117.2 _ _ hb_1
       replace hv_4 := hv_4.le RP2_mono hM_117
       replace hv_7 := hv_7.le RP2_mono hM_117
       replace hv_9 := hv_9.le (RSl_mono RP2_mono) hM_117
       replace hv_16 := hv_16.le RP2_mono hM_117
       replace hv_18 := hv_18.le RP2_mono hM_117
       replace hv_21 := hv_21.le RP2_mono hM_117
       replace hv_25 := hv_25.le RP2_mono hM_117
       replace hv_27 := hv_27.le RP2_mono hM_117
       replace hv_29 := hv_29.le RP2_mono hM_117
       replace hv_33 := hv_33.le RP2_mono hM_117
       replace hv_35 := hv_35.le RP2_mono hM_117
       replace hv_38 := hv_38.le RP2_mono hM_117
       replace hv_42 := hv_42.le RP2_mono hM_117
       replace hv_44 := hv_44.le RP2_mono hM_117
       replace hv_46 := hv_46.le RP2_mono hM_117
       replace hv_109 := hv_109.le (RSl_mono RP2_mono) hM_117
       replace hv_112 := hv_112.le RP2_mono hM_117
       replace hv_113 := hv_113.le (RSl_mono RP2_mono) hM_117
       replace hv_116 := hv_116.le hM_117
       refine ⟨fun x hq hb => (agree_le (hM_110.trans (hM_111.trans (hM_114.trans (hM_115.trans hM_117)))) S.imm), ?_⟩
       refine D_yes E rfl rfl rfl rfl (X_pu E S rfl rfl rfl (laws_eq hv_116 hv_118) (Hp.le.refl _) ?_)
       clear E a S; rintro a _ w M_119 hM_119 rfl S E
       replace h0 := h0.le RP2_mono hM_119
       replace hb_1 := hM_119.2 _ _ hb_1
       replace hv_4 := hv_4.le RP2_mono hM_119
       replace hv_7 := hv_7.le RP2_mono hM_119
       replace hv_9 := hv_9.le (RSl_mono RP2_mono) hM_119
       replace hv_16 := hv_16.le RP2_mono hM_119
       replace hv_18 := hv_18.le RP2_mono hM_119
       replace hv_21 := hv_21.le RP2_mono hM_119
       replace hv_25 := hv_25.le RP2_mono hM_119
       replace hv_27 := hv_27.le RP2_mono hM_119
       replace hv_29 := hv_29.le RP2_mono hM_119
       replace hv_33 := hv_33.le RP2_mono hM_119
       replace hv_35 := hv_35.le RP2_mono hM_119
       replace hv_38 := hv_38.le RP2_mono hM_119
       replace hv_42 := hv_42.le RP2_mono hM_119
       replace hv_44 := hv_44.le RP2_mono hM_119
       replace hv_46 := hv_46.le RP2_mono hM_119
       replace hv_109 := hv_109.le (RSl_mono RP2_mono) hM_119
       replace hv_112 := hv_112.le RP2_mono hM_119
       replace hv_113 := hv_113.le (RSl_mono RP2_mono) hM_119
       replace hv_116 := hv_116.le hM_119
       replace hv_118 := hv_118.le hM_119
       refine ⟨fun x hq hb => (agree_le (hM_110.trans (hM_111.trans (hM_114.trans (hM_115.trans (hM_117.trans hM_119))))) S.imm), ?_⟩
       refine D_v E rfl rfl rfl (fun w hC => (R_pickT E rfl rfl)) ?_
       clear E a; intro a E
       refine D_v E rfl rfl rfl (fun w hC => (R_assign E rfl)) ?_
       clear E a; intro a E
       refine D_end (NoP_n ?_)
       refine T_n ?_
       refine WP_ret ?_
       exact F_ret1 E Try.results10 rfl ⟨_, rfl, M_119, (hM_2.trans (hM_5.trans (hM_6.trans (hM_10.trans (hM_11.trans (hM_13.trans (hM_15.trans (hM_17.trans (hM_20.trans (hM_22.trans (hM_24.trans (hM_26.trans (hM_28.trans (hM_30.trans (hM_32.trans (hM_34.trans (hM_37.trans (hM_39.trans (hM_41.trans (hM_43.trans (hM_45.trans (hM_47.trans (hM_110.trans (hM_111.trans (hM_114.trans (hM_115.trans (hM_117.trans hM_119))))))))))))))))))))))))))), (congrArg Value.bool (by (clear S E; first | (simp; done) | decide | (simp [entE, mkE, putK, swp, srtK_len]; done) | (first | refine dec_t ?_ | refine dec_f ?_ | skip); first | exact inj_L (by assumption) | exact inv_back (inj_yes (by assumption)) | exact rv_keys _ _ | rfl))), S⟩
     ·
      replace E := E.val (t := 58) rfl hc_36
      replace E := E.val (t := 59) rfl hc_36
      replace hc_36 := of_decide_eq_false hc_36
      refine WL_guard_no E rfl rfl rfl rfl fun a E => ?_
      refine WL_guard_no E rfl rfl rfl rfl fun a E => ?_
      refine WL_guard_no E rfl rfl rfl rfl fun a E => ?_
      refine WL_guard_no E rfl rfl rfl rfl fun a E => ?_
      refine WL_guard_no E rfl rfl rfl rfl fun a E => ?_
      refine WL_guard_no E rfl rfl rfl rfl fun a E => ?_
      refine S_v E rfl (R_pickF E rfl rfl) rfl ?_
      clear E a; intro a E
      refine WL_nil ?_
      refine T_n ?_
      refine WP_condF E rfl rfl ?_
      refine WP_skip ?_
      refine T_n ?_
      refine WP_seq ?_
      refine DG_start Try.mixed ?_
      have hb_1k119 := hb_1
      replace S := S.mono_heap (w' := World.drew _) rfl
      refine DG_take (C := fun x w => agree M_34 w) (bf := (fun i => [])) [0, 1, 3, 5] [0, 1, 3, 5, 2, 4, 6, 7] [8, 9, 10, 11, 12, 13, 14, 15, 16, 17, 18, 19] 7 (by kernel_rfl) (fun x hq => S.imm) ?_
      refine D_v E rfl rfl rfl (fun w hC => (R_move E rfl)) ?_
      clear E a; intro a E
      refine D_v E rfl rfl rfl (fun w hC => (R_loadGM E rfl (Try.isAgg24 _) (Try.sizeOf24 _) hC hb_1k119)) ?_
      clear E a; intro a E
      refine D_v E rfl rfl rfl (fun w hC => (R_move E rfl)) ?_
      clear E a; intro a E
      refine D_v E rfl rfl rfl (fun w hC => (R_loadGM E rfl (Try.isAgg24 _) (Try.sizeOf24 _) hC hb_1k119)) ?_
      clear E a; intro a E
      refine D_x rfl rfl rfl (X_pu E S rfl rfl rfl (impl_MapValues h0 (by omega) (by first | omega | (simp; done) | (simp; omega) | exact Nat.le_trans (mkE_len _) (by omega))) (Hp.le.refl _) ?_)
      clear E a S; rintro a v_121 w M_120 hM_120 hv_121 S E
      replace h0 := h0.le RP2_mono hM_120
      replace hb_1 := hM_120.2 _ _ hb_1
      replace hv_4 := hv_4.le RP2_mono hM_120
      replace hv_7 := hv_7.le RP2_mono hM_120
      replace hv_9 := hv_9.le (RSl_mono RP2_mono) hM_120
      replace hv_16 := hv_16.le RP2_mono hM_120
      replace hv_18 := hv_18.le RP2_mono hM_120
      replace hv_21 := hv_21.le RP2_mono hM_120
      replace hv_25 := hv_25.le RP2_mono hM_120
      replace hv_27 := hv_27.le RP2_mono hM_120
      replace hv_29 := hv_29.le RP2_mono hM_120
      replace hv_33 := hv_33.le RP2_mono hM_120
      replace hv_35 := hv_35.le RP2_mono hM_120
      refine ⟨fun x hq hb => (agree_le hM_120 S.imm), ?_⟩
      refine D_x rfl rfl rfl (X_pu E S rfl rfl rfl (laws_pairs h0 (by first | omega | (simp [ixm_len]; done) | (simp [ixm_len]; omega) | (have h9 := kpix_len _ _ _; exact Nat.le_trans h9 (by omega)) | exact Nat.le_trans (kpix_len _ _ _) (by first | omega | (simp; omega)))) (Hp.le.refl _) ?_)
      clear E a S; rintro a v_123 w M_122 hM_122 hv_123 S E
      replace h0 := h0.le RP2_mono hM_122
      replace hb_1 := hM_122.2 _ _ hb_1
      replace hv_4 := hv_4.le RP2_mono hM_122
      replace hv_7 := hv_7.le RP2_mono hM_122
      replace hv_9 := hv_9.le (RSl_mono RP2_mono) hM_122
      replace hv_16 := hv_16.le RP2_mono hM_122
      replace hv_18 := hv_18.le RP2_mono hM_122
      replace hv_21 := hv_21.le RP2_mono hM_122
      replace hv_25 := hv_25.le RP2_mono hM_122
      replace hv_27 := hv_27.le RP2_mono hM_122
      replace hv_29 := hv_29.le RP2_mono hM_122
      replace hv_33 := hv_33.le RP2_mono hM_122
      replace hv_35 := hv_35.le RP2_mono hM_122
      replace hv_121 := hv_121.le RP2_mono hM_122
      refine ⟨fun x hq hb => (agree_le (hM_120.trans hM_122) S.imm), ?_⟩
      refine D_x rfl rfl rfl (X_pu E S rfl rfl rfl (spec_MapValues hv_123 (by omega) (by assumption) (by first | omega | (simp [ixm_len]; done) | (simp [ixm_len]; omega) | (have h9 := kpix_len _ _ _; exact Nat.le_trans h9 (by omega)) | exact Nat.le_trans (kpix_len _ _ _) (by first | omega | (simp; omega)))) (Hp.le.refl _) ?_)
      clear E a S; rintro a v_125 w M_124 hM_124 hv_125 S E
      replace h0 := h0.le RP2_mono hM_124
      replace hb_1 := hM_124.2 _ _ hb_1
      replace hv_4 := hv_4.le RP2_mono hM_124
      replace hv_7 := hv_7.le RP2_mono hM_124
      replace hv_9 := hv_9.le (RSl_mono RP2_mono) hM_124
      replace hv_16 := hv_16.le RP2_mono hM_124
      replace hv_18 := hv_18.le RP2_mono hM_124
      replace hv_21 := hv_21.le RP2_mono hM_124
      replace hv_25 := hv_25.le RP2_mono hM_124
      replace hv_27 := hv_27.le RP2_mono hM_124
      replace hv_29 := hv_29.le RP2_mono hM_124
      replace hv_33 := hv_33.le RP2_mono hM_124
      replace hv_35 := hv_35.le RP2_mono hM_124
      replace hv_121 := hv_121.le RP2_mono hM_124
      replace hv_123 := hv_123.le RP2_mono hM_124
      refine ⟨fun x hq hb => (agree_le (hM_120.trans (hM_122.trans hM_124)) S.imm), ?_⟩
      refine D_x rfl rfl rfl (X_pu E S rfl rfl rfl (laws_eqRef hv_121 hv_125) (Hp.le.refl _) ?_)
      clear E a S; rintro a _ w M_126 hM_126 rfl S E
      replace h0 := h0.le RP2_mono hM_126
      replace hb_1 := hM_126.2 _ _ hb_1
      replace hv_4 := hv_4.le RP2_mono hM_126
      replace hv_7 := hv_7.le RP2_mono hM_126
      replace hv_9 := hv_9.le (RSl_mono RP2_mono) hM_126
      replace hv_16 := hv_16.le RP2_mono hM_126
      replace hv_18 := hv_18.le RP2_mono hM_126
      replace hv_21 := hv_21.le RP2_mono hM_126
      replace hv_25 := hv_25.le RP2_mono hM_126
      replace hv_27 := hv_27.le RP2_mono hM_126
      replace hv_29 := hv_29.le RP2_mono hM_126
      replace hv_33 := hv_33.le RP2_mono hM_126
      replace hv_35 := hv_35.le RP2_mono hM_126
      replace hv_121 := hv_121.le RP2_mono hM_126
      replace hv_123 := hv_123.le RP2_mono hM_126
      replace hv_125 := hv_125.le RP2_mono hM_126
      refine ⟨fun x hq hb => (agree_le (hM_120.trans (hM_122.trans (hM_124.trans hM_126))) S.imm), ?_⟩
      refine D_end (DT_n ?_)
      refine DG_splitT 11 15 (by decide) (by kernel_rfl) ?_ ?_
      ·
       refine DG_splitT 14 11 (by decide) (by kernel_rfl) ?_ ?_
       ·
        have hb_1k126 := hb_1
        refine DG_takeT (C := fun x w => agree M_126 w) (bf := (fun i => [])) [8, 9, 10, 14] [8, 9, 10, 14, 11] [12, 13, 15, 16, 17, 18, 19] 11 (by kernel_rfl) (fun x hq => S.imm) ?_
        refine D_v E rfl rfl rfl (fun w hC => (R_move E rfl)) ?_
        clear E a; intro a E
        have hc_127 : (decide (entE ((mkE l0).map (rvv (fun v x => keyAt kk1 kn1 v x))) = entE ((mkE l0).map (rvv (fun v x => keyAt kk1 kn1 v x))))) = true := by (clear S E; first | (simp; done) | decide | (simp [entE, mkE, putK, swp, srtK_len]; done) | (first | refine dec_t ?_ | refine dec_f ?_ | skip); first | exact inj_L (by assumption) | exact inv_back (inj_yes (by assumption)) | exact rv_keys _ _ | rfl)
        replace E := E.val (t := 74) rfl hc_127
        replace E := E.val (t := 75) rfl hc_127
        refine D_vyes E rfl rfl rfl rfl rfl (fun w hC => (R_move E rfl)) ?_
        clear E a; intro a E
        refine D_vyes E rfl rfl rfl rfl rfl (fun w hC => (R_loadGM E rfl (Try.isAgg24 _) (Try.sizeOf24 _) hC hb_1k126)) ?_
        clear E a; intro a E
        refine D_vyes E rfl rfl rfl rfl rfl (fun w hC => (R_move E rfl)) ?_
        clear E a; intro a E
        refine D_yes E rfl rfl rfl rfl (X_pu E S rfl rfl rfl (impl_MapValues h0 (by omega) (by first | omega | (simp; done) | (simp; omega) | exact Nat.le_trans (mkE_len _) (by omega))) (Hp.le.refl _) ?_)
        clear E a S; rintro a v_129 w M_128 hM_128 hv_129 S E
        replace h0 := h0.le RP2_mono hM_128
        replace hb_1 := hM_128.2 _ _ hb_1
        replace hv_4 := hv_4.le RP2_mono hM_128
        replace hv_7 := hv_7.le RP2_mono hM_128
        replace hv_9 := hv_9.le (RSl_mono RP2_mono) hM_128
        replace hv_16 := hv_16.le RP2_mono hM_128
        replace hv_18 := hv_18.le RP2_mono hM_128
        replace hv_21 := hv_21.le RP2_mono hM_128
        replace hv_25 := hv_25.le RP2_mono hM_128
        replace hv_27 := hv_27.le RP2_mono hM_128
        replace hv_29 := hv_29.le RP2_mono hM_128
        replace hv_33 := hv_33.le RP2_mono hM_128
        replace hv_35 := hv_35.le RP2_mono hM_128
        replace hv_121 := hv_121.le RP2_mono hM_128
        replace hv_123 := hv_123.le RP2_mono hM_128
        replace hv_125 := hv_125.le RP2_mono hM_128
        refine ⟨fun x hq hb => (agree_le hM_128 S.imm), ?_⟩
        refine D_end (DT_n ?_)
        refine DG_splitT 12 15 (by decide) (by kernel_rfl) ?_ ?_
        ·
         refine DG_splitT 13 15 (by decide) (by kernel_rfl) ?_ ?_
         ·
          have hb_1k129 := hb_1
          refine DG_endT (C := fun x w => agree M_128 w) (bf := (fun i => [])) [18, 19] [12, 13, 15, 16, 17, 18, 19] (by kernel_rfl) (fun x hq => S.imm) ?_
          refine D_yes E rfl rfl rfl rfl (X_buildM (R := (RSl 2 RP2)) (vs := [v_129]) (xs := [entE ((mkE l0).map (rvv (fun v x => keyAt kk1 kn1 v x)))]) (RSl_mono RP2_mono) E S rfl T70 rfl rfl rfl (by intro u hu; simp only [List.mem_cons, List.not_mem_nil, or_false] at hu; rcases hu with rfl <;> first | exact RdS.one' hv_129) rfl (rowsC (R := (RSl 2 RP2)) ⟨_, rfl, hv_129⟩ rowsN) ?_)
          clear E a S; rintro a v_130 w M_131 hM_131 hv_130 S E
          replace h0 := h0.le RP2_mono hM_131
          replace hb_1 := hM_131.2 _ _ hb_1
          replace hv_4 := hv_4.le RP2_mono hM_131
          replace hv_7 := hv_7.le RP2_mono hM_131
          replace hv_9 := hv_9.le (RSl_mono RP2_mono) hM_131
          replace hv_16 := hv_16.le RP2_mono hM_131
          replace hv_18 := hv_18.le RP2_mono hM_131
          replace hv_21 := hv_21.le RP2_mono hM_131
          replace hv_25 := hv_25.le RP2_mono hM_131
          replace hv_27 := hv_27.le RP2_mono hM_131
          replace hv_29 := hv_29.le RP2_mono hM_131
          replace hv_33 := hv_33.le RP2_mono hM_131
          replace hv_35 := hv_35.le RP2_mono hM_131
          replace hv_121 := hv_121.le RP2_mono hM_131
          replace hv_123 := hv_123.le RP2_mono hM_131
          replace hv_125 := hv_125.le RP2_mono hM_131
          replace hv_129 := hv_129.le RP2_mono hM_131
          refine ⟨fun x hq hb => (agree_le hM_131 S.imm), ?_⟩
          refine D_yes E rfl rfl rfl rfl (X_pu E S rfl rfl rfl (impl_Keys hv_130 (by first | omega | (simp; done) | (simp; omega)) (by first | omega | (simp; done) | (simp; omega))) (Hp.le.refl _) ?_)
          clear E a S; rintro a v_133 w M_132 hM_132 hv_133 S E
          replace h0 := h0.le RP2_mono hM_132
          replace hb_1 := hM_132.2 _ _ hb_1
          replace hv_4 := hv_4.le RP2_mono hM_132
          replace hv_7 := hv_7.le RP2_mono hM_132
          replace hv_9 := hv_9.le (RSl_mono RP2_mono) hM_132
          replace hv_16 := hv_16.le RP2_mono hM_132
          replace hv_18 := hv_18.le RP2_mono hM_132
          replace hv_21 := hv_21.le RP2_mono hM_132
          replace hv_25 := hv_25.le RP2_mono hM_132
          replace hv_27 := hv_27.le RP2_mono hM_132
          replace hv_29 := hv_29.le RP2_mono hM_132
          replace hv_33 := hv_33.le RP2_mono hM_132
          replace hv_35 := hv_35.le RP2_mono hM_132
          replace hv_121 := hv_121.le RP2_mono hM_132
          replace hv_123 := hv_123.le RP2_mono hM_132
          replace hv_125 := hv_125.le RP2_mono hM_132
          replace hv_129 := hv_129.le RP2_mono hM_132
          replace hv_130 := hv_130.le (RSl_mono RP2_mono) hM_132
          refine ⟨fun x hq hb => (agree_le (hM_131.trans hM_132) S.imm), ?_⟩
          refine D_yes E rfl rfl rfl rfl (X_buildM (R := (RSl 2 RP2)) (vs := [v0]) (xs := [l0]) (RSl_mono RP2_mono) E S rfl T70 rfl rfl rfl (by intro u hu; simp only [List.mem_cons, List.not_mem_nil, or_false] at hu; rcases hu with rfl <;> first | exact RdS.one' h0) rfl (rowsC (R := (RSl 2 RP2)) ⟨_, rfl, h0⟩ rowsN) ?_)
          clear E a S; rintro a v_134 w M_135 hM_135 hv_134 S E
          replace h0 := h0.le RP2_mono hM_135
          replace hb_1 := hM_135.2 _ _ hb_1
          replace hv_4 := hv_4.le RP2_mono hM_135
          replace hv_7 := hv_7.le RP2_mono hM_135
          replace hv_9 := hv_9.le (RSl_mono RP2_mono) hM_135
          replace hv_16 := hv_16.le RP2_mono hM_135
          replace hv_18 := hv_18.le RP2_mono hM_135
          replace hv_21 := hv_21.le RP2_mono hM_135
          replace hv_25 := hv_25.le RP2_mono hM_135
          replace hv_27 := hv_27.le RP2_mono hM_135
          replace hv_29 := hv_29.le RP2_mono hM_135
          replace hv_33 := hv_33.le RP2_mono hM_135
          replace hv_35 := hv_35.le RP2_mono hM_135
          replace hv_121 := hv_121.le RP2_mono hM_135
          replace hv_123 := hv_123.le RP2_mono hM_135
          replace hv_125 := hv_125.le RP2_mono hM_135
          replace hv_129 := hv_129.le RP2_mono hM_135
          replace hv_130 := hv_130.le (RSl_mono RP2_mono) hM_135
          replace hv_133 := hv_133.le hM_135
          refine ⟨fun x hq hb => (agree_le (hM_131.trans (hM_132.trans hM_135)) S.imm), ?_⟩
          refine D_yes E rfl rfl rfl rfl (X_pu E S rfl rfl rfl (impl_Keys hv_134 (by first | omega | (simp; done) | (simp; omega)) (by first | omega | (simp; done) | (simp; omega))) (Hp.le.refl _) ?_)
          clear E a S; rintro a v_137 w M_136 hM_136 hv_137 S E
          replace h0 := h0.le RP2_mono hM_136
          replace hb_1 := hM_136.2 _ _ hb_1
          replace hv_4 := hv_4.le RP2_mono hM_136
          replace hv_7 := hv_7.le RP2_mono hM_136
          replace hv_9 := hv_9.le (RSl_mono RP2_mono) hM_136
          replace hv_16 := hv_16.le RP2_mono hM_136
          replace hv_18 := hv_18.le RP2_mono hM_136
          replace hv_21 := hv_21.le RP2_mono hM_136
          replace hv_25 := hv_25.le RP2_mono hM_136
          replace hv_27 := hv_27.le RP2_mono hM_136
          replace hv_29 := hv_29.le RP2_mono hM_136
          replace hv_33 := hv_33.le RP2_mono hM_136
          replace hv_35 := hv_35.le RP2_mono hM_136
          replace hv_121 := hv_121.le RP2_mono hM_136
          replace hv_123 := hv_123.le RP2_mono hM_136
          replace hv_125 := hv_125.le RP2_mono hM_136
          replace hv_129 := hv_129.le RP2_mono hM_136
          replace hv_130 := hv_130.le (RSl_mono RP2_mono) hM_136
          replace hv_133 := hv_133.le hM_136
          replace hv_134 := hv_134.le (RSl_mono RP2_mono) hM_136
          refine ⟨fun x hq hb => (agree_le (hM_131.trans (hM_132.trans (hM_135.trans hM_136))) S.imm), ?_⟩
          refine D_yes E rfl rfl rfl rfl (X_pu E S rfl rfl rfl (laws_eq hv_133 hv_137) (Hp.le.refl _) ?_)
          clear E a S; rintro a _ w M_138 hM_138 rfl S E
          replace h0 := h0.le RP2_mono hM_138
          replace hb_1 := hM_138.2 _ _ hb_1
          replace hv_4 := hv_4.le RP2_mono hM_138
          replace hv_7 := hv_7.le RP2_mono hM_138
          replace hv_9 := hv_9.le (RSl_mono RP2_mono) hM_138
          replace hv_16 := hv_16.le RP2_mono hM_138
          replace hv_18 := hv_18.le RP2_mono hM_138
          replace hv_21 := hv_21.le RP2_mono hM_138
          replace hv_25 := hv_25.le RP2_mono hM_138
          replace hv_27 := hv_27.le RP2_mono hM_138
          replace hv_29 := hv_29.le RP2_mono hM_138
          replace hv_33 := hv_33.le RP2_mono hM_138
          replace hv_35 := hv_35.le RP2_mono hM_138
          replace hv_121 := hv_121.le RP2_mono hM_138
          replace hv_123 := hv_123.le RP2_mono hM_138
          replace hv_125 := hv_125.le RP2_mono hM_138
          replace hv_129 := hv_129.le RP2_mono hM_138
          replace hv_130 := hv_130.le (RSl_mono RP2_mono) hM_138
          replace hv_133 := hv_133.le hM_138
          replace hv_134 := hv_134.le (RSl_mono RP2_mono) hM_138
          replace hv_137 := hv_137.le hM_138
          refine ⟨fun x hq hb => (agree_le (hM_131.trans (hM_132.trans (hM_135.trans (hM_136.trans hM_138)))) S.imm), ?_⟩
          refine D_v E rfl rfl rfl (fun w hC => (R_pickT E rfl rfl)) ?_
          clear E a; intro a E
          refine D_v E rfl rfl rfl (fun w hC => (R_assign E rfl)) ?_
          clear E a; intro a E
          refine D_end (NoP_n ?_)
          refine T_n ?_
          refine WP_ret ?_
          exact F_ret1 E Try.results10 rfl ⟨_, rfl, M_138, (hM_2.trans (hM_5.trans (hM_6.trans (hM_10.trans (hM_11.trans (hM_13.trans (hM_15.trans (hM_17.trans (hM_20.trans (hM_22.trans (hM_24.trans (hM_26.trans (hM_28.trans (hM_30.trans (hM_32.trans (hM_34.trans (hM_120.trans (hM_122.trans (hM_124.trans (hM_126.trans (hM_128.trans (hM_131.trans (hM_132.trans (hM_135.trans (hM_136.trans hM_138))))))))))))))))))))))))), (congrArg Value.bool (by (clear S E; first | (simp; done) | decide | (simp [entE, mkE, putK, swp, srtK_len]; done) | (first | refine dec_t ?_ | refine dec_f ?_ | skip); first | exact inj_L (by assumption) | exact inv_back (inj_yes (by assumption)) | exact rv_keys _ _ | rfl))), S⟩
         ·
          have hb_1k138 := hb_1
          refine DG_endT (C := fun x w => agree M_128 w) (bf := (fun i => [])) [18, 19] [12, 15, 13, 16, 17, 18, 19] (by kernel_rfl) (fun x hq => S.imm) ?_
          refine D_yes E rfl rfl rfl rfl (X_buildM (R := (RSl 2 RP2)) (vs := [v_129]) (xs := [entE ((mkE l0).map (rvv (fun v x => keyAt kk1 kn1 v x)))]) (RSl_mono RP2_mono) E S rfl T70 rfl rfl rfl (by intro u hu; simp only [List.mem_cons, List.not_mem_nil, or_false] at hu; rcases hu with rfl <;> first | exact RdS.one' hv_129) rfl (rowsC (R := (RSl 2 RP2)) ⟨_, rfl, hv_129⟩ rowsN) ?_)
          clear E a S; rintro a v_139 w M_140 hM_140 hv_139 S E
          replace h0 := h0.le RP2_mono hM_140
          replace hb_1 := hM_140.2 _ _ hb_1
          replace hv_4 := hv_4.le RP2_mono hM_140
          replace hv_7 := hv_7.le RP2_mono hM_140
          replace hv_9 := hv_9.le (RSl_mono RP2_mono) hM_140
          replace hv_16 := hv_16.le RP2_mono hM_140
          replace hv_18 := hv_18.le RP2_mono hM_140
          replace hv_21 := hv_21.le RP2_mono hM_140
          replace hv_25 := hv_25.le RP2_mono hM_140
          replace hv_27 := hv_27.le RP2_mono hM_140
          replace hv_29 := hv_29.le RP2_mono hM_140
          replace hv_33 := hv_33.le RP2_mono hM_140
          replace hv_35 := hv_35.le RP2_mono hM_140
          replace hv_121 := hv_121.le RP2_mono hM_140
          replace hv_123 := hv_123.le RP2_mono hM_140
          replace hv_125 := hv_125.le RP2_mono hM_140
          replace hv_129 := hv_129.le RP2_mono hM_140
          refine ⟨fun x hq hb => (agree_le hM_140 S.imm), ?_⟩
          refine D_yes E rfl rfl rfl rfl (X_buildM (R := (RSl 2 RP2)) (vs := [v0]) (xs := [l0]) (RSl_mono RP2_mono) E S rfl T70 rfl rfl rfl (by intro u hu; simp only [List.mem_cons, List.not_mem_nil, or_false] at hu; rcases hu with rfl <;> first | exact RdS.one' h0) rfl (rowsC (R := (RSl 2 RP2)) ⟨_, rfl, h0⟩ rowsN) ?_)
          clear E a S; rintro a v_141 w M_142 hM_142 hv_141 S E
          replace h0 := h0.le RP2_mono hM_142
          replace hb_1 := hM_142.2 _ _ hb_1
          replace hv_4 := hv_4.le RP2_mono hM_142
          replace hv_7 := hv_7.le RP2_mono hM_142
          replace hv_9 := hv_9.le (RSl_mono RP2_mono) hM_142
          replace hv_16 := hv_16.le RP2_mono hM_142
          replace hv_18 := hv_18.le RP2_mono hM_142
          replace hv_21 := hv_21.le RP2_mono hM_142
          replace hv_25 := hv_25.le RP2_mono hM_142
          replace hv_27 := hv_27.le RP2_mono hM_142
          replace hv_29 := hv_29.le RP2_mono hM_142
          replace hv_33 := hv_33.le RP2_mono hM_142
          replace hv_35 := hv_35.le RP2_mono hM_142
          replace hv_121 := hv_121.le RP2_mono hM_142
          replace hv_123 := hv_123.le RP2_mono hM_142
          replace hv_125 := hv_125.le RP2_mono hM_142
          replace hv_129 := hv_129.le RP2_mono hM_142
          replace hv_139 := hv_139.le (RSl_mono RP2_mono) hM_142
          refine ⟨fun x hq hb => (agree_le (hM_140.trans hM_142) S.imm), ?_⟩
          refine D_yes E rfl rfl rfl rfl (X_pu E S rfl rfl rfl (impl_Keys hv_139 (by first | omega | (simp; done) | (simp; omega)) (by first | omega | (simp; done) | (simp; omega))) (Hp.le.refl _) ?_)
          clear E a S; rintro a v_144 w M_143 hM_143 hv_144 S E
          replace h0 := h0.le RP2_mono hM_143
          replace hb_1 := hM_143.2 _ _ hb_1
          replace hv_4 := hv_4.le RP2_mono hM_143
          replace hv_7 := hv_7.le RP2_mono hM_143
          replace hv_9 := hv_9.le (RSl_mono RP2_mono) hM_143
          replace hv_16 := hv_16.le RP2_mono hM_143
          replace hv_18 := hv_18.le RP2_mono hM_143
          replace hv_21 := hv_21.le RP2_mono hM_143
          replace hv_25 := hv_25.le RP2_mono hM_143
          replace hv_27 := hv_27.le RP2_mono hM_143
          replace hv_29 := hv_29.le RP2_mono hM_143
          replace hv_33 := hv_33.le RP2_mono hM_143
          replace hv_35 := hv_35.le RP2_mono hM_143
          replace hv_121 := hv_121.le RP2_mono hM_143
          replace hv_123 := hv_123.le RP2_mono hM_143
          replace hv_125 := hv_125.le RP2_mono hM_143
          replace hv_129 := hv_129.le RP2_mono hM_143
          replace hv_139 := hv_139.le (RSl_mono RP2_mono) hM_143
          replace hv_141 := hv_141.le (RSl_mono RP2_mono) hM_143
          refine ⟨fun x hq hb => (agree_le (hM_140.trans (hM_142.trans hM_143)) S.imm), ?_⟩
          refine D_yes E rfl rfl rfl rfl (X_pu E S rfl rfl rfl (impl_Keys hv_141 (by first | omega | (simp; done) | (simp; omega)) (by first | omega | (simp; done) | (simp; omega))) (Hp.le.refl _) ?_)
          clear E a S; rintro a v_146 w M_145 hM_145 hv_146 S E
          replace h0 := h0.le RP2_mono hM_145
          replace hb_1 := hM_145.2 _ _ hb_1
          replace hv_4 := hv_4.le RP2_mono hM_145
          replace hv_7 := hv_7.le RP2_mono hM_145
          replace hv_9 := hv_9.le (RSl_mono RP2_mono) hM_145
          replace hv_16 := hv_16.le RP2_mono hM_145
          replace hv_18 := hv_18.le RP2_mono hM_145
          replace hv_21 := hv_21.le RP2_mono hM_145
          replace hv_25 := hv_25.le RP2_mono hM_145
          replace hv_27 := hv_27.le RP2_mono hM_145
          replace hv_29 := hv_29.le RP2_mono hM_145
          replace hv_33 := hv_33.le RP2_mono hM_145
          replace hv_35 := hv_35.le RP2_mono hM_145
          replace hv_121 := hv_121.le RP2_mono hM_145
          replace hv_123 := hv_123.le RP2_mono hM_145
          replace hv_125 := hv_125.le RP2_mono hM_145
          replace hv_129 := hv_129.le RP2_mono hM_145
          replace hv_139 := hv_139.le (RSl_mono RP2_mono) hM_145
          replace hv_141 := hv_141.le (RSl_mono RP2_mono) hM_145
          replace hv_144 := hv_144.le hM_145
          refine ⟨fun x hq hb => (agree_le (hM_140.trans (hM_142.trans (hM_143.trans hM_145))) S.imm), ?_⟩
          refine D_yes E rfl rfl rfl rfl (X_pu E S rfl rfl rfl (laws_eq hv_144 hv_146) (Hp.le.refl _) ?_)
          clear E a S; rintro a _ w M_147 hM_147 rfl S E
          replace h0 := h0.le RP2_mono hM_147
          replace hb_1 := hM_147.2 _ _ hb_1
          replace hv_4 := hv_4.le RP2_mono hM_147
          replace hv_7 := hv_7.le RP2_mono hM_147
          replace hv_9 := hv_9.le (RSl_mono RP2_mono) hM_147
          replace hv_16 := hv_16.le RP2_mono hM_147
          replace hv_18 := hv_18.le RP2_mono hM_147
          replace hv_21 := hv_21.le RP2_mono hM_147
          replace hv_25 := hv_25.le RP2_mono hM_147
          replace hv_27 := hv_27.le RP2_mono hM_147
          replace hv_29 := hv_29.le RP2_mono hM_147
          replace hv_33 := hv_33.le RP2_mono hM_147
          replace hv_35 := hv_35.le RP2_mono hM_147
          replace hv_121 := hv_121.le RP2_mono hM_147
          replace hv_123 := hv_123.le RP2_mono hM_147
          replace hv_125 := hv_125.le RP2_mono hM_147
          replace hv_129 := hv_129.le RP2_mono hM_147
          replace hv_139 := hv_139.le (RSl_mono RP2_mono) hM_147
          replace hv_141 := hv_141.le (RSl_mono RP2_mono) hM_147
          replace hv_144 := hv_144.le hM_147
          replace hv_146 := hv_146.le hM_147
          refine ⟨fun x hq hb => (agree_le (hM_140.trans (hM_142.trans (hM_143.trans (hM_145.trans hM_147)))) S.imm), ?_⟩
          refine D_v E rfl rfl rfl (fun w hC => (R_pickT E rfl rfl)) ?_
          clear E a; intro a E
          refine D_v E rfl rfl rfl (fun w hC => (R_assign E rfl)) ?_
          clear E a; intro a E
          refine D_end (NoP_n ?_)
          refine T_n ?_
          refine WP_ret ?_
          exact F_ret1 E Try.results10 rfl ⟨_, rfl, M_147, (hM_2.trans (hM_5.trans (hM_6.trans (hM_10.trans (hM_11.trans (hM_13.trans (hM_15.trans (hM_17.trans (hM_20.trans (hM_22.trans (hM_24.trans (hM_26.trans (hM_28.trans (hM_30.trans (hM_32.trans (hM_34.trans (hM_120.trans (hM_122.trans (hM_124.trans (hM_126.trans (hM_128.trans (hM_140.trans (hM_142.trans (hM_143.trans (hM_145.trans hM_147))))))))))))))))))))))))), (congrArg Value.bool (by (clear S E; first | (simp; done) | decide | (simp [entE, mkE, putK, swp, srtK_len]; done) | (first | refine dec_t ?_ | refine dec_f ?_ | skip); first | exact inj_L (by assumption) | exact inv_back (inj_yes (by assumption)) | exact rv_keys _ _ | rfl))), S⟩
        ·
         have hb_1k147 := hb_1
         refine DG_endT (C := fun x w => agree M_128 w) (bf := (fun i => [])) [18, 19] [15, 12, 13, 16, 17, 18, 19] (by kernel_rfl) (fun x hq => S.imm) ?_
         refine D_yes E rfl rfl rfl rfl (X_buildM (R := (RSl 2 RP2)) (vs := [v0]) (xs := [l0]) (RSl_mono RP2_mono) E S rfl T70 rfl rfl rfl (by intro u hu; simp only [List.mem_cons, List.not_mem_nil, or_false] at hu; rcases hu with rfl <;> first | exact RdS.one' h0) rfl (rowsC (R := (RSl 2 RP2)) ⟨_, rfl, h0⟩ rowsN) ?_)
         clear E a S; rintro a v_148 w M_149 hM_149 hv_148 S E
         replace h0 := h0.le RP2_mono hM_149
         replace hb_1 := hM_149.2 _ _ hb_1
         replace hv_4 := hv_4.le RP2_mono hM_149
         replace hv_7 := hv_7.le RP2_mono hM_149
         replace hv_9 := hv_9.le (RSl_mono RP2_mono) hM_149
         replace hv_16 := hv_16.le RP2_mono hM_149
         replace hv_18 := hv_18.le RP2_mono hM_149
         replace hv_21 := hv_21.le RP2_mono hM_149
         replace hv_25 := hv_25.le RP2_mono hM_149
         replace hv_27 := hv_27.le RP2_mono hM_149
         replace hv_29 := hv_29.le RP2_mono hM_149
         replace hv_33 := hv_33.le RP2_mono hM_149
         replace hv_35 := hv_35.le RP2_mono hM_149
         replace hv_121 := hv_121.le RP2_mono hM_149
         replace hv_123 := hv_123.le RP2_mono hM_149
         replace hv_125 := hv_125.le RP2_mono hM_149
         replace hv_129 := hv_129.le RP2_mono hM_149
         refine ⟨fun x hq hb => (agree_le hM_149 S.imm), ?_⟩
         refine D_yes E rfl rfl rfl rfl (X_buildM (R := (RSl 2 RP2)) (vs := [v_129]) (xs := [entE ((mkE l0).map (rvv (fun v x => keyAt kk1 kn1 v x)))]) (RSl_mono RP2_mono) E S rfl T70 rfl rfl rfl (by intro u hu; simp only [List.mem_cons, List.not_mem_nil, or_false] at hu; rcases hu with rfl <;> first | exact RdS.one' hv_129) rfl (rowsC (R := (RSl 2 RP2)) ⟨_, rfl, hv_129⟩ rowsN) ?_)
         clear E a S; rintro a v_150 w M_151 hM_151 hv_150 S E
         replace h0 := h0.le RP2_mono hM_151
         replace hb_1 := hM_151.2 _ _ hb_1
         replace hv_4 := hv_4.le RP2_mono hM_151
         replace hv_7 := hv_7.le RP2_mono hM_151
         replace hv_9 := hv_9.le (RSl_mono RP2_mono) hM_151
         replace hv_16 := hv_16.le RP2_mono hM_151
         replace hv_18 := hv_18.le RP2_mono hM_151
         replace hv_21 := hv_21.le RP2_mono hM_151
         replace hv_25 := hv_25.le RP2_mono hM_151
         replace hv_27 := hv_27.le RP2_mono hM_151
         replace hv_29 := hv_29.le RP2_mono hM_151
         replace hv_33 := hv_33.le RP2_mono hM_151
         replace hv_35 := hv_35.le RP2_mono hM_151
         replace hv_121 := hv_121.le RP2_mono hM_151
         replace hv_123 := hv_123.le RP2_mono hM_151
         replace hv_125 := hv_125.le RP2_mono hM_151
         replace hv_129 := hv_129.le RP2_mono hM_151
         replace hv_148 := hv_148.le (RSl_mono RP2_mono) hM_151
         refine ⟨fun x hq hb => (agree_le (hM_149.trans hM_151) S.imm), ?_⟩
         refine D_yes E rfl rfl rfl rfl (X_pu E S rfl rfl rfl (impl_Keys hv_150 (by first | omega | (simp; done) | (simp; omega)) (by first | omega | (simp; done) | (simp; omega))) (Hp.le.refl _) ?_)
         clear E a S; rintro a v_153 w M_152 hM_152 hv_153 S E
         replace h0 := h0.le RP2_mono hM_152
         replace hb_1 := hM_152.2 _ _ hb_1
         replace hv_4 := hv_4.le RP2_mono hM_152
         replace hv_7 := hv_7.le RP2_mono hM_152
         replace hv_9 := hv_9.le (RSl_mono RP2_mono) hM_152
         replace hv_16 := hv_16.le RP2_mono hM_152
         replace hv_18 := hv_18.le RP2_mono hM_152
         replace hv_21 := hv_21.le RP2_mono hM_152
         replace hv_25 := hv_25.le RP2_mono hM_152
         replace hv_27 := hv_27.le RP2_mono hM_152
         replace hv_29 := hv_29.le RP2_mono hM_152
         replace hv_33 := hv_33.le RP2_mono hM_152
         replace hv_35 := hv_35.le RP2_mono hM_152
         replace hv_121 := hv_121.le RP2_mono hM_152
         replace hv_123 := hv_123.le RP2_mono hM_152
         replace hv_125 := hv_125.le RP2_mono hM_152
         replace hv_129 := hv_129.le RP2_mono hM_152
         replace hv_148 := hv_148.le (RSl_mono RP2_mono) hM_152
         replace hv_150 := hv_150.le (RSl_mono RP2_mono) hM_152
         refine ⟨fun x hq hb => (agree_le (hM_149.trans (hM_151.trans hM_152)) S.imm), ?_⟩
         refine D_yes E rfl rfl rfl rfl (X_pu E S rfl rfl rfl (impl_Keys hv_148 (by first | omega | (simp; done) | (simp; omega)) (by first | omega | (simp; done) | (simp; omega))) (Hp.le.refl _) ?_)
         clear E a S; rintro a v_155 w M_154 hM_154 hv_155 S E
         replace h0 := h0.le RP2_mono hM_154
         replace hb_1 := hM_154.2 _ _ hb_1
         replace hv_4 := hv_4.le RP2_mono hM_154
         replace hv_7 := hv_7.le RP2_mono hM_154
         replace hv_9 := hv_9.le (RSl_mono RP2_mono) hM_154
         replace hv_16 := hv_16.le RP2_mono hM_154
         replace hv_18 := hv_18.le RP2_mono hM_154
         replace hv_21 := hv_21.le RP2_mono hM_154
         replace hv_25 := hv_25.le RP2_mono hM_154
         replace hv_27 := hv_27.le RP2_mono hM_154
         replace hv_29 := hv_29.le RP2_mono hM_154
         replace hv_33 := hv_33.le RP2_mono hM_154
         replace hv_35 := hv_35.le RP2_mono hM_154
         replace hv_121 := hv_121.le RP2_mono hM_154
         replace hv_123 := hv_123.le RP2_mono hM_154
         replace hv_125 := hv_125.le RP2_mono hM_154
         replace hv_129 := hv_129.le RP2_mono hM_154
         replace hv_148 := hv_148.le (RSl_mono RP2_mono) hM_154
         replace hv_150 := hv_150.le (RSl_mono RP2_mono) hM_154
         replace hv_153 := hv_153.le hM_154
         refine ⟨fun x hq hb => (agree_le (hM_149.trans (hM_151.trans (hM_152.trans hM_154))) S.imm), ?_⟩
         refine D_yes E rfl rfl rfl rfl (X_pu E S rfl rfl rfl (laws_eq hv_153 hv_155) (Hp.le.refl _) ?_)
         clear E a S; rintro a _ w M_156 hM_156 rfl S E
         replace h0 := h0.le RP2_mono hM_156
         replace hb_1 := hM_156.2 _ _ hb_1
         replace hv_4 := hv_4.le RP2_mono hM_156
         replace hv_7 := hv_7.le RP2_mono hM_156
         replace hv_9 := hv_9.le (RSl_mono RP2_mono) hM_156
         replace hv_16 := hv_16.le RP2_mono hM_156
         replace hv_18 := hv_18.le RP2_mono hM_156
         replace hv_21 := hv_21.le RP2_mono hM_156
         replace hv_25 := hv_25.le RP2_mono hM_156
         replace hv_27 := hv_27.le RP2_mono hM_156
         replace hv_29 := hv_29.le RP2_mono hM_156
         replace hv_33 := hv_33.le RP2_mono hM_156
         replace hv_35 := hv_35.le RP2_mono hM_156
         replace hv_121 := hv_121.le RP2_mono hM_156
         replace hv_123 := hv_123.le RP2_mono hM_156
         replace hv_125 := hv_125.le RP2_mono hM_156
         replace hv_129 := hv_129.le RP2_mono hM_156
         replace hv_148 := hv_148.le (RSl_mono RP2_mono) hM_156
         replace hv_150 := hv_150.le (RSl_mono RP2_mono) hM_156
         replace hv_153 := hv_153.le hM_156
         replace hv_155 := hv_155.le hM_156
         refine ⟨fun x hq hb => (agree_le (hM_149.trans (hM_151.trans (hM_152.trans (hM_154.trans hM_156)))) S.imm), ?_⟩
         refine D_v E rfl rfl rfl (fun w hC => (R_pickT E rfl rfl)) ?_
         clear E a; intro a E
         refine D_v E rfl rfl rfl (fun w hC => (R_assign E rfl)) ?_
         clear E a; intro a E
         refine D_end (NoP_n ?_)
         refine T_n ?_
         refine WP_ret ?_
         exact F_ret1 E Try.results10 rfl ⟨_, rfl, M_156, (hM_2.trans (hM_5.trans (hM_6.trans (hM_10.trans (hM_11.trans (hM_13.trans (hM_15.trans (hM_17.trans (hM_20.trans (hM_22.trans (hM_24.trans (hM_26.trans (hM_28.trans (hM_30.trans (hM_32.trans (hM_34.trans (hM_120.trans (hM_122.trans (hM_124.trans (hM_126.trans (hM_128.trans (hM_149.trans (hM_151.trans (hM_152.trans (hM_154.trans hM_156))))))))))))))))))))))))), (congrArg Value.bool (by (clear S E; first | (simp; done) | decide | (simp [entE, mkE, putK, swp, srtK_len]; done) | (first | refine dec_t ?_ | refine dec_f ?_ | skip); first | exact inj_L (by assumption) | exact inv_back (inj_yes (by assumption)) | exact rv_keys _ _ | rfl))), S⟩
       ·
        have hb_1k156 := hb_1
        refine DG_takeT (C := fun x w => agree M_126 w) (bf := (fun i => [])) [8, 9, 10] [8, 9, 10, 11] [12, 13, 14, 15, 16, 17, 18, 19] 11 (by kernel_rfl) (fun x hq => S.imm) ?_
        refine D_v E rfl rfl rfl (fun w hC => (R_move E rfl)) ?_
        clear E a; intro a E
        have hc_157 : (decide (entE ((mkE l0).map (rvv (fun v x => keyAt kk1 kn1 v x))) = entE ((mkE l0).map (rvv (fun v x => keyAt kk1 kn1 v x))))) = true := by (clear S E; first | (simp; done) | decide | (simp [entE, mkE, putK, swp, srtK_len]; done) | (first | refine dec_t ?_ | refine dec_f ?_ | skip); first | exact inj_L (by assumption) | exact inv_back (inj_yes (by assumption)) | exact rv_keys _ _ | rfl)
        replace E := E.val (t := 74) rfl hc_157
        replace E := E.val (t := 75) rfl hc_157
        refine D_vyes E rfl rfl rfl rfl rfl (fun w hC => (R_move E rfl)) ?_
        clear E a; intro a E
        refine D_vyes E rfl rfl rfl rfl rfl (fun w hC => (R_loadGM E rfl (Try.isAgg24 _) (Try.sizeOf24 _) hC hb_1k156)) ?_
        clear E a; intro a E
        refine D_yes E rfl rfl rfl rfl (X_pu E S rfl rfl rfl (impl_MapValues h0 (by omega) (by first | omega | (simp; done) | (simp; omega) | exact Nat.le_trans (mkE_len _) (by omega))) (Hp.le.refl _) ?_)
        clear E a S; rintro a v_159 w M_158 hM_158 hv_159 S E
        replace h0 := h0.le RP2_mono hM_158
        replace hb_1 := hM_158.2 _ _ hb_1
        replace hv_4 := hv_4.le RP2_mono hM_158
        replace hv_7 := hv_7.le RP2_mono hM_158
        replace hv_9 := hv_9.le (RSl_mono RP2_mono) hM_158
        replace hv_16 := hv_16.le RP2_mono hM_158
        replace hv_18 := hv_18.le RP2_mono hM_158
        replace hv_21 := hv_21.le RP2_mono hM_158
        replace hv_25 := hv_25.le RP2_mono hM_158
        replace hv_27 := hv_27.le RP2_mono hM_158
        replace hv_29 := hv_29.le RP2_mono hM_158
        replace hv_33 := hv_33.le RP2_mono hM_158
        replace hv_35 := hv_35.le RP2_mono hM_158
        replace hv_121 := hv_121.le RP2_mono hM_158
        replace hv_123 := hv_123.le RP2_mono hM_158
        replace hv_125 := hv_125.le RP2_mono hM_158
        refine ⟨fun x hq hb => (agree_le hM_158 S.imm), ?_⟩
        refine D_end (DT_n ?_)
        refine DG_splitT 12 15 (by decide) (by kernel_rfl) ?_ ?_
        ·
         refine DG_splitT 13 15 (by decide) (by kernel_rfl) ?_ ?_
         ·
          have hb_1k159 := hb_1
          refine DG_endT (C := fun x w => agree M_158 w) (bf := (fun i => [])) [14, 18, 19] [14, 12, 13, 15, 16, 17, 18, 19] (by kernel_rfl) (fun x hq => S.imm) ?_
          refine D_vyes E rfl rfl rfl rfl rfl (fun w hC => (R_move E rfl)) ?_
          clear E a; intro a E
          refine D_yes E rfl rfl rfl rfl (X_buildM (R := (RSl 2 RP2)) (vs := [v_159]) (xs := [entE ((mkE l0).map (rvv (fun v x => keyAt kk1 kn1 v x)))]) (RSl_mono RP2_mono) E S rfl T70 rfl rfl rfl (by intro u hu; simp only [List.mem_cons, List.not_mem_nil, or_false] at hu; rcases hu with rfl <;> first | exact RdS.one' hv_159) rfl (rowsC (R := (RSl 2 RP2)) ⟨_, rfl, hv_159⟩ rowsN) ?_)
          clear E a S; rintro a v_160 w M_161 hM_161 hv_160 S E
          replace h0 := h0.le RP2_mono hM_161
          replace hb_1 := hM_161.2 _ _ hb_1
          replace hv_4 := hv_4.le RP2_mono hM_161
          replace hv_7 := hv_7.le RP2_mono hM_161
          replace hv_9 := hv_9.le (RSl_mono RP2_mono) hM_161
          replace hv_16 := hv_16.le RP2_mono hM_161
          replace hv_18 := hv_18.le RP2_mono hM_161
          replace hv_21 := hv_21.le RP2_mono hM_161
          replace hv_25 := hv_25.le RP2_mono hM_161
          replace hv_27 := hv_27.le RP2_mono hM_161
          replace hv_29 := hv_29.le RP2_mono hM_161
          replace hv_33 := hv_33.le RP2_mono hM_161
          replace hv_35 := hv_35.le RP2_mono hM_161
          replace hv_121 := hv_121.le RP2_mono hM_161
          replace hv_123 := hv_123.le RP2_mono hM_161
          replace hv_125 := hv_125.le RP2_mono hM_161
          replace hv_159 := hv_159.le RP2_mono hM_161
          refine ⟨fun x hq hb => (agree_le hM_161 S.imm), ?_⟩
          refine D_yes E rfl rfl rfl rfl (X_pu E S rfl rfl rfl (impl_Keys hv_160 (by first | omega | (simp; done) | (simp; omega)) (by first | omega | (simp; done) | (simp; omega))) (Hp.le.refl _) ?_)
          clear E a S; rintro a v_163 w M_162 hM_162 hv_163 S E
          replace h0 := h0.le RP2_mono hM_162
          replace hb_1 := hM_162.2 _ _ hb_1
          replace hv_4 := hv_4.le RP2_mono hM_162
          replace hv_7 := hv_7.le RP2_mono hM_162
          replace hv_9 := hv_9.le (RSl_mono RP2_mono) hM_162
          replace hv_16 := hv_16.le RP2_mono hM_162
          replace hv_18 := hv_18.le RP2_mono hM_162
          replace hv_21 := hv_21.le RP2_mono hM_162
          replace hv_25 := hv_25.le RP2_mono hM_162
          replace hv_27 := hv_27.le RP2_mono hM_162
          replace hv_29 := hv_29.le RP2_mono hM_162
          replace hv_33 := hv_33.le RP2_mono hM_162
          replace hv_35 := hv_35.le RP2_mono hM_162
          replace hv_121 := hv_121.le RP2_mono hM_162
          replace hv_123 := hv_123.le RP2_mono hM_162
          replace hv_125 := hv_125.le RP2_mono hM_162
          replace hv_159 := hv_159.le RP2_mono hM_162
          replace hv_160 := hv_160.le (RSl_mono RP2_mono) hM_162
          refine ⟨fun x hq hb => (agree_le (hM_161.trans hM_162) S.imm), ?_⟩
          refine D_yes E rfl rfl rfl rfl (X_buildM (R := (RSl 2 RP2)) (vs := [v0]) (xs := [l0]) (RSl_mono RP2_mono) E S rfl T70 rfl rfl rfl (by intro u hu; simp only [List.mem_cons, List.not_mem_nil, or_false] at hu; rcases hu with rfl <;> first | exact RdS.one' h0) rfl (rowsC (R := (RSl 2 RP2)) ⟨_, rfl, h0⟩ rowsN) ?_)
          clear E a S; rintro a v_164 w M_165 hM_165 hv_164 S E
          replace h0 := h0.le RP2_mono hM_165
          replace hb_1 := hM_165.2 _ _ hb_1
          replace hv_4 := hv_4.le RP2_mono hM_165
          replace hv_7 := hv_7.le RP2_mono hM_165
          replace hv_9 := hv_9.le (RSl_mono RP2_mono) hM_165
          replace hv_16 := hv_16.le RP2_mono hM_165
          replace hv_18 := hv_18.le RP2_mono hM_165
          replace hv_21 := hv_21.le RP2_mono hM_165
          replace hv_25 := hv_25.le RP2_mono hM_165
          replace hv_27 := hv_27.le RP2_mono hM_165
          replace hv_29 := hv_29.le RP2_mono hM_165
          replace hv_33 := hv_33.le RP2_mono hM_165
          replace hv_35 := hv_35.le RP2_mono hM_165
          replace hv_121 := hv_121.le RP2_mono hM_165
          replace hv_123 := hv_123.le RP2_mono hM_165
          replace hv_125 := hv_125.le RP2_mono hM_165
          replace hv_159 := hv_159.le RP2_mono hM_165
          replace hv_160 := hv_160.le (RSl_mono RP2_mono) hM_165
          replace hv_163 := hv_163.le hM_165
          refine ⟨fun x hq hb => (agree_le (hM_161.trans (hM_162.trans hM_165)) S.imm), ?_⟩
          refine D_yes E rfl rfl rfl rfl (X_pu E S rfl rfl rfl (impl_Keys hv_164 (by first | omega | (simp; done) | (simp; omega)) (by first | omega | (simp; done) | (simp; omega))) (Hp.le.refl _) ?_)
          clear E a S; rintro a v_167 w M_166 hM_166 hv_167 S E
          replace h0 := h0.le RP2_mono hM_166
          replace hb_1 := hM_166.2 _ _ hb_1
          replace hv_4 := hv_4.le RP2_mono hM_166
          replace hv_7 := hv_7.le RP2_mono hM_166
          replace hv_9 := hv_9.le (RSl_mono RP2_mono) hM_166
          replace hv_16 := hv_16.le RP2_mono hM_166
          replace hv_18 := hv_18.le RP2_mono hM_166
          replace hv_21 := hv_21.le RP2_mono hM_166
          replace hv_25 := hv_25.le RP2_mono hM_166
          replace hv_27 := hv_27.le RP2_mono hM_166
          replace hv_29 := hv_29.le RP2_mono hM_166
          replace hv_33 := hv_33.le RP2_mono hM_166
          replace hv_35 := hv_35.le RP2_mono hM_166
          replace hv_121 := hv_121.le RP2_mono hM_166
          replace hv_123 := hv_123.le RP2_mono hM_166
          replace hv_125 := hv_125.le RP2_mono hM_166
          replace hv_159 := hv_159.le RP2_mono hM_166
          replace hv_160 := hv_160.le (RSl_mono RP2_mono) hM_166
          replace hv_163 := hv_163.le hM_166
          replace hv_164 := hv_164.le (RSl_mono RP2_mono) hM_166
          refine ⟨fun x hq hb => (agree_le (hM_161.trans (hM_162.trans (hM_165.trans hM_166))) S.imm), ?_⟩
          refine D_yes E rfl rfl rfl rfl (X_pu E S rfl rfl rfl (laws_eq hv_163 hv_167) (Hp.le.refl _) ?_)
          clear E a S; rintro a _ w M_168 hM_168 rfl S E
          replace h0 := h0.le RP2_mono hM_168
          replace hb_1 := hM_168.2 _ _ hb_1
          replace hv_4 := hv_4.le RP2_mono hM_168
          replace hv_7 := hv_7.le RP2_mono hM_168
          replace hv_9 := hv_9.le (RSl_mono RP2_mono) hM_168
          replace hv_16 := hv_16.le RP2_mono hM_168
          replace hv_18 := hv_18.le RP2_mono hM_168
          replace hv_21 := hv_21.le RP2_mono hM_168
          replace hv_25 := hv_25.le RP2_mono hM_168
          replace hv_27 := hv_27.le RP2_mono hM_168
          replace hv_29 := hv_29.le RP2_mono hM_168
          replace hv_33 := hv_33.le RP2_mono hM_168
          replace hv_35 := hv_35.le RP2_mono hM_168
          replace hv_121 := hv_121.le RP2_mono hM_168
          replace hv_123 := hv_123.le RP2_mono hM_168
          replace hv_125 := hv_125.le RP2_mono hM_168
          replace hv_159 := hv_159.le RP2_mono hM_168
          replace hv_160 := hv_160.le (RSl_mono RP2_mono) hM_168
          replace hv_163 := hv_163.le hM_168
          replace hv_164 := hv_164.le (RSl_mono RP2_mono) hM_168
          replace hv_167 := hv_167.le hM_168
          refine ⟨fun x hq hb => (agree_le (hM_161.trans (hM_162.trans (hM_165.trans (hM_166.trans hM_168)))) S.imm), ?_⟩
          refine D_v E rfl rfl rfl (fun w hC => (R_pickT E rfl rfl)) ?_
          clear E a; intro a E
          refine D_v E rfl rfl rfl (fun w hC => (R_assign E rfl)) ?_
          clear E a; intro a E
          refine D_end (NoP_n ?_)
          refine T_n ?_
          refine WP_ret ?_
          exact F_ret1 E Try.results10 rfl ⟨_, rfl, M_168, (hM_2.trans (hM_5.trans (hM_6.trans (hM_10.trans (hM_11.trans (hM_13.trans (hM_15.trans (hM_17.trans (hM_20.trans (hM_22.trans (hM_24.trans (hM_26.trans (hM_28.trans (hM_30.trans (hM_32.trans (hM_34.trans (hM_120.trans (hM_122.trans (hM_124.trans (hM_126.trans (hM_158.trans (hM_161.trans (hM_162.trans (hM_165.trans (hM_166.trans hM_168))))))))))))))))))))))))), (congrArg Value.bool (by (clear S E; first | (simp; done) | decide | (simp [entE, mkE, putK, swp, srtK_len]; done) | (first | refine dec_t ?_ | refine dec_f ?_ | skip); first | exact inj_L (by assumption) | exact inv_back (inj_yes (by assumption)) | exact rv_keys _ _ | rfl))), S⟩
         ·
          have hb_1k168 := hb_1
          refine DG_endT (C := fun x w => agree M_158 w) (bf := (fun i => [])) [14, 18, 19] [14, 12, 15, 13, 16, 17, 18, 19] (by kernel_rfl) (fun x hq => S.imm) ?_
          refine D_vyes E rfl rfl rfl rfl rfl (fun w hC => (R_move E rfl)) ?_
          clear E a; intro a E
          refine D_yes E rfl rfl rfl rfl (X_buildM (R := (RSl 2 RP2)) (vs := [v_159]) (xs := [entE ((mkE l0).map (rvv (fun v x => keyAt kk1 kn1 v x)))]) (RSl_mono RP2_mono) E S rfl T70 rfl rfl rfl (by intro u hu; simp only [List.mem_cons, List.not_mem_nil, or_false] at hu; rcases hu with rfl <;> first | exact RdS.one' hv_159) rfl (rowsC (R := (RSl 2 RP2)) ⟨_, rfl, hv_159⟩ rowsN) ?_)
          clear E a S; rintro a v_169 w M_170 hM_170 hv_169 S E
          replace h0 := h0.le RP2_mono hM_170
          replace hb_1 := hM_170.2 _ _ hb_1
          replace hv_4 := hv_4.le RP2_mono hM_170
          replace hv_7 := hv_7.le RP2_mono hM_170
          replace hv_9 := hv_9.le (RSl_mono RP2_mono) hM_170
          replace hv_16 := hv_16.le RP2_mono hM_170
          replace hv_18 := hv_18.le RP2_mono hM_170
          replace hv_21 := hv_21.le RP2_mono hM_170
          replace hv_25 := hv_25.le RP2_mono hM_170
          replace hv_27 := hv_27.le RP2_mono hM_170
          replace hv_29 := hv_29.le RP2_mono hM_170
          replace hv_33 := hv_33.le RP2_mono hM_170
          replace hv_35 := hv_35.le RP2_mono hM_170
          replace hv_121 := hv_121.le RP2_mono hM_170
          replace hv_123 := hv_123.le RP2_mono hM_170
          replace hv_125 := hv_125.le RP2_mono hM_170
          replace hv_159 := hv_159.le RP2_mono hM_170
          refine ⟨fun x hq hb => (agree_le hM_170 S.imm), ?_⟩
          refine D_yes E rfl rfl rfl rfl (X_buildM (R := (RSl 2 RP2)) (vs := [v0]) (xs := [l0]) (RSl_mono RP2_mono) E S rfl T70 rfl rfl rfl (by intro u hu; simp only [List.mem_cons, List.not_mem_nil, or_false] at hu; rcases hu with rfl <;> first | exact RdS.one' h0) rfl (rowsC (R := (RSl 2 RP2)) ⟨_, rfl, h0⟩ rowsN) ?_)
          clear E a S; rintro a v_171 w M_172 hM_172 hv_171 S E
          replace h0 := h0.le RP2_mono hM_172
          replace hb_1 := hM_172.2 _ _ hb_1
          replace hv_4 := hv_4.le RP2_mono hM_172
          replace hv_7 := hv_7.le RP2_mono hM_172
          replace hv_9 := hv_9.le (RSl_mono RP2_mono) hM_172
          replace hv_16 := hv_16.le RP2_mono hM_172
          replace hv_18 := hv_18.le RP2_mono hM_172
          replace hv_21 := hv_21.le RP2_mono hM_172
          replace hv_25 := hv_25.le RP2_mono hM_172
          replace hv_27 := hv_27.le RP2_mono hM_172
          replace hv_29 := hv_29.le RP2_mono hM_172
          replace hv_33 := hv_33.le RP2_mono hM_172
          replace hv_35 := hv_35.le RP2_mono hM_172
          replace hv_121 := hv_121.le RP2_mono hM_172
          replace hv_123 := hv_123.le RP2_mono hM_172
          replace hv_125 := hv_125.le RP2_mono hM_172
          replace hv_159 := hv_159.le RP2_mono hM_172
          replace hv_169 := hv_169.le (RSl_mono RP2_mono) hM_172
          refine ⟨fun x hq hb => (agree_le (hM_170.trans hM_172) S.imm), ?_⟩
          refine D_yes E rfl rfl rfl rfl (X_pu E S rfl rfl rfl (impl_Keys hv_169 (by first | omega | (simp; done) | (simp; omega)) (by first | omega | (simp; done) | (simp; omega))) (Hp.le.refl _) ?_)
          clear E a S; rintro a v_174 w M_173 hM_173 hv_174 S E
          replace h0 := h0.le RP2_mono hM_173
          replace hb_1 := hM_173.2 _ _ hb_1
          replace hv_4 := hv_4.le RP2_mono hM_173
          replace hv_7 := hv_7.le RP2_mono hM_173
          replace hv_9 := hv_9.le (RSl_mono RP2_mono) hM_173
          replace hv_16 := hv_16.le RP2_mono hM_173
          replace hv_18 := hv_18.le RP2_mono hM_173
          replace hv_21 := hv_21.le RP2_mono hM_173
          replace hv_25 := hv_25.le RP2_mono hM_173
          replace hv_27 := hv_27.le RP2_mono hM_173
          replace hv_29 := hv_29.le RP2_mono hM_173
          replace hv_33 := hv_33.le RP2_mono hM_173
          replace hv_35 := hv_35.le RP2_mono hM_173
          replace hv_121 := hv_121.le RP2_mono hM_173
          replace hv_123 := hv_123.le RP2_mono hM_173
          replace hv_125 := hv_125.le RP2_mono hM_173
          replace hv_159 := hv_159.le RP2_mono hM_173
          replace hv_169 := hv_169.le (RSl_mono RP2_mono) hM_173
          replace hv_171 := hv_171.le (RSl_mono RP2_mono) hM_173
          refine ⟨fun x hq hb => (agree_le (hM_170.trans (hM_172.trans hM_173)) S.imm), ?_⟩
          refine D_yes E rfl rfl rfl rfl (X_pu E S rfl rfl rfl (impl_Keys hv_171 (by first | omega | (simp; done) | (simp; omega)) (by first | omega | (simp; done) | (simp; omega))) (Hp.le.refl _) ?_)
          clear E a S; rintro a v_176 w M_175 hM_175 hv_176 S E
          replace h0 := h0.le RP2_mono hM_175
          replace hb_1 := hM_175.2 _ _ hb_1
          replace hv_4 := hv_4.le RP2_mono hM_175
          replace hv_7 := hv_7.le RP2_mono hM_175
          replace hv_9 := hv_9.le (RSl_mono RP2_mono) hM_175
          replace hv_16 := hv_16.le RP2_mono hM_175
          replace hv_18 := hv_18.le RP2_mono hM_175
          replace hv_21 := hv_21.le RP2_mono hM_175
          replace hv_25 := hv_25.le RP2_mono hM_175
          replace hv_27 := hv_27.le RP2_mono hM_175
          replace hv_29 := hv_29.le RP2_mono hM_175
          replace hv_33 := hv_33.le RP2_mono hM_175
          replace hv_35 := hv_35.le RP2_mono hM_175
          replace hv_121 := hv_121.le RP2_mono hM_175
          replace hv_123 := hv_123.le RP2_mono hM_175
          replace hv_125 := hv_125.le RP2_mono hM_175
          replace hv_159 := hv_159.le RP2_mono hM_175
          replace hv_169 := hv_169.le (RSl_mono RP2_mono) hM_175
          replace hv_171 := hv_171.le (RSl_mono RP2_mono) hM_175
          replace hv_174 := hv_174.le hM_175
          refine ⟨fun x hq hb => (agree_le (hM_170.trans (hM_172.trans (hM_173.trans hM_175))) S.imm), ?_⟩
          refine D_yes E rfl rfl rfl rfl (X_pu E S rfl rfl rfl (laws_eq hv_174 hv_176) (Hp.le.refl _) ?_)
          clear E a S; rintro a _ w M_177 hM_177 rfl S E
          replace h0 := h0.le RP2_mono hM_177
          replace hb_1 := hM_177.2 _ _ hb_1
          replace hv_4 := hv_4.le RP2_mono hM_177
          replace hv_7 := hv_7.le RP2_mono hM_177
          replace hv_9 := hv_9.le (RSl_mono RP2_mono) hM_177
          replace hv_16 := hv_16.le RP2_mono hM_177
          replace hv_18 := hv_18.le RP2_mono hM_177
          replace hv_21 := hv_21.le RP2_mono hM_177
          replace hv_25 := hv_25.le RP2_mono hM_177
          replace hv_27 := hv_27.le RP2_mono hM_177
          replace hv_29 := hv_29.le RP2_mono hM_177
          replace hv_33 := hv_33.le RP2_mono hM_177
          replace hv_35 := hv_35.le RP2_mono hM_177
          replace hv_121 := hv_121.le RP2_mono hM_177
          replace hv_123 := hv_123.le RP2_mono hM_177
          replace hv_125 := hv_125.le RP2_mono hM_177
          replace hv_159 := hv_159.le RP2_mono hM_177
          replace hv_169 := hv_169.le (RSl_mono RP2_mono) hM_177
          replace hv_171 := hv_171.le (RSl_mono RP2_mono) hM_177
          replace hv_174 := hv_174.le hM_177
          replace hv_176 := hv_176.le hM_177
          refine ⟨fun x hq hb => (agree_le (hM_170.trans (hM_172.trans (hM_173.trans (hM_175.trans hM_177)))) S.imm), ?_⟩
          refine D_v E rfl rfl rfl (fun w hC => (R_pickT E rfl rfl)) ?_
          clear E a; intro a E
          refine D_v E rfl rfl rfl (fun w hC => (R_assign E rfl)) ?_
          clear E a; intro a E
          refine D_end (NoP_n ?_)
          refine T_n ?_
          refine WP_ret ?_
          exact F_ret1 E Try.results10 rfl ⟨_, rfl, M_177, (hM_2.trans (hM_5.trans (hM_6.trans (hM_10.trans (hM_11.trans (hM_13.trans (hM_15.trans (hM_17.trans (hM_20.trans (hM_22.trans (hM_24.trans (hM_26.trans (hM_28.trans (hM_30.trans (hM_32.trans (hM_34.trans (hM_120.trans (hM_122.trans (hM_124.trans (hM_126.trans (hM_158.trans (hM_170.trans (hM_172.trans (hM_173.trans (hM_175.trans hM_177))))))))))))))))))))))))), (congrArg Value.bool (by (clear S E; first | (simp; done) | decide | (simp [entE, mkE, putK, swp, srtK_len]; done) | (first | refine dec_t ?_ | refine dec_f ?_ | skip); first | exact inj_L (by assumption) | exact inv_back (inj_yes (by assumption)) | exact rv_keys _ _ | rfl))), S⟩
        ·
         have hb_1k177 := hb_1
         refine DG_endT (C := fun x w => agree M_158 w) (bf := (fun i => [])) [14, 18, 19] [14, 15, 12, 13, 16, 17, 18, 19] (by kernel_rfl) (fun x hq => S.imm) ?_
         refine D_vyes E rfl rfl rfl rfl rfl (fun w hC => (R_move E rfl)) ?_
         clear E a; intro a E
         refine D_yes E rfl rfl rfl rfl (X_buildM (R := (RSl 2 RP2)) (vs := [v0]) (xs := [l0]) (RSl_mono RP2_mono) E S rfl T70 rfl rfl rfl (by intro u hu; simp only [List.mem_cons, List.not_mem_nil, or_false] at hu; rcases hu with rfl <;> first | exact RdS.one' h0) rfl (rowsC (R := (RSl 2 RP2)) ⟨_, rfl, h0⟩ rowsN) ?_)
         clear E a S; rintro a v_178 w M_179 hM_179 hv_178 S E
         replace h0 := h0.le RP2_mono hM_179
         replace hb_1 := hM_179.2 _ _ hb_1
         replace hv_4 := hv_4.le RP2_mono hM_179
         replace hv_7 := hv_7.le RP2_mono hM_179
         replace hv_9 := hv_9.le (RSl_mono RP2_mono) hM_179
         replace hv_16 := hv_16.le RP2_mono hM_179
         replace hv_18 := hv_18.le RP2_mono hM_179
         replace hv_21 := hv_21.le RP2_mono hM_179
         replace hv_25 := hv_25.le RP2_mono hM_179
         replace hv_27 := hv_27.le RP2_mono hM_179
         replace hv_29 := hv_29.le RP2_mono hM_179
         replace hv_33 := hv_33.le RP2_mono hM_179
         replace hv_35 := hv_35.le RP2_mono hM_179
         replace hv_121 := hv_121.le RP2_mono hM_179
         replace hv_123 := hv_123.le RP2_mono hM_179
         replace hv_125 := hv_125.le RP2_mono hM_179
         replace hv_159 := hv_159.le RP2_mono hM_179
         refine ⟨fun x hq hb => (agree_le hM_179 S.imm), ?_⟩
         refine D_yes E rfl rfl rfl rfl (X_buildM (R := (RSl 2 RP2)) (vs := [v_159]) (xs := [entE ((mkE l0).map (rvv (fun v x => keyAt kk1 kn1 v x)))]) (RSl_mono RP2_mono) E S rfl T70 rfl rfl rfl (by intro u hu; simp only [List.mem_cons, List.not_mem_nil, or_false] at hu; rcases hu with rfl <;> first | exact RdS.one' hv_159) rfl (rowsC (R := (RSl 2 RP2)) ⟨_, rfl, hv_159⟩ rowsN) ?_)
         clear E a S; rintro a v_180 w M_181 hM_181 hv_180 S E
         replace h0 := h0.le RP2_mono hM_181
         replace hb_1 := hM_181.2 _ _ hb_1
         replace hv_4 := hv_4.le RP2_mono hM_181
         replace hv_7 := hv_7.le RP2_mono hM_181
         replace hv_9 := hv_9.le (RSl_mono RP2_mono) hM_181
         replace hv_16 := hv_16.le RP2_mono hM_181
         replace hv_18 := hv_18.le RP2_mono hM_181
         replace hv_21 := hv_21.le RP2_mono hM_181
         replace hv_25 := hv_25.le RP2_mono hM_181
         replace hv_27 := hv_27.le RP2_mono hM_181
         replace hv_29 := hv_29.le RP2_mono hM_181
         replace hv_33 := hv_33.le RP2_mono hM_181
         replace hv_35 := hv_35.le RP2_mono hM_181
         replace hv_121 := hv_121.le RP2_mono hM_181
         replace hv_123 := hv_123.le RP2_mono hM_181
         replace hv_125 := hv_125.le RP2_mono hM_181
         replace hv_159 := hv_159.le RP2_mono hM_181
         replace hv_178 := hv_178.le (RSl_mono RP2_mono) hM_181
         refine ⟨fun x hq hb => (agree_le (hM_179.trans hM_181) S.imm), ?_⟩
         refine D_yes E rfl rfl rfl rfl (X_pu E S rfl rfl rfl (impl_Keys hv_180 (by first | omega | (simp; done) | (simp; omega)) (by first | omega | (simp; done) | (simp; omega))) (Hp.le.refl _) ?_)
         clear E a S; rintro a v_183 w M_182 hM_182 hv_183 S E
         replace h0 := h0.le RP2_mono hM_182
         replace hb_1 := hM_182.2 _ _ hb_1
         replace hv_4 := hv_4.le RP2_mono hM_182
         replace hv_7 := hv_7.le RP2_mono hM_182
         replace hv_9 := hv_9.le (RSl_mono RP2_mono) hM_182
         replace hv_16 := hv_16.le RP2_mono hM_182
         replace hv_18 := hv_18.le RP2_mono hM_182
         replace hv_21 := hv_21.le RP2_mono hM_182
         replace hv_25 := hv_25.le RP2_mono hM_182
         replace hv_27 := hv_27.le RP2_mono hM_182
         replace hv_29 := hv_29.le RP2_mono hM_182
         replace hv_33 := hv_33.le RP2_mono hM_182
         replace hv_35 := hv_35.le RP2_mono hM_182
         replace hv_121 := hv_121.le RP2_mono hM_182
         replace hv_123 := hv_123.le RP2_mono hM_182
         replace hv_125 := hv_125.le RP2_mono hM_182
         replace hv_159 := hv_159.le RP2_mono hM_182
         replace hv_178 := hv_178.le (RSl_mono RP2_mono) hM_182
         replace hv_180 := hv_180.le (RSl_mono RP2_mono) hM_182
         refine ⟨fun x hq hb => (agree_le (hM_179.trans (hM_181.trans hM_182)) S.imm), ?_⟩
         refine D_yes E rfl rfl rfl rfl (X_pu E S rfl rfl rfl (impl_Keys hv_178 (by first | omega | (simp; done) | (simp; omega)) (by first | omega | (simp; done) | (simp; omega))) (Hp.le.refl _) ?_)
         clear E a S; rintro a v_185 w M_184 hM_184 hv_185 S E
         replace h0 := h0.le RP2_mono hM_184
         replace hb_1 := hM_184.2 _ _ hb_1
         replace hv_4 := hv_4.le RP2_mono hM_184
         replace hv_7 := hv_7.le RP2_mono hM_184
         replace hv_9 := hv_9.le (RSl_mono RP2_mono) hM_184
         replace hv_16 := hv_16.le RP2_mono hM_184
         replace hv_18 := hv_18.le RP2_mono hM_184
         replace hv_21 := hv_21.le RP2_mono hM_184
         replace hv_25 := hv_25.le RP2_mono hM_184
         replace hv_27 := hv_27.le RP2_mono hM_184
         replace hv_29 := hv_29.le RP2_mono hM_184
         replace hv_33 := hv_33.le RP2_mono hM_184
         replace hv_35 := hv_35.le RP2_mono hM_184
         replace hv_121 := hv_121.le RP2_mono hM_184
         replace hv_123 := hv_123.le RP2_mono hM_184
         replace hv_125 := hv_125.le RP2_mono hM_184
         replace hv_159 := hv_159.le RP2_mono hM_184
         replace hv_178 := hv_178.le (RSl_mono RP2_mono) hM_184
         replace hv_180 := hv_180.le (RSl_mono RP2_mono) hM_184
         replace hv_183 := hv_183.le hM_184
         refine ⟨fun x hq hb => (agree_le (hM_179.trans (hM_181.trans (hM_182.trans hM_184))) S.imm), ?_⟩
         refine D_yes E rfl rfl rfl rfl (X_pu E S rfl rfl rfl (laws_eq hv_183 hv_185) (Hp.le.refl _) ?_)
         clear E a S; rintro a _ w M_186 hM_186 rfl S E
         replace h0 := h0.le RP2_mono hM_186
         replace hb_1 := hM_186.2 _ _ hb_1
         replace hv_4 := hv_4.le RP2_mono hM_186
         replace hv_7 := hv_7.le RP2_mono hM_186
         replace hv_9 := hv_9.le (RSl_mono RP2_mono) hM_186
         replace hv_16 := hv_16.le RP2_mono hM_186
         replace hv_18 := hv_18.le RP2_mono hM_186
         replace hv_21 := hv_21.le RP2_mono hM_186
         replace hv_25 := hv_25.le RP2_mono hM_186
         replace hv_27 := hv_27.le RP2_mono hM_186
         replace hv_29 := hv_29.le RP2_mono hM_186
         replace hv_33 := hv_33.le RP2_mono hM_186
         replace hv_35 := hv_35.le RP2_mono hM_186
         replace hv_121 := hv_121.le RP2_mono hM_186
         replace hv_123 := hv_123.le RP2_mono hM_186
         replace hv_125 := hv_125.le RP2_mono hM_186
         replace hv_159 := hv_159.le RP2_mono hM_186
         replace hv_178 := hv_178.le (RSl_mono RP2_mono) hM_186
         replace hv_180 := hv_180.le (RSl_mono RP2_mono) hM_186
         replace hv_183 := hv_183.le hM_186
         replace hv_185 := hv_185.le hM_186
         refine ⟨fun x hq hb => (agree_le (hM_179.trans (hM_181.trans (hM_182.trans (hM_184.trans hM_186)))) S.imm), ?_⟩
         refine D_v E rfl rfl rfl (fun w hC => (R_pickT E rfl rfl)) ?_
         clear E a; intro a E
         refine D_v E rfl rfl rfl (fun w hC => (R_assign E rfl)) ?_
         clear E a; intro a E
         refine D_end (NoP_n ?_)
         refine T_n ?_
         refine WP_ret ?_
         exact F_ret1 E Try.results10 rfl ⟨_, rfl, M_186, (hM_2.trans (hM_5.trans (hM_6.trans (hM_10.trans (hM_11.trans (hM_13.trans (hM_15.trans (hM_17.trans (hM_20.trans (hM_22.trans (hM_24.trans (hM_26.trans (hM_28.trans (hM_30.trans (hM_32.trans (hM_34.trans (hM_120.trans (hM_122.trans (hM_124.trans (hM_126.trans (hM_158.trans (hM_179.trans (hM_181.trans (hM_182.trans (hM_184.trans hM_186))))))))))))))))))))))))), (congrArg Value.bool (by (clear S E; first | (simp; done) | decide | (simp [entE, mkE, putK, swp, srtK_len]; done) | (first | refine dec_t ?_ | refine dec_f ?_ | skip); first | exact inj_L (by assumption) | exact inv_back (inj_yes (by assumption)) | exact rv_keys _ _ | rfl))), S⟩
      ·
       have hb_1k186 := hb_1
       refine DG_endT (C := fun x w => agree M_126 w) (bf := (fun i => [])) [8, 9, 10, 14, 18, 19] [8, 9, 10, 14, 15, 11, 12, 13, 16, 17, 18, 19] (by kernel_rfl) (fun x hq => S.imm) ?_
       refine D_v E rfl rfl rfl (fun w hC => (R_move E rfl)) ?_
       clear E a; intro a E
       have hc_187 : (decide (entE ((mkE l0).map (rvv (fun v x => keyAt kk1 kn1 v x))) = entE ((mkE l0).map (rvv (fun v x => keyAt kk1 kn1 v x))))) = true := by (clear S E; first | (simp; done) | decide | (simp [entE, mkE, putK, swp, srtK_len]; done) | (first | refine dec_t ?_ | refine dec_f ?_ | skip); first | exact inj_L (by assumption) | exact inv_back (inj_yes (by assumption)) | exact rv_keys _ _ | rfl)
       replace E := E.val (t := 74) rfl hc_187
       replace E := E.val (t := 75) rfl hc_187
       refine D_vyes E rfl rfl rfl rfl rfl (fun w hC => (R_move E rfl)) ?_
       clear E a; intro a E
       refine D_vyes E rfl rfl rfl rfl rfl (fun w hC => (R_loadGM E rfl (Try.isAgg24 _) (Try.sizeOf24 _) hC hb_1k186)) ?_
       clear E a; intro a E
       refine D_vyes E rfl rfl rfl rfl rfl (fun w hC => (R_move E rfl)) ?_
       clear E a; intro a E
       refine D_yes E rfl rfl rfl rfl (X_buildM (R := (RSl 2 RP2)) (vs := [v0]) (xs := [l0]) (RSl_mono RP2_mono) E S rfl T70 rfl rfl rfl (by intro u hu; simp only [List.mem_cons, List.not_mem_nil, or_false] at hu; rcases hu with rfl <;> first | exact RdS.one' h0) rfl (rowsC (R := (RSl 2 RP2)) ⟨_, rfl, h0⟩ rowsN) ?_)
       clear E a S; rintro a v_188 w M_189 hM_189 hv_188 S E
       replace h0 := h0.le RP2_mono hM_189
       replace hb_1 := hM_189.2 _ _ hb_1
       replace hv_4 := hv_4.le RP2_mono hM_189
       replace hv_7 := hv_7.le RP2_mono hM_189
       replace hv_9 := hv_9.le (RSl_mono RP2_mono) hM_189
       replace hv_16 := hv_16.le RP2_mono hM_189
       replace hv_18 := hv_18.le RP2_mono hM_189
       replace hv_21 := hv_21.le RP2_mono hM_189
       replace hv_25 := hv_25.le RP2_mono hM_189
       replace hv_27 := hv_27.le RP2_mono hM_189
       replace hv_29 := hv_29.le RP2_mono hM_189
       replace hv_33 := hv_33.le RP2_mono hM_189
       replace hv_35 := hv_35.le RP2_mono hM_189
       replace hv_121 := hv_121.le RP2_mono hM_189
       replace hv_123 := hv_123.le RP2_mono hM_189
       replace hv_125 := hv_125.le RP2_mono hM_189
       refine ⟨fun x hq hb => (agree_le hM_189 S.imm), ?_⟩
       refine D_yes E rfl rfl rfl rfl (X_pu E S rfl rfl rfl (impl_MapValues h0 (by omega) (by first | omega | (simp; done) | (simp; omega) | exact Nat.le_trans (mkE_len _) (by omega))) (Hp.le.refl _) ?_)
       clear E a S; rintro a v_191 w M_190 hM_190 hv_191 S E
       replace h0 := h0.le RP2_mono hM_190
       replace hb_1 := hM_190.2 _ _ hb_1
       replace hv_4 := hv_4.le RP2_mono hM_190
       replace hv_7 := hv_7.le RP2_mono hM_190
       replace hv_9 := hv_9.le (RSl_mono RP2_mono) hM_190
       replace hv_16 := hv_16.le RP2_mono hM_190
       replace hv_18 := hv_18.le RP2_mono hM_190
       replace hv_21 := hv_21.le RP2_mono hM_190
       replace hv_25 := hv_25.le RP2_mono hM_190
       replace hv_27 := hv_27.le RP2_mono hM_190
       replace hv_29 := hv_29.le RP2_mono hM_190
       replace hv_33 := hv_33.le RP2_mono hM_190
       replace hv_35 := hv_35.le RP2_mono hM_190
       replace hv_121 := hv_121.le RP2_mono hM_190
       replace hv_123 := hv_123.le RP2_mono hM_190
       replace hv_125 := hv_125.le RP2_mono hM_190
       replace hv_188 := hv_188.le (RSl_mono RP2_mono) hM_190
       refine ⟨fun x hq hb => (agree_le (hM_189.trans hM_190) S.imm), ?_⟩
       refine D_yes E rfl rfl rfl rfl (X_buildM (R := (RSl 2 RP2)) (vs := [v_191]) (xs := [entE ((mkE l0).map (rvv (fun v x => keyAt kk1 kn1 v x)))]) (RSl_mono RP2_mono) E S rfl T70 rfl rfl rfl (by intro u hu; simp only [List.mem_cons, List.not_mem_nil, or_false] at hu; rcases hu with rfl <;> first | exact RdS.one' hv_191) rfl (rowsC (R := (RSl 2 RP2)) ⟨_, rfl, hv_191⟩ rowsN) ?_)
       clear E a S; rintro a v_192 w M_193 hM_193 hv_192 S E
       replace h0 := h0.le RP2_mono hM_193
       replace hb_1 := hM_193.2 _ _ hb_1
       replace hv_4 := hv_4.le RP2_mono hM_193
       replace hv_7 := hv_7.le RP2_mono hM_193
       replace hv_9 := hv_9.le (RSl_mono RP2_mono) hM_193
       replace hv_16 := hv_16.le RP2_mono hM_193
       replace hv_18 := hv_18.le RP2_mono hM_193
       replace hv_21 := hv_21.le RP2_mono hM_193
       replace hv_25 := hv_25.le RP2_mono hM_193
       replace hv_27 := hv_27.le RP2_mono hM_193
       replace hv_29 := hv_29.le RP2_mono hM_193
       replace hv_33 := hv_33.le RP2_mono hM_193
       replace hv_35 := hv_35.le RP2_mono hM_193
       replace hv_121 := hv_121.le RP2_mono hM_193
       replace hv_123 := hv_123.le RP2_mono hM_193
       replace hv_125 := hv_125.le RP2_mono hM_193
       replace hv_188 := hv_188.le (RSl_mono RP2_mono) hM_193
       replace hv_191 := hv_191.le RP2_mono hM_193
       refine ⟨fun x hq hb => (agree_le (hM_189.trans (hM_190.trans hM_193)) S.imm), ?_⟩
       refine D_yes E rfl rfl rfl rfl (X_pu E S rfl rfl rfl (impl_Keys hv_192 (by first | omega | (simp; done) | (simp; omega)) (by first | omega | (simp; done) | (simp; omega))) (Hp.le.refl _) ?_)
       clear E a S; rintro a v_195 w M_194 hM_194 hv_195 S E
       replace h0 := h0.le RP2_mono hM_194
       replace hb_1 := hM_194.2 _ _ hb_1
       replace hv_4 := hv_4.le RP2_mono hM_194
       replace hv_7 := hv_7.le RP2_mono hM_194
       replace hv_9 := hv_9.le (RSl_mono RP2_mono) hM_194
       replace hv_16 := hv_16.le RP2_mono hM_194
       replace hv_18 := hv_18.le RP2_mono hM_194
       replace hv_21 := hv_21.le RP2_mono hM_194
       replace hv_25 := hv_25.le RP2_mono hM_194
       replace hv_27 := hv_27.le RP2_mono hM_194
       replace hv_29 := hv_29.le RP2_mono hM_194
       replace hv_33 := hv_33.le RP2_mono hM_194
       replace hv_35 := hv_35.le RP2_mono hM_194
       replace hv_121 := hv_121.le RP2_mono hM_194
       replace hv_123 := hv_123.le RP2_mono hM_194
       replace hv_125 := hv_125.le RP2_mono hM_194
       replace hv_188 := hv_188.le (RSl_mono RP2_mono) hM_194
       replace hv_191 := hv_191.le RP2_mono hM_194
       replace hv_192 := hv_192.le (RSl_mono RP2_mono) hM_194
       refine ⟨fun x hq hb => (agree_le (hM_189.trans (hM_190.trans (hM_193.trans hM_194))) S.imm), ?_⟩
       refine D_yes E rfl rfl rfl rfl (X_pu E S rfl rfl rfl (impl_Keys hv_188 (by first | omega | (simp; done) | (simp; omega)) (by first | omega | (simp; done) | (simp; omega))) (Hp.le.refl _) ?_)
       clear E a S; rintro a v_197 w M_196 hM_196 hv_197 S E
       replace h0 := h0.le RP2_mono hM_196
       replace hb_1 := hM_196.2 _ _ hb_1
       replace hv_4 := hv_4.le RP2_mono hM_196
       replace hv_7 := hv_7.le RP2_mono hM_196
       replace hv_9 := hv_9.le (RSl_mono RP2_mono) hM_196
       replace hv_16 := hv_16.le RP2_mono hM_196
       replace hv_18 := hv_18.le RP2_mono hM_196
       replace hv_21 := hv_21.le RP2_mono hM_196
       replace hv_25 := hv_25.le RP2_mono hM_196
       replace hv_27 := hv_27.le RP2_mono hM_196
       replace hv_29 := hv_29.le RP2_mono hM_196
       replace hv_33 := hv_33.le RP2_mono hM_196
       replace hv_35 := hv_35.le RP2_mono hM_196
       replace hv_121 := hv_121.le RP2_mono hM_196
       replace hv_123 := hv_123.le RP2_mono hM_196
       replace hv_125 := hv_125.le RP2_mono hM_196
       replace hv_188 := hv_188.le (RSl_mono RP2_mono) hM_196
       replace hv_191 := hv_191.le RP2_mono hM_196
       replace hv_192 := hv_192.le (RSl_mono RP2_mono) hM_196
       replace hv_195 := hv_195.le hM_196
       refine ⟨fun x hq hb => (agree_le (hM_189.trans (hM_190.trans (hM_193.trans (hM_194.trans hM_196)))) S.imm), ?_⟩
       refine D_yes E rfl rfl rfl rfl (X_pu E S rfl rfl rfl (laws_eq hv_195 hv_197) (Hp.le.refl _) ?_)
       clear E a S; rintro a _ w M_198 hM_198 rfl S E
       replace h0 := h0.le RP2_mono hM_198
       replace hb_1 := hM_198.2 _ _ hb_1
       replace hv_4 := hv_4.le RP2_mono hM_198
       replace hv_7 := hv_7.le RP2_mono hM_198
       replace hv_9 := hv_9.le (RSl_mono RP2_mono) hM_198
       replace hv_16 := hv_16.le RP2_mono hM_198
       replace hv_18 := hv_18.le RP2_mono hM_198
       replace hv_21 := hv_21.le RP2_mono hM_198
       replace hv_25 := hv_25.le RP2_mono hM_198
       replace hv_27 := hv_27.le RP2_mono hM_198
       replace hv_29 := hv_29.le RP2_mono hM_198
       replace hv_33 := hv_33.le RP2_mono hM_198
       replace hv_35 := hv_35.le RP2_mono hM_198
       replace hv_121 := hv_121.le RP2_mono hM_198
       replace hv_123 := hv_123.le RP2_mono hM_198
       replace hv_125 := hv_125.le RP2_mono hM_198
       replace hv_188 := hv_188.le (RSl_mono RP2_mono) hM_198
       replace hv_191 := hv_191.le RP2_mono hM_198
       replace hv_192 := hv_192.le (RSl_mono RP2_mono) hM_198
       replace hv_195 := hv_195.le hM_198
       replace hv_197 := hv_197.le hM_198
       refine ⟨fun x hq hb => (agree_le (hM_189.trans (hM_190.trans (hM_193.trans (hM_194.trans (hM_196.trans hM_198))))) S.imm), ?_⟩
       refine D_v E rfl rfl rfl (fun w hC => (R_pickT E rfl rfl)) ?_
       clear E a; intro a E
       refine D_v E rfl rfl rfl (fun w hC => (R_assign E rfl)) ?_
       clear E a; intro a E
       refine D_end (NoP_n ?_)
       refine T_n ?_
       refine WP_ret ?_
       exact F_ret1 E Try.results10 rfl ⟨_, rfl, M_198, (hM_2.trans (hM_5.trans (hM_6.trans (hM_10.trans (hM_11.trans (hM_13.trans (hM_15.trans (hM_17.trans (hM_20.trans (hM_22.trans (hM_24.trans (hM_26.trans (hM_28.trans (hM_30.trans (hM_32.trans (hM_34.trans (hM_120.trans (hM_122.trans (hM_124.trans (hM_126.trans (hM_189.trans (hM_190.trans (hM_193.trans (hM_194.trans (hM_196.trans hM_198))))))))))))))))))))))))), (congrArg Value.bool (by (clear S E; first | (simp; done) | decide | (simp [entE, mkE, putK, swp, srtK_len]; done) | (first | refine dec_t ?_ | refine dec_f ?_ | skip); first | exact inj_L (by assumption) | exact inv_back (inj_yes (by assumption)) | exact rv_keys _ _ | rfl))), S⟩
    ·
     replace E := E.val (t := 33) rfl hc_19
     replace E := E.val (t := 34) rfl hc_19
     replace hc_19 := of_decide_eq_false hc_19
     refine WL_guard_no E rfl rfl rfl rfl fun a E => ?_
     refine WL_guard_no E rfl rfl rfl rfl fun a E => ?_
     refine WL_guard_no E rfl rfl rfl rfl fun a E => ?_
     refine WL_guard_no E rfl rfl rfl rfl fun a E => ?_
     refine WL_guard_no E rfl rfl rfl rfl fun a E => ?_
     refine WL_guard_no E rfl rfl rfl rfl fun a E => ?_
     refine WL_guard_un E rfl rfl rfl fun a E => ?_
     refine WL_guard_un E rfl rfl rfl fun a E => ?_
     refine WL_guard_un E rfl rfl rfl fun a E => ?_
     refine WL_guard_un E rfl rfl rfl fun a E => ?_
     refine WL_guard_un E rfl rfl rfl fun a E => ?_
     refine WL_guard_un E rfl rfl rfl fun a E => ?_
     refine WL_guard_un E rfl rfl rfl fun a E => ?_
     refine WL_guard_no E rfl rfl rfl rfl fun a E => ?_
     refine S_v E rfl (R_pickF E rfl rfl) rfl ?_
     clear E a; intro a E
     refine WL_nil ?_
     refine T_n ?_
     refine WP_condF E rfl rfl ?_
     refine WP_skip ?_
     refine T_n ?_
     refine WP_seq ?_
     have hb_1k198 := hb_1
     replace S := S.mono_heap (w' := World.drew _) rfl
     refine WP_drawn (C := fun x w => agree M_17 w) (bf := (fun i => [])) [0, 2, 4, 5, 6, 7, 8] [0, 2, 1, 3, 4, 5, 6, 7, 8] Try.mixed (by kernel_rfl) (fun x hq => S.imm) ?_
     refine D_v E rfl rfl rfl (fun w hC => (R_move E rfl)) ?_
     clear E a; intro a E
     refine D_v E rfl rfl rfl (fun w hC => (R_loadGM E rfl (Try.isAgg24 _) (Try.sizeOf24 _) hC hb_1k198)) ?_
     clear E a; intro a E
     refine D_x rfl rfl rfl (X_pu E S rfl rfl rfl (laws_pairs h0 (by first | omega | (simp [ixm_len]; done) | (simp [ixm_len]; omega) | (have h9 := kpix_len _ _ _; exact Nat.le_trans h9 (by omega)) | exact Nat.le_trans (kpix_len _ _ _) (by first | omega | (simp; omega)))) (Hp.le.refl _) ?_)
     clear E a S; rintro a v_200 w M_199 hM_199 hv_200 S E
     replace h0 := h0.le RP2_mono hM_199
     replace hb_1 := hM_199.2 _ _ hb_1
     replace hv_4 := hv_4.le RP2_mono hM_199
     replace hv_7 := hv_7.le RP2_mono hM_199
     replace hv_9 := hv_9.le (RSl_mono RP2_mono) hM_199
     replace hv_16 := hv_16.le RP2_mono hM_199
     replace hv_18 := hv_18.le RP2_mono hM_199
     refine ⟨fun x hq hb => (agree_le hM_199 S.imm), ?_⟩
     refine D_x rfl rfl rfl (X_pu E S rfl rfl rfl (spec_MapKeys hv_200 (by omega) (by assumption) (by first | omega | (simp [ixm_len]; done) | (simp [ixm_len]; omega) | (have h9 := kpix_len _ _ _; exact Nat.le_trans h9 (by omega)) | exact Nat.le_trans (kpix_len _ _ _) (by first | omega | (simp; omega)))) (Hp.le.refl _) ?_)
     clear E a S; rintro a _ w M_201 hM_201 ⟨v_202, rfl, hv_202⟩ S E
     replace h0 := h0.le RP2_mono hM_201
     replace hb_1 := hM_201.2 _ _ hb_1
     replace hv_4 := hv_4.le RP2_mono hM_201
     replace hv_7 := hv_7.le RP2_mono hM_201
     replace hv_9 := hv_9.le (RSl_mono RP2_mono) hM_201
     replace hv_16 := hv_16.le RP2_mono hM_201
     replace hv_18 := hv_18.le RP2_mono hM_201
     replace hv_200 := hv_200.le RP2_mono hM_201
     refine ⟨fun x hq hb => (agree_le (hM_199.trans hM_201) S.imm), ?_⟩
     refine D_v E rfl rfl rfl (fun w hC => (R_move E rfl)) ?_
     clear E a; intro a E
     refine D_v E rfl rfl rfl (fun w hC => (R_extract E rfl rfl)) ?_
     clear E a; intro a E
     refine D_v E rfl rfl rfl (fun w hC => (R_extract E rfl rfl)) ?_
     clear E a; intro a E
     refine D_v E rfl rfl rfl (fun w hC => (R_assign E rfl)) ?_
     clear E a; intro a E
     refine D_v E rfl rfl rfl (fun w hC => (R_assign E rfl)) ?_
     clear E a; intro a E
     refine D_end (NoP_n ?_)
     refine T_n ?_
     refine WP_seq ?_
     refine WP_seq ?_
     refine WP_region ?_
     refine S_v E rfl (R_move E rfl) rfl ?_
     clear E a; intro a E
     refine S_v E rfl (R_eql E rfl rfl) rfl ?_
     clear E a; intro a E
     refine S_v E rfl (R_move E rfl) rfl ?_
     clear E a; intro a E
     refine split_bool (decide (injS (rek (fun v x => keyAt kk1 kn1 x v)) l0 = 1)) (fun hc_203 => ?_) (fun hc_203 => ?_)
     ·
      replace E := E.val (t := 58) rfl hc_203
      replace E := E.val (t := 59) rfl hc_203
      replace hc_203 := of_decide_eq_true hc_203
      refine WL_guard_yes E rfl rfl ?_
      refine S_v E rfl (R_move E rfl) rfl ?_
      clear E a; intro a E
      refine WL_guard_yes E rfl rfl ?_
      refine S_v E rfl (R_loadGM E rfl (Try.isAgg24 _) (Try.sizeOf24 _) S.imm hb_1) rfl ?_
      clear E a; intro a E
      refine WL_guard_yes E rfl rfl ?_
      refine S_x (X_pu E S rfl rfl rfl (impl_MapKeys h0 (by omega) (by first | assumption | exact inj_yes (by assumption)) (by first | omega | (simp; done) | (simp; omega) | exact Nat.le_trans (mkE_len _) (by omega))) (Hp.le.refl _) ?_)
      clear E a S; rintro a v_205 w M_204 hM_204 hv_205 S E
      replace h0 := h0.le RP2_mono hM_204
      replace hb_1 := hM_204.2 _ _ hb_1
      replace hv_4 := hv_4.le RP2_mono hM_204
      replace hv_7 := hv_7.le RP2_mono hM_204
      replace hv_9 := hv_9.le (RSl_mono RP2_mono) hM_204
      replace hv_16 := hv_16.le RP2_mono hM_204
      replace hv_18 := hv_18.le RP2_mono hM_204
      replace hv_200 := hv_200.le RP2_mono hM_204
      replace hv_202 := hv_202.le RP2_mono hM_204
      refine WL_guard_yes E rfl rfl ?_
      refine S_v E rfl (R_move E rfl) rfl ?_
      clear E a; intro a E
      refine WL_guard_yes E rfl rfl ?_
      refine S_x (X_pu E S rfl rfl rfl (laws_eqRef hv_205 hv_202) (Hp.le.refl _) ?_)
      clear E a S; rintro a _ w M_206 hM_206 rfl S E
      replace h0 := h0.le RP2_mono hM_206
      replace hb_1 := hM_206.2 _ _ hb_1
      replace hv_4 := hv_4.le RP2_mono hM_206
      replace hv_7 := hv_7.le RP2_mono hM_206
      replace hv_9 := hv_9.le (RSl_mono RP2_mono) hM_206
      replace hv_16 := hv_16.le RP2_mono hM_206
      replace hv_18 := hv_18.le RP2_mono hM_206
      replace hv_200 := hv_200.le RP2_mono hM_206
      replace hv_202 := hv_202.le RP2_mono hM_206
      replace hv_205 := hv_205.le RP2_mono hM_206
      refine WL_guard_yes E rfl rfl ?_
      refine S_v E rfl (R_not E rfl) rfl ?_
      clear E a; intro a E
      refine S_v E rfl (R_pickT E rfl rfl) rfl ?_
      clear E a; intro a E
      refine WL_nil ?_
      refine T_n ?_
      have hc_207 : (!(decide (entE ((mkE l0).map (rek (fun v x => keyAt kk1 kn1 x v))) = injL (rek (fun v x => keyAt kk1 kn1 x v)) l0))) = false := by (clear S E; first | (simp; done) | decide | (simp [entE, mkE, putK, swp, srtK_len]; done) | (first | refine dec_t ?_ | refine dec_f ?_ | skip); first | exact inj_L (by assumption) | exact inv_back (inj_yes (by assumption)) | exact rv_keys _ _ | rfl)
      refine WP_condF E rfl hc_207 ?_
      refine WP_skip ?_
      refine T_n ?_
      refine WP_seq ?_
      refine DG_start Try.mixed ?_
      have hb_1k207 := hb_1
      replace S := S.mono_heap (w' := World.drew _) rfl
      refine DG_take (C := fun x w => agree M_206 w) (bf := (fun i => [])) [0, 1, 3, 5] [0, 1, 3, 5, 2, 4, 6, 7] [8, 9, 10, 11, 12, 13, 14, 15, 16, 17, 18, 19] 7 (by kernel_rfl) (fun x hq => S.imm) ?_
      refine D_v E rfl rfl rfl (fun w hC => (R_move E rfl)) ?_
      clear E a; intro a E
      refine D_v E rfl rfl rfl (fun w hC => (R_loadGM E rfl (Try.isAgg24 _) (Try.sizeOf24 _) hC hb_1k207)) ?_
      clear E a; intro a E
      refine D_v E rfl rfl rfl (fun w hC => (R_move E rfl)) ?_
      clear E a; intro a E
      refine D_v E rfl rfl rfl (fun w hC => (R_loadGM E rfl (Try.isAgg24 _) (Try.sizeOf24 _) hC hb_1k207)) ?_
      clear E a; intro a E
      refine D_x rfl rfl rfl (X_pu E S rfl rfl rfl (impl_MapValues h0 (by omega) (by first | omega | (simp; done) | (simp; omega) | exact Nat.le_trans (mkE_len _) (by omega))) (Hp.le.refl _) ?_)
      clear E a S; rintro a v_209 w M_208 hM_208 hv_209 S E
      replace h0 := h0.le RP2_mono hM_208
      replace hb_1 := hM_208.2 _ _ hb_1
      replace hv_4 := hv_4.le RP2_mono hM_208
      replace hv_7 := hv_7.le RP2_mono hM_208
      replace hv_9 := hv_9.le (RSl_mono RP2_mono) hM_208
      replace hv_16 := hv_16.le RP2_mono hM_208
      replace hv_18 := hv_18.le RP2_mono hM_208
      replace hv_200 := hv_200.le RP2_mono hM_208
      replace hv_202 := hv_202.le RP2_mono hM_208
      replace hv_205 := hv_205.le RP2_mono hM_208
      refine ⟨fun x hq hb => (agree_le hM_208 S.imm), ?_⟩
      refine D_x rfl rfl rfl (X_pu E S rfl rfl rfl (laws_pairs h0 (by first | omega | (simp [ixm_len]; done) | (simp [ixm_len]; omega) | (have h9 := kpix_len _ _ _; exact Nat.le_trans h9 (by omega)) | exact Nat.le_trans (kpix_len _ _ _) (by first | omega | (simp; omega)))) (Hp.le.refl _) ?_)
      clear E a S; rintro a v_211 w M_210 hM_210 hv_211 S E
      replace h0 := h0.le RP2_mono hM_210
      replace hb_1 := hM_210.2 _ _ hb_1
      replace hv_4 := hv_4.le RP2_mono hM_210
      replace hv_7 := hv_7.le RP2_mono hM_210
      replace hv_9 := hv_9.le (RSl_mono RP2_mono) hM_210
      replace hv_16 := hv_16.le RP2_mono hM_210
      replace hv_18 := hv_18.le RP2_mono hM_210
      replace hv_200 := hv_200.le RP2_mono hM_210
      replace hv_202 := hv_202.le RP2_mono hM_210
      replace hv_205 := hv_205.le RP2_mono hM_210
      replace hv_209 := hv_209.le RP2_mono hM_210
      refine ⟨fun x hq hb => (agree_le (hM_208.trans hM_210) S.imm), ?_⟩
      refine D_x rfl rfl rfl (X_pu E S rfl rfl rfl (spec_MapValues hv_211 (by omega) (by assumption) (by first | omega | (simp [ixm_len]; done) | (simp [ixm_len]; omega) | (have h9 := kpix_len _ _ _; exact Nat.le_trans h9 (by omega)) | exact Nat.le_trans (kpix_len _ _ _) (by first | omega | (simp; omega)))) (Hp.le.refl _) ?_)
      clear E a S; rintro a v_213 w M_212 hM_212 hv_213 S E
      replace h0 := h0.le RP2_mono hM_212
      replace hb_1 := hM_212.2 _ _ hb_1
      replace hv_4 := hv_4.le RP2_mono hM_212
      replace hv_7 := hv_7.le RP2_mono hM_212
      replace hv_9 := hv_9.le (RSl_mono RP2_mono) hM_212
      replace hv_16 := hv_16.le RP2_mono hM_212
      replace hv_18 := hv_18.le RP2_mono hM_212
      replace hv_200 := hv_200.le RP2_mono hM_212
      replace hv_202 := hv_202.le RP2_mono hM_212
      replace hv_205 := hv_205.le RP2_mono hM_212
      replace hv_209 := hv_209.le RP2_mono hM_212
      replace hv_211 := hv_211.le RP2_mono hM_212
      refine ⟨fun x hq hb => (agree_le (hM_208.trans (hM_210.trans hM_212)) S.imm), ?_⟩
      refine D_x rfl rfl rfl (X_pu E S rfl rfl rfl (laws_eqRef hv_209 hv_213) (Hp.le.refl _) ?_)
      clear E a S; rintro a _ w M_214 hM_214 rfl S E
      replace h0 := h0.le RP2_mono hM_214
      replace hb_1 := hM_214.2 _ _ hb_1
      replace hv_4 := hv_4.le RP2_mono hM_214
      replace hv_7 := hv_7.le RP2_mono hM_214
      replace hv_9 := hv_9.le (RSl_mono RP2_mono) hM_214
      replace hv_16 := hv_16.le RP2_mono hM_214
      replace hv_18 := hv_18.le RP2_mono hM_214
      replace hv_200 := hv_200.le RP2_mono hM_214
      replace hv_202 := hv_202.le RP2_mono hM_214
      replace hv_205 := hv_205.le RP2_mono hM_214
      replace hv_209 := hv_209.le RP2_mono hM_214
      replace hv_211 := hv_211.le RP2_mono hM_214
      replace hv_213 := hv_213.le RP2_mono hM_214
      refine ⟨fun x hq hb => (agree_le (hM_208.trans (hM_210.trans (hM_212.trans hM_214))) S.imm), ?_⟩
      refine D_end (DT_n ?_)
      refine DG_splitT 11 15 (by decide) (by kernel_rfl) ?_ ?_
      ·
       refine DG_splitT 14 11 (by decide) (by kernel_rfl) ?_ ?_
       ·
        have hb_1k214 := hb_1
        refine DG_takeT (C := fun x w => agree M_214 w) (bf := (fun i => [])) [8, 9, 10, 14] [8, 9, 10, 14, 11] [12, 13, 15, 16, 17, 18, 19] 11 (by kernel_rfl) (fun x hq => S.imm) ?_
        refine D_v E rfl rfl rfl (fun w hC => (R_move E rfl)) ?_
        clear E a; intro a E
        have hc_215 : (decide (entE ((mkE l0).map (rvv (fun v x => keyAt kk1 kn1 v x))) = entE ((mkE l0).map (rvv (fun v x => keyAt kk1 kn1 v x))))) = true := by (clear S E; first | (simp; done) | decide | (simp [entE, mkE, putK, swp, srtK_len]; done) | (first | refine dec_t ?_ | refine dec_f ?_ | skip); first | exact inj_L (by assumption) | exact inv_back (inj_yes (by assumption)) | exact rv_keys _ _ | rfl)
        replace E := E.val (t := 74) rfl hc_215
        replace E := E.val (t := 75) rfl hc_215
        refine D_vyes E rfl rfl rfl rfl rfl (fun w hC => (R_move E rfl)) ?_
        clear E a; intro a E
        refine D_vyes E rfl rfl rfl rfl rfl (fun w hC => (R_loadGM E rfl (Try.isAgg24 _) (Try.sizeOf24 _) hC hb_1k214)) ?_
        clear E a; intro a E
        refine D_vyes E rfl rfl rfl rfl rfl (fun w hC => (R_move E rfl)) ?_
        clear E a; intro a E
        refine D_yes E rfl rfl rfl rfl (X_pu E S rfl rfl rfl (impl_MapValues h0 (by omega) (by first | omega | (simp; done) | (simp; omega) | exact Nat.le_trans (mkE_len _) (by omega))) (Hp.le.refl _) ?_)
        clear E a S; rintro a v_217 w M_216 hM_216 hv_217 S E
        replace h0 := h0.le RP2_mono hM_216
        replace hb_1 := hM_216.2 _ _ hb_1
        replace hv_4 := hv_4.le RP2_mono hM_216
        replace hv_7 := hv_7.le RP2_mono hM_216
        replace hv_9 := hv_9.le (RSl_mono RP2_mono) hM_216
        replace hv_16 := hv_16.le RP2_mono hM_216
        replace hv_18 := hv_18.le RP2_mono hM_216
        replace hv_200 := hv_200.le RP2_mono hM_216
        replace hv_202 := hv_202.le RP2_mono hM_216
        replace hv_205 := hv_205.le RP2_mono hM_216
        replace hv_209 := hv_209.le RP2_mono hM_216
        replace hv_211 := hv_211.le RP2_mono hM_216
        replace hv_213 := hv_213.le RP2_mono hM_216
        refine ⟨fun x hq hb => (agree_le hM_216 S.imm), ?_⟩
        refine D_end (DT_n ?_)
        refine DG_splitT 12 15 (by decide) (by kernel_rfl) ?_ ?_
        ·
         refine DG_splitT 13 15 (by decide) (by kernel_rfl) ?_ ?_
         ·
          have hb_1k217 := hb_1
          refine DG_endT (C := fun x w => agree M_216 w) (bf := (fun i => [])) [18, 19] [12, 13, 15, 16, 17, 18, 19] (by kernel_rfl) (fun x hq => S.imm) ?_
          refine D_yes E rfl rfl rfl rfl (X_buildM (R := (RSl 2 RP2)) (vs := [v_217]) (xs := [entE ((mkE l0).map (rvv (fun v x => keyAt kk1 kn1 v x)))]) (RSl_mono RP2_mono) E S rfl T70 rfl rfl rfl (by intro u hu; simp only [List.mem_cons, List.not_mem_nil, or_false] at hu; rcases hu with rfl <;> first | exact RdS.one' hv_217) rfl (rowsC (R := (RSl 2 RP2)) ⟨_, rfl, hv_217⟩ rowsN) ?_)
          clear E a S; rintro a v_218 w M_219 hM_219 hv_218 S E
          replace h0 := h0.le RP2_mono hM_219
          replace hb_1 := hM_219.2 _ _ hb_1
          replace hv_4 := hv_4.le RP2_mono hM_219
          replace hv_7 := hv_7.le RP2_mono hM_219
          replace hv_9 := hv_9.le (RSl_mono RP2_mono) hM_219
          replace hv_16 := hv_16.le RP2_mono hM_219
          replace hv_18 := hv_18.le RP2_mono hM_219
          replace hv_200 := hv_200.le RP2_mono hM_219
          replace hv_202 := hv_202.le RP2_mono hM_219
          replace hv_205 := hv_205.le RP2_mono hM_219
          replace hv_209 := hv_209.le RP2_mono hM_219
          replace hv_211 := hv_211.le RP2_mono hM_219
          replace hv_213 := hv_213.le RP2_mono hM_219
          replace hv_217 := hv_217.le RP2_mono hM_219
          refine ⟨fun x hq hb => (agree_le hM_219 S.imm), ?_⟩
          refine D_yes E rfl rfl rfl rfl (X_pu E S rfl rfl rfl (impl_Keys hv_218 (by first | omega | (simp; done) | (simp; omega)) (by first | omega | (simp; done) | (simp; omega))) (Hp.le.refl _) ?_)
          clear E a S; rintro a v_221 w M_220 hM_220 hv_221 S E
          replace h0 := h0.le RP2_mono hM_220
          replace hb_1 := hM_220.2 _ _ hb_1
          replace hv_4 := hv_4.le RP2_mono hM_220
          replace hv_7 := hv_7.le RP2_mono hM_220
          replace hv_9 := hv_9.le (RSl_mono RP2_mono) hM_220
          replace hv_16 := hv_16.le RP2_mono hM_220
          replace hv_18 := hv_18.le RP2_mono hM_220
          replace hv_200 := hv_200.le RP2_mono hM_220
          replace hv_202 := hv_202.le RP2_mono hM_220
          replace hv_205 := hv_205.le RP2_mono hM_220
          replace hv_209 := hv_209.le RP2_mono hM_220
          replace hv_211 := hv_211.le RP2_mono hM_220
          replace hv_213 := hv_213.le RP2_mono hM_220
          replace hv_217 := hv_217.le RP2_mono hM_220
          replace hv_218 := hv_218.le (RSl_mono RP2_mono) hM_220
          refine ⟨fun x hq hb => (agree_le (hM_219.trans hM_220) S.imm), ?_⟩
          refine D_yes E rfl rfl rfl rfl (X_buildM (R := (RSl 2 RP2)) (vs := [v0]) (xs := [l0]) (RSl_mono RP2_mono) E S rfl T70 rfl rfl rfl (by intro u hu; simp only [List.mem_cons, List.not_mem_nil, or_false] at hu; rcases hu with rfl <;> first | exact RdS.one' h0) rfl (rowsC (R := (RSl 2 RP2)) ⟨_, rfl, h0⟩ rowsN) ?_)
          clear E a S; rintro a v_222 w M_223 hM_223 hv_222 S E
          replace h0 := h0.le RP2_mono hM_223
          replace hb_1 := hM_223.2 _ _ hb_1
          replace hv_4 := hv_4.le RP2_mono hM_223
          replace hv_7 := hv_7.le RP2_mono hM_223
          replace hv_9 := hv_9.le (RSl_mono RP2_mono) hM_223
          replace hv_16 := hv_16.le RP2_mono hM_223
          replace hv_18 := hv_18.le RP2_mono hM_223
          replace hv_200 := hv_200.le RP2_mono hM_223
          replace hv_202 := hv_202.le RP2_mono hM_223
          replace hv_205 := hv_205.le RP2_mono hM_223
          replace hv_209 := hv_209.le RP2_mono hM_223
          replace hv_211 := hv_211.le RP2_mono hM_223
          replace hv_213 := hv_213.le RP2_mono hM_223
          replace hv_217 := hv_217.le RP2_mono hM_223
          replace hv_218 := hv_218.le (RSl_mono RP2_mono) hM_223
          replace hv_221 := hv_221.le hM_223
          refine ⟨fun x hq hb => (agree_le (hM_219.trans (hM_220.trans hM_223)) S.imm), ?_⟩
          refine D_yes E rfl rfl rfl rfl (X_pu E S rfl rfl rfl (impl_Keys hv_222 (by first | omega | (simp; done) | (simp; omega)) (by first | omega | (simp; done) | (simp; omega))) (Hp.le.refl _) ?_)
          clear E a S; rintro a v_225 w M_224 hM_224 hv_225 S E
          replace h0 := h0.le RP2_mono hM_224
          replace hb_1 := hM_224.2 _ _ hb_1
          replace hv_4 := hv_4.le RP2_mono hM_224
          replace hv_7 := hv_7.le RP2_mono hM_224
          replace hv_9 := hv_9.le (RSl_mono RP2_mono) hM_224
          replace hv_16 := hv_16.le RP2_mono hM_224
          replace hv_18 := hv_18.le RP2_mono hM_224
          replace hv_200 := hv_200.le RP2_mono hM_224
          replace hv_202 := hv_202.le RP2_mono hM_224
          replace hv_205 := hv_205.le RP2_mono hM_224
          replace hv_209 := hv_209.le RP2_mono hM_224
          replace hv_211 := hv_211.le RP2_mono hM_224
          replace hv_213 := hv_213.le RP2_mono hM_224
          replace hv_217 := hv_217.le RP2_mono hM_224
          replace hv_218 := hv_218.le (RSl_mono RP2_mono) hM_224
          replace hv_221 := hv_221.le hM_224
          replace hv_222 := hv_222.le (RSl_mono RP2_mono) hM_224
          refine ⟨fun x hq hb => (agree_le (hM_219.trans (hM_220.trans (hM_223.trans hM_224))) S.imm), ?_⟩
          refine D_yes E rfl rfl rfl rfl (X_pu E S rfl rfl rfl (laws_eq hv_221 hv_225) (Hp.le.refl _) ?_)
          clear E a S; rintro a _ w M_226 hM_226 rfl S E
          replace h0 := h0.le RP2_mono hM_226
          replace hb_1 := hM_226.2 _ _ hb_1
          replace hv_4 := hv_4.le RP2_mono hM_226
          replace hv_7 := hv_7.le RP2_mono hM_226
          replace hv_9 := hv_9.le (RSl_mono RP2_mono) hM_226
          replace hv_16 := hv_16.le RP2_mono hM_226
          replace hv_18 := hv_18.le RP2_mono hM_226
          replace hv_200 := hv_200.le RP2_mono hM_226
          replace hv_202 := hv_202.le RP2_mono hM_226
          replace hv_205 := hv_205.le RP2_mono hM_226
          replace hv_209 := hv_209.le RP2_mono hM_226
          replace hv_211 := hv_211.le RP2_mono hM_226
          replace hv_213 := hv_213.le RP2_mono hM_226
          replace hv_217 := hv_217.le RP2_mono hM_226
          replace hv_218 := hv_218.le (RSl_mono RP2_mono) hM_226
          replace hv_221 := hv_221.le hM_226
          replace hv_222 := hv_222.le (RSl_mono RP2_mono) hM_226
          replace hv_225 := hv_225.le hM_226
          refine ⟨fun x hq hb => (agree_le (hM_219.trans (hM_220.trans (hM_223.trans (hM_224.trans hM_226)))) S.imm), ?_⟩
          refine D_v E rfl rfl rfl (fun w hC => (R_pickT E rfl rfl)) ?_
          clear E a; intro a E
          refine D_v E rfl rfl rfl (fun w hC => (R_assign E rfl)) ?_
          clear E a; intro a E
          refine D_end (NoP_n ?_)
          refine T_n ?_
          refine WP_ret ?_
          exact F_ret1 E Try.results10 rfl ⟨_, rfl, M_226, (hM_2.trans (hM_5.trans (hM_6.trans (hM_10.trans (hM_11.trans (hM_13.trans (hM_15.trans (hM_17.trans (hM_199.trans (hM_201.trans (hM_204.trans (hM_206.trans (hM_208.trans (hM_210.trans (hM_212.trans (hM_214.trans (hM_216.trans (hM_219.trans (hM_220.trans (hM_223.trans (hM_224.trans hM_226))))))))))))))))))))), (congrArg Value.bool (by (clear S E; first | (simp; done) | decide | (simp [entE, mkE, putK, swp, srtK_len]; done) | (first | refine dec_t ?_ | refine dec_f ?_ | skip); first | exact inj_L (by assumption) | exact inv_back (inj_yes (by assumption)) | exact rv_keys _ _ | rfl))), S⟩
         ·
          have hb_1k226 := hb_1
          refine DG_endT (C := fun x w => agree M_216 w) (bf := (fun i => [])) [18, 19] [12, 15, 13, 16, 17, 18, 19] (by kernel_rfl) (fun x hq => S.imm) ?_
          refine D_yes E rfl rfl rfl rfl (X_buildM (R := (RSl 2 RP2)) (vs := [v_217]) (xs := [entE ((mkE l0).map (rvv (fun v x => keyAt kk1 kn1 v x)))]) (RSl_mono RP2_mono) E S rfl T70 rfl rfl rfl (by intro u hu; simp only [List.mem_cons, List.not_mem_nil, or_false] at hu; rcases hu with rfl <;> first | exact RdS.one' hv_217) rfl (rowsC (R := (RSl 2 RP2)) ⟨_, rfl, hv_217⟩ rowsN) ?_)
          clear E a S; rintro a v_227 w M_228 hM_228 hv_227 S E
          replace h0 := h0.le RP2_mono hM_228
          replace hb_1 := hM_228.2 _ _ hb_1
          replace hv_4 := hv_4.le RP2_mono hM_228
          replace hv_7 := hv_7.le RP2_mono hM_228
          replace hv_9 := hv_9.le (RSl_mono RP2_mono) hM_228
          replace hv_16 := hv_16.le RP2_mono hM_228
          replace hv_18 := hv_18.le RP2_mono hM_228
          replace hv_200 := hv_200.le RP2_mono hM_228
          replace hv_202 := hv_202.le RP2_mono hM_228
          replace hv_205 := hv_205.le RP2_mono hM_228
          replace hv_209 := hv_209.le RP2_mono hM_228
          replace hv_211 := hv_211.le RP2_mono hM_228
          replace hv_213 := hv_213.le RP2_mono hM_228
          replace hv_217 := hv_217.le RP2_mono hM_228
          refine ⟨fun x hq hb => (agree_le hM_228 S.imm), ?_⟩
          refine D_yes E rfl rfl rfl rfl (X_buildM (R := (RSl 2 RP2)) (vs := [v0]) (xs := [l0]) (RSl_mono RP2_mono) E S rfl T70 rfl rfl rfl (by intro u hu; simp only [List.mem_cons, List.not_mem_nil, or_false] at hu; rcases hu with rfl <;> first | exact RdS.one' h0) rfl (rowsC (R := (RSl 2 RP2)) ⟨_, rfl, h0⟩ rowsN) ?_)
          clear E a S; rintro a v_229 w M_230 hM_230 hv_229 S E
          replace h0 := h0.le RP2_mono hM_230
          replace hb_1 := hM_230.2 _ _ hb_1
          replace hv_4 := hv_4.le RP2_mono hM_230
          replace hv_7 := hv_7.le RP2_mono hM_230
          replace hv_9 := hv_9.le (RSl_mono RP2_mono) hM_230
          replace hv_16 := hv_16.le RP2_mono hM_230
          replace hv_18 := hv_18.le RP2_mono hM_230
          replace hv_200 := hv_200.le RP2_mono hM_230
          replace hv_202 := hv_202.le RP2_mono hM_230
          replace hv_205 := hv_205.le RP2_mono hM_230
          replace hv_209 := hv_209.le RP2_mono hM_230
          replace hv_211 := hv_211.le RP2_mono hM_230
          replace hv_213 := hv_213.le RP2_mono hM_230
          replace hv_217 := hv_217.le RP2_mono hM_230
          replace hv_227 := hv_227.le (RSl_mono RP2_mono) hM_230
          refine ⟨fun x hq hb => (agree_le (hM_228.trans hM_230) S.imm), ?_⟩
          refine D_yes E rfl rfl rfl rfl (X_pu E S rfl rfl rfl (impl_Keys hv_227 (by first | omega | (simp; done) | (simp; omega)) (by first | omega | (simp; done) | (simp; omega))) (Hp.le.refl _) ?_)
          clear E a S; rintro a v_232 w M_231 hM_231 hv_232 S E
          replace h0 := h0.le RP2_mono hM_231
          replace hb_1 := hM_231.2 _ _ hb_1
          replace hv_4 := hv_4.le RP2_mono hM_231
          replace hv_7 := hv_7.le RP2_mono hM_231
          replace hv_9 := hv_9.le (RSl_mono RP2_mono) hM_231
          replace hv_16 := hv_16.le RP2_mono hM_231
          replace hv_18 := hv_18.le RP2_mono hM_231
          replace hv_200 := hv_200.le RP2_mono hM_231
          replace hv_202 := hv_202.le RP2_mono hM_231
          replace hv_205 := hv_205.le RP2_mono hM_231
          replace hv_209 := hv_209.le RP2_mono hM_231
          replace hv_211 := hv_211.le RP2_mono hM_231
          replace hv_213 := hv_213.le RP2_mono hM_231
          replace hv_217 := hv_217.le RP2_mono hM_231
          replace hv_227 := hv_227.le (RSl_mono RP2_mono) hM_231
          replace hv_229 := hv_229.le (RSl_mono RP2_mono) hM_231
          refine ⟨fun x hq hb => (agree_le (hM_228.trans (hM_230.trans hM_231)) S.imm), ?_⟩
          refine D_yes E rfl rfl rfl rfl (X_pu E S rfl rfl rfl (impl_Keys hv_229 (by first | omega | (simp; done) | (simp; omega)) (by first | omega | (simp; done) | (simp; omega))) (Hp.le.refl _) ?_)
          clear E a S; rintro a v_234 w M_233 hM_233 hv_234 S E
          replace h0 := h0.le RP2_mono hM_233
          replace hb_1 := hM_233.2 _ _ hb_1
          replace hv_4 := hv_4.le RP2_mono hM_233
          replace hv_7 := hv_7.le RP2_mono hM_233
          replace hv_9 := hv_9.le (RSl_mono RP2_mono) hM_233
          replace hv_16 := hv_16.le RP2_mono hM_233
          replace hv_18 := hv_18.le RP2_mono hM_233
          replace hv_200 := hv_200.le RP2_mono hM_233
          replace hv_202 := hv_202.le RP2_mono hM_233
          replace hv_205 := hv_205.le RP2_mono hM_233
          replace hv_209 := hv_209.le RP2_mono hM_233
          replace hv_211 := hv_211.le RP2_mono hM_233
          replace hv_213 := hv_213.le RP2_mono hM_233
          replace hv_217 := hv_217.le RP2_mono hM_233
          replace hv_227 := hv_227.le (RSl_mono RP2_mono) hM_233
          replace hv_229 := hv_229.le (RSl_mono RP2_mono) hM_233
          replace hv_232 := hv_232.le hM_233
          refine ⟨fun x hq hb => (agree_le (hM_228.trans (hM_230.trans (hM_231.trans hM_233))) S.imm), ?_⟩
          refine D_yes E rfl rfl rfl rfl (X_pu E S rfl rfl rfl (laws_eq hv_232 hv_234) (Hp.le.refl _) ?_)
          clear E a S; rintro a _ w M_235 hM_235 rfl S E
          replace h0 := h0.le RP2_mono hM_235
          replace hb_1 := hM_235.2 _ _ hb_1
          replace hv_4 := hv_4.le RP2_mono hM_235
          replace hv_7 := hv_7.le RP2_mono hM_235
          replace hv_9 := hv_9.le (RSl_mono RP2_mono) hM_235
          replace hv_16 := hv_16.le RP2_mono hM_235
          replace hv_18 := hv_18.le RP2_mono hM_235
          replace hv_200 := hv_200.le RP2_mono hM_235
          replace hv_202 := hv_202.le RP2_mono hM_235
          replace hv_205 := hv_205.le RP2_mono hM_235
          replace hv_209 := hv_209.le RP2_mono hM_235
          replace hv_211 := hv_211.le RP2_mono hM_235
          replace hv_213 := hv_213.le RP2_mono hM_235
          replace hv_217 := hv_217.le RP2_mono hM_235
          replace hv_227 := hv_227.le (RSl_mono RP2_mono) hM_235
          replace hv_229 := hv_229.le (RSl_mono RP2_mono) hM_235
          replace hv_232 := hv_232.le hM_235
          replace hv_234 := hv_234.le hM_235
          refine ⟨fun x hq hb => (agree_le (hM_228.trans (hM_230.trans (hM_231.trans (hM_233.trans hM_235)))) S.imm), ?_⟩
          refine D_v E rfl rfl rfl (fun w hC => (R_pickT E rfl rfl)) ?_
          clear E a; intro a E
          refine D_v E rfl rfl rfl (fun w hC => (R_assign E rfl)) ?_
          clear E a; intro a E
          refine D_end (NoP_n ?_)
          refine T_n ?_
          refine WP_ret ?_
          exact F_ret1 E Try.results10 rfl ⟨_, rfl, M_235, (hM_2.trans (hM_5.trans (hM_6.trans (hM_10.trans (hM_11.trans (hM_13.trans (hM_15.trans (hM_17.trans (hM_199.trans (hM_201.trans (hM_204.trans (hM_206.trans (hM_208.trans (hM_210.trans (hM_212.trans (hM_214.trans (hM_216.trans (hM_228.trans (hM_230.trans (hM_231.trans (hM_233.trans hM_235))))))))))))))))))))), (congrArg Value.bool (by (clear S E; first | (simp; done) | decide | (simp [entE, mkE, putK, swp, srtK_len]; done) | (first | refine dec_t ?_ | refine dec_f ?_ | skip); first | exact inj_L (by assumption) | exact inv_back (inj_yes (by assumption)) | exact rv_keys _ _ | rfl))), S⟩
        ·
         have hb_1k235 := hb_1
         refine DG_endT (C := fun x w => agree M_216 w) (bf := (fun i => [])) [18, 19] [15, 12, 13, 16, 17, 18, 19] (by kernel_rfl) (fun x hq => S.imm) ?_
         refine D_yes E rfl rfl rfl rfl (X_buildM (R := (RSl 2 RP2)) (vs := [v0]) (xs := [l0]) (RSl_mono RP2_mono) E S rfl T70 rfl rfl rfl (by intro u hu; simp only [List.mem_cons, List.not_mem_nil, or_false] at hu; rcases hu with rfl <;> first | exact RdS.one' h0) rfl (rowsC (R := (RSl 2 RP2)) ⟨_, rfl, h0⟩ rowsN) ?_)
         clear E a S; rintro a v_236 w M_237 hM_237 hv_236 S E
         replace h0 := h0.le RP2_mono hM_237
         replace hb_1 := hM_237.2 _ _ hb_1
         replace hv_4 := hv_4.le RP2_mono hM_237
         replace hv_7 := hv_7.le RP2_mono hM_237
         replace hv_9 := hv_9.le (RSl_mono RP2_mono) hM_237
         replace hv_16 := hv_16.le RP2_mono hM_237
         replace hv_18 := hv_18.le RP2_mono hM_237
         replace hv_200 := hv_200.le RP2_mono hM_237
         replace hv_202 := hv_202.le RP2_mono hM_237
         replace hv_205 := hv_205.le RP2_mono hM_237
         replace hv_209 := hv_209.le RP2_mono hM_237
         replace hv_211 := hv_211.le RP2_mono hM_237
         replace hv_213 := hv_213.le RP2_mono hM_237
         replace hv_217 := hv_217.le RP2_mono hM_237
         refine ⟨fun x hq hb => (agree_le hM_237 S.imm), ?_⟩
         refine D_yes E rfl rfl rfl rfl (X_buildM (R := (RSl 2 RP2)) (vs := [v_217]) (xs := [entE ((mkE l0).map (rvv (fun v x => keyAt kk1 kn1 v x)))]) (RSl_mono RP2_mono) E S rfl T70 rfl rfl rfl (by intro u hu; simp only [List.mem_cons, List.not_mem_nil, or_false] at hu; rcases hu with rfl <;> first | exact RdS.one' hv_217) rfl (rowsC (R := (RSl 2 RP2)) ⟨_, rfl, hv_217⟩ rowsN) ?_)
         clear E a S; rintro a v_238 w M_239 hM_239 hv_238 S E
         replace h0 := h0.le RP2_mono hM_239
         replace hb_1 := hM_239.2 _ _ hb_1
         replace hv_4 := hv_4.le RP2_mono hM_239
         replace hv_7 := hv_7.le RP2_mono hM_239
         replace hv_9 := hv_9.le (RSl_mono RP2_mono) hM_239
         replace hv_16 := hv_16.le RP2_mono hM_239
         replace hv_18 := hv_18.le RP2_mono hM_239
         replace hv_200 := hv_200.le RP2_mono hM_239
         replace hv_202 := hv_202.le RP2_mono hM_239
         replace hv_205 := hv_205.le RP2_mono hM_239
         replace hv_209 := hv_209.le RP2_mono hM_239
         replace hv_211 := hv_211.le RP2_mono hM_239
         replace hv_213 := hv_213.le RP2_mono hM_239
         replace hv_217 := hv_217.le RP2_mono hM_239
         replace hv_236 := hv_236.le (RSl_mono RP2_mono) hM_239
         refine ⟨fun x hq hb => (agree_le (hM_237.trans hM_239) S.imm), ?_⟩
         refine D_yes E rfl rfl rfl rfl (X_pu E S rfl rfl rfl (impl_Keys hv_238 (by first | omega | (simp; done) | (simp; omega)) (by first | omega | (simp; done) | (simp; omega))) (Hp.le.refl _) ?_)
         clear E a S; rintro a v_241 w M_240 hM_240 hv_241 S E
         replace h0 := h0.le RP2_mono hM_240
         replace hb_1 := hM_240.2 _ _ hb_1
         replace hv_4 := hv_4.le RP2_mono hM_240
         replace hv_7 := hv_7.le RP2_mono hM_240
         replace hv_9 := hv_9.le (RSl_mono RP2_mono) hM_240
         replace hv_16 := hv_16.le RP2_mono hM_240
         replace hv_18 := hv_18.le RP2_mono hM_240
         replace hv_200 := hv_200.le RP2_mono hM_240
         replace hv_202 := hv_202.le RP2_mono hM_240
         replace hv_205 := hv_205.le RP2_mono hM_240
         replace hv_209 := hv_209.le RP2_mono hM_240
         replace hv_211 := hv_211.le RP2_mono hM_240
         replace hv_213 := hv_213.le RP2_mono hM_240
         replace hv_217 := hv_217.le RP2_mono hM_240
         replace hv_236 := hv_236.le (RSl_mono RP2_mono) hM_240
         replace hv_238 := hv_238.le (RSl_mono RP2_mono) hM_240
         refine ⟨fun x hq hb => (agree_le (hM_237.trans (hM_239.trans hM_240)) S.imm), ?_⟩
         refine D_yes E rfl rfl rfl rfl (X_pu E S rfl rfl rfl (impl_Keys hv_236 (by first | omega | (simp; done) | (simp; omega)) (by first | omega | (simp; done) | (simp; omega))) (Hp.le.refl _) ?_)
         clear E a S; rintro a v_243 w M_242 hM_242 hv_243 S E
         replace h0 := h0.le RP2_mono hM_242
         replace hb_1 := hM_242.2 _ _ hb_1
         replace hv_4 := hv_4.le RP2_mono hM_242
         replace hv_7 := hv_7.le RP2_mono hM_242
         replace hv_9 := hv_9.le (RSl_mono RP2_mono) hM_242
         replace hv_16 := hv_16.le RP2_mono hM_242
         replace hv_18 := hv_18.le RP2_mono hM_242
         replace hv_200 := hv_200.le RP2_mono hM_242
         replace hv_202 := hv_202.le RP2_mono hM_242
         replace hv_205 := hv_205.le RP2_mono hM_242
         replace hv_209 := hv_209.le RP2_mono hM_242
         replace hv_211 := hv_211.le RP2_mono hM_242
         replace hv_213 := hv_213.le RP2_mono hM_242
         replace hv_217 := hv_217.le RP2_mono hM_242
         replace hv_236 := hv_236.le (RSl_mono RP2_mono) hM_242
         replace hv_238 := hv_238.le (RSl_mono RP2_mono) hM_242
         replace hv_241 := hv_241.le hM_242
         refine ⟨fun x hq hb => (agree_le (hM_237.trans (hM_239.trans (hM_240.trans hM_242))) S.imm), ?_⟩
         refine D_yes E rfl rfl rfl rfl (X_pu E S rfl rfl rfl (laws_eq hv_241 hv_243) (Hp.le.refl _) ?_)
         clear E a S; rintro a _ w M_244 hM_244 rfl S E
         replace h0 := h0.le RP2_mono hM_244
         replace hb_1 := hM_244.2 _ _ hb_1
         replace hv_4 := hv_4.le RP2_mono hM_244
         replace hv_7 := hv_7.le RP2_mono hM_244
         replace hv_9 := hv_9.le (RSl_mono RP2_mono) hM_244
         replace hv_16 := hv_16.le RP2_mono hM_244
         replace hv_18 := hv_18.le RP2_mono hM_244
         replace hv_200 := hv_200.le RP2_mono hM_244
         replace hv_202 := hv_202.le RP2_mono hM_244
         replace hv_205 := hv_205.le RP2_mono hM_244
         replace hv_209 := hv_209.le RP2_mono hM_244
         replace hv_211 := hv_211.le RP2_mono hM_244
         replace hv_213 := hv_213.le RP2_mono hM_244
         replace hv_217 := hv_217.le RP2_mono hM_244
         replace hv_236 := hv_236.le (RSl_mono RP2_mono) hM_244
         replace hv_238 := hv_238.le (RSl_mono RP2_mono) hM_244
         replace hv_241 := hv_241.le hM_244
         replace hv_243 := hv_243.le hM_244
         refine ⟨fun x hq hb => (agree_le (hM_237.trans (hM_239.trans (hM_240.trans (hM_242.trans hM_244)))) S.imm), ?_⟩
         refine D_v E rfl rfl rfl (fun w hC => (R_pickT E rfl rfl)) ?_
         clear E a; intro a E
         refine D_v E rfl rfl rfl (fun w hC => (R_assign E rfl)) ?_
         clear E a; intro a E
         refine D_end (NoP_n ?_)
         refine T_n ?_
         refine WP_ret ?_
         exact F_ret1 E Try.results10 rfl ⟨_, rfl, M_244, (hM_2.trans (hM_5.trans (hM_6.trans (hM_10.trans (hM_11.trans (hM_13.trans (hM_15.trans (hM_17.trans (hM_199.trans (hM_201.trans (hM_204.trans (hM_206.trans (hM_208.trans (hM_210.trans (hM_212.trans (hM_214.trans (hM_216.trans (hM_237.trans (hM_239.trans (hM_240.trans (hM_242.trans hM_244))))))))))))))))))))), (congrArg Value.bool (by (clear S E; first | (simp; done) | decide | (simp [entE, mkE, putK, swp, srtK_len]; done) | (first | refine dec_t ?_ | refine dec_f ?_ | skip); first | exact inj_L (by assumption) | exact inv_back (inj_yes (by assumption)) | exact rv_keys _ _ | rfl))), S⟩
       ·
        have hb_1k244 := hb_1
        refine DG_takeT (C := fun x w => agree M_214 w) (bf := (fun i => [])) [8, 9, 10] [8, 9, 10, 11] [12, 13, 14, 15, 16, 17, 18, 19] 11 (by kernel_rfl) (fun x hq => S.imm) ?_
        refine D_v E rfl rfl rfl (fun w hC => (R_move E rfl)) ?_
        clear E a; intro a E
        have hc_245 : (decide (entE ((mkE l0).map (rvv (fun v x => keyAt kk1 kn1 v x))) = entE ((mkE l0).map (rvv (fun v x => keyAt kk1 kn1 v x))))) = true := by (clear S E; first | (simp; done) | decide | (simp [entE, mkE, putK, swp, srtK_len]; done) | (first | refine dec_t ?_ | refine dec_f ?_ | skip); first | exact inj_L (by assumption) | exact inv_back (inj_yes (by assumption)) | exact rv_keys _ _ | rfl)
        replace E := E.val (t := 74) rfl hc_245
        replace E := E.val (t := 75) rfl hc_245
        refine D_vyes E rfl rfl rfl rfl rfl (fun w hC => (R_move E rfl)) ?_
        clear E a; intro a E
        refine D_vyes E rfl rfl rfl rfl rfl (fun w hC => (R_loadGM E rfl (Try.isAgg24 _) (Try.sizeOf24 _) hC hb_1k244)) ?_
        clear E a; intro a E
        refine D_yes E rfl rfl rfl rfl (X_pu E S rfl rfl rfl (impl_MapValues h0 (by omega) (by first | omega | (simp; done) | (simp; omega) | exact Nat.le_trans (mkE_len _) (by omega))) (Hp.le.refl _) ?_)
        clear E a S; rintro a v_247 w M_246 hM_246 hv_247 S E
        replace h0 := h0.le RP2_mono hM_246
        replace hb_1 := hM_246.2 _ _ hb_1
        replace hv_4 := hv_4.le RP2_mono hM_246
        replace hv_7 := hv_7.le RP2_mono hM_246
        replace hv_9 := hv_9.le (RSl_mono RP2_mono) hM_246
        replace hv_16 := hv_16.le RP2_mono hM_246
        replace hv_18 := hv_18.le RP2_mono hM_246
        replace hv_200 := hv_200.le RP2_mono hM_246
        replace hv_202 := hv_202.le RP2_mono hM_246
        replace hv_205 := hv_205.le RP2_mono hM_246
        replace hv_209 := hv_209.le RP2_mono hM_246
        replace hv_211 := hv_211.le RP2_mono hM_246
        replace hv_213 := hv_213.le RP2_mono hM_246
        refine ⟨fun x hq hb => (agree_le hM_246 S.imm), ?_⟩
        refine D_end (DT_n ?_)
        refine DG_splitT 12 15 (by decide) (by kernel_rfl) ?_ ?_
        ·
         refine DG_splitT 13 15 (by decide) (by kernel_rfl) ?_ ?_
         ·
          have hb_1k247 := hb_1
          refine DG_endT (C := fun x w => agree M_246 w) (bf := (fun i => [])) [14, 18, 19] [14, 12, 13, 15, 16, 17, 18, 19] (by kernel_rfl) (fun x hq => S.imm) ?_
          refine D_vyes E rfl rfl rfl rfl rfl (fun w hC => (R_move E rfl)) ?_
          clear E a; intro a E
          refine D_yes E rfl rfl rfl rfl (X_buildM (R := (RSl 2 RP2)) (vs := [v_247]) (xs := [entE ((mkE l0).map (rvv (fun v x => keyAt kk1 kn1 v x)))]) (RSl_mono RP2_mono) E S rfl T70 rfl rfl rfl (by intro u hu; simp only [List.mem_cons, List.not_mem_nil, or_false] at hu; rcases hu with rfl <;> first | exact RdS.one' hv_247) rfl (rowsC (R := (RSl 2 RP2)) ⟨_, rfl, hv_247⟩ rowsN) ?_)
          clear E a S; rintro a v_248 w M_249 hM_249 hv_248 S E
          replace h0 := h0.le RP2_mono hM_249
          replace hb_1 := hM_249.2 _ _ hb_1
          replace hv_4 := hv_4.le RP2_mono hM_249
          replace hv_7 := hv_7.le RP2_mono hM_249
          replace hv_9 := hv_9.le (RSl_mono RP2_mono) hM_249
          replace hv_16 := hv_16.le RP2_mono hM_249
          replace hv_18 := hv_18.le RP2_mono hM_249
          replace hv_200 := hv_200.le RP2_mono hM_249
          replace hv_202 := hv_202.le RP2_mono hM_249
          replace hv_205 := hv_205.le RP2_mono hM_249
          replace hv_209 := hv_209.le RP2_mono hM_249
          replace hv_211 := hv_211.le RP2_mono hM_249
          replace hv_213 := hv_213.le RP2_mono hM_249
          replace hv_247 := hv_247.le RP2_mono hM_249
          refine ⟨fun x hq hb => (agree_le hM_249 S.imm), ?_⟩
          refine D_yes E rfl rfl rfl rfl (X_pu E S rfl rfl rfl (impl_Keys hv_248 (by first | omega | (simp; done) | (simp; omega)) (by first | omega | (simp; done) | (simp; omega))) (Hp.le.refl _) ?_)
          clear E a S; rintro a v_251 w M_250 hM_250 hv_251 S E
          replace h0 := h0.le RP2_mono hM_250
          replace hb_1 := hM_250.2 _ _ hb_1
          replace hv_4 := hv_4.le RP2_mono hM_250
          replace hv_7 := hv_7.le RP2_mono hM_250
          replace hv_9 := hv_9.le (RSl_mono RP2_mono) hM_250
          replace hv_16 := hv_16.le RP2_mono hM_250
          replace hv_18 := hv_18.le RP2_mono hM_250
          replace hv_200 := hv_200.le RP2_mono hM_250
          replace hv_202 := hv_202.le RP2_mono hM_250
          replace hv_205 := hv_205.le RP2_mono hM_250
          replace hv_209 := hv_209.le RP2_mono hM_250
          replace hv_211 := hv_211.le RP2_mono hM_250
          replace hv_213 := hv_213.le RP2_mono hM_250
          replace hv_247 := hv_247.le RP2_mono hM_250
          replace hv_248 := hv_248.le (RSl_mono RP2_mono) hM_250
          refine ⟨fun x hq hb => (agree_le (hM_249.trans hM_250) S.imm), ?_⟩
          refine D_yes E rfl rfl rfl rfl (X_buildM (R := (RSl 2 RP2)) (vs := [v0]) (xs := [l0]) (RSl_mono RP2_mono) E S rfl T70 rfl rfl rfl (by intro u hu; simp only [List.mem_cons, List.not_mem_nil, or_false] at hu; rcases hu with rfl <;> first | exact RdS.one' h0) rfl (rowsC (R := (RSl 2 RP2)) ⟨_, rfl, h0⟩ rowsN) ?_)
          clear E a S; rintro a v_252 w M_253 hM_253 hv_252 S E
          replace h0 := h0.le RP2_mono hM_253
          replace hb_1 := hM_253.2 _ _ hb_1
          replace hv_4 := hv_4.le RP2_mono hM_253
          replace hv_7 := hv_7.le RP2_mono hM_253
          replace hv_9 := hv_9.le (RSl_mono RP2_mono) hM_253
          replace hv_16 := hv_16.le RP2_mono hM_253
          replace hv_18 := hv_18.le RP2_mono hM_253
          replace hv_200 := hv_200.le RP2_mono hM_253
          replace hv_202 := hv_202.le RP2_mono hM_253
          replace hv_205 := hv_205.le RP2_mono hM_253
          replace hv_209 := hv_209.le RP2_mono hM_253
          replace hv_211 := hv_211.le RP2_mono hM_253
          replace hv_213 := hv_213.le RP2_mono hM_253
          replace hv_247 := hv_247.le RP2_mono hM_253
          replace hv_248 := hv_248.le (RSl_mono RP2_mono) hM_253
          replace hv_251 := hv_251.le hM_253
          refine ⟨fun x hq hb => (agree_le (hM_249.trans (hM_250.trans hM_253)) S.imm), ?_⟩
          refine D_yes E rfl rfl rfl rfl (X_pu E S rfl rfl rfl (impl_Keys hv_252 (by first | omega | (simp; done) | (simp; omega)) (by first | omega | (simp; done) | (simp; omega))) (Hp.le.refl _) ?_)
          clear E a S; rintro a v_255 w M_254 hM_254 hv_255 S E
          replace h0 := h0.le RP2_mono hM_254
          replace hb_1 := hM_254.2 _ _ hb_1
          replace hv_4 := hv_4.le RP2_mono hM_254
          replace hv_7 := hv_7.le RP2_mono hM_254
          replace hv_9 := hv_9.le (RSl_mono RP2_mono) hM_254
          replace hv_16 := hv_16.le RP2_mono hM_254
          replace hv_18 := hv_18.le RP2_mono hM_254
          replace hv_200 := hv_200.le RP2_mono hM_254
          replace hv_202 := hv_202.le RP2_mono hM_254
          replace hv_205 := hv_205.le RP2_mono hM_254
          replace hv_209 := hv_209.le RP2_mono hM_254
          replace hv_211 := hv_211.le RP2_mono hM_254
          replace hv_213 := hv_213.le RP2_mono hM_254
          replace hv_247 := hv_247.le RP2_mono hM_254
          replace hv_248 := hv_248.le (RSl_mono RP2_mono) hM_254
          replace hv_251 := hv_251.le hM_254
          replace hv_252 := hv_252.le (RSl_mono RP2_mono) hM_254
          refine ⟨fun x hq hb => (agree_le (hM_249.trans (hM_250.trans (hM_253.trans hM_254))) S.imm), ?_⟩
          refine D_yes E rfl rfl rfl rfl (X_pu E S rfl rfl rfl (laws_eq hv_251 hv_255) (Hp.le.refl _) ?_)
          clear E a S; rintro a _ w M_256 hM_256 rfl S E
          replace h0 := h0.le RP2_mono hM_256
          replace hb_1 := hM_256.2 _ _ hb_1
          replace hv_4 := hv_4.le RP2_mono hM_256
          replace hv_7 := hv_7.le RP2_mono hM_256
          replace hv_9 := hv_9.le (RSl_mono RP2_mono) hM_256
          replace hv_16 := hv_16.le RP2_mono hM_256
          replace hv_18 := hv_18.le RP2_mono hM_256
          replace hv_200 := hv_200.le RP2_mono hM_256
          replace hv_202 := hv_202.le RP2_mono hM_256
          replace hv_205 := hv_205.le RP2_mono hM_256
          replace hv_209 := hv_209.le RP2_mono hM_256
          replace hv_211 := hv_211.le RP2_mono hM_256
          replace hv_213 := hv_213.le RP2_mono hM_256
          replace hv_247 := hv_247.le RP2_mono hM_256
          replace hv_248 := hv_248.le (RSl_mono RP2_mono) hM_256
          replace hv_251 := hv_251.le hM_256
          replace hv_252 := hv_252.le (RSl_mono RP2_mono) hM_256
          replace hv_255 := hv_255.le hM_256
          refine ⟨fun x hq hb => (agree_le (hM_249.trans (hM_250.trans (hM_253.trans (hM_254.trans hM_256)))) S.imm), ?_⟩
          refine D_v E rfl rfl rfl (fun w hC => (R_pickT E rfl rfl)) ?_
          clear E a; intro a E
          refine D_v E rfl rfl rfl (fun w hC => (R_assign E rfl)) ?_
          clear E a; intro a E
          refine D_end (NoP_n ?_)
          refine T_n ?_
          refine WP_ret ?_
          exact F_ret1 E Try.results10 rfl ⟨_, rfl, M_256, (hM_2.trans (hM_5.trans (hM_6.trans (hM_10.trans (hM_11.trans (hM_13.trans (hM_15.trans (hM_17.trans (hM_199.trans (hM_201.trans (hM_204.trans (hM_206.trans (hM_208.trans (hM_210.trans (hM_212.trans (hM_214.trans (hM_246.trans (hM_249.trans (hM_250.trans (hM_253.trans (hM_254.trans hM_256))))))))))))))))))))), (congrArg Value.bool (by (clear S E; first | (simp; done) | decide | (simp [entE, mkE, putK, swp, srtK_len]; done) | (first | refine dec_t ?_ | refine dec_f ?_ | skip); first | exact inj_L (by assumption) | exact inv_back (inj_yes (by assumption)) | exact rv_keys _ _ | rfl))), S⟩
         ·
          have hb_1k256 := hb_1
          refine DG_endT (C := fun x w => agree M_246 w) (bf := (fun i => [])) [14, 18, 19] [14, 12, 15, 13, 16, 17, 18, 19] (by kernel_rfl) (fun x hq => S.imm) ?_
          refine D_vyes E rfl rfl rfl rfl rfl (fun w hC => (R_move E rfl)) ?_
          clear E a; intro a E
          refine D_yes E rfl rfl rfl rfl (X_buildM (R := (RSl 2 RP2)) (vs := [v_247]) (xs := [entE ((mkE l0).map (rvv (fun v x => keyAt kk1 kn1 v x)))]) (RSl_mono RP2_mono) E S rfl T70 rfl rfl rfl (by intro u hu; simp only [List.mem_cons, List.not_mem_nil, or_false] at hu; rcases hu with rfl <;> first | exact RdS.one' hv_247) rfl (rowsC (R := (RSl 2 RP2)) ⟨_, rfl, hv_247⟩ rowsN) ?_)
          clear E a S; rintro a v_257 w M_258 hM_258 hv_257 S E
          replace h0 := h0.le RP2_mono hM_258
          replace hb_1 := hM_258.2 _ _ hb_1
          replace hv_4 := hv_4.le RP2_mono hM_258
          replace hv_7 := hv_7.le RP2_mono hM_258
          replace hv_9 := hv_9.le (RSl_mono RP2_mono) hM_258
          replace hv_16 := hv_16.le RP2_mono hM_258
          replace hv_18 := hv_18.le RP2_mono hM_258
          replace hv_200 := hv_200.le RP2_mono hM_258
          replace hv_202 := hv_202.le RP2_mono hM_258
          replace hv_205 := hv_205.le RP2_mono hM_258
          replace hv_209 := hv_209.le RP2_mono hM_258
          replace hv_211 := hv_211.le RP2_mono hM_258
          replace hv_213 := hv_213.le RP2_mono hM_258
          replace hv_247 := hv_247.le RP2_mono hM_258
          refine ⟨fun x hq hb => (agree_le hM_258 S.imm), ?_⟩
          refine D_yes E rfl rfl rfl rfl (X_buildM (R := (RSl 2 RP2)) (vs := [v0]) (xs := [l0]) (RSl_mono RP2_mono) E S rfl T70 rfl rfl rfl (by intro u hu; simp only [List.mem_cons, List.not_mem_nil, or_false] at hu; rcases hu with rfl <;> first | exact RdS.one' h0) rfl (rowsC (R := (RSl 2 RP2)) ⟨_, rfl, h0⟩ rowsN) ?_)
          clear E a S; rintro a v_259 w M_260 hM_260 hv_259 S E
          replace h0 := h0.le RP2_mono hM_260
          replace hb_1 := hM_260.2 _ _ hb_1
          replace hv_4 := hv_4.le RP2_mono hM_260
          replace hv_7 := hv_7.le RP2_mono hM_260
          replace hv_9 := hv_9.le (RSl_mono RP2_mono) hM_260
          replace hv_16 := hv_16.le RP2_mono hM_260
          replace hv_18 := hv_18.le RP2_mono hM_260
          replace hv_200 := hv_200.le RP2_mono hM_260
          replace hv_202 := hv_202.le RP2_mono hM_260
          replace hv_205 := hv_205.le RP2_mono hM_260
          replace hv_209 := hv_209.le RP2_mono hM_260
          replace hv_211 := hv_211.le RP2_mono hM_260
          replace hv_213 := hv_213.le RP2_mono hM_260
          replace hv_247 := hv_247.le RP2_mono hM_260
          replace hv_257 := hv_257.le (RSl_mono RP2_mono) hM_260
          refine ⟨fun x hq hb => (agree_le (hM_258.trans hM_260) S.imm), ?_⟩
          refine D_yes E rfl rfl rfl rfl (X_pu E S rfl rfl rfl (impl_Keys hv_257 (by first | omega | (simp; done) | (simp; omega)) (by first | omega | (simp; done) | (simp; omega))) (Hp.le.refl _) ?_)
          clear E a S; rintro a v_262 w M_261 hM_261 hv_262 S E
          replace h0 := h0.le RP2_mono hM_261
          replace hb_1 := hM_261.2 _ _ hb_1
          replace hv_4 := hv_4.le RP2_mono hM_261
          replace hv_7 := hv_7.le RP2_mono hM_261
          replace hv_9 := hv_9.le (RSl_mono RP2_mono) hM_261
          replace hv_16 := hv_16.le RP2_mono hM_261
          replace hv_18 := hv_18.le RP2_mono hM_261
          replace hv_200 := hv_200.le RP2_mono hM_261
          replace hv_202 := hv_202.le RP2_mono hM_261
          replace hv_205 := hv_205.le RP2_mono hM_261
          replace hv_209 := hv_209.le RP2_mono hM_261
          replace hv_211 := hv_211.le RP2_mono hM_261
          replace hv_213 := hv_213.le RP2_mono hM_261
          replace hv_247 := hv_247.le RP2_mono hM_261
          replace hv_257 := hv_257.le (RSl_mono RP2_mono) hM_261
          replace hv_259 := hv_259.le (RSl_mono RP2_mono) hM_261
          refine ⟨fun x hq hb => (agree_le (hM_258.trans (hM_260.trans hM_261)) S.imm), ?_⟩
          refine D_yes E rfl rfl rfl rfl (X_pu E S rfl rfl rfl (impl_Keys hv_259 (by first | omega | (simp; done) | (simp; omega)) (by first | omega | (simp; done) | (simp; omega))) (Hp.le.refl _) ?_)
          clear E a S; rintro a v_264 w M_263 hM_263 hv_264 S E
          replace h0 := h0.le RP2_mono hM_263
          replace hb_1 := hM_263.2 _ _ hb_1
          replace hv_4 := hv_4.le RP2_mono hM_263
          replace hv_7 := hv_7.le RP2_mono hM_263
          replace hv_9 := hv_9.le (RSl_mono RP2_mono) hM_263
          replace hv_16 := hv_16.le RP2_mono hM_263
          replace hv_18 := hv_18.le RP2_mono hM_263
          replace hv_200 := hv_200.le RP2_mono hM_263
          replace hv_202 := hv_202.le RP2_mono hM_263
          replace hv_205 := hv_205.le RP2_mono hM_263
          replace hv_209 := hv_209.le RP2_mono hM_263
          replace hv_211 := hv_211.le RP2_mono hM_263
          replace hv_213 := hv_213.le RP2_mono hM_263
          replace hv_247 := hv_247.le RP2_mono hM_263
          replace hv_257 := hv_257.le (RSl_mono RP2_mono) hM_263
          replace hv_259 := hv_259.le (RSl_mono RP2_mono) hM_263
          replace hv_262 := hv_262.le hM_263
          refine ⟨fun x hq hb => (agree_le (hM_258.trans (hM_260.trans (hM_261.trans hM_263))) S.imm), ?_⟩
          refine D_yes E rfl rfl rfl rfl (X_pu E S rfl rfl rfl (laws_eq hv_262 hv_264) (Hp.le.refl _) ?_)
          clear E a S; rintro a _ w M_265 hM_265 rfl S E
          replace h0 := h0.le RP2_mono hM_265
          replace hb_1 := hM_265.2 _ _ hb_1
          replace hv_4 := hv_4.le RP2_mono hM_265
          replace hv_7 := hv_7.le RP2_mono hM_265
          replace hv_9 := hv_9.le (RSl_mono RP2_mono) hM_265
          replace hv_16 := hv_16.le RP2_mono hM_265
          replace hv_18 := hv_18.le RP2_mono hM_265
          replace hv_200 := hv_200.le RP2_mono hM_265
          replace hv_202 := hv_202.le RP2_mono hM_265
          replace hv_205 := hv_205.le RP2_mono hM_265
          replace hv_209 := hv_209.le RP2_mono hM_265
          replace hv_211 := hv_211.le RP2_mono hM_265
          replace hv_213 := hv_213.le RP2_mono hM_265
          replace hv_247 := hv_247.le RP2_mono hM_265
          replace hv_257 := hv_257.le (RSl_mono RP2_mono) hM_265
          replace hv_259 := hv_259.le (RSl_mono RP2_mono) hM_265
          replace hv_262 := hv_262.le hM_265
          replace hv_264 := hv_264.le hM_265
          refine ⟨fun x hq hb => (agree_le (hM_258.trans (hM_260.trans (hM_261.trans (hM_263.trans hM_265)))) S.imm), ?_⟩
          refine D_v E rfl rfl rfl (fun w hC => (R_pickT E rfl rfl)) ?_
          clear E a; intro a E
          refine D_v E rfl rfl rfl (fun w hC => (R_assign E rfl)) ?_
          clear E a; intro a E
          refine D_end (NoP_n ?_)
          refine T_n ?_
          refine WP_ret ?_
          exact F_ret1 E Try.results10 rfl ⟨_, rfl, M_265, (hM_2.trans (hM_5.trans (hM_6.trans (hM_10.trans (hM_11.trans (hM_13.trans (hM_15.trans (hM_17.trans (hM_199.trans (hM_201.trans (hM_204.trans (hM_206.trans (hM_208.trans (hM_210.trans (hM_212.trans (hM_214.trans (hM_246.trans (hM_258.trans (hM_260.trans (hM_261.trans (hM_263.trans hM_265))))))))))))))))))))), (congrArg Value.bool (by (clear S E; first | (simp; done) | decide | (simp [entE, mkE, putK, swp, srtK_len]; done) | (first | refine dec_t ?_ | refine dec_f ?_ | skip); first | exact inj_L (by assumption) | exact inv_back (inj_yes (by assumption)) | exact rv_keys _ _ | rfl))), S⟩
        ·
         have hb_1k265 := hb_1
         refine DG_endT (C := fun x w => agree M_246 w) (bf := (fun i => [])) [14, 18, 19] [14, 15, 12, 13, 16, 17, 18, 19] (by kernel_rfl) (fun x hq => S.imm) ?_
         refine D_vyes E rfl rfl rfl rfl rfl (fun w hC => (R_move E rfl)) ?_
         clear E a; intro a E
         refine D_yes E rfl rfl rfl rfl (X_buildM (R := (RSl 2 RP2)) (vs := [v0]) (xs := [l0]) (RSl_mono RP2_mono) E S rfl T70 rfl rfl rfl (by intro u hu; simp only [List.mem_cons, List.not_mem_nil, or_false] at hu; rcases hu with rfl <;> first | exact RdS.one' h0) rfl (rowsC (R := (RSl 2 RP2)) ⟨_, rfl, h0⟩ rowsN) ?_)
         clear E a S; rintro a v_266 w M_267 hM_267 hv_266 S E
         replace h0 := h0.le RP2_mono hM_267
         replace hb_1 := hM_267.2 _ _ hb_1
         replace hv_4 := hv_4.le RP2_mono hM_267
         replace hv_7 := hv_7.le RP2_mono hM_267
         replace hv_9 := hv_9.le (RSl_mono RP2_mono) hM_267
         replace hv_16 := hv_16.le RP2_mono hM_267
         replace hv_18 := hv_18.le RP2_mono hM_267
         replace hv_200 := hv_200.le RP2_mono hM_267
         replace hv_202 := hv_202.le RP2_mono hM_267
         replace hv_205 := hv_205.le RP2_mono hM_267
         replace hv_209 := hv_209.le RP2_mono hM_267
         replace hv_211 := hv_211.le RP2_mono hM_267
         replace hv_213 := hv_213.le RP2_mono hM_267
         replace hv_247 := hv_247.le RP2_mono hM_267
         refine ⟨fun x hq hb => (agree_le hM_267 S.imm), ?_⟩
         refine D_yes E rfl rfl rfl rfl (X_buildM (R := (RSl 2 RP2)) (vs := [v_247]) (xs := [entE ((mkE l0).map (rvv (fun v x => keyAt kk1 kn1 v x)))]) (RSl_mono RP2_mono) E S rfl T70 rfl rfl rfl (by intro u hu; simp only [List.mem_cons, List.not_mem_nil, or_false] at hu; rcases hu with rfl <;> first | exact RdS.one' hv_247) rfl (rowsC (R := (RSl 2 RP2)) ⟨_, rfl, hv_247⟩ rowsN) ?_)
         clear E a S; rintro a v_268 w M_269 hM_269 hv_268 S E
         replace h0 := h0.le RP2_mono hM_269
         replace hb_1 := hM_269.2 _ _ hb_1
         replace hv_4 := hv_4.le RP2_mono hM_269
         replace hv_7 := hv_7.le RP2_mono hM_269
         replace hv_9 := hv_9.le (RSl_mono RP2_mono) hM_269
         replace hv_16 := hv_16.le RP2_mono hM_269
         replace hv_18 := hv_18.le RP2_mono hM_269
         replace hv_200 := hv_200.le RP2_mono hM_269
         replace hv_202 := hv_202.le RP2_mono hM_269
         replace hv_205 := hv_205.le RP2_mono hM_269
         replace hv_209 := hv_209.le RP2_mono hM_269
         replace hv_211 := hv_211.le RP2_mono hM_269
         replace hv_213 := hv_213.le RP2_mono hM_269
         replace hv_247 := hv_247.le RP2_mono hM_269
         replace hv_266 := hv_266.le (RSl_mono RP2_mono) hM_269
         refine ⟨fun x hq hb => (agree_le (hM_267.trans hM_269) S.imm), ?_⟩
         refine D_yes E rfl rfl rfl rfl (X_pu E S rfl rfl rfl (impl_Keys hv_268 (by first | omega | (simp; done) | (simp; omega)) (by first | omega | (simp; done) | (simp; omega))) (Hp.le.refl _) ?_)
         clear E a S; rintro a v_271 w M_270 hM_270 hv_271 S E
         replace h0 := h0.le RP2_mono hM_270
         replace hb_1 := hM_270.2 _ _ hb_1
         replace hv_4 := hv_4.le RP2_mono hM_270
         replace hv_7 := hv_7.le RP2_mono hM_270
         replace hv_9 := hv_9.le (RSl_mono RP2_mono) hM_270
         replace hv_16 := hv_16.le RP2_mono hM_270
         replace hv_18 := hv_18.le RP2_mono hM_270
         replace hv_200 := hv_200.le RP2_mono hM_270
         replace hv_202 := hv_202.le RP2_mono hM_270
         replace hv_205 := hv_205.le RP2_mono hM_270
         replace hv_209 := hv_209.le RP2_mono hM_270
         replace hv_211 := hv_211.le RP2_mono hM_270
         replace hv_213 := hv_213.le RP2_mono hM_270
         replace hv_247 := hv_247.le RP2_mono hM_270
         replace hv_266 := hv_266.le (RSl_mono RP2_mono) hM_270
         replace hv_268 := hv_268.le (RSl_mono RP2_mono) hM_270
         refine ⟨fun x hq hb => (agree_le (hM_267.trans (hM_269.trans hM_270)) S.imm), ?_⟩
         refine D_yes E rfl rfl rfl rfl (X_pu E S rfl rfl rfl (impl_Keys hv_266 (by first | omega | (simp; done) | (simp; omega)) (by first | omega | (simp; done) | (simp; omega))) (Hp.le.refl _) ?_)
         clear E a S; rintro a v_273 w M_272 hM_272 hv_273 S E
         replace h0 := h0.le RP2_mono hM_272
         replace hb_1 := hM_272.2 _ _ hb_1
         replace hv_4 := hv_4.le RP2_mono hM_272
         replace hv_7 := hv_7.le RP2_mono hM_272
         replace hv_9 := hv_9.le (RSl_mono RP2_mono) hM_272
         replace hv_16 := hv_16.le RP2_mono hM_272
         replace hv_18 := hv_18.le RP2_mono hM_272
         replace hv_200 := hv_200.le RP2_mono hM_272
         replace hv_202 := hv_202.le RP2_mono hM_272
         replace hv_205 := hv_205.le RP2_mono hM_272
         replace hv_209 := hv_209.le RP2_mono hM_272
         replace hv_211 := hv_211.le RP2_mono hM_272
         replace hv_213 := hv_213.le RP2_mono hM_272
         replace hv_247 := hv_247.le RP2_mono hM_272
         replace hv_266 := hv_266.le (RSl_mono RP2_mono) hM_272
         replace hv_268 := hv_268.le (RSl_mono RP2_mono) hM_272
         replace hv_271 := hv_271.le hM_272
         refine ⟨fun x hq hb => (agree_le (hM_267.trans (hM_269.trans (hM_270.trans hM_272))) S.imm), ?_⟩
         refine D_yes E rfl rfl rfl rfl (X_pu E S rfl rfl rfl (laws_eq hv_271 hv_273) (Hp.le.refl _) ?_)
         clear E a S; rintro a _ w M_274 hM_274 rfl S E
         replace h0 := h0.le RP2_mono hM_274
         replace hb_1 := hM_274.2 _ _ hb_1
         replace hv_4 := hv_4.le RP2_mono hM_274
         replace hv_7 := hv_7.le RP2_mono hM_274
         replace hv_9 := hv_9.le (RSl_mono RP2_mono) hM_274
         replace hv_16 := hv_16.le RP2_mono hM_274
         replace hv_18 := hv_18.le RP2_mono hM_274
         replace hv_200 := hv_200.le RP2_mono hM_274
         replace hv_202 := hv_202.le RP2_mono hM_274
         replace hv_205 := hv_205.le RP2_mono hM_274
         replace hv_209 := hv_209.le RP2_mono hM_274
         replace hv_211 := hv_211.le RP2_mono hM_274
         replace hv_213 := hv_213.le RP2_mono hM_274
         replace hv_247 := hv_247.le RP2_mono hM_274
         replace hv_266 := hv_266.le (RSl_mono RP2_mono) hM_274
         replace hv_268 := hv_268.le (RSl_mono RP2_mono) hM_274
         replace hv_271 := hv_271.le hM_274
         replace hv_273 := hv_273.le hM_274
         refine ⟨fun x hq hb => (agree_le (hM_267.trans (hM_269.trans (hM_270.trans (hM_272.trans hM_274)))) S.imm), ?_⟩
         refine D_v E rfl rfl rfl (fun w hC => (R_pickT E rfl rfl)) ?_
         clear E a; intro a E
         refine D_v E rfl rfl rfl (fun w hC => (R_assign E rfl)) ?_
         clear E a; intro a E
         refine D_end (NoP_n ?_)
         refine T_n ?_
         refine WP_ret ?_
         exact F_ret1 E Try.results10 rfl ⟨_, rfl, M_274, (hM_2.trans (hM_5.trans (hM_6.trans (hM_10.trans (hM_11.trans (hM_13.trans (hM_15.trans (hM_17.trans (hM_199.trans (hM_201.trans (hM_204.trans (hM_206.trans (hM_208.trans (hM_210.trans (hM_212.trans (hM_214.trans (hM_246.trans (hM_267.trans (hM_269.trans (hM_270.trans (hM_272.trans hM_274))))))))))))))))))))), (congrArg Value.bool (by (clear S E; first | (simp; done) | decide | (simp [entE, mkE, putK, swp, srtK_len]; done) | (first | refine dec_t ?_ | refine dec_f ?_ | skip); first | exact inj_L (by assumption) | exact inv_back (inj_yes (by assumption)) | exact rv_keys _ _ | rfl))), S⟩
      ·
       have hb_1k274 := hb_1
       refine DG_endT (C := fun x w => agree M_214 w) (bf := (fun i => [])) [8, 9, 10, 14, 18, 19] [8, 9, 10, 14, 15, 11, 12, 13, 16, 17, 18, 19] (by kernel_rfl) (fun x hq => S.imm) ?_
       refine D_v E rfl rfl rfl (fun w hC => (R_move E rfl)) ?_
       clear E a; intro a E
       have hc_275 : (decide (entE ((mkE l0).map (rvv (fun v x => keyAt kk1 kn1 v x))) = entE ((mkE l0).map (rvv (fun v x => keyAt kk1 kn1 v x))))) = true := by (clear S E; first | (simp; done) | decide | (simp [entE, mkE, putK, swp, srtK_len]; done) | (first | refine dec_t ?_ | refine dec_f ?_ | skip); first | exact inj_L (by assumption) | exact inv_back (inj_yes (by assumption)) | exact rv_keys _ _ | rfl)
       replace E := E.val (t := 74) rfl hc_275
       replace E := E.val (t := 75) rfl hc_275
       refine D_vyes E rfl rfl rfl rfl rfl (fun w hC => (R_move E rfl)) ?_
       clear E a; intro a E
       refine D_vyes E rfl rfl rfl rfl rfl (fun w hC => (R_loadGM E rfl (Try.isAgg24 _) (Try.sizeOf24 _) hC hb_1k274)) ?_
       clear E a; intro a E
       refine D_vyes E rfl rfl rfl rfl rfl (fun w hC => (R_move E rfl)) ?_
       clear E a; intro a E
       refine D_yes E rfl rfl rfl rfl (X_buildM (R := (RSl 2 RP2)) (vs := [v0]) (xs := [l0]) (RSl_mono RP2_mono) E S rfl T70 rfl rfl rfl (by intro u hu; simp only [List.mem_cons, List.not_mem_nil, or_false] at hu; rcases hu with rfl <;> first | exact RdS.one' h0) rfl (rowsC (R := (RSl 2 RP2)) ⟨_, rfl, h0⟩ rowsN) ?_)
       clear E a S; rintro a v_276 w M_277 hM_277 hv_276 S E
       replace h0 := h0.le RP2_mono hM_277
       replace hb_1 := hM_277.2 _ _ hb_1
       replace hv_4 := hv_4.le RP2_mono hM_277
       replace hv_7 := hv_7.le RP2_mono hM_277
       replace hv_9 := hv_9.le (RSl_mono RP2_mono) hM_277
       replace hv_16 := hv_16.le RP2_mono hM_277
       replace hv_18 := hv_18.le RP2_mono hM_277
       replace hv_200 := hv_200.le RP2_mono hM_277
       replace hv_202 := hv_202.le RP2_mono hM_277
       replace hv_205 := hv_205.le RP2_mono hM_277
       replace hv_209 := hv_209.le RP2_mono hM_277
       replace hv_211 := hv_211.le RP2_mono hM_277
       replace hv_213 := hv_213.le RP2_mono hM_277
       refine ⟨fun x hq hb => (agree_le hM_277 S.imm), ?_⟩
       refine D_yes E rfl rfl rfl rfl (X_pu E S rfl rfl rfl (impl_MapValues h0 (by omega) (by first | omega | (simp; done) | (simp; omega) | exact Nat.le_trans (mkE_len _) (by omega))) (Hp.le.refl _) ?_)
       clear E a S; rintro a v_279 w M_278 hM_278 hv_279 S E
       replace h0 := h0.le RP2_mono hM_278
       replace hb_1 := hM_278.2 _ _ hb_1
       replace hv_4 := hv_4.le RP2_mono hM_278
       replace hv_7 := hv_7.le RP2_mono hM_278
       replace hv_9 := hv_9.le (RSl_mono RP2_mono) hM_278
       replace hv_16 := hv_16.le RP2_mono hM_278
       replace hv_18 := hv_18.le RP2_mono hM_278
       replace hv_200 := hv_200.le RP2_mono hM_278
       replace hv_202 := hv_202.le RP2_mono hM_278
       replace hv_205 := hv_205.le RP2_mono hM_278
       replace hv_209 := hv_209.le RP2_mono hM_278
       replace hv_211 := hv_211.le RP2_mono hM_278
       replace hv_213 := hv_213.le RP2_mono hM_278
       replace hv_276 := hv_276.le (RSl_mono RP2_mono) hM_278
       refine ⟨fun x hq hb => (agree_le (hM_277.trans hM_278) S.imm), ?_⟩
       refine D_yes E rfl rfl rfl rfl (X_buildM (R := (RSl 2 RP2)) (vs := [v_279]) (xs := [entE ((mkE l0).map (rvv (fun v x => keyAt kk1 kn1 v x)))]) (RSl_mono RP2_mono) E S rfl T70 rfl rfl rfl (by intro u hu; simp only [List.mem_cons, List.not_mem_nil, or_false] at hu; rcases hu with rfl <;> first | exact RdS.one' hv_279) rfl (rowsC (R := (RSl 2 RP2)) ⟨_, rfl, hv_279⟩ rowsN) ?_)
       clear E a S; rintro a v_280 w M_281 hM_281 hv_280 S E
       replace h0 := h0.le RP2_mono hM_281
       replace hb_1 := hM_281.2 _ _ hb_1
       replace hv_4 := hv_4.le RP2_mono hM_281
       replace hv_7 := hv_7.le RP2_mono hM_281
       replace hv_9 := hv_9.le (RSl_mono RP2_mono) hM_281
       replace hv_16 := hv_16.le RP2_mono hM_281
       replace hv_18 := hv_18.le RP2_mono hM_281
       replace hv_200 := hv_200.le RP2_mono hM_281
       replace hv_202 := hv_202.le RP2_mono hM_281
       replace hv_205 := hv_205.le RP2_mono hM_281
       replace hv_209 := hv_209.le RP2_mono hM_281
       replace hv_211 := hv_211.le RP2_mono hM_281
       replace hv_213 := hv_213.le RP2_mono hM_281
       replace hv_276 := hv_276.le (RSl_mono RP2_mono) hM_281
       replace hv_279 := hv_279.le RP2_mono hM_281
       refine ⟨fun x hq hb => (agree_le (hM_277.trans (hM_278.trans hM_281)) S.imm), ?_⟩
       refine D_yes E rfl rfl rfl rfl (X_pu E S rfl rfl rfl (impl_Keys hv_280 (by first | omega | (simp; done) | (simp; omega)) (by first | omega | (simp; done) | (simp; omega))) (Hp.le.refl _) ?_)
       clear E a S; rintro a v_283 w M_282 hM_282 hv_283 S E
       replace h0 := h0.le RP2_mono hM_282
       replace hb_1 := hM_282.2 _ _ hb_1
       replace hv_4 := hv_4.le RP2_mono hM_282
       replace hv_7 := hv_7.le RP2_mono hM_282
       replace hv_9 := hv_9.le (RSl_mono RP2_mono) hM_282
       replace hv_16 := hv_16.le RP2_mono hM_282
       replace hv_18 := hv_18.le RP2_mono hM_282
       replace hv_200 := hv_200.le RP2_mono hM_282
       replace hv_202 := hv_202.le RP2_mono hM_282
       replace hv_205 := hv_205.le RP2_mono hM_282
       replace hv_209 := hv_209.le RP2_mono hM_282
       replace hv_211 := hv_211.le RP2_mono hM_282
       replace hv_213 := hv_213.le RP2_mono hM_282
       replace hv_276 := hv_276.le (RSl_mono RP2_mono) hM_282
       replace hv_279 := hv_279.le RP2_mono hM_282
       replace hv_280 := hv_280.le (RSl_mono RP2_mono) hM_282
       refine ⟨fun x hq hb => (agree_le (hM_277.trans (hM_278.trans (hM_281.trans hM_282))) S.imm), ?_⟩
       refine D_yes E rfl rfl rfl rfl (X_pu E S rfl rfl rfl (impl_Keys hv_276 (by first | omega | (simp; done) | (simp; omega)) (by first | omega | (simp; done) | (simp; omega))) (Hp.le.refl _) ?_)
       clear E a S; rintro a v_285 w M_284 hM_284 hv_285 S E
       replace h0 := h0.le RP2_mono hM_284
       replace hb_1 := hM_284.2 _ _ hb_1
       replace hv_4 := hv_4.le RP2_mono hM_284
       replace hv_7 := hv_7.le RP2_mono hM_284
       replace hv_9 := hv_9.le (RSl_mono RP2_mono) hM_284
       replace hv_16 := hv_16.le RP2_mono hM_284
       replace hv_18 := hv_18.le RP2_mono hM_284
       replace hv_200 := hv_200.le RP2_mono hM_284
       replace hv_202 := hv_202.le RP2_mono hM_284
       replace hv_205 := hv_205.le RP2_mono hM_284
       replace hv_209 := hv_209.le RP2_mono hM_284
       replace hv_211 := hv_211.le RP2_mono hM_284
       replace hv_213 := hv_213.le RP2_mono hM_284
       replace hv_276 := hv_276.le (RSl_mono RP2_mono) hM_284
       replace hv_279 := hv_279.le RP2_mono hM_284
       replace hv_280 := hv_280.le (RSl_mono RP2_mono) hM_284
       replace hv_283 := hv_283.le hM_284
       refine ⟨fun x hq hb => (agree_le (hM_277.trans (hM_278.trans (hM_281.trans (hM_282.trans hM_284)))) S.imm), ?_⟩
       refine D_yes E rfl rfl rfl rfl (X_pu E S rfl rfl rfl (laws_eq hv_283 hv_285) (Hp.le.refl _) ?_)
       clear E a S; rintro a _ w M_286 hM_286 rfl S E
       replace h0 := h0.le RP2_mono hM_286
       replace hb_1 := hM_286.2 _ _ hb_1
       replace hv_4 := hv_4.le RP2_mono hM_286
       replace hv_7 := hv_7.le RP2_mono hM_286
       replace hv_9 := hv_9.le (RSl_mono RP2_mono) hM_286
       replace hv_16 := hv_16.le RP2_mono hM_286
       replace hv_18 := hv_18.le RP2_mono hM_286
       replace hv_200 := hv_200.le RP2_mono hM_286
       replace hv_202 := hv_202.le RP2_mono hM_286
       replace hv_205 := hv_205.le RP2_mono hM_286
       replace hv_209 := hv_209.le RP2_mono hM_286
       replace hv_211 := hv_211.le RP2_mono hM_286
       replace hv_213 := hv_213.le RP2_mono hM_286
       replace hv_276 := hv_276.le (RSl_mono RP2_mono) hM_286
       replace hv_279 := hv_279.le RP2_mono hM_286
       replace hv_280 := hv_280.le (RSl_mono RP2_mono) hM_286
       replace hv_283 := hv_283.le hM_286
       replace hv_285 := hv_285.le hM_286
       refine ⟨fun x hq hb => (agree_le (hM_277.trans (hM_278.trans (hM_281.trans (hM_282.trans (hM_284.trans hM_286))))) S.imm), ?_⟩
       refine D_v E rfl rfl rfl (fun w hC => (R_pickT E rfl rfl)) ?_
       clear E a; intro a E
       refine D_v E rfl rfl rfl (fun w hC => (R_assign E rfl)) ?_
       clear E a; intro a E
       refine D_end (NoP_n ?_)
       refine T_n ?_
       refine WP_ret ?_
       exact F_ret1 E Try.results10 rfl ⟨_, rfl, M_286, (hM_2.trans (hM_5.trans (hM_6.trans (hM_10.trans (hM_11.trans (hM_13.trans (hM_15.trans (hM_17.trans (hM_199.trans (hM_201.trans (hM_204.trans (hM_206.trans (hM_208.trans (hM_210.trans (hM_212.trans (hM_214.trans (hM_277.trans (hM_278.trans (hM_281.trans (hM_282.trans (hM_284.trans hM_286))))))))))))))))))))), (congrArg Value.bool (by (clear S E; first | (simp; done) | decide | (simp [entE, mkE, putK, swp, srtK_len]; done) | (first | refine dec_t ?_ | refine dec_f ?_ | skip); first | exact inj_L (by assumption) | exact inv_back (inj_yes (by assumption)) | exact rv_keys _ _ | rfl))), S⟩
     ·
      replace E := E.val (t := 58) rfl hc_203
      replace E := E.val (t := 59) rfl hc_203
      replace hc_203 := of_decide_eq_false hc_203
      refine WL_guard_no E rfl rfl rfl rfl fun a E => ?_
      refine WL_guard_no E rfl rfl rfl rfl fun a E => ?_
      refine WL_guard_no E rfl rfl rfl rfl fun a E => ?_
      refine WL_guard_no E rfl rfl rfl rfl fun a E => ?_
      refine WL_guard_no E rfl rfl rfl rfl fun a E => ?_
      refine WL_guard_no E rfl rfl rfl rfl fun a E => ?_
      refine S_v E rfl (R_pickF E rfl rfl) rfl ?_
      clear E a; intro a E
      refine WL_nil ?_
      refine T_n ?_
      refine WP_condF E rfl rfl ?_
      refine WP_skip ?_
      refine T_n ?_
      refine WP_seq ?_
      refine DG_start Try.mixed ?_
      have hb_1k286 := hb_1
      replace S := S.mono_heap (w' := World.drew _) rfl
      refine DG_take (C := fun x w => agree M_201 w) (bf := (fun i => [])) [0, 1, 3, 5] [0, 1, 3, 5, 2, 4, 6, 7] [8, 9, 10, 11, 12, 13, 14, 15, 16, 17, 18, 19] 7 (by kernel_rfl) (fun x hq => S.imm) ?_
      refine D_v E rfl rfl rfl (fun w hC => (R_move E rfl)) ?_
      clear E a; intro a E
      refine D_v E rfl rfl rfl (fun w hC => (R_loadGM E rfl (Try.isAgg24 _) (Try.sizeOf24 _) hC hb_1k286)) ?_
      clear E a; intro a E
      refine D_v E rfl rfl rfl (fun w hC => (R_move E rfl)) ?_
      clear E a; intro a E
      refine D_v E rfl rfl rfl (fun w hC => (R_loadGM E rfl (Try.isAgg24 _) (Try.sizeOf24 _) hC hb_1k286)) ?_
      clear E a; intro a E
      refine D_x rfl rfl rfl (X_pu E S rfl rfl rfl (impl_MapValues h0 (by omega) (by first | omega | (simp; done) | (simp; omega) | exact Nat.le_trans (mkE_len _) (by omega))) (Hp.le.refl _) ?_)
      clear E a S; rintro a v_288 w M_287 hM_287 hv_288 S E
      replace h0 := h0.le RP2_mono hM_287
      replace hb_1 := hM_287.2 _ _ hb_1
      replace hv_4 := hv_4.le RP2_mono hM_287
      replace hv_7 := hv_7.le RP2_mono hM_287
      replace hv_9 := hv_9.le (RSl_mono RP2_mono) hM_287
      replace hv_16 := hv_16.le RP2_mono hM_287
      replace hv_18 := hv_18.le RP2_mono hM_287
      replace hv_200 := hv_200.le RP2_mono hM_287
      replace hv_202 := hv_202.le RP2_mono hM_287
      refine ⟨fun x hq hb => (agree_le hM_287 S.imm), ?_⟩
      refine D_x rfl rfl rfl (X_pu E S rfl rfl rfl (laws_pairs h0 (by first | omega | (simp [ixm_len]; done) | (simp [ixm_len]; omega) | (have h9 := kpix_len _ _ _; exact Nat.le_trans h9 (by omega)) | exact Nat.le_trans (kpix_len _ _ _) (by first | omega | (simp; omega)))) (Hp.le.refl _) ?_)
      clear E a S; rintro a v_290 w M_289 hM_289 hv_290 S E
      replace h0 := h0.le RP2_mono hM_289
      replace hb_1 := hM_289.2 _ _ hb_1
      replace hv_4 := hv_4.le RP2_mono hM_289
      replace hv_7 := hv_7.le RP2_mono hM_289
      replace hv_9 := hv_9.le (RSl_mono RP2_mono) hM_289
      replace hv_16 := hv_16.le RP2_mono hM_289
      replace hv_18 := hv_18.le RP2_mono hM_289
      replace hv_200 := hv_200.le RP2_mono hM_289
      replace hv_202 := hv_202.le RP2_mono hM_289
      replace hv_288 := hv_288.le RP2_mono hM_289
      refine ⟨fun x hq hb => (agree_le (hM_287.trans hM_289) S.imm), ?_⟩
      refine D_x rfl rfl rfl (X_pu E S rfl rfl rfl (spec_MapValues hv_290 (by omega) (by assumption) (by first | omega | (simp [ixm_len]; done) | (simp [ixm_len]; omega) | (have h9 := kpix_len _ _ _; exact Nat.le_trans h9 (by omega)) | exact Nat.le_trans (kpix_len _ _ _) (by first | omega | (simp; omega)))) (Hp.le.refl _) ?_)
      clear E a S; rintro a v_292 w M_291 hM_291 hv_292 S E
      replace h0 := h0.le RP2_mono hM_291
      replace hb_1 := hM_291.2 _ _ hb_1
      replace hv_4 := hv_4.le RP2_mono hM_291
      replace hv_7 := hv_7.le RP2_mono hM_291
      replace hv_9 := hv_9.le (RSl_mono RP2_mono) hM_291
      replace hv_16 := hv_16.le RP2_mono hM_291
      replace hv_18 := hv_18.le RP2_mono hM_291
      replace hv_200 := hv_200.le RP2_mono hM_291
      replace hv_202 := hv_202.le RP2_mono hM_291
      replace hv_288 := hv_288.le RP2_mono hM_291
      replace hv_290 := hv_290.le RP2_mono hM_291
      refine ⟨fun x hq hb => (agree_le (hM_287.trans (hM_289.trans hM_291)) S.imm), ?_⟩
      refine D_x rfl rfl rfl (X_pu E S rfl rfl rfl (laws_eqRef hv_288 hv_292) (Hp.le.refl _) ?_)
      clear E a S; rintro a _ w M_293 hM_293 rfl S E
      replace h0 := h0.le RP2_mono hM_293
      replace hb_1 := hM_293.2 _ _ hb_1
      replace hv_4 := hv_4.le RP2_mono hM_293
      replace hv_7 := hv_7.le RP2_mono hM_293
      replace hv_9 := hv_9.le (RSl_mono RP2_mono) hM_293
      replace hv_16 := hv_16.le RP2_mono hM_293
      replace hv_18 := hv_18.le RP2_mono hM_293
      replace hv_200 := hv_200.le RP2_mono hM_293
      replace hv_202 := hv_202.le RP2_mono hM_293
      replace hv_288 := hv_288.le RP2_mono hM_293
      replace hv_290 := hv_290.le RP2_mono hM_293
      replace hv_292 := hv_292.le RP2_mono hM_293
      refine ⟨fun x hq hb => (agree_le (hM_287.trans (hM_289.trans (hM_291.trans hM_293))) S.imm), ?_⟩
      refine D_end (DT_n ?_)
      refine DG_splitT 11 15 (by decide) (by kernel_rfl) ?_ ?_
      ·
       refine DG_splitT 14 11 (by decide) (by kernel_rfl) ?_ ?_
       ·
        have hb_1k293 := hb_1
        refine DG_takeT (C := fun x w => agree M_293 w) (bf := (fun i => [])) [8, 9, 10, 14] [8, 9, 10, 14, 11] [12, 13, 15, 16, 17, 18, 19] 11 (by kernel_rfl) (fun x hq => S.imm) ?_
        refine D_v E rfl rfl rfl (fun w hC => (R_move E rfl)) ?_
        clear E a; intro a E
        have hc_294 : (decide (entE ((mkE l0).map (rvv (fun v x => keyAt kk1 kn1 v x))) = entE ((mkE l0).map (rvv (fun v x => keyAt kk1 kn1 v x))))) = true := by (clear S E; first | (simp; done) | decide | (simp [entE, mkE, putK, swp, srtK_len]; done) | (first | refine dec_t ?_ | refine dec_f ?_ | skip); first | exact inj_L (by assumption) | exact inv_back (inj_yes (by assumption)) | exact rv_keys _ _ | rfl)
        replace E := E.val (t := 74) rfl hc_294
        replace E := E.val (t := 75) rfl hc_294
        refine D_vyes E rfl rfl rfl rfl rfl (fun w hC => (R_move E rfl)) ?_
        clear E a; intro a E
        refine D_vyes E rfl rfl rfl rfl rfl (fun w hC => (R_loadGM E rfl (Try.isAgg24 _) (Try.sizeOf24 _) hC hb_1k293)) ?_
        clear E a; intro a E
        refine D_vyes E rfl rfl rfl rfl rfl (fun w hC => (R_move E rfl)) ?_
        clear E a; intro a E
        refine D_yes E rfl rfl rfl rfl (X_pu E S rfl rfl rfl (impl_MapValues h0 (by omega) (by first | omega | (simp; done) | (simp; omega) | exact Nat.le_trans (mkE_len _) (by omega))) (Hp.le.refl _) ?_)
        clear E a S; rintro a v_296 w M_295 hM_295 hv_296 S E
        replace h0 := h0.le RP2_mono hM_295
        replace hb_1 := hM_295.2 _ _ hb_1
        replace hv_4 := hv_4.le RP2_mono hM_295
        replace hv_7 := hv_7.le RP2_mono hM_295
        replace hv_9 := hv_9.le (RSl_mono RP2_mono) hM_295
        replace hv_16 := hv_16.le RP2_mono hM_295
        replace hv_18 := hv_18.le RP2_mono hM_295
        replace hv_200 := hv_200.le RP2_mono hM_295
        replace hv_202 := hv_202.le RP2_mono hM_295
        replace hv_288 := hv_288.le RP2_mono hM_295
        replace hv_290 := hv_290.le RP2_mono hM_295
        replace hv_292 := hv_292.le RP2_mono hM_295
        refine ⟨fun x hq hb => (agree_le hM_295 S.imm), ?_⟩
        refine D_end (DT_n ?_)
        refine DG_splitT 12 15 (by decide) (by kernel_rfl) ?_ ?_
        ·
         refine DG_splitT 13 15 (by decide) (by kernel_rfl) ?_ ?_
         ·
          have hb_1k296 := hb_1
          refine DG_endT (C := fun x w => agree M_295 w) (bf := (fun i => [])) [18, 19] [12, 13, 15, 16, 17, 18, 19] (by kernel_rfl) (fun x hq => S.imm) ?_
          refine D_yes E rfl rfl rfl rfl (X_buildM (R := (RSl 2 RP2)) (vs := [v_296]) (xs := [entE ((mkE l0).map (rvv (fun v x => keyAt kk1 kn1 v x)))]) (RSl_mono RP2_mono) E S rfl T70 rfl rfl rfl (by intro u hu; simp only [List.mem_cons, List.not_mem_nil, or_false] at hu; rcases hu with rfl <;> first | exact RdS.one' hv_296) rfl (rowsC (R := (RSl 2 RP2)) ⟨_, rfl, hv_296⟩ rowsN) ?_)
          clear E a S; rintro a v_297 w M_298 hM_298 hv_297 S E
          replace h0 := h0.le RP2_mono hM_298
          replace hb_1 := hM_298.2 _ _ hb_1
          replace hv_4 := hv_4.le RP2_mono hM_298
          replace hv_7 := hv_7.le RP2_mono hM_298
          replace hv_9 := hv_9.le (RSl_mono RP2_mono) hM_298
          replace hv_16 := hv_16.le RP2_mono hM_298
          replace hv_18 := hv_18.le RP2_mono hM_298
          replace hv_200 := hv_200.le RP2_mono hM_298
          replace hv_202 := hv_202.le RP2_mono hM_298
          replace hv_288 := hv_288.le RP2_mono hM_298
          replace hv_290 := hv_290.le RP2_mono hM_298
          replace hv_292 := hv_292.le RP2_mono hM_298
          replace hv_296 := hv_296.le RP2_mono hM_298
          refine ⟨fun x hq hb => (agree_le hM_298 S.imm), ?_⟩
          refine D_yes E rfl rfl rfl rfl (X_pu E S rfl rfl rfl (impl_Keys hv_297 (by first | omega | (simp; done) | (simp; omega)) (by first | omega | (simp; done) | (simp; omega))) (Hp.le.refl _) ?_)
          clear E a S; rintro a v_300 w M_299 hM_299 hv_300 S E
          replace h0 := h0.le RP2_mono hM_299
          replace hb_1 := hM_299.2 _ _ hb_1
          replace hv_4 := hv_4.le RP2_mono hM_299
          replace hv_7 := hv_7.le RP2_mono hM_299
          replace hv_9 := hv_9.le (RSl_mono RP2_mono) hM_299
          replace hv_16 := hv_16.le RP2_mono hM_299
          replace hv_18 := hv_18.le RP2_mono hM_299
          replace hv_200 := hv_200.le RP2_mono hM_299
          replace hv_202 := hv_202.le RP2_mono hM_299
          replace hv_288 := hv_288.le RP2_mono hM_299
          replace hv_290 := hv_290.le RP2_mono hM_299
          replace hv_292 := hv_292.le RP2_mono hM_299
          replace hv_296 := hv_296.le RP2_mono hM_299
          replace hv_297 := hv_297.le (RSl_mono RP2_mono) hM_299
          refine ⟨fun x hq hb => (agree_le (hM_298.trans hM_299) S.imm), ?_⟩
          refine D_yes E rfl rfl rfl rfl (X_buildM (R := (RSl 2 RP2)) (vs := [v0]) (xs := [l0]) (RSl_mono RP2_mono) E S rfl T70 rfl rfl rfl (by intro u hu; simp only [List.mem_cons, List.not_mem_nil, or_false] at hu; rcases hu with rfl <;> first | exact RdS.one' h0) rfl (rowsC (R := (RSl 2 RP2)) ⟨_, rfl, h0⟩ rowsN) ?_)
          clear E a S; rintro a v_301 w M_302 hM_302 hv_301 S E
          replace h0 := h0.le RP2_mono hM_302
          replace hb_1 := hM_302.2 _ _ hb_1
          replace hv_4 := hv_4.le RP2_mono hM_302
          replace hv_7 := hv_7.le RP2_mono hM_302
          replace hv_9 := hv_9.le (RSl_mono RP2_mono) hM_302
          replace hv_16 := hv_16.le RP2_mono hM_302
          replace hv_18 := hv_18.le RP2_mono hM_302
          replace hv_200 := hv_200.le RP2_mono hM_302
          replace hv_202 := hv_202.le RP2_mono hM_302
          replace hv_288 := hv_288.le RP2_mono hM_302
          replace hv_290 := hv_290.le RP2_mono hM_302
          replace hv_292 := hv_292.le RP2_mono hM_302
          replace hv_296 := hv_296.le RP2_mono hM_302
          replace hv_297 := hv_297.le (RSl_mono RP2_mono) hM_302
          replace hv_300 := hv_300.le hM_302
          refine ⟨fun x hq hb => (agree_le (hM_298.trans (hM_299.trans hM_302)) S.imm), ?_⟩
          refine D_yes E rfl rfl rfl rfl (X_pu E S rfl rfl rfl (impl_Keys hv_301 (by first | omega | (simp; done) | (simp; omega)) (by first | omega | (simp; done) | (simp; omega))) (Hp.le.refl _) ?_)
          clear E a S; rintro a v_304 w M_303 hM_303 hv_304 S E
          replace h0 := h0.le RP2_mono hM_303
          replace hb_1 := hM_303.2 _ _ hb_1
          replace hv_4 := hv_4.le RP2_mono hM_303
          replace hv_7 := hv_7.le RP2_mono hM_303
          replace hv_9 := hv_9.le (RSl_mono RP2_mono) hM_303
          replace hv_16 := hv_16.le RP2_mono hM_303
          replace hv_18 := hv_18.le RP2_mono hM_303
          replace hv_200 := hv_200.le RP2_mono hM_303
          replace hv_202 := hv_202.le RP2_mono hM_303
          replace hv_288 := hv_288.le RP2_mono hM_303
          replace hv_290 := hv_290.le RP2_mono hM_303
          replace hv_292 := hv_292.le RP2_mono hM_303
          replace hv_296 := hv_296.le RP2_mono hM_303
          replace hv_297 := hv_297.le (RSl_mono RP2_mono) hM_303
          replace hv_300 := hv_300.le hM_303
          replace hv_301 := hv_301.le (RSl_mono RP2_mono) hM_303
          refine ⟨fun x hq hb => (agree_le (hM_298.trans (hM_299.trans (hM_302.trans hM_303))) S.imm), ?_⟩
          refine D_yes E rfl rfl rfl rfl (X_pu E S rfl rfl rfl (laws_eq hv_300 hv_304) (Hp.le.refl _) ?_)
          clear E a S; rintro a _ w M_305 hM_305 rfl S E
          replace h0 := h0.le RP2_mono hM_305
          replace hb_1 := hM_305.2 _ _ hb_1
          replace hv_4 := hv_4.le RP2_mono hM_305
          replace hv_7 := hv_7.le RP2_mono hM_305
          replace hv_9 := hv_9.le (RSl_mono RP2_mono) hM_305
          replace hv_16 := hv_16.le RP2_mono hM_305
          replace hv_18 := hv_18.le RP2_mono hM_305
          replace hv_200 := hv_200.le RP2_mono hM_305
          replace hv_202 := hv_202.le RP2_mono hM_305
          replace hv_288 := hv_288.le RP2_mono hM_305
          replace hv_290 := hv_290.le RP2_mono hM_305
          replace hv_292 := hv_292.le RP2_mono hM_305
          replace hv_296 := hv_296.le RP2_mono hM_305
          replace hv_297 := hv_297.le (RSl_mono RP2_mono) hM_305
          replace hv_300 := hv_300.le hM_305
          replace hv_301 := hv_301.le (RSl_mono RP2_mono) hM_305
          replace hv_304 := hv_304.le hM_305
          refine ⟨fun x hq hb => (agree_le (hM_298.trans (hM_299.trans (hM_302.trans (hM_303.trans hM_305)))) S.imm), ?_⟩
          refine D_v E rfl rfl rfl (fun w hC => (R_pickT E rfl rfl)) ?_
          clear E a; intro a E
          refine D_v E rfl rfl rfl (fun w hC => (R_assign E rfl)) ?_
          clear E a; intro a E
          refine D_end (NoP_n ?_)
          refine T_n ?_
          refine WP_ret ?_
          exact F_ret1 E Try.results10 rfl ⟨_, rfl, M_305, (hM_2.trans (hM_5.trans (hM_6.trans (hM_10.trans (hM_11.trans (hM_13.trans (hM_15.trans (hM_17.trans (hM_199.trans (hM_201.trans (hM_287.trans (hM_289.trans (hM_291.trans (hM_293.trans (hM_295.trans (hM_298.trans (hM_299.trans (hM_302.trans (hM_303.trans hM_305))))))))))))))))))), (congrArg Value.bool (by (clear S E; first | (simp; done) | decide | (simp [entE, mkE, putK, swp, srtK_len]; done) | (first | refine dec_t ?_ | refine dec_f ?_ | skip); first | exact inj_L (by assumption) | exact inv_back (inj_yes (by assumption)) | exact rv_keys _ _ | rfl))), S⟩
         ·
          have hb_1k305 := hb_1
          refine DG_endT (C := fun x w => agree M_295 w) (bf := (fun i => [])) [18, 19] [12, 15, 13, 16, 17, 18, 19] (by kernel_rfl) (fun x hq => S.imm) ?_
          refine D_yes E rfl rfl rfl rfl (X_buildM (R := (RSl 2 RP2)) (vs := [v_296]) (xs := [entE ((mkE l0).map (rvv (fun v x => keyAt kk1 kn1 v x)))]) (RSl_mono RP2_mono) E S rfl T70 rfl rfl rfl (by intro u hu; simp only [List.mem_cons, List.not_mem_nil, or_false] at hu; rcases hu with rfl <;> first | exact RdS.one' hv_296) rfl (rowsC (R := (RSl 2 RP2)) ⟨_, rfl, hv_296⟩ rowsN) ?_)
          clear E a S; rintro a v_306 w M_307 hM_307 hv_306 S E
          replace h0 := h0.le RP2_mono hM_307
          replace hb_1 := hM_307.2 _ _ hb_1
          replace hv_4 := hv_4.le RP2_mono hM_307
          replace hv_7 := hv_7.le RP2_mono hM_307
          replace hv_9 := hv_9.le (RSl_mono RP2_mono) hM_307
          replace hv_16 := hv_16.le RP2_mono hM_307
          replace hv_18 := hv_18.le RP2_mono hM_307
          replace hv_200 := hv_200.le RP2_mono hM_307
          replace hv_202 := hv_202.le RP2_mono hM_307
          replace hv_288 := hv_288.le RP2_mono hM_307
          replace hv_290 := hv_290.le RP2_mono hM_307
          replace hv_292 := hv_292.le RP2_mono hM_307
          replace hv_296 := hv_296.le RP2_mono hM_307
          refine ⟨fun x hq hb => (agree_le hM_307 S.imm), ?_⟩
          refine D_yes E rfl rfl rfl rfl (X_buildM (R := (RSl 2 RP2)) (vs := [v0]) (xs := [l0]) (RSl_mono RP2_mono) E S rfl T70 rfl rfl rfl (by intro u hu; simp only [List.mem_cons, List.not_mem_nil, or_false] at hu; rcases hu with rfl <;> first | exact RdS.one' h0) rfl (rowsC (R := (RSl 2 RP2)) ⟨_, rfl, h0⟩ rowsN) ?_)
          clear E a S; rintro a v_308 w M_309 hM_309 hv_308 S E
          replace h0 := h0.le RP2_mono hM_309
          replace hb_1 := hM_309.2 _ _ hb_1
          replace hv_4 := hv_4.le RP2_mono hM_309
          replace hv_7 := hv_7.le RP2_mono hM_309
          replace hv_9 := hv_9.le (RSl_mono RP2_mono) hM_309
          replace hv_16 := hv_16.le RP2_mono hM_309
          replace hv_18 := hv_18.le RP2_mono hM_309
          replace hv_200 := hv_200.le RP2_mono hM_309
          replace hv_202 := hv_202.le RP2_mono hM_309
          replace hv_288 := hv_288.le RP2_mono hM_309
          replace hv_290 := hv_290.le RP2_mono hM_309
          replace hv_292 := hv_292.le RP2_mono hM_309
          replace hv_296 := hv_296.le RP2_mono hM_309
          replace hv_306 := hv_306.le (RSl_mono RP2_mono) hM_309
          refine ⟨fun x hq hb => (agree_le (hM_307.trans hM_309) S.imm), ?_⟩
          refine D_yes E rfl rfl rfl rfl (X_pu E S rfl rfl rfl (impl_Keys hv_306 (by first | omega | (simp; done) | (simp; omega)) (by first | omega | (simp; done) | (simp; omega))) (Hp.le.refl _) ?_)
          clear E a S; rintro a v_311 w M_310 hM_310 hv_311 S E
          replace h0 := h0.le RP2_mono hM_310
          replace hb_1 := hM_310.2 _ _ hb_1
          replace hv_4 := hv_4.le RP2_mono hM_310
          replace hv_7 := hv_7.le RP2_mono hM_310
          replace hv_9 := hv_9.le (RSl_mono RP2_mono) hM_310
          replace hv_16 := hv_16.le RP2_mono hM_310
          replace hv_18 := hv_18.le RP2_mono hM_310
          replace hv_200 := hv_200.le RP2_mono hM_310
          replace hv_202 := hv_202.le RP2_mono hM_310
          replace hv_288 := hv_288.le RP2_mono hM_310
          replace hv_290 := hv_290.le RP2_mono hM_310
          replace hv_292 := hv_292.le RP2_mono hM_310
          replace hv_296 := hv_296.le RP2_mono hM_310
          replace hv_306 := hv_306.le (RSl_mono RP2_mono) hM_310
          replace hv_308 := hv_308.le (RSl_mono RP2_mono) hM_310
          refine ⟨fun x hq hb => (agree_le (hM_307.trans (hM_309.trans hM_310)) S.imm), ?_⟩
          refine D_yes E rfl rfl rfl rfl (X_pu E S rfl rfl rfl (impl_Keys hv_308 (by first | omega | (simp; done) | (simp; omega)) (by first | omega | (simp; done) | (simp; omega))) (Hp.le.refl _) ?_)
          clear E a S; rintro a v_313 w M_312 hM_312 hv_313 S E
          replace h0 := h0.le RP2_mono hM_312
          replace hb_1 := hM_312.2 _ _ hb_1
          replace hv_4 := hv_4.le RP2_mono hM_312
          replace hv_7 := hv_7.le RP2_mono hM_312
          replace hv_9 := hv_9.le (RSl_mono RP2_mono) hM_312
          replace hv_16 := hv_16.le RP2_mono hM_312
          replace hv_18 := hv_18.le RP2_mono hM_312
          replace hv_200 := hv_200.le RP2_mono hM_312
          replace hv_202 := hv_202.le RP2_mono hM_312
          replace hv_288 := hv_288.le RP2_mono hM_312
          replace hv_290 := hv_290.le RP2_mono hM_312
          replace hv_292 := hv_292.le RP2_mono hM_312
          replace hv_296 := hv_296.le RP2_mono hM_312
          replace hv_306 := hv_306.le (RSl_mono RP2_mono) hM_312
          replace hv_308 := hv_308.le (RSl_mono RP2_mono) hM_312
          replace hv_311 := hv_311.le hM_312
          refine ⟨fun x hq hb => (agree_le (hM_307.trans (hM_309.trans (hM_310.trans hM_312))) S.imm), ?_⟩
          refine D_yes E rfl rfl rfl rfl (X_pu E S rfl rfl rfl (laws_eq hv_311 hv_313) (Hp.le.refl _) ?_)
          clear E a S; rintro a _ w M_314 hM_314 rfl S E
          replace h0 := h0.le RP2_mono hM_314
          replace hb_1 := hM_314.2 _ _ hb_1
          replace hv_4 := hv_4.le RP2_mono hM_314
          replace hv_7 := hv_7.le RP2_mono hM_314
          replace hv_9 := hv_9.le (RSl_mono RP2_mono) hM_314
          replace hv_16 := hv_16.le RP2_mono hM_314
          replace hv_18 := hv_18.le RP2_mono hM_314
          replace hv_200 := hv_200.le RP2_mono hM_314
          replace hv_202 := hv_202.le RP2_mono hM_314
          replace hv_288 := hv_288.le RP2_mono hM_314
          replace hv_290 := hv_290.le RP2_mono hM_314
          replace hv_292 := hv_292.le RP2_mono hM_314
          replace hv_296 := hv_296.le RP2_mono hM_314
          replace hv_306 := hv_306.le (RSl_mono RP2_mono) hM_314
          replace hv_308 := hv_308.le (RSl_mono RP2_mono) hM_314
          replace hv_311 := hv_311.le hM_314
          replace hv_313 := hv_313.le hM_314
          refine ⟨fun x hq hb => (agree_le (hM_307.trans (hM_309.trans (hM_310.trans (hM_312.trans hM_314)))) S.imm), ?_⟩
          refine D_v E rfl rfl rfl (fun w hC => (R_pickT E rfl rfl)) ?_
          clear E a; intro a E
          refine D_v E rfl rfl rfl (fun w hC => (R_assign E rfl)) ?_
          clear E a; intro a E
          refine D_end (NoP_n ?_)
          refine T_n ?_
          refine WP_ret ?_
          exact F_ret1 E Try.results10 rfl ⟨_, rfl, M_314, (hM_2.trans (hM_5.trans (hM_6.trans (hM_10.trans (hM_11.trans (hM_13.trans (hM_15.trans (hM_17.trans (hM_199.trans (hM_201.trans (hM_287.trans (hM_289.trans (hM_291.trans (hM_293.trans (hM_295.trans (hM_307.trans (hM_309.trans (hM_310.trans (hM_312.trans hM_314))))))))))))))))))), (congrArg Value.bool (by (clear S E; first | (simp; done) | decide | (simp [entE, mkE, putK, swp, srtK_len]; done) | (first | refine dec_t ?_ | refine dec_f ?_ | skip); first | exact inj_L (by assumption) | exact inv_back (inj_yes (by assumption)) | exact rv_keys _ _ | rfl))), S⟩
        ·
         have hb_1k314 := hb_1
         refine DG_endT (C := fun x w => agree M_295 w) (bf := (fun i => [])) [18, 19] [15, 12, 13, 16, 17, 18, 19] (by kernel_rfl) (fun x hq => S.imm) ?_
         refine D_yes E rfl rfl rfl rfl (X_buildM (R := (RSl 2 RP2)) (vs := [v0]) (xs := [l0]) (RSl_mono RP2_mono) E S rfl T70 rfl rfl rfl (by intro u hu; simp only [List.mem_cons, List.not_mem_nil, or_false] at hu; rcases hu with rfl <;> first | exact RdS.one' h0) rfl (rowsC (R := (RSl 2 RP2)) ⟨_, rfl, h0⟩ rowsN) ?_)
         clear E a S; rintro a v_315 w M_316 hM_316 hv_315 S E
         replace h0 := h0.le RP2_mono hM_316
         replace hb_1 := hM_316.2 _ _ hb_1
         replace hv_4 := hv_4.le RP2_mono hM_316
         replace hv_7 := hv_7.le RP2_mono hM_316
         replace hv_9 := hv_9.le (RSl_mono RP2_mono) hM_316
         replace hv_16 := hv_16.le RP2_mono hM_316
         replace hv_18 := hv_18.le RP2_mono hM_316
         replace hv_200 := hv_200.le RP2_mono hM_316
         replace hv_202 := hv_202.le RP2_mono hM_316
         replace hv_288 := hv_288.le RP2_mono hM_316
         replace hv_290 := hv_290.le RP2_mono hM_316
         replace hv_292 := hv_292.le RP2_mono hM_316
         replace hv_296 := hv_296.le RP2_mono hM_316
         refine ⟨fun x hq hb => (agree_le hM_316 S.imm), ?_⟩
         refine D_yes E rfl rfl rfl rfl (X_buildM (R := (RSl 2 RP2)) (vs := [v_296]) (xs := [entE ((mkE l0).map (rvv (fun v x => keyAt kk1 kn1 v x)))]) (RSl_mono RP2_mono) E S rfl T70 rfl rfl rfl (by intro u hu; simp only [List.mem_cons, List.not_mem_nil, or_false] at hu; rcases hu with rfl <;> first | exact RdS.one' hv_296) rfl (rowsC (R := (RSl 2 RP2)) ⟨_, rfl, hv_296⟩ rowsN) ?_)
         clear E a S; rintro a v_317 w M_318 hM_318 hv_317 S E
         replace h0 := h0.le RP2_mono hM_318
         replace hb_1 := hM_318.2 _ _ hb_1
         replace hv_4 := hv_4.le RP2_mono hM_318
         replace hv_7 := hv_7.le RP2_mono hM_318
         replace hv_9 := hv_9.le (RSl_mono RP2_mono) hM_318
         replace hv_16 := hv_16.le RP2_mono hM_318
         replace hv_18 := hv_18.le RP2_mono hM_318
         replace hv_200 := hv_200.le RP2_mono hM_318
         replace hv_202 := hv_202.le RP2_mono hM_318
         replace hv_288 := hv_288.le RP2_mono hM_318
         replace hv_290 := hv_290.le RP2_mono hM_318
         replace hv_292 := hv_292.le RP2_mono hM_318
         replace hv_296 := hv_296.le RP2_mono hM_318
         replace hv_315 := hv_315.le (RSl_mono RP2_mono) hM_318
         refine ⟨fun x hq hb => (agree_le (hM_316.trans hM_318) S.imm), ?_⟩
         refine D_yes E rfl rfl rfl rfl (X_pu E S rfl rfl rfl (impl_Keys hv_317 (by first | omega | (simp; done) | (simp; omega)) (by first | omega | (simp; done) | (simp; omega))) (Hp.le.refl _) ?_)
         clear E a S; rintro a v_320 w M_319 hM_319 hv_320 S E
         replace h0 := h0.le RP2_mono hM_319
         replace hb_1 := hM_319.2 _ _ hb_1
         replace hv_4 := hv_4.le RP2_mono hM_319
         replace hv_7 := hv_7.le RP2_mono hM_319
         replace hv_9 := hv_9.le (RSl_mono RP2_mono) hM_319
         replace hv_16 := hv_16.le RP2_mono hM_319
         replace hv_18 := hv_18.le RP2_mono hM_319
         replace hv_200 := hv_200.le RP2_mono hM_319
         replace hv_202 := hv_202.le RP2_mono hM_319
         replace hv_288 := hv_288.le RP2_mono hM_319
         replace hv_290 := hv_290.le RP2_mono hM_319
         replace hv_292 := hv_292.le RP2_mono hM_319
         replace hv_296 := hv_296.le RP2_mono hM_319
         replace hv_315 := hv_315.le (RSl_mono RP2_mono) hM_319
         replace hv_317 := hv_317.le (RSl_mono RP2_mono) hM_319
         refine ⟨fun x hq hb => (agree_le (hM_316.trans (hM_318.trans hM_319)) S.imm), ?_⟩
         refine D_yes E rfl rfl rfl rfl (X_pu E S rfl rfl rfl (impl_Keys hv_315 (by first | omega | (simp; done) | (simp; omega)) (by first | omega | (simp; done) | (simp; omega))) (Hp.le.refl _) ?_)
         clear E a S; rintro a v_322 w M_321 hM_321 hv_322 S E
         replace h0 := h0.le RP2_mono hM_321
         replace hb_1 := hM_321.2 _ _ hb_1
         replace hv_4 := hv_4.le RP2_mono hM_321
         replace hv_7 := hv_7.le RP2_mono hM_321
         replace hv_9 := hv_9.le (RSl_mono RP2_mono) hM_321
         replace hv_16 := hv_16.le RP2_mono hM_321
         replace hv_18 := hv_18.le RP2_mono hM_321
         replace hv_200 := hv_200.le RP2_mono hM_321
         replace hv_202 := hv_202.le RP2_mono hM_321
         replace hv_288 := hv_288.le RP2_mono hM_321
         replace hv_290 := hv_290.le RP2_mono hM_321
         replace hv_292 := hv_292.le RP2_mono hM_321
         replace hv_296 := hv_296.le RP2_mono hM_321
         replace hv_315 := hv_315.le (RSl_mono RP2_mono) hM_321
         replace hv_317 := hv_317.le (RSl_mono RP2_mono) hM_321
         replace hv_320 := hv_320.le hM_321
         refine ⟨fun x hq hb => (agree_le (hM_316.trans (hM_318.trans (hM_319.trans hM_321))) S.imm), ?_⟩
         refine D_yes E rfl rfl rfl rfl (X_pu E S rfl rfl rfl (laws_eq hv_320 hv_322) (Hp.le.refl _) ?_)
         clear E a S; rintro a _ w M_323 hM_323 rfl S E
         replace h0 := h0.le RP2_mono hM_323
         replace hb_1 := hM_323.2 _ _ hb_1
         replace hv_4 := hv_4.le RP2_mono hM_323
         replace hv_7 := hv_7.le RP2_mono hM_323
         replace hv_9 := hv_9.le (RSl_mono RP2_mono) hM_323
         replace hv_16 := hv_16.le RP2_mono hM_323
         replace hv_18 := hv_18.le RP2_mono hM_323
         replace hv_200 := hv_200.le RP2_mono hM_323
         replace hv_202 := hv_202.le RP2_mono hM_323
         replace hv_288 := hv_288.le RP2_mono hM_323
         replace hv_290 := hv_290.le RP2_mono hM_323
         replace hv_292 := hv_292.le RP2_mono hM_323
         replace hv_296 := hv_296.le RP2_mono hM_323
         replace hv_315 := hv_315.le (RSl_mono RP2_mono) hM_323
         replace hv_317 := hv_317.le (RSl_mono RP2_mono) hM_323
         replace hv_320 := hv_320.le hM_323
         replace hv_322 := hv_322.le hM_323
         refine ⟨fun x hq hb => (agree_le (hM_316.trans (hM_318.trans (hM_319.trans (hM_321.trans hM_323)))) S.imm), ?_⟩
         refine D_v E rfl rfl rfl (fun w hC => (R_pickT E rfl rfl)) ?_
         clear E a; intro a E
         refine D_v E rfl rfl rfl (fun w hC => (R_assign E rfl)) ?_
         clear E a; intro a E
         refine D_end (NoP_n ?_)
         refine T_n ?_
         refine WP_ret ?_
         exact F_ret1 E Try.results10 rfl ⟨_, rfl, M_323, (hM_2.trans (hM_5.trans (hM_6.trans (hM_10.trans (hM_11.trans (hM_13.trans (hM_15.trans (hM_17.trans (hM_199.trans (hM_201.trans (hM_287.trans (hM_289.trans (hM_291.trans (hM_293.trans (hM_295.trans (hM_316.trans (hM_318.trans (hM_319.trans (hM_321.trans hM_323))))))))))))))))))), (congrArg Value.bool (by (clear S E; first | (simp; done) | decide | (simp [entE, mkE, putK, swp, srtK_len]; done) | (first | refine dec_t ?_ | refine dec_f ?_ | skip); first | exact inj_L (by assumption) | exact inv_back (inj_yes (by assumption)) | exact rv_keys _ _ | rfl))), S⟩
       ·
        have hb_1k323 := hb_1
        refine DG_takeT (C := fun x w => agree M_293 w) (bf := (fun i => [])) [8, 9, 10] [8, 9, 10, 11] [12, 13, 14, 15, 16, 17, 18, 19] 11 (by kernel_rfl) (fun x hq => S.imm) ?_
        refine D_v E rfl rfl rfl (fun w hC => (R_move E rfl)) ?_
        clear E a; intro a E
        have hc_324 : (decide (entE ((mkE l0).map (rvv (fun v x => keyAt kk1 kn1 v x))) = entE ((mkE l0).map (rvv (fun v x => keyAt kk1 kn1 v x))))) = true := by (clear S E; first | (simp; done) | decide | (simp [entE, mkE, putK, swp, srtK_len]; done) | (first | refine dec_t ?_ | refine dec_f ?_ | skip); first | exact inj_L (by assumption) | exact inv_back (inj_yes (by assumption)) | exact rv_keys _ _ | rfl)
        replace E := E.val (t := 74) rfl hc_324
        replace E := E.val (t := 75) rfl hc_324
        refine D_vyes E rfl rfl rfl rfl rfl (fun w hC => (R_move E rfl)) ?_
        clear E a; intro a E
        refine D_vyes E rfl rfl rfl rfl rfl (fun w hC => (R_loadGM E rfl (Try.isAgg24 _) (Try.sizeOf24 _) hC hb_1k323)) ?_
        clear E a; intro a E
        refine D_yes E rfl rfl rfl rfl (X_pu E S rfl rfl rfl (impl_MapValues h0 (by omega) (by first | omega | (simp; done) | (simp; omega) | exact Nat.le_trans (mkE_len _) (by omega))) (Hp.le.refl _) ?_)
        clear E a S; rintro a v_326 w M_325 hM_325 hv_326 S E
        replace h0 := h0.le RP2_mono hM_325
        replace hb_1 := hM_325.2 _ _ hb_1
        replace hv_4 := hv_4.le RP2_mono hM_325
        replace hv_7 := hv_7.le RP2_mono hM_325
        replace hv_9 := hv_9.le (RSl_mono RP2_mono) hM_325
        replace hv_16 := hv_16.le RP2_mono hM_325
        replace hv_18 := hv_18.le RP2_mono hM_325
        replace hv_200 := hv_200.le RP2_mono hM_325
        replace hv_202 := hv_202.le RP2_mono hM_325
        replace hv_288 := hv_288.le RP2_mono hM_325
        replace hv_290 := hv_290.le RP2_mono hM_325
        replace hv_292 := hv_292.le RP2_mono hM_325
        refine ⟨fun x hq hb => (agree_le hM_325 S.imm), ?_⟩
        refine D_end (DT_n ?_)
        refine DG_splitT 12 15 (by decide) (by kernel_rfl) ?_ ?_
        ·
         refine DG_splitT 13 15 (by decide) (by kernel_rfl) ?_ ?_
         ·
          have hb_1k326 := hb_1
          refine DG_endT (C := fun x w => agree M_325 w) (bf := (fun i => [])) [14, 18, 19] [14, 12, 13, 15, 16, 17, 18, 19] (by kernel_rfl) (fun x hq => S.imm) ?_
          refine D_vyes E rfl rfl rfl rfl rfl (fun w hC => (R_move E rfl)) ?_
          clear E a; intro a E
          refine D_yes E rfl rfl rfl rfl (X_buildM (R := (RSl 2 RP2)) (vs := [v_326]) (xs := [entE ((mkE l0).map (rvv (fun v x => keyAt kk1 kn1 v x)))]) (RSl_mono RP2_mono) E S rfl T70 rfl rfl rfl (by intro u hu; simp only [List.mem_cons, List.not_mem_nil, or_false] at hu; rcases hu with rfl <;> first | exact RdS.one' hv_326) rfl (rowsC (R := (RSl 2 RP2)) ⟨_, rfl, hv_326⟩ rowsN) ?_)
          clear E a S; rintro a v_327 w M_328 hM_328 hv_327 S E
          replace h0 := h0.le RP2_mono hM_328
          replace hb_1 := hM_328.2 _ _ hb_1
          replace hv_4 := hv_4.le RP2_mono hM_328
          replace hv_7 := hv_7.le RP2_mono hM_328
          replace hv_9 := hv_9.le (RSl_mono RP2_mono) hM_328
          replace hv_16 := hv_16.le RP2_mono hM_328
          replace hv_18 := hv_18.le RP2_mono hM_328
          replace hv_200 := hv_200.le RP2_mono hM_328
          replace hv_202 := hv_202.le RP2_mono hM_328
          replace hv_288 := hv_288.le RP2_mono hM_328
          replace hv_290 := hv_290.le RP2_mono hM_328
          replace hv_292 := hv_292.le RP2_mono hM_328
          replace hv_326 := hv_326.le RP2_mono hM_328
          refine ⟨fun x hq hb => (agree_le hM_328 S.imm), ?_⟩
          refine D_yes E rfl rfl rfl rfl (X_pu E S rfl rfl rfl (impl_Keys hv_327 (by first | omega | (simp; done) | (simp; omega)) (by first | omega | (simp; done) | (simp; omega))) (Hp.le.refl _) ?_)
          clear E a S; rintro a v_330 w M_329 hM_329 hv_330 S E
          replace h0 := h0.le RP2_mono hM_329
          replace hb_1 := hM_329.2 _ _ hb_1
          replace hv_4 := hv_4.le RP2_mono hM_329
          replace hv_7 := hv_7.le RP2_mono hM_329
          replace hv_9 := hv_9.le (RSl_mono RP2_mono) hM_329
          replace hv_16 := hv_16.le RP2_mono hM_329
          replace hv_18 := hv_18.le RP2_mono hM_329
          replace hv_200 := hv_200.le RP2_mono hM_329
          replace hv_202 := hv_202.le RP2_mono hM_329
          replace hv_288 := hv_288.le RP2_mono hM_329
          replace hv_290 := hv_290.le RP2_mono hM_329
          replace hv_292 := hv_292.le RP2_mono hM_329
          replace hv_326 := hv_326.le RP2_mono hM_329
          replace hv_327 := hv_327.le (RSl_mono RP2_mono) hM_329
          refine ⟨fun x hq hb => (agree_le (hM_328.trans hM_329) S.imm), ?_⟩
          refine D_yes E rfl rfl rfl rfl (X_buildM (R := (RSl 2 RP2)) (vs := [v0]) (xs := [l0]) (RSl_mono RP2_mono) E S rfl T70 rfl rfl rfl (by intro u hu; simp only [List.mem_cons, List.not_mem_nil, or_false] at hu; rcases hu with rfl <;> first | exact RdS.one' h0) rfl (rowsC (R := (RSl 2 RP2)) ⟨_, rfl, h0⟩ rowsN) ?_)
          clear E a S; rintro a v_331 w M_332 hM_332 hv_331 S E
          replace h0 := h0.le RP2_mono hM_332
          replace hb_1 := hM_332.2 _ _ hb_1
          replace hv_4 := hv_4.le RP2_mono hM_332
          replace hv_7 := hv_7.le RP2_mono hM_332
          replace hv_9 := hv_9.le (RSl_mono RP2_mono) hM_332
          replace hv_16 := hv_16.le RP2_mono hM_332
          replace hv_18 := hv_18.le RP2_mono hM_332
          replace hv_200 := hv_200.le RP2_mono hM_332
          replace hv_202 := hv_202.le RP2_mono hM_332
          replace hv_288 := hv_288.le RP2_mono hM_332
          replace hv_290 := hv_290.le RP2_mono hM_332
          replace hv_292 := hv_292.le RP2_mono hM_332
          replace hv_326 := hv_326.le RP2_mono hM_332
          replace hv_327 := hv_327.le (RSl_mono RP2_mono) hM_332
          replace hv_330 := hv_330.le hM_332
          refine ⟨fun x hq hb => (agree_le (hM_328.trans (hM_329.trans hM_332)) S.imm), ?_⟩
          refine D_yes E rfl rfl rfl rfl (X_pu E S rfl rfl rfl (impl_Keys hv_331 (by first | omega | (simp; done) | (simp; omega)) (by first | omega | (simp; done) | (simp; omega))) (Hp.le.refl _) ?_)
          clear E a S; rintro a v_334 w M_333 hM_333 hv_334 S E
          replace h0 := h0.le RP2_mono hM_333
          replace hb_1 := hM_333.2 _ _ hb_1
          replace hv_4 := hv_4.le RP2_mono hM_333
          replace hv_7 := hv_7.le RP2_mono hM_333
          replace hv_9 := hv_9.le (RSl_mono RP2_mono) hM_333
          replace hv_16 := hv_16.le RP2_mono hM_333
          replace hv_18 := hv_18.le RP2_mono hM_333
          replace hv_200 := hv_200.le RP2_mono hM_333
          replace hv_202 := hv_202.le RP2_mono hM_333
          replace hv_288 := hv_288.le RP2_mono hM_333
          replace hv_290 := hv_290.le RP2_mono hM_333
          replace hv_292 := hv_292.le RP2_mono hM_333
          replace hv_326 := hv_326.le RP2_mono hM_333
          replace hv_327 := hv_327.le (RSl_mono RP2_mono) hM_333
          replace hv_330 := hv_330.le hM_333
          replace hv_331 := hv_331.le (RSl_mono RP2_mono) hM_333
          refine ⟨fun x hq hb => (agree_le (hM_328.trans (hM_329.trans (hM_332.trans hM_333))) S.imm), ?_⟩
          refine D_yes E rfl rfl rfl rfl (X_pu E S rfl rfl rfl (laws_eq hv_330 hv_334) (Hp.le.refl _) ?_)
          clear E a S; rintro a _ w M_335 hM_335 rfl S E
          replace h0 := h0.le RP2_mono hM_335
          replace hb_1 := hM_335.2 _ _ hb_1
          replace hv_4 := hv_4.le RP2_mono hM_335
          replace hv_7 := hv_7.le RP2_mono hM_335
          replace hv_9 := hv_9.le (RSl_mono RP2_mono) hM_335
          replace hv_16 := hv_16.le RP2_mono hM_335
          replace hv_18 := hv_18.le RP2_mono hM_335
          replace hv_200 := hv_200.le RP2_mono hM_335
          replace hv_202 := hv_202.le RP2_mono hM_335
          replace hv_288 := hv_288.le RP2_mono hM_335
          replace hv_290 := hv_290.le RP2_mono hM_335
          replace hv_292 := hv_292.le RP2_mono hM_335
          replace hv_326 := hv_326.le RP2_mono hM_335
          replace hv_327 := hv_327.le (RSl_mono RP2_mono) hM_335
          replace hv_330 := hv_330.le hM_335
          replace hv_331 := hv_331.le (RSl_mono RP2_mono) hM_335
          replace hv_334 := hv_334.le hM_335
          refine ⟨fun x hq hb => (agree_le (hM_328.trans (hM_329.trans (hM_332.trans (hM_333.trans hM_335)))) S.imm), ?_⟩
          refine D_v E rfl rfl rfl (fun w hC => (R_pickT E rfl rfl)) ?_
          clear E a; intro a E
          refine D_v E rfl rfl rfl (fun w hC => (R_assign E rfl)) ?_
          clear E a; intro a E
          refine D_end (NoP_n ?_)
          refine T_n ?_
          refine WP_ret ?_
          exact F_ret1 E Try.results10 rfl ⟨_, rfl, M_335, (hM_2.trans (hM_5.trans (hM_6.trans (hM_10.trans (hM_11.trans (hM_13.trans (hM_15.trans (hM_17.trans (hM_199.trans (hM_201.trans (hM_287.trans (hM_289.trans (hM_291.trans (hM_293.trans (hM_325.trans (hM_328.trans (hM_329.trans (hM_332.trans (hM_333.trans hM_335))))))))))))))))))), (congrArg Value.bool (by (clear S E; first | (simp; done) | decide | (simp [entE, mkE, putK, swp, srtK_len]; done) | (first | refine dec_t ?_ | refine dec_f ?_ | skip); first | exact inj_L (by assumption) | exact inv_back (inj_yes (by assumption)) | exact rv_keys _ _ | rfl))), S⟩
         ·
          have hb_1k335 := hb_1
          refine DG_endT (C := fun x w => agree M_325 w) (bf := (fun i => [])) [14, 18, 19] [14, 12, 15, 13, 16, 17, 18, 19] (by kernel_rfl) (fun x hq => S.imm) ?_
          refine D_vyes E rfl rfl rfl rfl rfl (fun w hC => (R_move E rfl)) ?_
          clear E a; intro a E
          refine D_yes E rfl rfl rfl rfl (X_buildM (R := (RSl 2 RP2)) (vs := [v_326]) (xs := [entE ((mkE l0).map (rvv (fun v x => keyAt kk1 kn1 v x)))]) (RSl_mono RP2_mono) E S rfl T70 rfl rfl rfl (by intro u hu; simp only [List.mem_cons, List.not_mem_nil, or_false] at hu; rcases hu with rfl <;> first | exact RdS.one' hv_326) rfl (rowsC (R := (RSl 2 RP2)) ⟨_, rfl, hv_326⟩ rowsN) ?_)
          clear E a S; rintro a v_336 w M_337 hM_337 hv_336 S E
          replace h0 := h0.le RP2_mono hM_337
          replace hb_1 := hM_337.2 _ _ hb_1
          replace hv_4 := hv_4.le RP2_mono hM_337
          replace hv_7 := hv_7.le RP2_mono hM_337
          replace hv_9 := hv_9.le (RSl_mono RP2_mono) hM_337
          replace hv_16 := hv_16.le RP2_mono hM_337
          replace hv_18 := hv_18.le RP2_mono hM_337
          replace hv_200 := hv_200.le RP2_mono hM_337
          replace hv_202 := hv_202.le RP2_mono hM_337
          replace hv_288 := hv_288.le RP2_mono hM_337
          replace hv_290 := hv_290.le RP2_mono hM_337
          replace hv_292 := hv_292.le RP2_mono hM_337
          replace hv_326 := hv_326.le RP2_mono hM_337
          refine ⟨fun x hq hb => (agree_le hM_337 S.imm), ?_⟩
          refine D_yes E rfl rfl rfl rfl (X_buildM (R := (RSl 2 RP2)) (vs := [v0]) (xs := [l0]) (RSl_mono RP2_mono) E S rfl T70 rfl rfl rfl (by intro u hu; simp only [List.mem_cons, List.not_mem_nil, or_false] at hu; rcases hu with rfl <;> first | exact RdS.one' h0) rfl (rowsC (R := (RSl 2 RP2)) ⟨_, rfl, h0⟩ rowsN) ?_)
          clear E a S; rintro a v_338 w M_339 hM_339 hv_338 S E
          replace h0 := h0.le RP2_mono hM_339
          replace hb_1 := hM_339.2 _ _ hb_1
          replace hv_4 := hv_4.le RP2_mono hM_339
          replace hv_7 := hv_7.le RP2_mono hM_339
          replace hv_9 := hv_9.le (RSl_mono RP2_mono) hM_339
          replace hv_16 := hv_16.le RP2_mono hM_339
          replace hv_18 := hv_18.le RP2_mono hM_339
          replace hv_200 := hv_200.le RP2_mono hM_339
          replace hv_202 := hv_202.le RP2_mono hM_339
          replace hv_288 := hv_288.le RP2_mono hM_339
          replace hv_290 := hv_290.le RP2_mono hM_339
          replace hv_292 := hv_292.le RP2_mono hM_339
          replace hv_326 := hv_326.le RP2_mono hM_339
          replace hv_336 := hv_336.le (RSl_mono RP2_mono) hM_339
          refine ⟨fun x hq hb => (agree_le (hM_337.trans hM_339) S.imm), ?_⟩
          refine D_yes E rfl rfl rfl rfl (X_pu E S rfl rfl rfl (impl_Keys hv_336 (by first | omega | (simp; done) | (simp; omega)) (by first | omega | (simp; done) | (simp; omega))) (Hp.le.refl _) ?_)
          clear E a S; rintro a v_341 w M_340 hM_340 hv_341 S E
          replace h0 := h0.le RP2_mono hM_340
          replace hb_1 := hM_340.2 _ _ hb_1
          replace hv_4 := hv_4.le RP2_mono hM_340
          replace hv_7 := hv_7.le RP2_mono hM_340
          replace hv_9 := hv_9.le (RSl_mono RP2_mono) hM_340
          replace hv_16 := hv_16.le RP2_mono hM_340
          replace hv_18 := hv_18.le RP2_mono hM_340
          replace hv_200 := hv_200.le RP2_mono hM_340
          replace hv_202 := hv_202.le RP2_mono hM_340
          replace hv_288 := hv_288.le RP2_mono hM_340
          replace hv_290 := hv_290.le RP2_mono hM_340
          replace hv_292 := hv_292.le RP2_mono hM_340
          replace hv_326 := hv_326.le RP2_mono hM_340
          replace hv_336 := hv_336.le (RSl_mono RP2_mono) hM_340
          replace hv_338 := hv_338.le (RSl_mono RP2_mono) hM_340
          refine ⟨fun x hq hb => (agree_le (hM_337.trans (hM_339.trans hM_340)) S.imm), ?_⟩
          refine D_yes E rfl rfl rfl rfl (X_pu E S rfl rfl rfl (impl_Keys hv_338 (by first | omega | (simp; done) | (simp; omega)) (by first | omega | (simp; done) | (simp; omega))) (Hp.le.refl _) ?_)
          clear E a S; rintro a v_343 w M_342 hM_342 hv_343 S E
          replace h0 := h0.le RP2_mono hM_342
          replace hb_1 := hM_342.2 _ _ hb_1
          replace hv_4 := hv_4.le RP2_mono hM_342
          replace hv_7 := hv_7.le RP2_mono hM_342
          replace hv_9 := hv_9.le (RSl_mono RP2_mono) hM_342
          replace hv_16 := hv_16.le RP2_mono hM_342
          replace hv_18 := hv_18.le RP2_mono hM_342
          replace hv_200 := hv_200.le RP2_mono hM_342
          replace hv_202 := hv_202.le RP2_mono hM_342
          replace hv_288 := hv_288.le RP2_mono hM_342
          replace hv_290 := hv_290.le RP2_mono hM_342
          replace hv_292 := hv_292.le RP2_mono hM_342
          replace hv_326 := hv_326.le RP2_mono hM_342
          replace hv_336 := hv_336.le (RSl_mono RP2_mono) hM_342
          replace hv_338 := hv_338.le (RSl_mono RP2_mono) hM_342
          replace hv_341 := hv_341.le hM_342
          refine ⟨fun x hq hb => (agree_le (hM_337.trans (hM_339.trans (hM_340.trans hM_342))) S.imm), ?_⟩
          refine D_yes E rfl rfl rfl rfl (X_pu E S rfl rfl rfl (laws_eq hv_341 hv_343) (Hp.le.refl _) ?_)
          clear E a S; rintro a _ w M_344 hM_344 rfl S E
          replace h0 := h0.le RP2_mono hM_344
          replace hb_1 := hM_344.2 _ _ hb_1
          replace hv_4 := hv_4.le RP2_mono hM_344
          replace hv_7 := hv_7.le RP2_mono hM_344
          replace hv_9 := hv_9.le (RSl_mono RP2_mono) hM_344
          replace hv_16 := hv_16.le RP2_mono hM_344
          replace hv_18 := hv_18.le RP2_mono hM_344
          replace hv_200 := hv_200.le RP2_mono hM_344
          replace hv_202 := hv_202.le RP2_mono hM_344
          replace hv_288 := hv_288.le RP2_mono hM_344
          replace hv_290 := hv_290.le RP2_mono hM_344
          replace hv_292 := hv_292.le RP2_mono hM_344
          replace hv_326 := hv_326.le RP2_mono hM_344
          replace hv_336 := hv_336.le (RSl_mono RP2_mono) hM_344
          replace hv_338 := hv_338.le (RSl_mono RP2_mono) hM_344
          replace hv_341 := hv_341.le hM_344
          replace hv_343 := hv_343.le hM_344
          refine ⟨fun x hq hb => (agree_le (hM_337.trans (hM_339.trans (hM_340.trans (hM_342.trans hM_344)))) S.imm), ?_⟩
          refine D_v E rfl rfl rfl (fun w hC => (R_pickT E rfl rfl)) ?_
          clear E a; intro a E
          refine D_v E rfl rfl rfl (fun w hC => (R_assign E rfl)) ?_
          clear E a; intro a E
          refine D_end (NoP_n ?_)
          refine T_n ?_
          refine WP_ret ?_
          exact F_ret1 E Try.results10 rfl ⟨_, rfl, M_344, (hM_2.trans (hM_5.trans (hM_6.trans (hM_10.trans (hM_11.trans (hM_13.trans (hM_15.trans (hM_17.trans (hM_199.trans (hM_201.trans (hM_287.trans (hM_289.trans (hM_291.trans (hM_293.trans (hM_325.trans (hM_337.trans (hM_339.trans (hM_340.trans (hM_342.trans hM_344))))))))))))))))))), (congrArg Value.bool (by (clear S E; first | (simp; done) | decide | (simp [entE, mkE, putK, swp, srtK_len]; done) | (first | refine dec_t ?_ | refine dec_f ?_ | skip); first | exact inj_L (by assumption) | exact inv_back (inj_yes (by assumption)) | exact rv_keys _ _ | rfl))), S⟩
        ·
         have hb_1k344 := hb_1
         refine DG_endT (C := fun x w => agree M_325 w) (bf := (fun i => [])) [14, 18, 19] [14, 15, 12, 13, 16, 17, 18, 19] (by kernel_rfl) (fun x hq => S.imm) ?_
         refine D_vyes E rfl rfl rfl rfl rfl (fun w hC => (R_move E rfl)) ?_
         clear E a; intro a E
         refine D_yes E rfl rfl rfl rfl (X_buildM (R := (RSl 2 RP2)) (vs := [v0]) (xs := [l0]) (RSl_mono RP2_mono) E S rfl T70 rfl rfl rfl (by intro u hu; simp only [List.mem_cons, List.not_mem_nil, or_false] at hu; rcases hu with rfl <;> first | exact RdS.one' h0) rfl (rowsC (R := (RSl 2 RP2)) ⟨_, rfl, h0⟩ rowsN) ?_)
         clear E a S; rintro a v_345 w M_346 hM_346 hv_345 S E
         replace h0 := h0.le RP2_mono hM_346
         replace hb_1 := hM_346.2 _ _ hb_1
         replace hv_4 := hv_4.le RP2_mono hM_346
         replace hv_7 := hv_7.le RP2_mono hM_346
         replace hv_9 := hv_9.le (RSl_mono RP2_mono) hM_346
         replace hv_16 := hv_16.le RP2_mono hM_346
         replace hv_18 := hv_18.le RP2_mono hM_346
         replace hv_200 := hv_200.le RP2_mono hM_346
         replace hv_202 := hv_202.le RP2_mono hM_346
         replace hv_288 := hv_288.le RP2_mono hM_346
         replace hv_290 := hv_290.le RP2_mono hM_346
         replace hv_292 := hv_292.le RP2_mono hM_346
         replace hv_326 := hv_326.le RP2_mono hM_346
         refine ⟨fun x hq hb => (agree_le hM_346 S.imm), ?_⟩
         refine D_yes E rfl rfl rfl rfl (X_buildM (R := (RSl 2 RP2)) (vs := [v_326]) (xs := [entE ((mkE l0).map (rvv (fun v x => keyAt kk1 kn1 v x)))]) (RSl_mono RP2_mono) E S rfl T70 rfl rfl rfl (by intro u hu; simp only [List.mem_cons, List.not_mem_nil, or_false] at hu; rcases hu with rfl <;> first | exact RdS.one' hv_326) rfl (rowsC (R := (RSl 2 RP2)) ⟨_, rfl, hv_326⟩ rowsN) ?_)
         clear E a S; rintro a v_347 w M_348 hM_348 hv_347 S E
         replace h0 := h0.le RP2_mono hM_348
         replace hb_1 := hM_348.2 _ _ hb_1
         replace hv_4 := hv_4.le RP2_mono hM_348
         replace hv_7 := hv_7.le RP2_mono hM_348
         replace hv_9 := hv_9.le (RSl_mono RP2_mono) hM_348
         replace hv_16 := hv_16.le RP2_mono hM_348
         replace hv_18 := hv_18.le RP2_mono hM_348
         replace hv_200 := hv_200.le RP2_mono hM_348
         replace hv_202 := hv_202.le RP2_mono hM_348
         replace hv_288 := hv_288.le RP2_mono hM_348
         replace hv_290 := hv_290.le RP2_mono hM_348
         replace hv_292 := hv_292.le RP2_mono hM_348
         replace hv_326 := hv_326.le RP2_mono hM_348
         replace hv_345 := hv_345.le (RSl_mono RP2_mono) hM_348
         refine ⟨fun x hq hb => (agree_le (hM_346.trans hM_348) S.imm), ?_⟩
         refine D_yes E rfl rfl rfl rfl (X_pu E S rfl rfl rfl (impl_Keys hv_347 (by first | omega | (simp; done) | (simp; omega)) (by first | omega | (simp; done) | (simp; omega))) (Hp.le.refl _) ?_)
         clear E a S; rintro a v_350 w M_349 hM_349 hv_350 S E
         replace h0 := h0.le RP2_mono hM_349
         replace hb_1 := hM_349.2 _ _ hb_1
         replace hv_4 := hv_4.le RP2_mono hM_349
         replace hv_7 := hv_7.le RP2_mono hM_349
         replace hv_9 := hv_9.le (RSl_mono RP2_mono) hM_349
         replace hv_16 := hv_16.le RP2_mono hM_349
         replace hv_18 := hv_18.le RP2_mono hM_349
         replace hv_200 := hv_200.le RP2_mono hM_349
         replace hv_202 := hv_202.le RP2_mono hM_349
         replace hv_288 := hv_288.le RP2_mono hM_349
         replace hv_290 := hv_290.le RP2_mono hM_349
         replace hv_292 := hv_292.le RP2_mono hM_349
         replace hv_326 := hv_326.le RP2_mono hM_349
         replace hv_345 := hv_345.le (RSl_mono RP2_mono) hM_349
         replace hv_347 := hv_347.le (RSl_mono RP2_mono) hM_349
         refine ⟨fun x hq hb => (agree_le (hM_346.trans (hM_348.trans hM_349)) S.imm), ?_⟩
         refine D_yes E rfl rfl rfl rfl (X_pu E S rfl rfl rfl (impl_Keys hv_345 (by first | omega | (simp; done) | (simp; omega)) (by first | omega | (simp; done) | (simp; omega))) (Hp.le.refl _) ?_)
         clear E a S; rintro a v_352 w M_351 hM_351 hv_352 S E
         replace h0 := h0.le RP2_mono hM_351
         replace hb_1 := hM_351.2 _ _ hb_1
         replace hv_4 := hv_4.le RP2_mono hM_351
         replace hv_7 := hv_7.le RP2_mono hM_351
         replace hv_9 := hv_9.le (RSl_mono RP2_mono) hM_351
         replace hv_16 := hv_16.le RP2_mono hM_351
         replace hv_18 := hv_18.le RP2_mono hM_351
         replace hv_200 := hv_200.le RP2_mono hM_351
         replace hv_202 := hv_202.le RP2_mono hM_351
         replace hv_288 := hv_288.le RP2_mono hM_351
         replace hv_290 := hv_290.le RP2_mono hM_351
         replace hv_292 := hv_292.le RP2_mono hM_351
         replace hv_326 := hv_326.le RP2_mono hM_351
         replace hv_345 := hv_345.le (RSl_mono RP2_mono) hM_351
         replace hv_347 := hv_347.le (RSl_mono RP2_mono) hM_351
         replace hv_350 := hv_350.le hM_351
         refine ⟨fun x hq hb => (agree_le (hM_346.trans (hM_348.trans (hM_349.trans hM_351))) S.imm), ?_⟩
         refine D_yes E rfl rfl rfl rfl (X_pu E S rfl rfl rfl (laws_eq hv_350 hv_352) (Hp.le.refl _) ?_)
         clear E a S; rintro a _ w M_353 hM_353 rfl S E
         replace h0 := h0.le RP2_mono hM_353
         replace hb_1 := hM_353.2 _ _ hb_1
         replace hv_4 := hv_4.le RP2_mono hM_353
         replace hv_7 := hv_7.le RP2_mono hM_353
         replace hv_9 := hv_9.le (RSl_mono RP2_mono) hM_353
         replace hv_16 := hv_16.le RP2_mono hM_353
         replace hv_18 := hv_18.le RP2_mono hM_353
         replace hv_200 := hv_200.le RP2_mono hM_353
         replace hv_202 := hv_202.le RP2_mono hM_353
         replace hv_288 := hv_288.le RP2_mono hM_353
         replace hv_290 := hv_290.le RP2_mono hM_353
         replace hv_292 := hv_292.le RP2_mono hM_353
         replace hv_326 := hv_326.le RP2_mono hM_353
         replace hv_345 := hv_345.le (RSl_mono RP2_mono) hM_353
         replace hv_347 := hv_347.le (RSl_mono RP2_mono) hM_353
         replace hv_350 := hv_350.le hM_353
         replace hv_352 := hv_352.le hM_353
         refine ⟨fun x hq hb => (agree_le (hM_346.trans (hM_348.trans (hM_349.trans (hM_351.trans hM_353)))) S.imm), ?_⟩
         refine D_v E rfl rfl rfl (fun w hC => (R_pickT E rfl rfl)) ?_
         clear E a; intro a E
         refine D_v E rfl rfl rfl (fun w hC => (R_assign E rfl)) ?_
         clear E a; intro a E
         refine D_end (NoP_n ?_)
         refine T_n ?_
         refine WP_ret ?_
         exact F_ret1 E Try.results10 rfl ⟨_, rfl, M_353, (hM_2.trans (hM_5.trans (hM_6.trans (hM_10.trans (hM_11.trans (hM_13.trans (hM_15.trans (hM_17.trans (hM_199.trans (hM_201.trans (hM_287.trans (hM_289.trans (hM_291.trans (hM_293.trans (hM_325.trans (hM_346.trans (hM_348.trans (hM_349.trans (hM_351.trans hM_353))))))))))))))))))), (congrArg Value.bool (by (clear S E; first | (simp; done) | decide | (simp [entE, mkE, putK, swp, srtK_len]; done) | (first | refine dec_t ?_ | refine dec_f ?_ | skip); first | exact inj_L (by assumption) | exact inv_back (inj_yes (by assumption)) | exact rv_keys _ _ | rfl))), S⟩
      ·
       have hb_1k353 := hb_1
       refine DG_endT (C := fun x w => agree M_293 w) (bf := (fun i => [])) [8, 9, 10, 14, 18, 19] [8, 9, 10, 14, 15, 11, 12, 13, 16, 17, 18, 19] (by kernel_rfl) (fun x hq => S.imm) ?_
       refine D_v E rfl rfl rfl (fun w hC => (R_move E rfl)) ?_
       clear E a; intro a E
       have hc_354 : (decide (entE ((mkE l0).map (rvv (fun v x => keyAt kk1 kn1 v x))) = entE ((mkE l0).map (rvv (fun v x => keyAt kk1 kn1 v x))))) = true := by (clear S E; first | (simp; done) | decide | (simp [entE, mkE, putK, swp, srtK_len]; done) | (first | refine dec_t ?_ | refine dec_f ?_ | skip); first | exact inj_L (by assumption) | exact inv_back (inj_yes (by assumption)) | exact rv_keys _ _ | rfl)
       replace E := E.val (t := 74) rfl hc_354
       replace E := E.val (t := 75) rfl hc_354
       refine D_vyes E rfl rfl rfl rfl rfl (fun w hC => (R_move E rfl)) ?_
       clear E a; intro a E
       refine D_vyes E rfl rfl rfl rfl rfl (fun w hC => (R_loadGM E rfl (Try.isAgg24 _) (Try.sizeOf24 _) hC hb_1k353)) ?_
       clear E a; intro a E
       refine D_vyes E rfl rfl rfl rfl rfl (fun w hC => (R_move E rfl)) ?_
       clear E a; intro a E
       refine D_yes E rfl rfl rfl rfl (X_buildM (R := (RSl 2 RP2)) (vs := [v0]) (xs := [l0]) (RSl_mono RP2_mono) E S rfl T70 rfl rfl rfl (by intro u hu; simp only [List.mem_cons, List.not_mem_nil, or_false] at hu; rcases hu with rfl <;> first | exact RdS.one' h0) rfl (rowsC (R := (RSl 2 RP2)) ⟨_, rfl, h0⟩ rowsN) ?_)
       clear E a S; rintro a v_355 w M_356 hM_356 hv_355 S E
       replace h0 := h0.le RP2_mono hM_356
       replace hb_1 := hM_356.2 _ _ hb_1
       replace hv_4 := hv_4.le RP2_mono hM_356
       replace hv_7 := hv_7.le RP2_mono hM_356
       replace hv_9 := hv_9.le (RSl_mono RP2_mono) hM_356
       replace hv_16 := hv_16.le RP2_mono hM_356
       replace hv_18 := hv_18.le RP2_mono hM_356
       replace hv_200 := hv_200.le RP2_mono hM_356
       replace hv_202 := hv_202.le RP2_mono hM_356
       replace hv_288 := hv_288.le RP2_mono hM_356
       replace hv_290 := hv_290.le RP2_mono hM_356
       replace hv_292 := hv_292.le RP2_mono hM_356
       refine ⟨fun x hq hb => (agree_le hM_356 S.imm), ?_⟩
       refine D_yes E rfl rfl rfl rfl (X_pu E S rfl rfl rfl (impl_MapValues h0 (by omega) (by first | omega | (simp; done) | (simp; omega) | exact Nat.le_trans (mkE_len _) (by omega))) (Hp.le.refl _) ?_)
       clear E a S; rintro a v_358 w M_357 hM_357 hv_358 S E
       replace h0 := h0.le RP2_mono hM_357
       replace hb_1 := hM_357.2 _ _ hb_1
       replace hv_4 := hv_4.le RP2_mono hM_357
       replace hv_7 := hv_7.le RP2_mono hM_357
       replace hv_9 := hv_9.le (RSl_mono RP2_mono) hM_357
       replace hv_16 := hv_16.le RP2_mono hM_357
       replace hv_18 := hv_18.le RP2_mono hM_357
       replace hv_200 := hv_200.le RP2_mono hM_357
       replace hv_202 := hv_202.le RP2_mono hM_357
       replace hv_288 := hv_288.le RP2_mono hM_357
       replace hv_290 := hv_290.le RP2_mono hM_357
       replace hv_292 := hv_292.le RP2_mono hM_357
       replace hv_355 := hv_355.le (RSl_mono RP2_mono) hM_357
       refine ⟨fun x hq hb => (agree_le (hM_356.trans hM_357) S.imm), ?_⟩
       refine D_yes E rfl rfl rfl rfl (X_buildM (R := (RSl 2 RP2)) (vs := [v_358]) (xs := [entE ((mkE l0).map (rvv (fun v x => keyAt kk1 kn1 v x)))]) (RSl_mono RP2_mono) E S rfl T70 rfl rfl rfl (by intro u hu; simp only [List.mem_cons, List.not_mem_nil, or_false] at hu; rcases hu with rfl <;> first | exact RdS.one' hv_358) rfl (rowsC (R := (RSl 2 RP2)) ⟨_, rfl, hv_358⟩ rowsN) ?_)
       clear E a S; rintro a v_359 w M_360 hM_360 hv_359 S E
       replace h0 := h0.le RP2_mono hM_360
       replace hb_1 := hM_360.2 _ _ hb_1
       replace hv_4 := hv_4.le RP2_mono hM_360
       replace hv_7 := hv_7.le RP2_mono hM_360
       replace hv_9 := hv_9.le (RSl_mono RP2_mono) hM_360
       replace hv_16 := hv_16.le RP2_mono hM_360
       replace hv_18 := hv_18.le RP2_mono hM_360
       replace hv_200 := hv_200.le RP2_mono hM_360
       replace hv_202 := hv_202.le RP2_mono hM_360
       replace hv_288 := hv_288.le RP2_mono hM_360
       replace hv_290 := hv_290.le RP2_mono hM_360
       replace hv_292 := hv_292.le RP2_mono hM_360
       replace hv_355 := hv_355.le (RSl_mono RP2_mono) hM_360
       replace hv_358 := hv_358.le RP2_mono hM_360
       refine ⟨fun x hq hb => (agree_le (hM_356.trans (hM_357.trans hM_360)) S.imm), ?_⟩
       refine D_yes E rfl rfl rfl rfl (X_pu E S rfl rfl rfl (impl_Keys hv_359 (by first | omega | (simp; done) | (simp; omega)) (by first | omega | (simp; done) | (simp; omega))) (Hp.le.refl _) ?_)
       clear E a S; rintro a v_362 w M_361 hM_361 hv_362 S E
       replace h0 := h0.le RP2_mono hM_361
       replace hb_1 := hM_361.2 _ _ hb_1
       replace hv_4 := hv_4.le RP2_mono hM_361
       replace hv_7 := hv_7.le RP2_mono hM_361
       replace hv_9 := hv_9.le (RSl_mono RP2_mono) hM_361
       replace hv_16 := hv_16.le RP2_mono hM_361
       replace hv_18 := hv_18.le RP2_mono hM_361
       replace hv_200 := hv_200.le RP2_mono hM_361
       replace hv_202 := hv_202.le RP2_mono hM_361
       replace hv_288 := hv_288.le RP2_mono hM_361
       replace hv_290 := hv_290.le RP2_mono hM_361
       replace hv_292 := hv_292.le RP2_mono hM_361
       replace hv_355 := hv_355.le (RSl_mono RP2_mono) hM_361
       replace hv_358 := hv_358.le RP2_mono hM_361
       replace hv_359 := hv_359.le (RSl_mono RP2_mono) hM_361
       refine ⟨fun x hq hb => (agree_le (hM_356.trans (hM_357.trans (hM_360.trans hM_361))) S.imm), ?_⟩
       refine D_yes E rfl rfl rfl rfl (X_pu E S rfl rfl rfl (impl_Keys hv_355 (by first | omega | (simp; done) | (simp; omega)) (by first | omega | (simp; done) | (simp; omega))) (Hp.le.refl _) ?_)
       clear E a S; rintro a v_364 w M_363 hM_363 hv_364 S E
       replace h0 := h0.le RP2_mono hM_363
       replace hb_1 := hM_363.2 _ _ hb_1
       replace hv_4 := hv_4.le RP2_mono hM_363
       replace hv_7 := hv_7.le RP2_mono hM_363
       replace hv_9 := hv_9.le (RSl_mono RP2_mono) hM_363
       replace hv_16 := hv_16.le RP2_mono hM_363
       replace hv_18 := hv_18.le RP2_mono hM_363
       replace hv_200 := hv_200.le RP2_mono hM_363
       replace hv_202 := hv_202.le RP2_mono hM_363
       replace hv_288 := hv_288.le RP2_mono hM_363
       replace hv_290 := hv_290.le RP2_mono hM_363
       replace hv_292 := hv_292.le RP2_mono hM_363
       replace hv_355 := hv_355.le (RSl_mono RP2_mono) hM_363
       replace hv_358 := hv_358.le RP2_mono hM_363
       replace hv_359 := hv_359.le (RSl_mono RP2_mono) hM_363
       replace hv_362 := hv_362.le hM_363
       refine ⟨fun x hq hb => (agree_le (hM_356.trans (hM_357.trans (hM_360.trans (hM_361.trans hM_363)))) S.imm), ?_⟩
       refine D_yes E rfl rfl rfl rfl (X_pu E S rfl rfl rfl (laws_eq hv_362 hv_364) (Hp.le.refl _) ?_)
       clear E a S; rintro a _ w M_365 hM_365 rfl S E
       replace h0 := h0.le RP2_mono hM_365
       replace hb_1 := hM_365.2 _ _ hb_1
       replace hv_4 := hv_4.le RP2_mono hM_365
       replace hv_7 := hv_7.le RP2_mono hM_365
       replace hv_9 := hv_9.le (RSl_mono RP2_mono) hM_365
       replace hv_16 := hv_16.le RP2_mono hM_365
       replace hv_18 := hv_18.le RP2_mono hM_365
       replace hv_200 := hv_200.le RP2_mono hM_365
       replace hv_202 := hv_202.le RP2_mono hM_365
       replace hv_288 := hv_288.le RP2_mono hM_365
       replace hv_290 := hv_290.le RP2_mono hM_365
       replace hv_292 := hv_292.le RP2_mono hM_365
       replace hv_355 := hv_355.le (RSl_mono RP2_mono) hM_365
       replace hv_358 := hv_358.le RP2_mono hM_365
       replace hv_359 := hv_359.le (RSl_mono RP2_mono) hM_365
       replace hv_362 := hv_362.le hM_365
       replace hv_364 := hv_364.le hM_365
       refine ⟨fun x hq hb => (agree_le (hM_356.trans (hM_357.trans (hM_360.trans (hM_361.trans (hM_363.trans hM_365))))) S.imm), ?_⟩
       refine D_v E rfl rfl rfl (fun w hC => (R_pickT E rfl rfl)) ?_
       clear E a; intro a E
       refine D_v E rfl rfl rfl (fun w hC => (R_assign E rfl)) ?_
       clear E a; intro a E
       refine D_end (NoP_n ?_)
       refine T_n ?_
       refine WP_ret ?_
       exact F_ret1 E Try.results10 rfl ⟨_, rfl, M_365, (hM_2.trans (hM_5.trans (hM_6.trans (hM_10.trans (hM_11.trans (hM_13.trans (hM_15.trans (hM_17.trans (hM_199.trans (hM_201.trans (hM_287.trans (hM_289.trans (hM_291.trans (hM_293.trans (hM_356.trans (hM_357.trans (hM_360.trans (hM_361.trans (hM_363.trans hM_365))))))))))))))))))), (congrArg Value.bool (by (clear S E; first | (simp; done) | decide | (simp [entE, mkE, putK, swp, srtK_len]; done) | (first | refine dec_t ?_ | refine dec_f ?_ | skip); first | exact inj_L (by assumption) | exact inv_back (inj_yes (by assumption)) | exact rv_keys _ _ | rfl))), S⟩

end Go.Proofs.Ytahbobhbookehaa.wFnTurnedMaps
