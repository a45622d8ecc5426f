/- Walks through the functions that laws.FnZipped reaches: what each computes; no conditions beyond what each theorem states. -/
import Derived.Test.YtbdacnblipmapaaWFnZippedb
set_option linter.unusedVariables false
set_option linter.unusedSimpArgs false
namespace Go.Proofs.Ytbdacnblipmapaa.wFnZipped
open Go Go.Sl
set_option maxRecDepth 100000 in
set_option maxHeartbeats 4000000 in
theorem laws_FnZipped {M : Hp} {v0 v1 v2 : Value} {l0 l1 l2 : List Int} (h0 : RdI M v0 l0) (h1 : RdI M v1 l1) (h2 : RdI M v2 l2) {kk3 kn3 : Int} (gk3 : -9223372036854775808 ≤ kn3 ∧ kn3 ≤ 9223372036854775807) (hr0 : (∀ x ∈ l0, -9223372036854775808 ≤ x ∧ x ≤ 9223372036854775807)) :
    PuC Try.prog 10 M [v0, v1, v2, .agg #[.int .i64 kk3, .int .i64 kn3]] (fun r M' => r = .bool true) := by
  refine PuC_enter Try.func10 rfl Try.ntmps10 rfl ?_
  intro a w M1 H hM1 S E
  replace h0 := h0.le hM1
  replace h1 := h1.le hM1
  replace h2 := h2.le hM1
  have b0 := h0.bound
  have b1 := h1.bound
  have b2 := h2.bound
  refine WP_seq ?_
  refine WP_region ?_
  refine S_x (X_box (cs := #[.int .i64 kk3, .int .i64 kn3]) E S rfl rfl rfl ?_)
  clear E a S; rintro a w b_1 E S
  obtain ⟨M_2, hM_2, hb_1, S⟩ := S.freezeB
  replace h0 := h0.le hM_2
  replace h1 := h1.le hM_2
  replace h2 := h2.le hM_2
  refine S_v E rfl (R_assign E rfl) rfl ?_
  clear E a; intro a E
  refine WL_nil ?_
  refine T_n ?_
  refine WP_seq ?_
  refine WP_seq ?_
  refine WP_region ?_
  refine S_v E rfl (R_move E rfl) rfl ?_
  clear E a; intro a E
  refine S_v E rfl (R_lenV E rfl T24 h0.len) rfl ?_
  clear E a; intro a E
  refine S_v E rfl (R_gtr E rfl rfl) rfl ?_
  clear E a; intro a E
  refine S_v E rfl (R_move E rfl) rfl ?_
  clear E a; intro a E
  refine split_bool (decide (2147483647 < (((l0).length : Nat) : Int))) (fun hc_3 => ?_) (fun hc_3 => ?_)
  · replace E := E.val (t := 37) rfl hc_3
    replace E := E.val (t := 38) rfl hc_3
    replace hc_3 := of_decide_eq_true hc_3
    refine WL_guard_no E rfl rfl rfl rfl fun a E => ?_
    refine WL_guard_no E rfl rfl rfl rfl fun a E => ?_
    refine WL_guard_no E rfl rfl rfl rfl fun a E => ?_
    refine S_v E rfl (R_pickT E rfl rfl) rfl ?_
    clear E a; intro a E
    refine S_v E rfl (R_move E rfl) rfl ?_
    clear E a; intro a E
    refine WL_guard_no E rfl rfl rfl rfl fun a E => ?_
    refine WL_guard_no E rfl rfl rfl rfl fun a E => ?_
    refine WL_guard_no E rfl rfl rfl rfl fun a E => ?_
    refine S_v E rfl (R_pickT E rfl rfl) rfl ?_
    clear E a; intro a E
    refine WL_nil ?_
    refine T_n ?_
    refine WP_condT E rfl rfl ?_
    refine WP_seq ?_
    refine WP_region ?_
    refine S_v E rfl (R_assign E rfl) rfl ?_
    clear E a; intro a E
    refine WL_nil ?_
    refine T_n ?_
    refine WP_ret ?_
    refine T_r ?_
    exact F_ret1 E Try.results10 rfl ⟨_, rfl, M_2, hM_2, rfl, S⟩
  · replace E := E.val (t := 37) rfl hc_3
    replace E := E.val (t := 38) rfl hc_3
    replace hc_3 := of_decide_eq_false hc_3
    refine WL_guard_yes E rfl rfl ?_
    refine S_v E rfl (R_move E rfl) rfl ?_
    clear E a; intro a E
    refine WL_guard_yes E rfl rfl ?_
    refine S_v E rfl (R_lenV E rfl T24 h1.len) rfl ?_
    clear E a; intro a E
    refine WL_guard_yes E rfl rfl ?_
    refine S_v E rfl (R_gtr E rfl rfl) rfl ?_
    clear E a; intro a E
    refine S_v E rfl (R_pickF E rfl rfl) rfl ?_
    clear E a; intro a E
    refine S_v E rfl (R_move E rfl) rfl ?_
    clear E a; intro a E
    refine split_bool (decide (2147483647 < (((l1).length : Nat) : Int))) (fun hc_4 => ?_) (fun hc_4 => ?_)
    · replace E := E.val (t := 41) rfl hc_4
      replace E := E.val (t := 42) rfl hc_4
      replace E := E.val (t := 43) rfl hc_4
      replace hc_4 := of_decide_eq_true hc_4
      refine WL_guard_no E rfl rfl rfl rfl fun a E => ?_
      refine WL_guard_no E rfl rfl rfl rfl fun a E => ?_
      refine WL_guard_no E rfl rfl rfl rfl fun a E => ?_
      refine S_v E rfl (R_pickT E rfl rfl) rfl ?_
      clear E a; intro a E
      refine WL_nil ?_
      refine T_n ?_
      refine WP_condT E rfl rfl ?_
      refine WP_seq ?_
      refine WP_region ?_
      refine S_v E rfl (R_assign E rfl) rfl ?_
      clear E a; intro a E
      refine WL_nil ?_
      refine T_n ?_
      refine WP_ret ?_
      refine T_r ?_
      exact F_ret1 E Try.results10 rfl ⟨_, rfl, M_2, hM_2, rfl, S⟩
    · replace E := E.val (t := 41) rfl hc_4
      replace E := E.val (t := 42) rfl hc_4
      replace E := E.val (t := 43) rfl hc_4
      replace hc_4 := of_decide_eq_false hc_4
      refine WL_guard_yes E rfl rfl ?_
      refine S_v E rfl (R_move E rfl) rfl ?_
      clear E a; intro a E
      refine WL_guard_yes E rfl rfl ?_
      refine S_v E rfl (R_lenV E rfl T24 h2.len) rfl ?_
      clear E a; intro a E
      refine WL_guard_yes E rfl rfl ?_
      refine S_v E rfl (R_gtr E rfl rfl) rfl ?_
      clear E a; intro a E
      refine S_v E rfl (R_pickF E rfl rfl) rfl ?_
      clear E a; intro a E
      refine WL_nil ?_
      refine T_n ?_
      refine WP_cond E rfl (fun hc_5 => ?_) (fun hc_5 => ?_)
      · replace hc_5 := of_decide_eq_true hc_5
        refine WP_seq ?_
        refine WP_region ?_
        refine S_v E rfl (R_assign E rfl) rfl ?_
        clear E a; intro a E
        refine WL_nil ?_
        refine T_n ?_
        refine WP_ret ?_
        refine T_r ?_
        exact F_ret1 E Try.results10 rfl ⟨_, rfl, M_2, hM_2, rfl, S⟩
      · replace hc_5 := of_decide_eq_false hc_5
        refine WP_skip ?_
        refine T_n ?_
        refine WP_seq ?_
        refine WP_seq ?_
        refine WP_region ?_
        refine S_x (X_buildI (ys := [1]) E S rfl T24 rfl rfl rfl ?_)
        clear E a S; rintro a w v_6 E S
        refine S_x (X_buildI (ys := [2]) E S rfl T24 rfl rfl rfl ?_)
        clear E a S; rintro a w v_7 E S
        replace S := S.front1
        have S0 := S; clear S
        obtain ⟨M_8, hM_8, hz_9, S⟩ := S0.freezeI (by (first | omega | (simp; done) | (simp only [List.length_take, List.length_map]; omega)))
        clear S0
        replace h0 := h0.le hM_8
        replace h1 := h1.le hM_8
        replace h2 := h2.le hM_8
        replace hb_1 := hM_8.2 _ _ hb_1
        have S0 := S; clear S
        obtain ⟨M_10, hM_10, hz_11, S⟩ := S0.freezeI (by (first | omega | (simp; done) | (simp only [List.length_take, List.length_map]; omega)))
        clear S0
        replace h0 := h0.le hM_10
        replace h1 := h1.le hM_10
        replace h2 := h2.le hM_10
        replace hb_1 := hM_10.2 _ _ hb_1
        replace hz_9 := hz_9.le hM_10
        refine S_x (X_pu E S rfl rfl rfl (impl_Zip2 hz_9 hz_11 (by first | omega | (simp; done) | (simp; omega)) (by first | omega | (simp; done) | (simp; omega))) (Hp.le.refl _) ?_)
        clear E a S; rintro a v_13 w M_12 hM_12 hv_13 S E
        replace h0 := h0.le hM_12
        replace h1 := h1.le hM_12
        replace h2 := h2.le hM_12
        replace hb_1 := hM_12.2 _ _ hb_1
        replace hz_9 := hz_9.le hM_12
        replace hz_11 := hz_11.le hM_12
        refine S_v E rfl (R_lenV E rfl T51 hv_13.len) rfl ?_
        clear E a; intro a E
        refine S_v E rfl (R_neq E rfl rfl) rfl ?_
        clear E a; intro a E
        refine WL_nil ?_
        refine T_n ?_
        have hc_14 : (decide ((((zi2 (max [1].length [2].length) [1] [2]).length : Nat) : Int) ≠ 1)) = false := by (clear S E; first | (simp; done) | decide | exact decide_eq_false (by omega) | (simp [zi2_len]; done) | (simp [zi3_len]; done) | (rw [z2_full0 (by omega)]; simp; done) | (rw [z2_full1 (by omega)]; simp; done) | (rw [z3_full0 (by omega)]; simp; done) | (rw [z3_full1 (by omega)]; simp; done) | (rw [z3_full2 (by omega)]; simp; done) | (simp; omega) | (rw [List.take_of_length_le (show (zi2 (max l0.length l1.length) l0 l1).length ≤ k by omega)]; simp; done) | (rw [List.take_of_length_le (show (zi2 (max l0.length l1.length) l0 l1).length ≤ k2 by omega)]; simp; done) | (rw [List.take_of_length_le (show (zi3 (max (max l0.length l1.length) l2.length) l0 l1 l2).length ≤ k3 by omega)]; simp; done))
        refine WP_condF E rfl hc_14 ?_
        refine WP_skip ?_
        refine T_n ?_
        refine WP_seq ?_
        refine WP_seq ?_
        refine WP_region ?_
        refine S_v E rfl (R_move E rfl) rfl ?_
        clear E a; intro a E
        refine S_v E rfl (R_move E rfl) rfl ?_
        clear E a; intro a E
        refine S_v E rfl (R_move E rfl) rfl ?_
        clear E a; intro a E
        refine S_x (X_buildM (R := RSl 1 RInt) (vs := [v0, v1, v2]) (xs := [l0, l1, l2]) (RSl_mono RInt_mono) E S rfl T22 rfl rfl rfl (by intro u hu; simp only [List.mem_cons, List.not_mem_nil, or_false] at hu; rcases hu with rfl | rfl | rfl <;> first | exact RdI.one h0 | exact RdI.one h1 | exact RdI.one h2 | rfl) rfl (rowsC (R := RSl 1 RInt) (RdI.row h0) (rowsC (R := RSl 1 RInt) (RdI.row h1) (rowsC (R := RSl 1 RInt) (RdI.row h2) rowsN))) ?_)
        clear E a S; rintro a v_15 w M_16 hM_16 hv_15 S E
        replace hv_15 : RdII M_16 v_15 [l0, l1, l2] := hv_15
        replace h0 := h0.le hM_16
        replace h1 := h1.le hM_16
        replace h2 := h2.le hM_16
        replace hb_1 := hM_16.2 _ _ hb_1
        replace hz_9 := hz_9.le hM_16
        replace hz_11 := hz_11.le hM_16
        replace hv_13 := hv_13.le RP2_mono hM_16
        refine S_x (X_pu E S rfl rfl rfl (laws_few hv_15) (Hp.le.refl _) ?_)
        clear E a S; rintro a _ w M_17 hM_17 rfl S E
        replace h0 := h0.le hM_17
        replace h1 := h1.le hM_17
        replace h2 := h2.le hM_17
        replace hb_1 := hM_17.2 _ _ hb_1
        replace hz_9 := hz_9.le hM_17
        replace hz_11 := hz_11.le hM_17
        replace hv_13 := hv_13.le RP2_mono hM_17
        replace hv_15 := hv_15.le hM_17
        refine S_v E rfl (R_not E rfl) rfl ?_
        clear E a; intro a E
        refine S_v E rfl (R_move E rfl) rfl ?_
        clear E a; intro a E
        refine split_bool (!(decide (∀ x ∈ [l0, l1, l2], x.length ≤ 300))) (fun hc_18 => ?_) (fun hc_18 => ?_)
        · replace E := E.val (t := 58) rfl hc_18
          replace E := E.val (t := 59) rfl hc_18
          refine WL_guard_no E rfl rfl rfl rfl fun a E => ?_
          refine WL_guard_no E rfl rfl rfl rfl fun a E => ?_
          refine WL_guard_no E rfl rfl rfl rfl fun a E => ?_
          refine S_v E rfl (R_pickT E rfl rfl) rfl ?_
          clear E a; intro a E
          refine WL_nil ?_
          refine T_n ?_
          refine WP_condT E rfl rfl ?_
          refine WP_seq ?_
          refine WP_region ?_
          refine S_v E rfl (R_assign E rfl) rfl ?_
          clear E a; intro a E
          refine WL_nil ?_
          refine T_n ?_
          refine WP_ret ?_
          refine T_r ?_
          exact F_ret1 E Try.results10 rfl ⟨_, rfl, M_17, (hM_2.trans (hM_8.trans (hM_10.trans (hM_12.trans (hM_16.trans hM_17))))), rfl, S⟩
        · replace E := E.val (t := 58) rfl hc_18
          replace E := E.val (t := 59) rfl hc_18
          refine WL_guard_yes E rfl rfl ?_
          refine S_v E rfl (R_loadGM E rfl (Try.isAgg31 _) (Try.sizeOf31 _) S.imm hb_1) rfl ?_
          clear E a; intro a E
          refine WL_guard_yes E rfl rfl ?_
          refine S_x (X_pu E S rfl rfl rfl (laws_just (by omega)) (Hp.le.refl _) ?_)
          clear E a S; rintro a _ w M_19 hM_19 rfl S E
          replace h0 := h0.le hM_19
          replace h1 := h1.le hM_19
          replace h2 := h2.le hM_19
          replace hb_1 := hM_19.2 _ _ hb_1
          replace hz_9 := hz_9.le hM_19
          replace hz_11 := hz_11.le hM_19
          replace hv_13 := hv_13.le RP2_mono hM_19
          replace hv_15 := hv_15.le hM_19
          refine WL_guard_yes E rfl rfl ?_
          refine S_v E rfl (R_not E rfl) rfl ?_
          clear E a; intro a E
          refine S_v E rfl (R_pickF E rfl rfl) rfl ?_
          clear E a; intro a E
          refine WL_nil ?_
          refine T_n ?_
          refine WP_cond E rfl (fun hc_20 => ?_) (fun hc_20 => ?_)
          · refine WP_seq ?_
            refine WP_region ?_
            refine S_v E rfl (R_assign E rfl) rfl ?_
            clear E a; intro a E
            refine WL_nil ?_
            refine T_n ?_
            refine WP_ret ?_
            refine T_r ?_
            exact F_ret1 E Try.results10 rfl ⟨_, rfl, M_19, (hM_2.trans (hM_8.trans (hM_10.trans (hM_12.trans (hM_16.trans (hM_17.trans hM_19)))))), rfl, S⟩
          · have hkj : -1099511627776 < kn3 ∧ kn3 < 1099511627776 := (by simp_all)
            have hle : l0.length ≤ 300 ∧ l1.length ≤ 300 ∧ l2.length ≤ 300 := (by simp_all)
            have hzl2 := zi2_len (max l0.length l1.length) l0 l1
            have hzl3 := zi3_len (max (max l0.length l1.length) l2.length) l0 l1 l2
            refine WP_skip ?_
            refine T_n ?_
            refine WP_seq ?_
            refine WP_region ?_
            refine S_v E rfl (R_assign E rfl) rfl ?_
            clear E a; intro a E
            refine WL_nil ?_
            refine T_n ?_
            refine WP_seq ?_
            refine WP_region ?_
            refine S_v E rfl (R_move E rfl) rfl ?_
            clear E a; intro a E
            refine S_v E rfl (R_lenV E rfl T24 h0.len) rfl ?_
            clear E a; intro a E
            refine S_v E rfl (R_move E rfl) rfl ?_
            clear E a; intro a E
            refine S_v E rfl (R_lenV E rfl T24 h1.len) rfl ?_
            clear E a; intro a E
            refine S_v E rfl (R_max (m := ((max ((l0).length) ((l1).length) : Nat) : Int)) E rfl rfl (by omega)) rfl ?_
            clear E a; intro a E
            refine S_v E rfl (R_assign E rfl) rfl ?_
            clear E a; intro a E
            refine WL_nil ?_
            refine T_n ?_
            refine WP_seq ?_
            refine WP_region ?_
            refine S_v E rfl (R_move E rfl) rfl ?_
            clear E a; intro a E
            refine S_v E rfl (R_move E rfl) rfl ?_
            clear E a; intro a E
            refine S_x (X_pu E S rfl rfl rfl (impl_Zip2 h0 h1 (by first | omega | (simp; done) | (simp; omega)) (by first | omega | (simp; done) | (simp; omega))) (Hp.le.refl _) ?_)
            clear E a S; rintro a v_22 w M_21 hM_21 hv_22 S E
            replace h0 := h0.le hM_21
            replace h1 := h1.le hM_21
            replace h2 := h2.le hM_21
            replace hb_1 := hM_21.2 _ _ hb_1
            replace hz_9 := hz_9.le hM_21
            replace hz_11 := hz_11.le hM_21
            replace hv_13 := hv_13.le RP2_mono hM_21
            replace hv_15 := hv_15.le hM_21
            refine S_v E rfl (R_assign E rfl) rfl ?_
            clear E a; intro a E
            refine WL_nil ?_
            refine T_n ?_
            refine WP_seq ?_
            refine WP_region ?_
            refine S_v E rfl (R_move E rfl) rfl ?_
            clear E a; intro a E
            refine S_x (X_pu E S rfl rfl rfl (impl_Unzip2 hv_22 (by (first | omega | (simp; omega) | (simp; done) | (simp_all; omega) | grind))) (Hp.le.refl _) ?_)
            clear E a S; rintro a _ w M_23 hM_23 ⟨v_24, v_25, rfl, hv_24, hv_25⟩ S E
            replace h0 := h0.le hM_23
            replace h1 := h1.le hM_23
            replace h2 := h2.le hM_23
            replace hb_1 := hM_23.2 _ _ hb_1
            replace hz_9 := hz_9.le hM_23
            replace hz_11 := hz_11.le hM_23
            replace hv_13 := hv_13.le RP2_mono hM_23
            replace hv_15 := hv_15.le hM_23
            replace hv_22 := hv_22.le RP2_mono hM_23
            refine S_v E rfl (R_move E rfl) rfl ?_
            clear E a; intro a E
            refine S_v E rfl (R_extract E rfl rfl) rfl ?_
            clear E a; intro a E
            refine S_v E rfl (R_extract E rfl rfl) rfl ?_
            clear E a; intro a E
            refine S_v E rfl (R_assign E rfl) rfl ?_
            clear E a; intro a E
            refine S_v E rfl (R_assign E rfl) rfl ?_
            clear E a; intro a E
            refine WL_nil ?_
            refine T_n ?_
            refine WP_seq ?_
            refine WP_region ?_
            refine S_v E rfl (R_move E rfl) rfl ?_
            clear E a; intro a E
            refine S_v E rfl (R_move E rfl) rfl ?_
            clear E a; intro a E
            refine S_v E rfl (R_move E rfl) rfl ?_
            clear E a; intro a E
            refine S_x (X_pu E S rfl rfl rfl (impl_Zip3 h0 h1 h2 (by first | omega | (simp; done) | (simp; omega)) (by first | omega | (simp; done) | (simp; omega)) (by first | omega | (simp; done) | (simp; omega))) (Hp.le.refl _) ?_)
            clear E a S; rintro a v_27 w M_26 hM_26 hv_27 S E
            replace h0 := h0.le hM_26
            replace h1 := h1.le hM_26
            replace h2 := h2.le hM_26
            replace hb_1 := hM_26.2 _ _ hb_1
            replace hz_9 := hz_9.le hM_26
            replace hz_11 := hz_11.le hM_26
            replace hv_13 := hv_13.le RP2_mono hM_26
            replace hv_15 := hv_15.le hM_26
            replace hv_22 := hv_22.le RP2_mono hM_26
            replace hv_24 := hv_24.le hM_26
            replace hv_25 := hv_25.le hM_26
            refine S_v E rfl (R_assign E rfl) rfl ?_
            clear E a; intro a E
            refine WL_nil ?_
            refine T_n ?_
            refine WP_seq ?_
            refine WP_region ?_
            refine S_v E rfl (R_move E rfl) rfl ?_
            clear E a; intro a E
            refine S_x (X_pu E S rfl rfl rfl (impl_Unzip3 hv_27 (by (first | omega | (simp; omega) | (simp; done) | (simp_all; omega) | grind))) (Hp.le.refl _) ?_)
            clear E a S; rintro a _ w M_28 hM_28 ⟨v_29, v_30, v_31, rfl, hv_29, hv_30, hv_31⟩ S E
            replace h0 := h0.le hM_28
            replace h1 := h1.le hM_28
            replace h2 := h2.le hM_28
            replace hb_1 := hM_28.2 _ _ hb_1
            replace hz_9 := hz_9.le hM_28
            replace hz_11 := hz_11.le hM_28
            replace hv_13 := hv_13.le RP2_mono hM_28
            replace hv_15 := hv_15.le hM_28
            replace hv_22 := hv_22.le RP2_mono hM_28
            replace hv_24 := hv_24.le hM_28
            replace hv_25 := hv_25.le hM_28
            replace hv_27 := hv_27.le RP3_mono hM_28
            refine S_v E rfl (R_move E rfl) rfl ?_
            clear E a; intro a E
            refine S_v E rfl (R_extract E rfl rfl) rfl ?_
            clear E a; intro a E
            refine S_v E rfl (R_extract E rfl rfl) rfl ?_
            clear E a; intro a E
            refine S_v E rfl (R_extract E rfl rfl) rfl ?_
            clear E a; intro a E
            refine S_v E rfl (R_assign E rfl) rfl ?_
            clear E a; intro a E
            refine S_v E rfl (R_assign E rfl) rfl ?_
            clear E a; intro a E
            refine S_v E rfl (R_assign E rfl) rfl ?_
            clear E a; intro a E
            refine WL_nil ?_
            refine T_n ?_
            refine WP_seq ?_
            refine WP_region ?_
            refine S_v E rfl (R_move E rfl) rfl ?_
            clear E a; intro a E
            refine S_v E rfl (R_move E rfl) rfl ?_
            clear E a; intro a E
            refine S_v E rfl (R_lenV E rfl T24 h2.len) rfl ?_
            clear E a; intro a E
            refine S_v E rfl (R_max (m := ((max (max ((l0).length) ((l1).length)) ((l2).length) : Nat) : Int)) E rfl rfl (by omega)) rfl ?_
            clear E a; intro a E
            refine S_v E rfl (R_assign E rfl) rfl ?_
            clear E a; intro a E
            refine WL_nil ?_
            refine T_n ?_
            refine WP_seq ?_
            refine WP_seq ?_
            refine WP_region ?_
            refine S_v E rfl (R_move E rfl) rfl ?_
            clear E a; intro a E
            refine S_v E rfl (R_lenV E rfl T51 hv_22.len) rfl ?_
            clear E a; intro a E
            refine S_v E rfl (R_move E rfl) rfl ?_
            clear E a; intro a E
            refine S_v E rfl (R_neq E rfl rfl) rfl ?_
            clear E a; intro a E
            refine S_v E rfl (R_move E rfl) rfl ?_
            clear E a; intro a E
            have hc_32 : (decide ((((zi2 (max l0.length l1.length) l0 l1).length : Nat) : Int) ≠ ((max ((l0).length) ((l1).length) : Nat) : Int))) = false := by (clear S E; first | (simp; done) | decide | exact decide_eq_false (by omega) | (simp [zi2_len]; done) | (simp [zi3_len]; done) | (rw [z2_full0 (by omega)]; simp; done) | (rw [z2_full1 (by omega)]; simp; done) | (rw [z3_full0 (by omega)]; simp; done) | (rw [z3_full1 (by omega)]; simp; done) | (rw [z3_full2 (by omega)]; simp; done) | (simp; omega) | (rw [List.take_of_length_le (show (zi2 (max l0.length l1.length) l0 l1).length ≤ k by omega)]; simp; done) | (rw [List.take_of_length_le (show (zi2 (max l0.length l1.length) l0 l1).length ≤ k2 by omega)]; simp; done) | (rw [List.take_of_length_le (show (zi3 (max (max l0.length l1.length) l2.length) l0 l1 l2).length ≤ k3 by omega)]; simp; done))
            replace E := E.val (t := 94) rfl hc_32
            replace E := E.val (t := 95) rfl hc_32
            refine WL_guard_yes E rfl rfl ?_
            refine S_v E rfl (R_move E rfl) rfl ?_
            clear E a; intro a E
            refine WL_guard_yes E rfl rfl ?_
            refine S_v E rfl (R_lenV E rfl T56 hv_27.len) rfl ?_
            clear E a; intro a E
            refine WL_guard_yes E rfl rfl ?_
            refine S_v E rfl (R_move E rfl) rfl ?_
            clear E a; intro a E
            refine WL_guard_yes E rfl rfl ?_
            refine S_v E rfl (R_neq E rfl rfl) rfl ?_
            clear E a; intro a E
            refine S_v E rfl (R_pickF E rfl rfl) rfl ?_
            clear E a; intro a E
            refine S_v E rfl (R_move E rfl) rfl ?_
            clear E a; intro a E
            have hc_33 : (decide ((((zi3 (max (max l0.length l1.length) l2.length) l0 l1 l2).length : Nat) : Int) ≠ ((max (max ((l0).length) ((l1).length)) ((l2).length) : Nat) : Int))) = false := by (clear S E; first | (simp; done) | decide | exact decide_eq_false (by omega) | (simp [zi2_len]; done) | (simp [zi3_len]; done) | (rw [z2_full0 (by omega)]; simp; done) | (rw [z2_full1 (by omega)]; simp; done) | (rw [z3_full0 (by omega)]; simp; done) | (rw [z3_full1 (by omega)]; simp; done) | (rw [z3_full2 (by omega)]; simp; done) | (simp; omega) | (rw [List.take_of_length_le (show (zi2 (max l0.length l1.length) l0 l1).length ≤ k by omega)]; simp; done) | (rw [List.take_of_length_le (show (zi2 (max l0.length l1.length) l0 l1).length ≤ k2 by omega)]; simp; done) | (rw [List.take_of_length_le (show (zi3 (max (max l0.length l1.length) l2.length) l0 l1 l2).length ≤ k3 by omega)]; simp; done))
            replace E := E.val (t := 99) rfl hc_33
            replace E := E.val (t := 100) rfl hc_33
            replace E := E.val (t := 101) rfl hc_33
            refine WL_guard_yes E rfl rfl ?_
            refine S_v E rfl (R_move E rfl) rfl ?_
            clear E a; intro a E
            refine WL_guard_yes E rfl rfl ?_
            refine S_v E rfl (R_move E rfl) rfl ?_
            clear E a; intro a E
            refine WL_guard_yes E rfl rfl ?_
            refine S_v E rfl (R_move E rfl) rfl ?_
            clear E a; intro a E
            refine WL_guard_yes E rfl rfl ?_
            refine S_v E rfl (R_move E rfl) rfl ?_
            clear E a; intro a E
            refine WL_guard_yes E rfl rfl ?_
            refine S_x (X_pu E S rfl rfl rfl (laws_FnZippedF h0 (by first | omega | (simp; omega)) (by first | omega | (simp; omega))) (Hp.le.refl _) ?_)
            clear E a S; rintro a v_35 w M_34 hM_34 hv_35 S E
            replace h0 := h0.le hM_34
            replace h1 := h1.le hM_34
            replace h2 := h2.le hM_34
            replace hb_1 := hM_34.2 _ _ hb_1
            replace hz_9 := hz_9.le hM_34
            replace hz_11 := hz_11.le hM_34
            replace hv_13 := hv_13.le RP2_mono hM_34
            replace hv_15 := hv_15.le hM_34
            replace hv_22 := hv_22.le RP2_mono hM_34
            replace hv_24 := hv_24.le hM_34
            replace hv_25 := hv_25.le hM_34
            replace hv_27 := hv_27.le RP3_mono hM_34
            replace hv_29 := hv_29.le hM_34
            replace hv_30 := hv_30.le hM_34
            replace hv_31 := hv_31.le hM_34
            refine WL_guard_yes E rfl rfl ?_
            refine S_x (X_pu E S rfl rfl rfl (laws_eq hv_24 hv_35) (Hp.le.refl _) ?_)
            clear E a S; rintro a _ w M_36 hM_36 rfl S E
            replace h0 := h0.le hM_36
            replace h1 := h1.le hM_36
            replace h2 := h2.le hM_36
            replace hb_1 := hM_36.2 _ _ hb_1
            replace hz_9 := hz_9.le hM_36
            replace hz_11 := hz_11.le hM_36
            replace hv_13 := hv_13.le RP2_mono hM_36
            replace hv_15 := hv_15.le hM_36
            replace hv_22 := hv_22.le RP2_mono hM_36
            replace hv_24 := hv_24.le hM_36
            replace hv_25 := hv_25.le hM_36
            replace hv_27 := hv_27.le RP3_mono hM_36
            replace hv_29 := hv_29.le hM_36
            replace hv_30 := hv_30.le hM_36
            replace hv_31 := hv_31.le hM_36
            replace hv_35 := hv_35.le hM_36
            refine WL_guard_yes E rfl rfl ?_
            refine S_v E rfl (R_not E rfl) rfl ?_
            clear E a; intro a E
            refine S_v E rfl (R_pickF E rfl rfl) rfl ?_
            clear E a; intro a E
            refine S_v E rfl (R_move E rfl) rfl ?_
            clear E a; intro a E
            have hc_37 : (!(decide ((zi2 (max l0.length l1.length) l0 l1).map (fun p => p.1) = full l0 (max ((l0).length) ((l1).length))))) = false := by (clear S E; first | (simp; done) | decide | exact decide_eq_false (by omega) | (simp [zi2_len]; done) | (simp [zi3_len]; done) | (rw [z2_full0 (by omega)]; simp; done) | (rw [z2_full1 (by omega)]; simp; done) | (rw [z3_full0 (by omega)]; simp; done) | (rw [z3_full1 (by omega)]; simp; done) | (rw [z3_full2 (by omega)]; simp; done) | (simp; omega) | (rw [List.take_of_length_le (show (zi2 (max l0.length l1.length) l0 l1).length ≤ k by omega)]; simp; done) | (rw [List.take_of_length_le (show (zi2 (max l0.length l1.length) l0 l1).length ≤ k2 by omega)]; simp; done) | (rw [List.take_of_length_le (show (zi3 (max (max l0.length l1.length) l2.length) l0 l1 l2).length ≤ k3 by omega)]; simp; done))
            replace E := E.val (t := 108) rfl hc_37
            replace E := E.val (t := 109) rfl hc_37
            replace E := E.val (t := 110) rfl hc_37
            refine WL_guard_yes E rfl rfl ?_
            refine S_v E rfl (R_move E rfl) rfl ?_
            clear E a; intro a E
            refine WL_guard_yes E rfl rfl ?_
            refine S_v E rfl (R_move E rfl) rfl ?_
            clear E a; intro a E
            refine WL_guard_yes E rfl rfl ?_
            refine S_v E rfl (R_move E rfl) rfl ?_
            clear E a; intro a E
            refine WL_guard_yes E rfl rfl ?_
            refine S_v E rfl (R_move E rfl) rfl ?_
            clear E a; intro a E
            refine WL_guard_yes E rfl rfl ?_
            refine S_x (X_pu E S rfl rfl rfl (laws_FnZippedF h1 (by first | omega | (simp; omega)) (by first | omega | (simp; omega))) (Hp.le.refl _) ?_)
            clear E a S; rintro a v_39 w M_38 hM_38 hv_39 S E
            replace h0 := h0.le hM_38
            replace h1 := h1.le hM_38
            replace h2 := h2.le hM_38
            replace hb_1 := hM_38.2 _ _ hb_1
            replace hz_9 := hz_9.le hM_38
            replace hz_11 := hz_11.le hM_38
            replace hv_13 := hv_13.le RP2_mono hM_38
            replace hv_15 := hv_15.le hM_38
            replace hv_22 := hv_22.le RP2_mono hM_38
            replace hv_24 := hv_24.le hM_38
            replace hv_25 := hv_25.le hM_38
            replace hv_27 := hv_27.le RP3_mono hM_38
            replace hv_29 := hv_29.le hM_38
            replace hv_30 := hv_30.le hM_38
            replace hv_31 := hv_31.le hM_38
            replace hv_35 := hv_35.le hM_38
            refine WL_guard_yes E rfl rfl ?_
            refine S_x (X_pu E S rfl rfl rfl (laws_eq hv_25 hv_39) (Hp.le.refl _) ?_)
            clear E a S; rintro a _ w M_40 hM_40 rfl S E
            replace h0 := h0.le hM_40
            replace h1 := h1.le hM_40
            replace h2 := h2.le hM_40
            replace hb_1 := hM_40.2 _ _ hb_1
            replace hz_9 := hz_9.le hM_40
            replace hz_11 := hz_11.le hM_40
            replace hv_13 := hv_13.le RP2_mono hM_40
            replace hv_15 := hv_15.le hM_40
            replace hv_22 := hv_22.le RP2_mono hM_40
            replace hv_24 := hv_24.le hM_40
            replace hv_25 := hv_25.le hM_40
            replace hv_27 := hv_27.le RP3_mono hM_40
            replace hv_29 := hv_29.le hM_40
            replace hv_30 := hv_30.le hM_40
            replace hv_31 := hv_31.le hM_40
            replace hv_35 := hv_35.le hM_40
            replace hv_39 := hv_39.le hM_40
            refine WL_guard_yes E rfl rfl ?_
            refine S_v E rfl (R_not E rfl) rfl ?_
            clear E a; intro a E
            refine S_v E rfl (R_pickF E rfl rfl) rfl ?_
            clear E a; intro a E
            refine S_v E rfl (R_move E rfl) rfl ?_
            clear E a; intro a E
            have hc_41 : (!(decide ((zi2 (max l0.length l1.length) l0 l1).map (fun p => p.2) = full l1 (max ((l0).length) ((l1).length))))) = false := by (clear S E; first | (simp; done) | decide | exact decide_eq_false (by omega) | (simp [zi2_len]; done) | (simp [zi3_len]; done) | (rw [z2_full0 (by omega)]; simp; done) | (rw [z2_full1 (by omega)]; simp; done) | (rw [z3_full0 (by omega)]; simp; done) | (rw [z3_full1 (by omega)]; simp; done) | (rw [z3_full2 (by omega)]; simp; done) | (simp; omega) | (rw [List.take_of_length_le (show (zi2 (max l0.length l1.length) l0 l1).length ≤ k by omega)]; simp; done) | (rw [List.take_of_length_le (show (zi2 (max l0.length l1.length) l0 l1).length ≤ k2 by omega)]; simp; done) | (rw [List.take_of_length_le (show (zi3 (max (max l0.length l1.length) l2.length) l0 l1 l2).length ≤ k3 by omega)]; simp; done))
            replace E := E.val (t := 117) rfl hc_41
            replace E := E.val (t := 118) rfl hc_41
            replace E := E.val (t := 119) rfl hc_41
            refine WL_guard_yes E rfl rfl ?_
            refine S_v E rfl (R_move E rfl) rfl ?_
            clear E a; intro a E
            refine WL_guard_yes E rfl rfl ?_
            refine S_v E rfl (R_move E rfl) rfl ?_
            clear E a; intro a E
            refine WL_guard_yes E rfl rfl ?_
            refine S_v E rfl (R_move E rfl) rfl ?_
            clear E a; intro a E
            refine WL_guard_yes E rfl rfl ?_
            refine S_v E rfl (R_move E rfl) rfl ?_
            clear E a; intro a E
            refine WL_guard_yes E rfl rfl ?_
            refine S_x (X_pu E S rfl rfl rfl (laws_FnZippedF h0 (by first | omega | (simp; omega)) (by first | omega | (simp; omega))) (Hp.le.refl _) ?_)
            clear E a S; rintro a v_43 w M_42 hM_42 hv_43 S E
            replace h0 := h0.le hM_42
            replace h1 := h1.le hM_42
            replace h2 := h2.le hM_42
            replace hb_1 := hM_42.2 _ _ hb_1
            replace hz_9 := hz_9.le hM_42
            replace hz_11 := hz_11.le hM_42
            replace hv_13 := hv_13.le RP2_mono hM_42
            replace hv_15 := hv_15.le hM_42
            replace hv_22 := hv_22.le RP2_mono hM_42
            replace hv_24 := hv_24.le hM_42
            replace hv_25 := hv_25.le hM_42
            replace hv_27 := hv_27.le RP3_mono hM_42
            replace hv_29 := hv_29.le hM_42
            replace hv_30 := hv_30.le hM_42
            replace hv_31 := hv_31.le hM_42
            replace hv_35 := hv_35.le hM_42
            replace hv_39 := hv_39.le hM_42
            refine WL_guard_yes E rfl rfl ?_
            refine S_x (X_pu E S rfl rfl rfl (laws_eq hv_29 hv_43) (Hp.le.refl _) ?_)
            clear E a S; rintro a _ w M_44 hM_44 rfl S E
            replace h0 := h0.le hM_44
            replace h1 := h1.le hM_44
            replace h2 := h2.le hM_44
            replace hb_1 := hM_44.2 _ _ hb_1
            replace hz_9 := hz_9.le hM_44
            replace hz_11 := hz_11.le hM_44
            replace hv_13 := hv_13.le RP2_mono hM_44
            replace hv_15 := hv_15.le hM_44
            replace hv_22 := hv_22.le RP2_mono hM_44
            replace hv_24 := hv_24.le hM_44
            replace hv_25 := hv_25.le hM_44
            replace hv_27 := hv_27.le RP3_mono hM_44
            replace hv_29 := hv_29.le hM_44
            replace hv_30 := hv_30.le hM_44
            replace hv_31 := hv_31.le hM_44
            replace hv_35 := hv_35.le hM_44
            replace hv_39 := hv_39.le hM_44
            replace hv_43 := hv_43.le hM_44
            refine WL_guard_yes E rfl rfl ?_
            refine S_v E rfl (R_not E rfl) rfl ?_
            clear E a; intro a E
            refine S_v E rfl (R_pickF E rfl rfl) rfl ?_
            clear E a; intro a E
            refine S_v E rfl (R_move E rfl) rfl ?_
            clear E a; intro a E
            have hc_45 : (!(decide ((zi3 (max (max l0.length l1.length) l2.length) l0 l1 l2).map (fun p => p.1) = full l0 (max (max ((l0).length) ((l1).length)) ((l2).length))))) = false := by (clear S E; first | (simp; done) | decide | exact decide_eq_false (by omega) | (simp [zi2_len]; done) | (simp [zi3_len]; done) | (rw [z2_full0 (by omega)]; simp; done) | (rw [z2_full1 (by omega)]; simp; done) | (rw [z3_full0 (by omega)]; simp; done) | (rw [z3_full1 (by omega)]; simp; done) | (rw [z3_full2 (by omega)]; simp; done) | (simp; omega) | (rw [List.take_of_length_le (show (zi2 (max l0.length l1.length) l0 l1).length ≤ k by omega)]; simp; done) | (rw [List.take_of_length_le (show (zi2 (max l0.length l1.length) l0 l1).length ≤ k2 by omega)]; simp; done) | (rw [List.take_of_length_le (show (zi3 (max (max l0.length l1.length) l2.length) l0 l1 l2).length ≤ k3 by omega)]; simp; done))
            replace E := E.val (t := 126) rfl hc_45
            replace E := E.val (t := 127) rfl hc_45
            replace E := E.val (t := 128) rfl hc_45
            refine WL_guard_yes E rfl rfl ?_
            refine S_v E rfl (R_move E rfl) rfl ?_
            clear E a; intro a E
            refine WL_guard_yes E rfl rfl ?_
            refine S_v E rfl (R_move E rfl) rfl ?_
            clear E a; intro a E
            refine WL_guard_yes E rfl rfl ?_
            refine S_v E rfl (R_move E rfl) rfl ?_
            clear E a; intro a E
            refine WL_guard_yes E rfl rfl ?_
            refine S_v E rfl (R_move E rfl) rfl ?_
            clear E a; intro a E
            refine WL_guard_yes E rfl rfl ?_
            refine S_x (X_pu E S rfl rfl rfl (laws_FnZippedF h1 (by first | omega | (simp; omega)) (by first | omega | (simp; omega))) (Hp.le.refl _) ?_)
            clear E a S; rintro a v_47 w M_46 hM_46 hv_47 S E
            replace h0 := h0.le hM_46
            replace h1 := h1.le hM_46
            replace h2 := h2.le hM_46
            replace hb_1 := hM_46.2 _ _ hb_1
            replace hz_9 := hz_9.le hM_46
            replace hz_11 := hz_11.le hM_46
            replace hv_13 := hv_13.le RP2_mono hM_46
            replace hv_15 := hv_15.le hM_46
            replace hv_22 := hv_22.le RP2_mono hM_46
            replace hv_24 := hv_24.le hM_46
            replace hv_25 := hv_25.le hM_46
            replace hv_27 := hv_27.le RP3_mono hM_46
            replace hv_29 := hv_29.le hM_46
            replace hv_30 := hv_30.le hM_46
            replace hv_31 := hv_31.le hM_46
            replace hv_35 := hv_35.le hM_46
            replace hv_39 := hv_39.le hM_46
            replace hv_43 := hv_43.le hM_46
            refine WL_guard_yes E rfl rfl ?_
            refine S_x (X_pu E S rfl rfl rfl (laws_eq hv_30 hv_47) (Hp.le.refl _) ?_)
            clear E a S; rintro a _ w M_48 hM_48 rfl S E
            replace h0 := h0.le hM_48
            replace h1 := h1.le hM_48
            replace h2 := h2.le hM_48
            replace hb_1 := hM_48.2 _ _ hb_1
            replace hz_9 := hz_9.le hM_48
            replace hz_11 := hz_11.le hM_48
            replace hv_13 := hv_13.le RP2_mono hM_48
            replace hv_15 := hv_15.le hM_48
            replace hv_22 := hv_22.le RP2_mono hM_48
            replace hv_24 := hv_24.le hM_48
            replace hv_25 := hv_25.le hM_48
            replace hv_27 := hv_27.le RP3_mono hM_48
            replace hv_29 := hv_29.le hM_48
            replace hv_30 := hv_30.le hM_48
            replace hv_31 := hv_31.le hM_48
            replace hv_35 := hv_35.le hM_48
            replace hv_39 := hv_39.le hM_48
            replace hv_43 := hv_43.le hM_48
            replace hv_47 := hv_47.le hM_48
            refine WL_guard_yes E rfl rfl ?_
            refine S_v E rfl (R_not E rfl) rfl ?_
            clear E a; intro a E
            refine S_v E rfl (R_pickF E rfl rfl) rfl ?_
            clear E a; intro a E
            refine S_v E rfl (R_move E rfl) rfl ?_
            clear E a; intro a E
            have hc_49 : (!(decide ((zi3 (max (max l0.length l1.length) l2.length) l0 l1 l2).map (fun p => p.2.1) = full l1 (max (max ((l0).length) ((l1).length)) ((l2).length))))) = false := by (clear S E; first | (simp; done) | decide | exact decide_eq_false (by omega) | (simp [zi2_len]; done) | (simp [zi3_len]; done) | (rw [z2_full0 (by omega)]; simp; done) | (rw [z2_full1 (by omega)]; simp; done) | (rw [z3_full0 (by omega)]; simp; done) | (rw [z3_full1 (by omega)]; simp; done) | (rw [z3_full2 (by omega)]; simp; done) | (simp; omega) | (rw [List.take_of_length_le (show (zi2 (max l0.length l1.length) l0 l1).length ≤ k by omega)]; simp; done) | (rw [List.take_of_length_le (show (zi2 (max l0.length l1.length) l0 l1).length ≤ k2 by omega)]; simp; done) | (rw [List.take_of_length_le (show (zi3 (max (max l0.length l1.length) l2.length) l0 l1 l2).length ≤ k3 by omega)]; simp; done))
            replace E := E.val (t := 135) rfl hc_49
            replace E := E.val (t := 136) rfl hc_49
            replace E := E.val (t := 137) rfl hc_49
            refine WL_guard_yes E rfl rfl ?_
            refine S_v E rfl (R_move E rfl) rfl ?_
            clear E a; intro a E
            refine WL_guard_yes E rfl rfl ?_
            refine S_v E rfl (R_move E rfl) rfl ?_
            clear E a; intro a E
            refine WL_guard_yes E rfl rfl ?_
            refine S_v E rfl (R_move E rfl) rfl ?_
            clear E a; intro a E
            refine WL_guard_yes E rfl rfl ?_
            refine S_v E rfl (R_move E rfl) rfl ?_
            clear E a; intro a E
            refine WL_guard_yes E rfl rfl ?_
            refine S_x (X_pu E S rfl rfl rfl (laws_FnZippedF h2 (by first | omega | (simp; omega)) (by first | omega | (simp; omega))) (Hp.le.refl _) ?_)
            clear E a S; rintro a v_51 w M_50 hM_50 hv_51 S E
            replace h0 := h0.le hM_50
            replace h1 := h1.le hM_50
            replace h2 := h2.le hM_50
            replace hb_1 := hM_50.2 _ _ hb_1
            replace hz_9 := hz_9.le hM_50
            replace hz_11 := hz_11.le hM_50
            replace hv_13 := hv_13.le RP2_mono hM_50
            replace hv_15 := hv_15.le hM_50
            replace hv_22 := hv_22.le RP2_mono hM_50
            replace hv_24 := hv_24.le hM_50
            replace hv_25 := hv_25.le hM_50
            replace hv_27 := hv_27.le RP3_mono hM_50
            replace hv_29 := hv_29.le hM_50
            replace hv_30 := hv_30.le hM_50
            replace hv_31 := hv_31.le hM_50
            replace hv_35 := hv_35.le hM_50
            replace hv_39 := hv_39.le hM_50
            replace hv_43 := hv_43.le hM_50
            replace hv_47 := hv_47.le hM_50
            refine WL_guard_yes E rfl rfl ?_
            refine S_x (X_pu E S rfl rfl rfl (laws_eq hv_31 hv_51) (Hp.le.refl _) ?_)
            clear E a S; rintro a _ w M_52 hM_52 rfl S E
            replace h0 := h0.le hM_52
            replace h1 := h1.le hM_52
            replace h2 := h2.le hM_52
            replace hb_1 := hM_52.2 _ _ hb_1
            replace hz_9 := hz_9.le hM_52
            replace hz_11 := hz_11.le hM_52
            replace hv_13 := hv_13.le RP2_mono hM_52
            replace hv_15 := hv_15.le hM_52
            replace hv_22 := hv_22.le RP2_mono hM_52
            replace hv_24 := hv_24.le hM_52
            replace hv_25 := hv_25.le hM_52
            replace hv_27 := hv_27.le RP3_mono hM_52
            replace hv_29 := hv_29.le hM_52
            replace hv_30 := hv_30.le hM_52
            replace hv_31 := hv_31.le hM_52
            replace hv_35 := hv_35.le hM_52
            replace hv_39 := hv_39.le hM_52
            replace hv_43 := hv_43.le hM_52
            replace hv_47 := hv_47.le hM_52
            replace hv_51 := hv_51.le hM_52
            refine WL_guard_yes E rfl rfl ?_
            refine S_v E rfl (R_not E rfl) rfl ?_
            clear E a; intro a E
            refine S_v E rfl (R_pickF E rfl rfl) rfl ?_
            clear E a; intro a E
            refine WL_nil ?_
            refine T_n ?_
            have hc_53 : (!(decide ((zi3 (max (max l0.length l1.length) l2.length) l0 l1 l2).map (fun p => p.2.2) = full l2 (max (max ((l0).length) ((l1).length)) ((l2).length))))) = false := by (clear S E; first | (simp; done) | decide | exact decide_eq_false (by omega) | (simp [zi2_len]; done) | (simp [zi3_len]; done) | (rw [z2_full0 (by omega)]; simp; done) | (rw [z2_full1 (by omega)]; simp; done) | (rw [z3_full0 (by omega)]; simp; done) | (rw [z3_full1 (by omega)]; simp; done) | (rw [z3_full2 (by omega)]; simp; done) | (simp; omega) | (rw [List.take_of_length_le (show (zi2 (max l0.length l1.length) l0 l1).length ≤ k by omega)]; simp; done) | (rw [List.take_of_length_le (show (zi2 (max l0.length l1.length) l0 l1).length ≤ k2 by omega)]; simp; done) | (rw [List.take_of_length_le (show (zi3 (max (max l0.length l1.length) l2.length) l0 l1 l2).length ≤ k3 by omega)]; simp; done))
            refine WP_condF E rfl hc_53 ?_
            refine WP_skip ?_
            refine T_n ?_
            refine WP_seq ?_
            refine WP_region ?_
            refine S_v E rfl (R_assign E rfl) rfl ?_
            clear E a; intro a E
            refine WL_nil ?_
            refine T_n ?_
            refine WP_seq ?_
            refine WP_seq ?_
            refine WP_region ?_
            refine S_v E rfl (R_move E rfl) rfl ?_
            clear E a; intro a E
            refine S_v E rfl (R_lenV E rfl T51 hv_22.len) rfl ?_
            clear E a; intro a E
            refine S_v E rfl (R_move E rfl) rfl ?_
            clear E a; intro a E
            refine WL_nil ?_
            refine T_n ?_
            refine WP_block ?_
            replace S := (S.ownNil (e := 3) (sz := 1)).made0
            replace S := S.re1 (l' := ((zi2 (max l0.length l1.length) l0 l1).take 0).map (fun p => keyAt kk3 kn3 p.1 p.2)) (by first | (simp; done) | exact zm_step (f := keyAt kk3 kn3) (by assumption))
            refine WP_loop (γ := Nat) (fun (k : Nat) a w => ∃ (M_55 : Hp) (u19 : Value), Hp.le M_52 M_55 ∧ St w M_55 (OwnI 3 u19 (((zi2 (max l0.length l1.length) l0 l1).take k).map (fun p => keyAt kk3 kn3 p.1 p.2)) :: H) ∧ Env a 269 [] [(0, v0), (1, v1), (2, v2), (7, .pointer (some ⟨b_1, 0, none⟩)), (11, v_22), (12, v_24), (13, v_25), (14, v_27), (15, v_29), (16, v_30), (17, v_31), (19, u19), (146, v_22), (147, .int .i64 (((zi2 (max l0.length l1.length) l0 l1).length : Nat) : Int)), (148, .int .i64 ((k : Nat) : Int))] ∧ (k ≤ (zi2 (max l0.length l1.length) l0 l1).length)) (fun k => ((zi2 (max l0.length l1.length) l0 l1).length) - k) 0 ⟨M_52, _, Hp.le.refl _, S, E.keep ⟨rfl, rfl, rfl, rfl, rfl, rfl, rfl, rfl, rfl, rfl, rfl, rfl, rfl, rfl, rfl, trivial⟩, by ((try clear S); (try clear E); first | assumption | omega | rfl | (simp; done) | (simp_all; done) | (simp [List.take_add_one, *]; done) | grind [List.take_add_one])⟩ ?_
            try clear E
            try clear S
            try clear a
            try clear w
            rintro k a w ⟨M_55, u19, hM_55, S, E, hL0_0⟩
            replace h0 := h0.le hM_55
            replace h1 := h1.le hM_55
            replace h2 := h2.le hM_55
            replace hb_1 := hM_55.2 _ _ hb_1
            replace hz_9 := hz_9.le hM_55
            replace hz_11 := hz_11.le hM_55
            replace hv_13 := hv_13.le RP2_mono hM_55
            replace hv_15 := hv_15.le hM_55
            replace hv_22 := hv_22.le RP2_mono hM_55
            replace hv_24 := hv_24.le hM_55
            replace hv_25 := hv_25.le hM_55
            replace hv_27 := hv_27.le RP3_mono hM_55
            replace hv_29 := hv_29.le hM_55
            replace hv_30 := hv_30.le hM_55
            replace hv_31 := hv_31.le hM_55
            replace hv_35 := hv_35.le hM_55
            replace hv_39 := hv_39.le hM_55
            replace hv_43 := hv_43.le hM_55
            replace hv_47 := hv_47.le hM_55
            replace hv_51 := hv_51.le hM_55
            refine WP_seq ?_
            refine WP_region ?_
            refine S_v E rfl (R_lss E rfl rfl) rfl ?_
            clear E a; intro a E
            refine WL_nil ?_
            refine T_n ?_
            refine WP_seq ?_
            refine WP_cond E rfl (fun hc_56 => ?_) (fun hc_56 => ?_)
            · replace hc_56 := of_decide_eq_true hc_56
              refine WP_skip ?_
              refine T_n ?_
              refine WP_seq ?_
              refine WP_block ?_
              refine WP_seq ?_
              refine WP_region ?_
              obtain ⟨x_57, hx_57⟩ : ∃ x, (zi2 (max l0.length l1.length) l0 l1)[k]? = some x := ⟨_, List.getElem?_eq_getElem (by first | omega | (simp; done) | (simp; omega) | (simp_all; omega))⟩
              obtain ⟨p_58, hp_58, qp_58⟩ := RdP2.at hv_22 hx_57
              refine S_v E rfl (R_idx E rfl rfl T51 hp_58 rfl) rfl ?_
              clear E a; intro a E
              refine S_v E rfl (R_loadA (cs := [.int .i64 x_57.1, .int .i64 x_57.2]) E rfl (Try.isAgg55 _) (Try.sizeOf55 _) S.imm qp_58) rfl ?_
              clear E a; intro a E
              refine S_x (X_alloc (cs := #[.int .i64 0, .int .i64 0]) E S rfl Try.zeroValue55 rfl ?_)
              clear E a S; rintro a w b_59 E S
              refine S_x0 (X_storeG (us := [.int .i64 x_57.1, .int .i64 x_57.2]) E S rfl rfl (Try.sizeOf55 _) rfl (by intro u hu; simp only [List.mem_cons, List.not_mem_nil, or_false] at hu; rcases hu with rfl | rfl <;> first | exact rfl | exact rfl) ?_)
              clear E a S; rintro a w E S
              replace S : St w M_55 (blk b_59 (.cells #[.int .i64 x_57.1, .int .i64 x_57.2] 55) :: _) := S
              have S0 := S; clear S
              obtain ⟨M_60, hM_60, hb_61, S⟩ := S0.freezeB
              clear S0
              replace h0 := h0.le hM_60
              replace h1 := h1.le hM_60
              replace h2 := h2.le hM_60
              replace hb_1 := hM_60.2 _ _ hb_1
              replace hz_9 := hz_9.le hM_60
              replace hz_11 := hz_11.le hM_60
              replace hv_13 := hv_13.le RP2_mono hM_60
              replace hv_15 := hv_15.le hM_60
              replace hv_22 := hv_22.le RP2_mono hM_60
              replace hv_24 := hv_24.le hM_60
              replace hv_25 := hv_25.le hM_60
              replace hv_27 := hv_27.le RP3_mono hM_60
              replace hv_29 := hv_29.le hM_60
              replace hv_30 := hv_30.le hM_60
              replace hv_31 := hv_31.le hM_60
              replace hv_35 := hv_35.le hM_60
              replace hv_39 := hv_39.le hM_60
              replace hv_43 := hv_43.le hM_60
              replace hv_47 := hv_47.le hM_60
              replace hv_51 := hv_51.le hM_60
              refine WL_nil ?_
              refine T_n ?_
              refine WP_region ?_
              refine S_v E rfl (R_move E rfl) rfl ?_
              clear E a; intro a E
              refine S_v E rfl (R_loadGM E rfl (Try.isAgg31 _) (Try.sizeOf31 _) S.imm hb_1) rfl ?_
              clear E a; intro a E
              refine S_v E rfl (R_fieldAddr E rfl (FA55_0 _)) rfl ?_
              clear E a; intro a E
              refine S_v E rfl (R_loadM E rfl Try.isAgg3 S.imm (cellM_boxo hb_61 rfl)) rfl ?_
              clear E a; intro a E
              refine S_v E rfl (R_fieldAddr E rfl (FA55_1 _)) rfl ?_
              clear E a; intro a E
              refine S_v E rfl (R_loadM E rfl Try.isAgg3 S.imm (cellM_boxo hb_61 rfl)) rfl ?_
              clear E a; intro a E
              refine S_x (X_pu E S rfl rfl rfl (laws_stands (by omega)) (Hp.le.refl _) ?_)
              clear E a S; rintro a _ w M_62 hM_62 rfl S E
              replace h0 := h0.le hM_62
              replace h1 := h1.le hM_62
              replace h2 := h2.le hM_62
              replace hb_1 := hM_62.2 _ _ hb_1
              replace hz_9 := hz_9.le hM_62
              replace hz_11 := hz_11.le hM_62
              replace hv_13 := hv_13.le RP2_mono hM_62
              replace hv_15 := hv_15.le hM_62
              replace hv_22 := hv_22.le RP2_mono hM_62
              replace hv_24 := hv_24.le hM_62
              replace hv_25 := hv_25.le hM_62
              replace hv_27 := hv_27.le RP3_mono hM_62
              replace hv_29 := hv_29.le hM_62
              replace hv_30 := hv_30.le hM_62
              replace hv_31 := hv_31.le hM_62
              replace hv_35 := hv_35.le hM_62
              replace hv_39 := hv_39.le hM_62
              replace hv_43 := hv_43.le hM_62
              replace hv_47 := hv_47.le hM_62
              replace hv_51 := hv_51.le hM_62
              replace hb_61 := hM_62.2 _ _ hb_61
              refine S_x (X_buildI (ys := [keyAt kk3 kn3 x_57.1 x_57.2]) E S rfl T24 rfl rfl rfl ?_)
              clear E a S; rintro a w v_63 E S
              replace S := S.front1
              replace S := S.front1
              refine S_x (X_appendB (xs := ((zi2 (max l0.length l1.length) l0 l1).take k).map (fun p => keyAt kk3 kn3 p.1 p.2)) (ys := [keyAt kk3 kn3 x_57.1 x_57.2]) E S rfl rfl rfl T24 (by (simp only [List.length_take, List.length_map, List.length_cons, List.length_nil]; omega)) ?_)
              clear E a S; rintro a w v_64 E S
              refine S_v E rfl (R_assign E rfl) rfl ?_
              clear E a; intro a E
              refine WL_nil ?_
              refine B_n ?_
              refine T_n ?_
              refine WP_region ?_
              refine S_v E rfl (R_addx (m := ((k + 1 : Nat) : Int)) E rfl rfl (by omega) (by omega)) rfl ?_
              clear E a; intro a E
              refine S_v E rfl (R_move E rfl) rfl ?_
              clear E a; intro a E
              refine WL_nil ?_
              refine T_n ?_
              replace S := S.re1 (l' := ((zi2 (max l0.length l1.length) l0 l1).take (k + 1)).map (fun p => keyAt kk3 kn3 p.1 p.2)) (by first | (simp; done) | exact zm_step (f := keyAt kk3 kn3) (by assumption))
              exact ⟨k + 1, ⟨M_62, _, (hM_55.trans (hM_60.trans hM_62)), S, E.keep ⟨rfl, rfl, rfl, rfl, rfl, rfl, rfl, rfl, rfl, rfl, rfl, rfl, rfl, rfl, rfl, trivial⟩, by ((try clear S); (try clear E); first | assumption | omega | rfl | (simp; done) | (simp_all; done) | (simp [List.take_add_one, *]; done) | grind [List.take_add_one])⟩, by omega⟩
            · replace hc_56 := of_decide_eq_false hc_56
              refine WP_exit ?_
              refine T_x ?_
              refine T_x ?_
              refine B_x ?_
              refine T_n ?_
              refine WP_seq ?_
              refine WP_region ?_
              refine S_v E rfl (R_assign E rfl) rfl ?_
              clear E a; intro a E
              refine WL_nil ?_
              refine T_n ?_
              refine WP_seq ?_
              refine WP_seq ?_
              refine WP_region ?_
              refine S_v E rfl (R_move E rfl) rfl ?_
              clear E a; intro a E
              refine S_v E rfl (R_lenV E rfl T51 hv_22.len) rfl ?_
              clear E a; intro a E
              refine S_v E rfl (R_move E rfl) rfl ?_
              clear E a; intro a E
              refine WL_nil ?_
              refine T_n ?_
              refine WP_block ?_
              replace S : St w M_55 (OwnC 71 2 (.slice none 0 0) ([] : List (Int × Int)).length [] :: _) := S.ownNil
              have hr_66 : RowsR RP2 2 M_55 ([] : List (Int × Int)) [] := RowsR.nil
              have hre : ([] : List (Int × Int)) = (zi2 (max l0.length l1.length) l0 l1).take 0 := by first | (simp; done) | exact (tk_snoc (by assumption)).symm
              replace S := S.reR hre
              replace hr_66 := hr_66.eq hre
              clear hre
              refine WP_loop (γ := Nat) (fun (k2 : Nat) a w => ∃ (M_67 : Hp) (u22 : Value) (xs22 : List Value), Hp.le M_55 M_67 ∧ St w M_67 (OwnC 71 2 u22 ((zi2 (max l0.length l1.length) l0 l1).take k2).length xs22 :: OwnI 3 u19 (((zi2 (max l0.length l1.length) l0 l1).take k).map (fun p => keyAt kk3 kn3 p.1 p.2)) :: H) ∧ Env a 269 [] [(0, v0), (1, v1), (2, v2), (7, .pointer (some ⟨b_1, 0, none⟩)), (11, v_22), (12, v_24), (13, v_25), (14, v_27), (15, v_29), (16, v_30), (17, v_31), (19, u19), (22, u22), (162, v_22), (163, .int .i64 (((zi2 (max l0.length l1.length) l0 l1).length : Nat) : Int)), (164, .int .i64 ((k2 : Nat) : Int))] ∧ (k2 ≤ (zi2 (max l0.length l1.length) l0 l1).length) ∧ RowsR RP2 2 M_67 ((zi2 (max l0.length l1.length) l0 l1).take k2) xs22) (fun k2 => ((zi2 (max l0.length l1.length) l0 l1).length) - k2) 0 ⟨M_55, _, _, Hp.le.refl _, S, E.keep ⟨rfl, rfl, rfl, rfl, rfl, rfl, rfl, rfl, rfl, rfl, rfl, rfl, rfl, rfl, rfl, rfl, trivial⟩, by ((try clear S); (try clear E); first | assumption | omega | rfl | (simp; done) | (simp_all; done) | (simp [List.take_add_one, *]; done) | grind [List.take_add_one]), hr_66⟩ ?_
              try clear E
              try clear S
              try clear a
              try clear w
              rintro k2 a w ⟨M_67, u22, xs22, hM_67, S, E, hL1_0, hr22⟩
              replace h0 := h0.le hM_67
              replace h1 := h1.le hM_67
              replace h2 := h2.le hM_67
              replace hb_1 := hM_67.2 _ _ hb_1
              replace hz_9 := hz_9.le hM_67
              replace hz_11 := hz_11.le hM_67
              replace hv_13 := hv_13.le RP2_mono hM_67
              replace hv_15 := hv_15.le hM_67
              replace hv_22 := hv_22.le RP2_mono hM_67
              replace hv_24 := hv_24.le hM_67
              replace hv_25 := hv_25.le hM_67
              replace hv_27 := hv_27.le RP3_mono hM_67
              replace hv_29 := hv_29.le hM_67
              replace hv_30 := hv_30.le hM_67
              replace hv_31 := hv_31.le hM_67
              replace hv_35 := hv_35.le hM_67
              replace hv_39 := hv_39.le hM_67
              replace hv_43 := hv_43.le hM_67
              replace hv_47 := hv_47.le hM_67
              replace hv_51 := hv_51.le hM_67
              refine WP_seq ?_
              refine WP_region ?_
              refine S_v E rfl (R_lss E rfl rfl) rfl ?_
              clear E a; intro a E
              refine WL_nil ?_
              refine T_n ?_
              refine WP_seq ?_
              refine WP_cond E rfl (fun hc_68 => ?_) (fun hc_68 => ?_)
              · replace hc_68 := of_decide_eq_true hc_68
                refine WP_skip ?_
                refine T_n ?_
                refine WP_seq ?_
                refine WP_block ?_
                refine WP_seq ?_
                refine WP_region ?_
                obtain ⟨x_69, hx_69⟩ : ∃ x, (zi2 (max l0.length l1.length) l0 l1)[k2]? = some x := ⟨_, List.getElem?_eq_getElem (by first | omega | (simp; done) | (simp; omega) | (simp_all; omega))⟩
                obtain ⟨p_70, hp_70, qp_70⟩ := RdP2.at hv_22 hx_69
                refine S_v E rfl (R_idx E rfl rfl T51 hp_70 rfl) rfl ?_
                clear E a; intro a E
                refine S_v E rfl (R_loadA (cs := [.int .i64 x_69.1, .int .i64 x_69.2]) E rfl (Try.isAgg55 _) (Try.sizeOf55 _) S.imm qp_70) rfl ?_
                clear E a; intro a E
                refine S_x (X_alloc (cs := #[.int .i64 0, .int .i64 0]) E S rfl Try.zeroValue55 rfl ?_)
                clear E a S; rintro a w b_71 E S
                refine S_x0 (X_storeG (us := [.int .i64 x_69.1, .int .i64 x_69.2]) E S rfl rfl (Try.sizeOf55 _) rfl (by intro u hu; simp only [List.mem_cons, List.not_mem_nil, or_false] at hu; rcases hu with rfl | rfl <;> first | exact rfl | exact rfl) ?_)
                clear E a S; rintro a w E S
                replace S : St w M_67 (blk b_71 (.cells #[.int .i64 x_69.1, .int .i64 x_69.2] 55) :: _) := S
                have S0 := S; clear S
                obtain ⟨M_72, hM_72, hb_73, S⟩ := S0.freezeB
                clear S0
                replace h0 := h0.le hM_72
                replace h1 := h1.le hM_72
                replace h2 := h2.le hM_72
                replace hb_1 := hM_72.2 _ _ hb_1
                replace hz_9 := hz_9.le hM_72
                replace hz_11 := hz_11.le hM_72
                replace hv_13 := hv_13.le RP2_mono hM_72
                replace hv_15 := hv_15.le hM_72
                replace hv_22 := hv_22.le RP2_mono hM_72
                replace hv_24 := hv_24.le hM_72
                replace hv_25 := hv_25.le hM_72
                replace hv_27 := hv_27.le RP3_mono hM_72
                replace hv_29 := hv_29.le hM_72
                replace hv_30 := hv_30.le hM_72
                replace hv_31 := hv_31.le hM_72
                replace hv_35 := hv_35.le hM_72
                replace hv_39 := hv_39.le hM_72
                replace hv_43 := hv_43.le hM_72
                replace hv_47 := hv_47.le hM_72
                replace hv_51 := hv_51.le hM_72
                replace hr22 := hr22.le RP2_mono hM_72
                refine WL_nil ?_
                refine T_n ?_
                refine WP_region ?_
                refine S_v E rfl (R_move E rfl) rfl ?_
                clear E a; intro a E
                refine S_v E rfl (R_loadGM E rfl (Try.isAgg55 _) (Try.sizeOf55 _) S.imm hb_73) rfl ?_
                clear E a; intro a E
                refine S_x (X_buildA1 (R := RP2) (cs := [.int .i64 x_69.1, .int .i64 x_69.2]) (x0 := x_69) RP2_mono E S rfl T61 rfl rfl rfl rfl ?_)
                clear E a S; rintro a v_74 w M_75 hM_75 hv_74 S E
                replace h0 := h0.le hM_75
                replace h1 := h1.le hM_75
                replace h2 := h2.le hM_75
                replace hb_1 := hM_75.2 _ _ hb_1
                replace hz_9 := hz_9.le hM_75
                replace hz_11 := hz_11.le hM_75
                replace hv_13 := hv_13.le RP2_mono hM_75
                replace hv_15 := hv_15.le hM_75
                replace hv_22 := hv_22.le RP2_mono hM_75
                replace hv_24 := hv_24.le hM_75
                replace hv_25 := hv_25.le hM_75
                replace hv_27 := hv_27.le RP3_mono hM_75
                replace hv_29 := hv_29.le hM_75
                replace hv_30 := hv_30.le hM_75
                replace hv_31 := hv_31.le hM_75
                replace hv_35 := hv_35.le hM_75
                replace hv_39 := hv_39.le hM_75
                replace hv_43 := hv_43.le hM_75
                replace hv_47 := hv_47.le hM_75
                replace hv_51 := hv_51.le hM_75
                replace hr22 := hr22.le RP2_mono hM_75
                replace hb_73 := hM_75.2 _ _ hb_73
                refine S_x (X_appendR (R := RP2) (zs := (zi2 (max l0.length l1.length) l0 l1).take k2) (ys := [x_69]) E S hr22 rfl rfl rfl T61 hv_74 one_RP2 (by (simp only [List.length_take, List.length_map, List.length_cons, List.length_nil]; omega)) (by (simp only [List.length_take, List.length_map, List.length_cons, List.length_nil]; omega)) ?_)
                clear E a S; rintro a w v_76 xs_77 E hr_78 S
                refine S_v E rfl (R_assign E rfl) rfl ?_
                clear E a; intro a E
                refine WL_nil ?_
                refine B_n ?_
                refine T_n ?_
                refine WP_region ?_
                refine S_v E rfl (R_addx (m := ((k2 + 1 : Nat) : Int)) E rfl rfl (by omega) (by omega)) rfl ?_
                clear E a; intro a E
                refine S_v E rfl (R_move E rfl) rfl ?_
                clear E a; intro a E
                refine WL_nil ?_
                refine T_n ?_
                have hre : ((zi2 (max l0.length l1.length) l0 l1).take k2) ++ [x_69] = (zi2 (max l0.length l1.length) l0 l1).take (k2 + 1) := by first | (simp; done) | exact (tk_snoc (by assumption)).symm
                replace S := S.reR hre
                replace hr_78 := hr_78.eq hre
                clear hre
                exact ⟨k2 + 1, ⟨M_75, _, _, (hM_67.trans (hM_72.trans hM_75)), S, E.keep ⟨rfl, rfl, rfl, rfl, rfl, rfl, rfl, rfl, rfl, rfl, rfl, rfl, rfl, rfl, rfl, rfl, trivial⟩, by ((try clear S); (try clear E); first | assumption | omega | rfl | (simp; done) | (simp_all; done) | (simp [List.take_add_one, *]; done) | grind [List.take_add_one]), hr_78⟩, by omega⟩
              · replace hc_68 := of_decide_eq_false hc_68
                refine WP_exit ?_
                refine T_x ?_
                refine T_x ?_
                refine B_x ?_
                refine T_n ?_
                refine WP_seq ?_
                refine WP_region ?_
                refine S_v E rfl (R_assign E rfl) rfl ?_
                clear E a; intro a E
                refine WL_nil ?_
                refine T_n ?_
                refine WP_seq ?_
                refine WP_seq ?_
                refine WP_region ?_
                refine S_v E rfl (R_move E rfl) rfl ?_
                clear E a; intro a E
                refine S_v E rfl (R_lenV E rfl T56 hv_27.len) rfl ?_
                clear E a; intro a E
                refine S_v E rfl (R_move E rfl) rfl ?_
                clear E a; intro a E
                refine WL_nil ?_
                refine T_n ?_
                refine WP_block ?_
                replace S : St w M_67 (OwnC 72 3 (.slice none 0 0) ([] : List (Int × Int × Int)).length [] :: _) := S.ownNil
                have hr_80 : RowsR RP3 3 M_67 ([] : List (Int × Int × Int)) [] := RowsR.nil
                have hre : ([] : List (Int × Int × Int)) = (zi3 (max (max l0.length l1.length) l2.length) l0 l1 l2).take 0 := by first | (simp; done) | exact (tk_snoc (by assumption)).symm
                replace S := S.reR hre
                replace hr_80 := hr_80.eq hre
                clear hre
                refine WP_loop (γ := Nat) (fun (k3 : Nat) a w => ∃ (M_81 : Hp) (u25 : Value) (xs25 : List Value), Hp.le M_67 M_81 ∧ St w M_81 (OwnC 72 3 u25 ((zi3 (max (max l0.length l1.length) l2.length) l0 l1 l2).take k3).length xs25 :: OwnC 71 2 u22 ((zi2 (max l0.length l1.length) l0 l1).take k2).length xs22 :: OwnI 3 u19 (((zi2 (max l0.length l1.length) l0 l1).take k).map (fun p => keyAt kk3 kn3 p.1 p.2)) :: H) ∧ Env a 269 [] [(0, v0), (1, v1), (2, v2), (7, .pointer (some ⟨b_1, 0, none⟩)), (11, v_22), (12, v_24), (13, v_25), (14, v_27), (15, v_29), (16, v_30), (17, v_31), (19, u19), (22, u22), (25, u25), (173, v_27), (174, .int .i64 (((zi3 (max (max l0.length l1.length) l2.length) l0 l1 l2).length : Nat) : Int)), (175, .int .i64 ((k3 : Nat) : Int))] ∧ (k3 ≤ (zi3 (max (max l0.length l1.length) l2.length) l0 l1 l2).length) ∧ RowsR RP3 3 M_81 ((zi3 (max (max l0.length l1.length) l2.length) l0 l1 l2).take k3) xs25) (fun k3 => ((zi3 (max (max l0.length l1.length) l2.length) l0 l1 l2).length) - k3) 0 ⟨M_67, _, _, Hp.le.refl _, S, E.keep ⟨rfl, rfl, rfl, rfl, rfl, rfl, rfl, rfl, rfl, rfl, rfl, rfl, rfl, rfl, rfl, rfl, rfl, trivial⟩, by ((try clear S); (try clear E); first | assumption | omega | rfl | (simp; done) | (simp_all; done) | (simp [List.take_add_one, *]; done) | grind [List.take_add_one]), hr_80⟩ ?_
                try clear E
                try clear S
                try clear a
                try clear w
                rintro k3 a w ⟨M_81, u25, xs25, hM_81, S, E, hL2_0, hr25⟩
                replace h0 := h0.le hM_81
                replace h1 := h1.le hM_81
                replace h2 := h2.le hM_81
                replace hb_1 := hM_81.2 _ _ hb_1
                replace hz_9 := hz_9.le hM_81
                replace hz_11 := hz_11.le hM_81
                replace hv_13 := hv_13.le RP2_mono hM_81
                replace hv_15 := hv_15.le hM_81
                replace hv_22 := hv_22.le RP2_mono hM_81
                replace hv_24 := hv_24.le hM_81
                replace hv_25 := hv_25.le hM_81
                replace hv_27 := hv_27.le RP3_mono hM_81
                replace hv_29 := hv_29.le hM_81
                replace hv_30 := hv_30.le hM_81
                replace hv_31 := hv_31.le hM_81
                replace hv_35 := hv_35.le hM_81
                replace hv_39 := hv_39.le hM_81
                replace hv_43 := hv_43.le hM_81
                replace hv_47 := hv_47.le hM_81
                replace hv_51 := hv_51.le hM_81
                replace hr22 := hr22.le RP2_mono hM_81
                refine WP_seq ?_
                refine WP_region ?_
                refine S_v E rfl (R_lss E rfl rfl) rfl ?_
                clear E a; intro a E
                refine WL_nil ?_
                refine T_n ?_
                refine WP_seq ?_
                refine WP_cond E rfl (fun hc_82 => ?_) (fun hc_82 => ?_)
                · replace hc_82 := of_decide_eq_true hc_82
                  refine WP_skip ?_
                  refine T_n ?_
                  refine WP_seq ?_
                  refine WP_block ?_
                  refine WP_seq ?_
                  refine WP_region ?_
                  obtain ⟨x_83, hx_83⟩ : ∃ x, (zi3 (max (max l0.length l1.length) l2.length) l0 l1 l2)[k3]? = some x := ⟨_, List.getElem?_eq_getElem (by first | omega | (simp; done) | (simp; omega) | (simp_all; omega))⟩
                  obtain ⟨p_84, hp_84, qp_84⟩ := RdP3.at hv_27 hx_83
                  refine S_v E rfl (R_idx E rfl rfl T56 hp_84 rfl) rfl ?_
                  clear E a; intro a E
                  refine S_v E rfl (R_loadA (cs := [.int .i64 x_83.1, .int .i64 x_83.2.1, .int .i64 x_83.2.2]) E rfl (Try.isAgg64 _) (Try.sizeOf64 _) S.imm qp_84) rfl ?_
                  clear E a; intro a E
                  refine S_x (X_alloc (cs := #[.int .i64 0, .int .i64 0, .int .i64 0]) E S rfl Try.zeroValue64 rfl ?_)
                  clear E a S; rintro a w b_85 E S
                  refine S_x0 (X_storeG (us := [.int .i64 x_83.1, .int .i64 x_83.2.1, .int .i64 x_83.2.2]) E S rfl rfl (Try.sizeOf64 _) rfl (by intro u hu; simp only [List.mem_cons, List.not_mem_nil, or_false] at hu; rcases hu with rfl | rfl | rfl <;> first | exact rfl | exact rfl | exact rfl) ?_)
                  clear E a S; rintro a w E S
                  replace S : St w M_81 (blk b_85 (.cells #[.int .i64 x_83.1, .int .i64 x_83.2.1, .int .i64 x_83.2.2] 64) :: _) := S
                  have S0 := S; clear S
                  obtain ⟨M_86, hM_86, hb_87, S⟩ := S0.freezeB
                  clear S0
                  replace h0 := h0.le hM_86
                  replace h1 := h1.le hM_86
                  replace h2 := h2.le hM_86
                  replace hb_1 := hM_86.2 _ _ hb_1
                  replace hz_9 := hz_9.le hM_86
                  replace hz_11 := hz_11.le hM_86
                  replace hv_13 := hv_13.le RP2_mono hM_86
                  replace hv_15 := hv_15.le hM_86
                  replace hv_22 := hv_22.le RP2_mono hM_86
                  replace hv_24 := hv_24.le hM_86
                  replace hv_25 := hv_25.le hM_86
                  replace hv_27 := hv_27.le RP3_mono hM_86
                  replace hv_29 := hv_29.le hM_86
                  replace hv_30 := hv_30.le hM_86
                  replace hv_31 := hv_31.le hM_86
                  replace hv_35 := hv_35.le hM_86
                  replace hv_39 := hv_39.le hM_86
                  replace hv_43 := hv_43.le hM_86
                  replace hv_47 := hv_47.le hM_86
                  replace hv_51 := hv_51.le hM_86
                  replace hr22 := hr22.le RP2_mono hM_86
                  replace hr25 := hr25.le RP3_mono hM_86
                  refine WL_nil ?_
                  refine T_n ?_
                  refine WP_region ?_
                  refine S_v E rfl (R_move E rfl) rfl ?_
                  clear E a; intro a E
                  refine S_v E rfl (R_loadGM E rfl (Try.isAgg64 _) (Try.sizeOf64 _) S.imm hb_87) rfl ?_
                  clear E a; intro a E
                  refine S_x (X_buildA1 (R := RP3) (cs := [.int .i64 x_83.1, .int .i64 x_83.2.1, .int .i64 x_83.2.2]) (x0 := x_83) RP3_mono E S rfl T58 rfl rfl rfl rfl ?_)
                  clear E a S; rintro a v_88 w M_89 hM_89 hv_88 S E
                  replace h0 := h0.le hM_89
                  replace h1 := h1.le hM_89
                  replace h2 := h2.le hM_89
                  replace hb_1 := hM_89.2 _ _ hb_1
                  replace hz_9 := hz_9.le hM_89
                  replace hz_11 := hz_11.le hM_89
                  replace hv_13 := hv_13.le RP2_mono hM_89
                  replace hv_15 := hv_15.le hM_89
                  replace hv_22 := hv_22.le RP2_mono hM_89
                  replace hv_24 := hv_24.le hM_89
                  replace hv_25 := hv_25.le hM_89
                  replace hv_27 := hv_27.le RP3_mono hM_89
                  replace hv_29 := hv_29.le hM_89
                  replace hv_30 := hv_30.le hM_89
                  replace hv_31 := hv_31.le hM_89
                  replace hv_35 := hv_35.le hM_89
                  replace hv_39 := hv_39.le hM_89
                  replace hv_43 := hv_43.le hM_89
                  replace hv_47 := hv_47.le hM_89
                  replace hv_51 := hv_51.le hM_89
                  replace hr22 := hr22.le RP2_mono hM_89
                  replace hr25 := hr25.le RP3_mono hM_89
                  replace hb_87 := hM_89.2 _ _ hb_87
                  refine S_x (X_appendR (R := RP3) (zs := (zi3 (max (max l0.length l1.length) l2.length) l0 l1 l2).take k3) (ys := [x_83]) E S hr25 rfl rfl rfl T58 hv_88 one_RP3 (by (simp only [List.length_take, List.length_map, List.length_cons, List.length_nil]; omega)) (by (simp only [List.length_take, List.length_map, List.length_cons, List.length_nil]; omega)) ?_)
                  clear E a S; rintro a w v_90 xs_91 E hr_92 S
                  refine S_v E rfl (R_assign E rfl) rfl ?_
                  clear E a; intro a E
                  refine WL_nil ?_
                  refine B_n ?_
                  refine T_n ?_
                  refine WP_region ?_
                  refine S_v E rfl (R_addx (m := ((k3 + 1 : Nat) : Int)) E rfl rfl (by omega) (by omega)) rfl ?_
                  clear E a; intro a E
                  refine S_v E rfl (R_move E rfl) rfl ?_
                  clear E a; intro a E
                  refine WL_nil ?_
                  refine T_n ?_
                  have hre : ((zi3 (max (max l0.length l1.length) l2.length) l0 l1 l2).take k3) ++ [x_83] = (zi3 (max (max l0.length l1.length) l2.length) l0 l1 l2).take (k3 + 1) := by first | (simp; done) | exact (tk_snoc (by assumption)).symm
                  replace S := S.reR hre
                  replace hr_92 := hr_92.eq hre
                  clear hre
                  exact ⟨k3 + 1, ⟨M_89, _, _, (hM_81.trans (hM_86.trans hM_89)), S, E.keep ⟨rfl, rfl, rfl, rfl, rfl, rfl, rfl, rfl, rfl, rfl, rfl, rfl, rfl, rfl, rfl, rfl, rfl, trivial⟩, by ((try clear S); (try clear E); first | assumption | omega | rfl | (simp; done) | (simp_all; done) | (simp [List.take_add_one, *]; done) | grind [List.take_add_one]), hr_92⟩, by omega⟩
                · replace hc_82 := of_decide_eq_false hc_82
                  refine WP_exit ?_
                  refine T_x ?_
                  refine T_x ?_
                  refine B_x ?_
                  refine T_n ?_
                  refine WP_seq ?_
                  refine WP_region ?_
                  refine S_v E rfl (R_move E rfl) rfl ?_
                  clear E a; intro a E
                  replace S := S.front1
                  have S0 := S; clear S
                  obtain ⟨M_93, hM_93, hz_94, S⟩ := S0.freezeR hr22 RP2_mono (by (first | omega | (simp; done) | (simp only [List.length_take, List.length_map]; omega)))
                  clear S0
                  replace h0 := h0.le hM_93
                  replace h1 := h1.le hM_93
                  replace h2 := h2.le hM_93
                  replace hb_1 := hM_93.2 _ _ hb_1
                  replace hz_9 := hz_9.le hM_93
                  replace hz_11 := hz_11.le hM_93
                  replace hv_13 := hv_13.le RP2_mono hM_93
                  replace hv_15 := hv_15.le hM_93
                  replace hv_22 := hv_22.le RP2_mono hM_93
                  replace hv_24 := hv_24.le hM_93
                  replace hv_25 := hv_25.le hM_93
                  replace hv_27 := hv_27.le RP3_mono hM_93
                  replace hv_29 := hv_29.le hM_93
                  replace hv_30 := hv_30.le hM_93
                  replace hv_31 := hv_31.le hM_93
                  replace hv_35 := hv_35.le hM_93
                  replace hv_39 := hv_39.le hM_93
                  replace hv_43 := hv_43.le hM_93
                  replace hv_47 := hv_47.le hM_93
                  replace hv_51 := hv_51.le hM_93
                  replace hr25 := hr25.le RP3_mono hM_93
                  refine S_x (X_pu E S rfl rfl rfl (spec_Unzip2 hz_94 (by (first | omega | (simp; omega) | (simp; done) | (simp_all; omega) | grind))) (Hp.le.refl _) ?_)
                  clear E a S; rintro a _ w M_95 hM_95 ⟨v_96, v_97, rfl, hv_96, hv_97⟩ S E
                  replace h0 := h0.le hM_95
                  replace h1 := h1.le hM_95
                  replace h2 := h2.le hM_95
                  replace hb_1 := hM_95.2 _ _ hb_1
                  replace hz_9 := hz_9.le hM_95
                  replace hz_11 := hz_11.le hM_95
                  replace hv_13 := hv_13.le RP2_mono hM_95
                  replace hv_15 := hv_15.le hM_95
                  replace hv_22 := hv_22.le RP2_mono hM_95
                  replace hv_24 := hv_24.le hM_95
                  replace hv_25 := hv_25.le hM_95
                  replace hv_27 := hv_27.le RP3_mono hM_95
                  replace hv_29 := hv_29.le hM_95
                  replace hv_30 := hv_30.le hM_95
                  replace hv_31 := hv_31.le hM_95
                  replace hv_35 := hv_35.le hM_95
                  replace hv_39 := hv_39.le hM_95
                  replace hv_43 := hv_43.le hM_95
                  replace hv_47 := hv_47.le hM_95
                  replace hv_51 := hv_51.le hM_95
                  replace hr25 := hr25.le RP3_mono hM_95
                  replace hz_94 := hz_94.le RP2_mono hM_95
                  refine S_v E rfl (R_move E rfl) rfl ?_
                  clear E a; intro a E
                  refine S_v E rfl (R_extract E rfl rfl) rfl ?_
                  clear E a; intro a E
                  refine S_v E rfl (R_extract E rfl rfl) rfl ?_
                  clear E a; intro a E
                  refine S_v E rfl (R_assign E rfl) rfl ?_
                  clear E a; intro a E
                  refine S_v E rfl (R_assign E rfl) rfl ?_
                  clear E a; intro a E
                  refine WL_nil ?_
                  refine T_n ?_
                  refine WP_seq ?_
                  refine WP_region ?_
                  refine S_v E rfl (R_move E rfl) rfl ?_
                  clear E a; intro a E
                  have S0 := S; clear S
                  obtain ⟨M_98, hM_98, hz_99, S⟩ := S0.freezeR hr25 RP3_mono (by (first | omega | (simp; done) | (simp only [List.length_take, List.length_map]; omega)))
                  clear S0
                  replace h0 := h0.le hM_98
                  replace h1 := h1.le hM_98
                  replace h2 := h2.le hM_98
                  replace hb_1 := hM_98.2 _ _ hb_1
                  replace hz_9 := hz_9.le hM_98
                  replace hz_11 := hz_11.le hM_98
                  replace hv_13 := hv_13.le RP2_mono hM_98
                  replace hv_15 := hv_15.le hM_98
                  replace hv_22 := hv_22.le RP2_mono hM_98
                  replace hv_24 := hv_24.le hM_98
                  replace hv_25 := hv_25.le hM_98
                  replace hv_27 := hv_27.le RP3_mono hM_98
                  replace hv_29 := hv_29.le hM_98
                  replace hv_30 := hv_30.le hM_98
                  replace hv_31 := hv_31.le hM_98
                  replace hv_35 := hv_35.le hM_98
                  replace hv_39 := hv_39.le hM_98
                  replace hv_43 := hv_43.le hM_98
                  replace hv_47 := hv_47.le hM_98
                  replace hv_51 := hv_51.le hM_98
                  replace hz_94 := hz_94.le RP2_mono hM_98
                  replace hv_96 := hv_96.le hM_98
                  replace hv_97 := hv_97.le hM_98
                  refine S_x (X_pu E S rfl rfl rfl (spec_Unzip3 hz_99 (by (first | omega | (simp; omega) | (simp; done) | (simp_all; omega) | grind))) (Hp.le.refl _) ?_)
                  clear E a S; rintro a _ w M_100 hM_100 ⟨v_101, v_102, v_103, rfl, hv_101, hv_102, hv_103⟩ S E
                  replace h0 := h0.le hM_100
                  replace h1 := h1.le hM_100
                  replace h2 := h2.le hM_100
                  replace hb_1 := hM_100.2 _ _ hb_1
                  replace hz_9 := hz_9.le hM_100
                  replace hz_11 := hz_11.le hM_100
                  replace hv_13 := hv_13.le RP2_mono hM_100
                  replace hv_15 := hv_15.le hM_100
                  replace hv_22 := hv_22.le RP2_mono hM_100
                  replace hv_24 := hv_24.le hM_100
                  replace hv_25 := hv_25.le hM_100
                  replace hv_27 := hv_27.le RP3_mono hM_100
                  replace hv_29 := hv_29.le hM_100
                  replace hv_30 := hv_30.le hM_100
                  replace hv_31 := hv_31.le hM_100
                  replace hv_35 := hv_35.le hM_100
                  replace hv_39 := hv_39.le hM_100
                  replace hv_43 := hv_43.le hM_100
                  replace hv_47 := hv_47.le hM_100
                  replace hv_51 := hv_51.le hM_100
                  replace hz_94 := hz_94.le RP2_mono hM_100
                  replace hv_96 := hv_96.le hM_100
                  replace hv_97 := hv_97.le hM_100
                  replace hz_99 := hz_99.le RP3_mono hM_100
                  refine S_v E rfl (R_move E rfl) rfl ?_
                  clear E a; intro a E
                  refine S_v E rfl (R_extract E rfl rfl) rfl ?_
                  clear E a; intro a E
                  refine S_v E rfl (R_extract E rfl rfl) rfl ?_
                  clear E a; intro a E
                  refine S_v E rfl (R_extract E rfl rfl) rfl ?_
                  clear E a; intro a E
                  refine S_v E rfl (R_assign E rfl) rfl ?_
                  clear E a; intro a E
                  refine S_v E rfl (R_assign E rfl) rfl ?_
                  clear E a; intro a E
                  refine S_v E rfl (R_assign E rfl) rfl ?_
                  clear E a; intro a E
                  refine WL_nil ?_
                  refine T_n ?_
                  refine WP_seq ?_
                  refine WP_seq ?_
                  refine WP_region ?_
                  refine S_v E rfl (R_move E rfl) rfl ?_
                  clear E a; intro a E
                  refine S_v E rfl (R_move E rfl) rfl ?_
                  clear E a; intro a E
                  refine S_v E rfl (R_move E rfl) rfl ?_
                  clear E a; intro a E
                  refine S_x (X_pu E S rfl rfl rfl (spec_Zip2 h0 h1 (by first | omega | (simp; done) | (simp; omega)) (by first | omega | (simp; done) | (simp; omega))) (Hp.le.refl _) ?_)
                  clear E a S; rintro a v_105 w M_104 hM_104 hv_105 S E
                  replace h0 := h0.le hM_104
                  replace h1 := h1.le hM_104
                  replace h2 := h2.le hM_104
                  replace hb_1 := hM_104.2 _ _ hb_1
                  replace hz_9 := hz_9.le hM_104
                  replace hz_11 := hz_11.le hM_104
                  replace hv_13 := hv_13.le RP2_mono hM_104
                  replace hv_15 := hv_15.le hM_104
                  replace hv_22 := hv_22.le RP2_mono hM_104
                  replace hv_24 := hv_24.le hM_104
                  replace hv_25 := hv_25.le hM_104
                  replace hv_27 := hv_27.le RP3_mono hM_104
                  replace hv_29 := hv_29.le hM_104
                  replace hv_30 := hv_30.le hM_104
                  replace hv_31 := hv_31.le hM_104
                  replace hv_35 := hv_35.le hM_104
                  replace hv_39 := hv_39.le hM_104
                  replace hv_43 := hv_43.le hM_104
                  replace hv_47 := hv_47.le hM_104
                  replace hv_51 := hv_51.le hM_104
                  replace hz_94 := hz_94.le RP2_mono hM_104
                  replace hv_96 := hv_96.le hM_104
                  replace hv_97 := hv_97.le hM_104
                  replace hz_99 := hz_99.le RP3_mono hM_104
                  replace hv_101 := hv_101.le hM_104
                  replace hv_102 := hv_102.le hM_104
                  replace hv_103 := hv_103.le hM_104
                  refine S_x (X_pu E S rfl rfl rfl (laws_eqRef hv_22 hv_105) (Hp.le.refl _) ?_)
                  clear E a S; rintro a _ w M_106 hM_106 rfl S E
                  replace h0 := h0.le hM_106
                  replace h1 := h1.le hM_106
                  replace h2 := h2.le hM_106
                  replace hb_1 := hM_106.2 _ _ hb_1
                  replace hz_9 := hz_9.le hM_106
                  replace hz_11 := hz_11.le hM_106
                  replace hv_13 := hv_13.le RP2_mono hM_106
                  replace hv_15 := hv_15.le hM_106
                  replace hv_22 := hv_22.le RP2_mono hM_106
                  replace hv_24 := hv_24.le hM_106
                  replace hv_25 := hv_25.le hM_106
                  replace hv_27 := hv_27.le RP3_mono hM_106
                  replace hv_29 := hv_29.le hM_106
                  replace hv_30 := hv_30.le hM_106
                  replace hv_31 := hv_31.le hM_106
                  replace hv_35 := hv_35.le hM_106
                  replace hv_39 := hv_39.le hM_106
                  replace hv_43 := hv_43.le hM_106
                  replace hv_47 := hv_47.le hM_106
                  replace hv_51 := hv_51.le hM_106
                  replace hz_94 := hz_94.le RP2_mono hM_106
                  replace hv_96 := hv_96.le hM_106
                  replace hv_97 := hv_97.le hM_106
                  replace hz_99 := hz_99.le RP3_mono hM_106
                  replace hv_101 := hv_101.le hM_106
                  replace hv_102 := hv_102.le hM_106
                  replace hv_103 := hv_103.le hM_106
                  replace hv_105 := hv_105.le RP2_mono hM_106
                  refine S_v E rfl (R_not E rfl) rfl ?_
                  clear E a; intro a E
                  refine S_v E rfl (R_move E rfl) rfl ?_
                  clear E a; intro a E
                  have hc_107 : (!(decide (zi2 (max l0.length l1.length) l0 l1 = zi2 (max l0.length l1.length) l0 l1))) = false := by (clear S E; first | (simp; done) | decide | exact decide_eq_false (by omega) | (simp [zi2_len]; done) | (simp [zi3_len]; done) | (rw [z2_full0 (by omega)]; simp; done) | (rw [z2_full1 (by omega)]; simp; done) | (rw [z3_full0 (by omega)]; simp; done) | (rw [z3_full1 (by omega)]; simp; done) | (rw [z3_full2 (by omega)]; simp; done) | (simp; omega) | (rw [List.take_of_length_le (show (zi2 (max l0.length l1.length) l0 l1).length ≤ k by omega)]; simp; done) | (rw [List.take_of_length_le (show (zi2 (max l0.length l1.length) l0 l1).length ≤ k2 by omega)]; simp; done) | (rw [List.take_of_length_le (show (zi3 (max (max l0.length l1.length) l2.length) l0 l1 l2).length ≤ k3 by omega)]; simp; done))
                  replace E := E.val (t := 200) rfl hc_107
                  replace E := E.val (t := 201) rfl hc_107
                  refine WL_guard_yes E rfl rfl ?_
                  refine S_v E rfl (R_move E rfl) rfl ?_
                  clear E a; intro a E
                  refine WL_guard_yes E rfl rfl ?_
                  refine S_v E rfl (R_move E rfl) rfl ?_
                  clear E a; intro a E
                  refine WL_guard_yes E rfl rfl ?_
                  refine S_x (X_pu E S rfl rfl rfl (laws_eq hv_96 hv_24) (Hp.le.refl _) ?_)
                  clear E a S; rintro a _ w M_108 hM_108 rfl S E
                  replace h0 := h0.le hM_108
                  replace h1 := h1.le hM_108
                  replace h2 := h2.le hM_108
                  replace hb_1 := hM_108.2 _ _ hb_1
                  replace hz_9 := hz_9.le hM_108
                  replace hz_11 := hz_11.le hM_108
                  replace hv_13 := hv_13.le RP2_mono hM_108
                  replace hv_15 := hv_15.le hM_108
                  replace hv_22 := hv_22.le RP2_mono hM_108
                  replace hv_24 := hv_24.le hM_108
                  replace hv_25 := hv_25.le hM_108
                  replace hv_27 := hv_27.le RP3_mono hM_108
                  replace hv_29 := hv_29.le hM_108
                  replace hv_30 := hv_30.le hM_108
                  replace hv_31 := hv_31.le hM_108
                  replace hv_35 := hv_35.le hM_108
                  replace hv_39 := hv_39.le hM_108
                  replace hv_43 := hv_43.le hM_108
                  replace hv_47 := hv_47.le hM_108
                  replace hv_51 := hv_51.le hM_108
                  replace hz_94 := hz_94.le RP2_mono hM_108
                  replace hv_96 := hv_96.le hM_108
                  replace hv_97 := hv_97.le hM_108
                  replace hz_99 := hz_99.le RP3_mono hM_108
                  replace hv_101 := hv_101.le hM_108
                  replace hv_102 := hv_102.le hM_108
                  replace hv_103 := hv_103.le hM_108
                  replace hv_105 := hv_105.le RP2_mono hM_108
                  refine WL_guard_yes E rfl rfl ?_
                  refine S_v E rfl (R_not E rfl) rfl ?_
                  clear E a; intro a E
                  refine S_v E rfl (R_pickF E rfl rfl) rfl ?_
                  clear E a; intro a E
                  refine S_v E rfl (R_move E rfl) rfl ?_
                  clear E a; intro a E
                  have hc_109 : (!(decide (((zi2 (max l0.length l1.length) l0 l1).take k2).map (fun p => p.1) = (zi2 (max l0.length l1.length) l0 l1).map (fun p => p.1)))) = false := by (clear S E; first | (simp; done) | decide | exact decide_eq_false (by omega) | (simp [zi2_len]; done) | (simp [zi3_len]; done) | (rw [z2_full0 (by omega)]; simp; done) | (rw [z2_full1 (by omega)]; simp; done) | (rw [z3_full0 (by omega)]; simp; done) | (rw [z3_full1 (by omega)]; simp; done) | (rw [z3_full2 (by omega)]; simp; done) | (simp; omega) | (rw [List.take_of_length_le (show (zi2 (max l0.length l1.length) l0 l1).length ≤ k by omega)]; simp; done) | (rw [List.take_of_length_le (show (zi2 (max l0.length l1.length) l0 l1).length ≤ k2 by omega)]; simp; done) | (rw [List.take_of_length_le (show (zi3 (max (max l0.length l1.length) l2.length) l0 l1 l2).length ≤ k3 by omega)]; simp; done))
                  replace E := E.val (t := 205) rfl hc_109
                  replace E := E.val (t := 206) rfl hc_109
                  replace E := E.val (t := 207) rfl hc_109
                  refine WL_guard_yes E rfl rfl ?_
                  refine S_v E rfl (R_move E rfl) rfl ?_
                  clear E a; intro a E
                  refine WL_guard_yes E rfl rfl ?_
                  refine S_v E rfl (R_move E rfl) rfl ?_
                  clear E a; intro a E
                  refine WL_guard_yes E rfl rfl ?_
                  refine S_x (X_pu E S rfl rfl rfl (laws_eq hv_97 hv_25) (Hp.le.refl _) ?_)
                  clear E a S; rintro a _ w M_110 hM_110 rfl S E
                  replace h0 := h0.le hM_110
                  replace h1 := h1.le hM_110
                  replace h2 := h2.le hM_110
                  replace hb_1 := hM_110.2 _ _ hb_1
                  replace hz_9 := hz_9.le hM_110
                  replace hz_11 := hz_11.le hM_110
                  replace hv_13 := hv_13.le RP2_mono hM_110
                  replace hv_15 := hv_15.le hM_110
                  replace hv_22 := hv_22.le RP2_mono hM_110
                  replace hv_24 := hv_24.le hM_110
                  replace hv_25 := hv_25.le hM_110
                  replace hv_27 := hv_27.le RP3_mono hM_110
                  replace hv_29 := hv_29.le hM_110
                  replace hv_30 := hv_30.le hM_110
                  replace hv_31 := hv_31.le hM_110
                  replace hv_35 := hv_35.le hM_110
                  replace hv_39 := hv_39.le hM_110
                  replace hv_43 := hv_43.le hM_110
                  replace hv_47 := hv_47.le hM_110
                  replace hv_51 := hv_51.le hM_110
                  replace hz_94 := hz_94.le RP2_mono hM_110
                  replace hv_96 := hv_96.le hM_110
                  replace hv_97 := hv_97.le hM_110
                  replace hz_99 := hz_99.le RP3_mono hM_110
                  replace hv_101 := hv_101.le hM_110
                  replace hv_102 := hv_102.le hM_110
                  replace hv_103 := hv_103.le hM_110
                  replace hv_105 := hv_105.le RP2_mono hM_110
                  refine WL_guard_yes E rfl rfl ?_
                  refine S_v E rfl (R_not E rfl) rfl ?_
                  clear E a; intro a E
                  refine S_v E rfl (R_pickF E rfl rfl) rfl ?_
                  clear E a; intro a E
                  refine S_v E rfl (R_move E rfl) rfl ?_
                  clear E a; intro a E
                  have hc_111 : (!(decide (((zi2 (max l0.length l1.length) l0 l1).take k2).map (fun p => p.2) = (zi2 (max l0.length l1.length) l0 l1).map (fun p => p.2)))) = false := by (clear S E; first | (simp; done) | decide | exact decide_eq_false (by omega) | (simp [zi2_len]; done) | (simp [zi3_len]; done) | (rw [z2_full0 (by omega)]; simp; done) | (rw [z2_full1 (by omega)]; simp; done) | (rw [z3_full0 (by omega)]; simp; done) | (rw [z3_full1 (by omega)]; simp; done) | (rw [z3_full2 (by omega)]; simp; done) | (simp; omega) | (rw [List.take_of_length_le (show (zi2 (max l0.length l1.length) l0 l1).length ≤ k by omega)]; simp; done) | (rw [List.take_of_length_le (show (zi2 (max l0.length l1.length) l0 l1).length ≤ k2 by omega)]; simp; done) | (rw [List.take_of_length_le (show (zi3 (max (max l0.length l1.length) l2.length) l0 l1 l2).length ≤ k3 by omega)]; simp; done))
                  replace E := E.val (t := 211) rfl hc_111
                  replace E := E.val (t := 212) rfl hc_111
                  replace E := E.val (t := 213) rfl hc_111
                  refine WL_guard_yes E rfl rfl ?_
                  refine S_v E rfl (R_move E rfl) rfl ?_
                  clear E a; intro a E
                  refine WL_guard_yes E rfl rfl ?_
                  refine S_v E rfl (R_move E rfl) rfl ?_
                  clear E a; intro a E
                  refine WL_guard_yes E rfl rfl ?_
                  refine S_x (X_pu E S rfl rfl rfl (laws_eq hv_101 hv_29) (Hp.le.refl _) ?_)
                  clear E a S; rintro a _ w M_112 hM_112 rfl S E
                  replace h0 := h0.le hM_112
                  replace h1 := h1.le hM_112
                  replace h2 := h2.le hM_112
                  replace hb_1 := hM_112.2 _ _ hb_1
                  replace hz_9 := hz_9.le hM_112
                  replace hz_11 := hz_11.le hM_112
                  replace hv_13 := hv_13.le RP2_mono hM_112
                  replace hv_15 := hv_15.le hM_112
                  replace hv_22 := hv_22.le RP2_mono hM_112
                  replace hv_24 := hv_24.le hM_112
                  replace hv_25 := hv_25.le hM_112
                  replace hv_27 := hv_27.le RP3_mono hM_112
                  replace hv_29 := hv_29.le hM_112
                  replace hv_30 := hv_30.le hM_112
                  replace hv_31 := hv_31.le hM_112
                  replace hv_35 := hv_35.le hM_112
                  replace hv_39 := hv_39.le hM_112
                  replace hv_43 := hv_43.le hM_112
                  replace hv_47 := hv_47.le hM_112
                  replace hv_51 := hv_51.le hM_112
                  replace hz_94 := hz_94.le RP2_mono hM_112
                  replace hv_96 := hv_96.le hM_112
                  replace hv_97 := hv_97.le hM_112
                  replace hz_99 := hz_99.le RP3_mono hM_112
                  replace hv_101 := hv_101.le hM_112
                  replace hv_102 := hv_102.le hM_112
                  replace hv_103 := hv_103.le hM_112
                  replace hv_105 := hv_105.le RP2_mono hM_112
                  refine WL_guard_yes E rfl rfl ?_
                  refine S_v E rfl (R_not E rfl) rfl ?_
                  clear E a; intro a E
                  refine S_v E rfl (R_pickF E rfl rfl) rfl ?_
                  clear E a; intro a E
                  refine S_v E rfl (R_move E rfl) rfl ?_
                  clear E a; intro a E
                  have hc_113 : (!(decide (((zi3 (max (max l0.length l1.length) l2.length) l0 l1 l2).take k3).map (fun p => p.1) = (zi3 (max (max l0.length l1.length) l2.length) l0 l1 l2).map (fun p => p.1)))) = false := by (clear S E; first | (simp; done) | decide | exact decide_eq_false (by omega) | (simp [zi2_len]; done) | (simp [zi3_len]; done) | (rw [z2_full0 (by omega)]; simp; done) | (rw [z2_full1 (by omega)]; simp; done) | (rw [z3_full0 (by omega)]; simp; done) | (rw [z3_full1 (by omega)]; simp; done) | (rw [z3_full2 (by omega)]; simp; done) | (simp; omega) | (rw [List.take_of_length_le (show (zi2 (max l0.length l1.length) l0 l1).length ≤ k by omega)]; simp; done) | (rw [List.take_of_length_le (show (zi2 (max l0.length l1.length) l0 l1).length ≤ k2 by omega)]; simp; done) | (rw [List.take_of_length_le (show (zi3 (max (max l0.length l1.length) l2.length) l0 l1 l2).length ≤ k3 by omega)]; simp; done))
                  replace E := E.val (t := 217) rfl hc_113
                  replace E := E.val (t := 218) rfl hc_113
                  replace E := E.val (t := 219) rfl hc_113
                  refine WL_guard_yes E rfl rfl ?_
                  refine S_v E rfl (R_move E rfl) rfl ?_
                  clear E a; intro a E
                  refine WL_guard_yes E rfl rfl ?_
                  refine S_v E rfl (R_move E rfl) rfl ?_
                  clear E a; intro a E
                  refine WL_guard_yes E rfl rfl ?_
                  refine S_x (X_pu E S rfl rfl rfl (laws_eq hv_102 hv_30) (Hp.le.refl _) ?_)
                  clear E a S; rintro a _ w M_114 hM_114 rfl S E
                  replace h0 := h0.le hM_114
                  replace h1 := h1.le hM_114
                  replace h2 := h2.le hM_114
                  replace hb_1 := hM_114.2 _ _ hb_1
                  replace hz_9 := hz_9.le hM_114
                  replace hz_11 := hz_11.le hM_114
                  replace hv_13 := hv_13.le RP2_mono hM_114
                  replace hv_15 := hv_15.le hM_114
                  replace hv_22 := hv_22.le RP2_mono hM_114
                  replace hv_24 := hv_24.le hM_114
                  replace hv_25 := hv_25.le hM_114
                  replace hv_27 := hv_27.le RP3_mono hM_114
                  replace hv_29 := hv_29.le hM_114
                  replace hv_30 := hv_30.le hM_114
                  replace hv_31 := hv_31.le hM_114
                  replace hv_35 := hv_35.le hM_114
                  replace hv_39 := hv_39.le hM_114
                  replace hv_43 := hv_43.le hM_114
                  replace hv_47 := hv_47.le hM_114
                  replace hv_51 := hv_51.le hM_114
                  replace hz_94 := hz_94.le RP2_mono hM_114
                  replace hv_96 := hv_96.le hM_114
                  replace hv_97 := hv_97.le hM_114
                  replace hz_99 := hz_99.le RP3_mono hM_114
                  replace hv_101 := hv_101.le hM_114
                  replace hv_102 := hv_102.le hM_114
                  replace hv_103 := hv_103.le hM_114
                  replace hv_105 := hv_105.le RP2_mono hM_114
                  refine WL_guard_yes E rfl rfl ?_
                  refine S_v E rfl (R_not E rfl) rfl ?_
                  clear E a; intro a E
                  refine S_v E rfl (R_pickF E rfl rfl) rfl ?_
                  clear E a; intro a E
                  refine S_v E rfl (R_move E rfl) rfl ?_
                  clear E a; intro a E
                  have hc_115 : (!(decide (((zi3 (max (max l0.length l1.length) l2.length) l0 l1 l2).take k3).map (fun p => p.2.1) = (zi3 (max (max l0.length l1.length) l2.length) l0 l1 l2).map (fun p => p.2.1)))) = false := by (clear S E; first | (simp; done) | decide | exact decide_eq_false (by omega) | (simp [zi2_len]; done) | (simp [zi3_len]; done) | (rw [z2_full0 (by omega)]; simp; done) | (rw [z2_full1 (by omega)]; simp; done) | (rw [z3_full0 (by omega)]; simp; done) | (rw [z3_full1 (by omega)]; simp; done) | (rw [z3_full2 (by omega)]; simp; done) | (simp; omega) | (rw [List.take_of_length_le (show (zi2 (max l0.length l1.length) l0 l1).length ≤ k by omega)]; simp; done) | (rw [List.take_of_length_le (show (zi2 (max l0.length l1.length) l0 l1).length ≤ k2 by omega)]; simp; done) | (rw [List.take_of_length_le (show (zi3 (max (max l0.length l1.length) l2.length) l0 l1 l2).length ≤ k3 by omega)]; simp; done))
                  replace E := E.val (t := 223) rfl hc_115
                  replace E := E.val (t := 224) rfl hc_115
                  replace E := E.val (t := 225) rfl hc_115
                  refine WL_guard_yes E rfl rfl ?_
                  refine S_v E rfl (R_move E rfl) rfl ?_
                  clear E a; intro a E
                  refine WL_guard_yes E rfl rfl ?_
                  refine S_v E rfl (R_move E rfl) rfl ?_
                  clear E a; intro a E
                  refine WL_guard_yes E rfl rfl ?_
                  refine S_x (X_pu E S rfl rfl rfl (laws_eq hv_103 hv_31) (Hp.le.refl _) ?_)
                  clear E a S; rintro a _ w M_116 hM_116 rfl S E
                  replace h0 := h0.le hM_116
                  replace h1 := h1.le hM_116
                  replace h2 := h2.le hM_116
                  replace hb_1 := hM_116.2 _ _ hb_1
                  replace hz_9 := hz_9.le hM_116
                  replace hz_11 := hz_11.le hM_116
                  replace hv_13 := hv_13.le RP2_mono hM_116
                  replace hv_15 := hv_15.le hM_116
                  replace hv_22 := hv_22.le RP2_mono hM_116
                  replace hv_24 := hv_24.le hM_116
                  replace hv_25 := hv_25.le hM_116
                  replace hv_27 := hv_27.le RP3_mono hM_116
                  replace hv_29 := hv_29.le hM_116
                  replace hv_30 := hv_30.le hM_116
                  replace hv_31 := hv_31.le hM_116
                  replace hv_35 := hv_35.le hM_116
                  replace hv_39 := hv_39.le hM_116
                  replace hv_43 := hv_43.le hM_116
                  replace hv_47 := hv_47.le hM_116
                  replace hv_51 := hv_51.le hM_116
                  replace hz_94 := hz_94.le RP2_mono hM_116
                  replace hv_96 := hv_96.le hM_116
                  replace hv_97 := hv_97.le hM_116
                  replace hz_99 := hz_99.le RP3_mono hM_116
                  replace hv_101 := hv_101.le hM_116
                  replace hv_102 := hv_102.le hM_116
                  replace hv_103 := hv_103.le hM_116
                  replace hv_105 := hv_105.le RP2_mono hM_116
                  refine WL_guard_yes E rfl rfl ?_
                  refine S_v E rfl (R_not E rfl) rfl ?_
                  clear E a; intro a E
                  refine S_v E rfl (R_pickF E rfl rfl) rfl ?_
                  clear E a; intro a E
                  refine S_v E rfl (R_move E rfl) rfl ?_
                  clear E a; intro a E
                  have hc_117 : (!(decide (((zi3 (max (max l0.length l1.length) l2.length) l0 l1 l2).take k3).map (fun p => p.2.2) = (zi3 (max (max l0.length l1.length) l2.length) l0 l1 l2).map (fun p => p.2.2)))) = false := by (clear S E; first | (simp; done) | decide | exact decide_eq_false (by omega) | (simp [zi2_len]; done) | (simp [zi3_len]; done) | (rw [z2_full0 (by omega)]; simp; done) | (rw [z2_full1 (by omega)]; simp; done) | (rw [z3_full0 (by omega)]; simp; done) | (rw [z3_full1 (by omega)]; simp; done) | (rw [z3_full2 (by omega)]; simp; done) | (simp; omega) | (rw [List.take_of_length_le (show (zi2 (max l0.length l1.length) l0 l1).length ≤ k by omega)]; simp; done) | (rw [List.take_of_length_le (show (zi2 (max l0.length l1.length) l0 l1).length ≤ k2 by omega)]; simp; done) | (rw [List.take_of_length_le (show (zi3 (max (max l0.length l1.length) l2.length) l0 l1 l2).length ≤ k3 by omega)]; simp; done))
                  replace E := E.val (t := 229) rfl hc_117
                  replace E := E.val (t := 230) rfl hc_117
                  replace E := E.val (t := 231) rfl hc_117
                  refine WL_guard_yes E rfl rfl ?_
                  refine S_v E rfl (R_move E rfl) rfl ?_
                  clear E a; intro a E
                  refine WL_guard_yes E rfl rfl ?_
                  refine S_v E rfl (R_move E rfl) rfl ?_
                  clear E a; intro a E
                  refine WL_guard_yes E rfl rfl ?_
                  refine S_v E rfl (R_loadGM E rfl (Try.isAgg31 _) (Try.sizeOf31 _) S.imm hb_1) rfl ?_
                  clear E a; intro a E
                  refine WL_guard_yes E rfl rfl ?_
                  refine S_x (X_pu E S rfl rfl rfl (spec_ZipBy2 h0 h1 (by omega) (by assumption) (by first | omega | (simp; done) | (simp; omega)) (by first | omega | (simp; done) | (simp; omega))) (Hp.le.refl _) ?_)
                  clear E a S; rintro a v_119 w M_118 hM_118 hv_119 S E
                  replace h0 := h0.le hM_118
                  replace h1 := h1.le hM_118
                  replace h2 := h2.le hM_118
                  replace hb_1 := hM_118.2 _ _ hb_1
                  replace hz_9 := hz_9.le hM_118
                  replace hz_11 := hz_11.le hM_118
                  replace hv_13 := hv_13.le RP2_mono hM_118
                  replace hv_15 := hv_15.le hM_118
                  replace hv_22 := hv_22.le RP2_mono hM_118
                  replace hv_24 := hv_24.le hM_118
                  replace hv_25 := hv_25.le hM_118
                  replace hv_27 := hv_27.le RP3_mono hM_118
                  replace hv_29 := hv_29.le hM_118
                  replace hv_30 := hv_30.le hM_118
                  replace hv_31 := hv_31.le hM_118
                  replace hv_35 := hv_35.le hM_118
                  replace hv_39 := hv_39.le hM_118
                  replace hv_43 := hv_43.le hM_118
                  replace hv_47 := hv_47.le hM_118
                  replace hv_51 := hv_51.le hM_118
                  replace hz_94 := hz_94.le RP2_mono hM_118
                  replace hv_96 := hv_96.le hM_118
                  replace hv_97 := hv_97.le hM_118
                  replace hz_99 := hz_99.le RP3_mono hM_118
                  replace hv_101 := hv_101.le hM_118
                  replace hv_102 := hv_102.le hM_118
                  replace hv_103 := hv_103.le hM_118
                  replace hv_105 := hv_105.le RP2_mono hM_118
                  refine WL_guard_yes E rfl rfl ?_
                  refine S_v E rfl (R_move E rfl) rfl ?_
                  clear E a; intro a E
                  have S0 := S; clear S
                  obtain ⟨M_120, hM_120, hz_121, S⟩ := S0.freezeI (by (first | omega | (simp; done) | (simp only [List.length_take, List.length_map]; omega)))
                  clear S0
                  replace h0 := h0.le hM_120
                  replace h1 := h1.le hM_120
                  replace h2 := h2.le hM_120
                  replace hb_1 := hM_120.2 _ _ hb_1
                  replace hz_9 := hz_9.le hM_120
                  replace hz_11 := hz_11.le hM_120
                  replace hv_13 := hv_13.le RP2_mono hM_120
                  replace hv_15 := hv_15.le hM_120
                  replace hv_22 := hv_22.le RP2_mono hM_120
                  replace hv_24 := hv_24.le hM_120
                  replace hv_25 := hv_25.le hM_120
                  replace hv_27 := hv_27.le RP3_mono hM_120
                  replace hv_29 := hv_29.le hM_120
                  replace hv_30 := hv_30.le hM_120
                  replace hv_31 := hv_31.le hM_120
                  replace hv_35 := hv_35.le hM_120
                  replace hv_39 := hv_39.le hM_120
                  replace hv_43 := hv_43.le hM_120
                  replace hv_47 := hv_47.le hM_120
                  replace hv_51 := hv_51.le hM_120
                  replace hz_94 := hz_94.le RP2_mono hM_120
                  replace hv_96 := hv_96.le hM_120
                  replace hv_97 := hv_97.le hM_120
                  replace hz_99 := hz_99.le RP3_mono hM_120
                  replace hv_101 := hv_101.le hM_120
                  replace hv_102 := hv_102.le hM_120
                  replace hv_103 := hv_103.le hM_120
                  replace hv_105 := hv_105.le RP2_mono hM_120
                  replace hv_119 := hv_119.le hM_120
                  refine WL_guard_yes E rfl rfl ?_
                  refine S_x (X_pu E S rfl rfl rfl (laws_eq hv_119 hz_121) (Hp.le.refl _) ?_)
                  clear E a S; rintro a _ w M_122 hM_122 rfl S E
                  replace h0 := h0.le hM_122
                  replace h1 := h1.le hM_122
                  replace h2 := h2.le hM_122
                  replace hb_1 := hM_122.2 _ _ hb_1
                  replace hz_9 := hz_9.le hM_122
                  replace hz_11 := hz_11.le hM_122
                  replace hv_13 := hv_13.le RP2_mono hM_122
                  replace hv_15 := hv_15.le hM_122
                  replace hv_22 := hv_22.le RP2_mono hM_122
                  replace hv_24 := hv_24.le hM_122
                  replace hv_25 := hv_25.le hM_122
                  replace hv_27 := hv_27.le RP3_mono hM_122
                  replace hv_29 := hv_29.le hM_122
                  replace hv_30 := hv_30.le hM_122
                  replace hv_31 := hv_31.le hM_122
                  replace hv_35 := hv_35.le hM_122
                  replace hv_39 := hv_39.le hM_122
                  replace hv_43 := hv_43.le hM_122
                  replace hv_47 := hv_47.le hM_122
                  replace hv_51 := hv_51.le hM_122
                  replace hz_94 := hz_94.le RP2_mono hM_122
                  replace hv_96 := hv_96.le hM_122
                  replace hv_97 := hv_97.le hM_122
                  replace hz_99 := hz_99.le RP3_mono hM_122
                  replace hv_101 := hv_101.le hM_122
                  replace hv_102 := hv_102.le hM_122
                  replace hv_103 := hv_103.le hM_122
                  replace hv_105 := hv_105.le RP2_mono hM_122
                  replace hv_119 := hv_119.le hM_122
                  replace hz_121 := hz_121.le hM_122
                  refine WL_guard_yes E rfl rfl ?_
                  refine S_v E rfl (R_not E rfl) rfl ?_
                  clear E a; intro a E
                  refine S_v E rfl (R_pickF E rfl rfl) rfl ?_
                  clear E a; intro a E
                  refine WL_nil ?_
                  refine T_n ?_
                  have hc_123 : (!(decide ((zi2 (max l0.length l1.length) l0 l1).map (fun p => (keyAt kk3 kn3) p.1 p.2) = ((zi2 (max l0.length l1.length) l0 l1).take k).map (fun p => keyAt kk3 kn3 p.1 p.2)))) = false := by (clear S E; first | (simp; done) | decide | exact decide_eq_false (by omega) | (simp [zi2_len]; done) | (simp [zi3_len]; done) | (rw [z2_full0 (by omega)]; simp; done) | (rw [z2_full1 (by omega)]; simp; done) | (rw [z3_full0 (by omega)]; simp; done) | (rw [z3_full1 (by omega)]; simp; done) | (rw [z3_full2 (by omega)]; simp; done) | (simp; omega) | (rw [List.take_of_length_le (show (zi2 (max l0.length l1.length) l0 l1).length ≤ k by omega)]; simp; done) | (rw [List.take_of_length_le (show (zi2 (max l0.length l1.length) l0 l1).length ≤ k2 by omega)]; simp; done) | (rw [List.take_of_length_le (show (zi3 (max (max l0.length l1.length) l2.length) l0 l1 l2).length ≤ k3 by omega)]; simp; done))
                  refine WP_condF E rfl hc_123 ?_
                  refine WP_skip ?_
                  refine T_n ?_
                  refine WP_seq ?_
                  refine WP_seq ?_
                  refine WP_region ?_
                  refine S_v E rfl (R_move E rfl) rfl ?_
                  clear E a; intro a E
                  refine S_v E rfl (R_move E rfl) rfl ?_
                  clear E a; intro a E
                  refine S_v E rfl (R_move E rfl) rfl ?_
                  clear E a; intro a E
                  refine S_x (X_pu E S rfl rfl rfl (spec_Zip3 h0 h1 h2 (by first | omega | (simp; done) | (simp; omega)) (by first | omega | (simp; done) | (simp; omega)) (by first | omega | (simp; done) | (simp; omega))) (Hp.le.refl _) ?_)
                  clear E a S; rintro a v_125 w M_124 hM_124 hv_125 S E
                  replace h0 := h0.le hM_124
                  replace h1 := h1.le hM_124
                  replace h2 := h2.le hM_124
                  replace hb_1 := hM_124.2 _ _ hb_1
                  replace hz_9 := hz_9.le hM_124
                  replace hz_11 := hz_11.le hM_124
                  replace hv_13 := hv_13.le RP2_mono hM_124
                  replace hv_15 := hv_15.le hM_124
                  replace hv_22 := hv_22.le RP2_mono hM_124
                  replace hv_24 := hv_24.le hM_124
                  replace hv_25 := hv_25.le hM_124
                  replace hv_27 := hv_27.le RP3_mono hM_124
                  replace hv_29 := hv_29.le hM_124
                  replace hv_30 := hv_30.le hM_124
                  replace hv_31 := hv_31.le hM_124
                  replace hv_35 := hv_35.le hM_124
                  replace hv_39 := hv_39.le hM_124
                  replace hv_43 := hv_43.le hM_124
                  replace hv_47 := hv_47.le hM_124
                  replace hv_51 := hv_51.le hM_124
                  replace hz_94 := hz_94.le RP2_mono hM_124
                  replace hv_96 := hv_96.le hM_124
                  replace hv_97 := hv_97.le hM_124
                  replace hz_99 := hz_99.le RP3_mono hM_124
                  replace hv_101 := hv_101.le hM_124
                  replace hv_102 := hv_102.le hM_124
                  replace hv_103 := hv_103.le hM_124
                  replace hv_105 := hv_105.le RP2_mono hM_124
                  replace hv_119 := hv_119.le hM_124
                  replace hz_121 := hz_121.le hM_124
                  refine S_v E rfl (R_lenV E rfl T58 hv_125.len) rfl ?_
                  clear E a; intro a E
                  refine S_v E rfl (R_move E rfl) rfl ?_
                  clear E a; intro a E
                  refine WL_nil ?_
                  refine T_n ?_
                  refine WP_block ?_
                  refine WP_loop (γ := Nat) (fun (k4 : Nat) a w => ∃ (M_126 : Hp), Hp.le M_124 M_126 ∧ St w M_126 (H) ∧ Env a 269 [] [(0, v0), (1, v1), (7, .pointer (some ⟨b_1, 0, none⟩)), (14, v_27), (19, u19), (243, v_125), (244, .int .i64 (((zi3 (max (max l0.length l1.length) l2.length) l0 l1 l2).length : Nat) : Int)), (245, .int .i64 ((k4 : Nat) : Int))] ∧ (k4 ≤ (zi3 (max (max l0.length l1.length) l2.length) l0 l1 l2).length)) (fun k4 => ((zi3 (max (max l0.length l1.length) l2.length) l0 l1 l2).length) - k4) 0 ⟨M_124, Hp.le.refl _, S, E.keep ⟨rfl, rfl, rfl, rfl, rfl, rfl, rfl, rfl, trivial⟩, by ((try clear S); (try clear E); first | assumption | omega | rfl | (simp; done) | (simp_all; done) | (simp [List.take_add_one, *]; done) | grind [List.take_add_one])⟩ ?_
                  try clear E
                  try clear S
                  try clear a
                  try clear w
                  rintro k4 a w ⟨M_126, hM_126, S, E, hL3_0⟩
                  replace h0 := h0.le hM_126
                  replace h1 := h1.le hM_126
                  replace h2 := h2.le hM_126
                  replace hb_1 := hM_126.2 _ _ hb_1
                  replace hz_9 := hz_9.le hM_126
                  replace hz_11 := hz_11.le hM_126
                  replace hv_13 := hv_13.le RP2_mono hM_126
                  replace hv_15 := hv_15.le hM_126
                  replace hv_22 := hv_22.le RP2_mono hM_126
                  replace hv_24 := hv_24.le hM_126
                  replace hv_25 := hv_25.le hM_126
                  replace hv_27 := hv_27.le RP3_mono hM_126
                  replace hv_29 := hv_29.le hM_126
                  replace hv_30 := hv_30.le hM_126
                  replace hv_31 := hv_31.le hM_126
                  replace hv_35 := hv_35.le hM_126
                  replace hv_39 := hv_39.le hM_126
                  replace hv_43 := hv_43.le hM_126
                  replace hv_47 := hv_47.le hM_126
                  replace hv_51 := hv_51.le hM_126
                  replace hz_94 := hz_94.le RP2_mono hM_126
                  replace hv_96 := hv_96.le hM_126
                  replace hv_97 := hv_97.le hM_126
                  replace hz_99 := hz_99.le RP3_mono hM_126
                  replace hv_101 := hv_101.le hM_126
                  replace hv_102 := hv_102.le hM_126
                  replace hv_103 := hv_103.le hM_126
                  replace hv_105 := hv_105.le RP2_mono hM_126
                  replace hv_119 := hv_119.le hM_126
                  replace hz_121 := hz_121.le hM_126
                  replace hv_125 := hv_125.le RP3_mono hM_126
                  refine WP_seq ?_
                  refine WP_region ?_
                  refine S_v E rfl (R_lss E rfl rfl) rfl ?_
                  clear E a; intro a E
                  refine WL_nil ?_
                  refine T_n ?_
                  refine WP_seq ?_
                  refine WP_cond E rfl (fun hc_127 => ?_) (fun hc_127 => ?_)
                  · replace hc_127 := of_decide_eq_true hc_127
                    refine WP_skip ?_
                    refine T_n ?_
                    refine WP_seq ?_
                    refine WP_block ?_
                    refine WP_seq ?_
                    refine WP_region ?_
                    refine S_v E rfl (R_move E rfl) rfl ?_
                    clear E a; intro a E
                    obtain ⟨x_128, hx_128⟩ : ∃ x, (zi3 (max (max l0.length l1.length) l2.length) l0 l1 l2)[k4]? = some x := ⟨_, List.getElem?_eq_getElem (by first | omega | (simp; done) | (simp; omega) | (simp_all; omega))⟩
                    obtain ⟨p_129, hp_129, qp_129⟩ := RdP3.at hv_125 hx_128
                    refine S_v E rfl (R_idx E rfl rfl T58 hp_129 rfl) rfl ?_
                    clear E a; intro a E
                    refine S_v E rfl (R_loadA (cs := [.int .i64 x_128.1, .int .i64 x_128.2.1, .int .i64 x_128.2.2]) E rfl (Try.isAgg72 _) (Try.sizeOf72 _) S.imm qp_129) rfl ?_
                    clear E a; intro a E
                    refine S_x (X_alloc (cs := #[.int .i64 0, .int .i64 0, .int .i64 0]) E S rfl Try.zeroValue72 rfl ?_)
                    clear E a S; rintro a w b_130 E S
                    refine S_v E rfl (R_assign E rfl) rfl ?_
                    clear E a; intro a E
                    refine S_x0 (X_storeG (us := [.int .i64 x_128.1, .int .i64 x_128.2.1, .int .i64 x_128.2.2]) E S rfl rfl (Try.sizeOf72 _) rfl (by intro u hu; simp only [List.mem_cons, List.not_mem_nil, or_false] at hu; rcases hu with rfl | rfl | rfl <;> first | exact rfl | exact rfl | exact rfl) ?_)
                    clear E a S; rintro a w E S
                    replace S : St w M_126 (blk b_130 (.cells #[.int .i64 x_128.1, .int .i64 x_128.2.1, .int .i64 x_128.2.2] 72) :: _) := S
                    have S0 := S; clear S
                    obtain ⟨M_131, hM_131, hb_132, S⟩ := S0.freezeB
                    clear S0
                    replace h0 := h0.le hM_131
                    replace h1 := h1.le hM_131
                    replace h2 := h2.le hM_131
                    replace hb_1 := hM_131.2 _ _ hb_1
                    replace hz_9 := hz_9.le hM_131
                    replace hz_11 := hz_11.le hM_131
                    replace hv_13 := hv_13.le RP2_mono hM_131
                    replace hv_15 := hv_15.le hM_131
                    replace hv_22 := hv_22.le RP2_mono hM_131
                    replace hv_24 := hv_24.le hM_131
                    replace hv_25 := hv_25.le hM_131
                    replace hv_27 := hv_27.le RP3_mono hM_131
                    replace hv_29 := hv_29.le hM_131
                    replace hv_30 := hv_30.le hM_131
                    replace hv_31 := hv_31.le hM_131
                    replace hv_35 := hv_35.le hM_131
                    replace hv_39 := hv_39.le hM_131
                    replace hv_43 := hv_43.le hM_131
                    replace hv_47 := hv_47.le hM_131
                    replace hv_51 := hv_51.le hM_131
                    replace hz_94 := hz_94.le RP2_mono hM_131
                    replace hv_96 := hv_96.le hM_131
                    replace hv_97 := hv_97.le hM_131
                    replace hz_99 := hz_99.le RP3_mono hM_131
                    replace hv_101 := hv_101.le hM_131
                    replace hv_102 := hv_102.le hM_131
                    replace hv_103 := hv_103.le hM_131
                    replace hv_105 := hv_105.le RP2_mono hM_131
                    replace hv_119 := hv_119.le hM_131
                    replace hz_121 := hz_121.le hM_131
                    replace hv_125 := hv_125.le RP3_mono hM_131
                    refine WL_nil ?_
                    refine T_n ?_
                    refine WP_seq ?_
                    have hb_1k132 := hb_1
                    have qp_129k132 := qp_129
                    have hb_132k132 := hb_132
                    replace S := S.mono_heap (w' := World.drew _) rfl
                    refine WP_drawn (C := fun x w => agree M_131 w) (bf := (fun i => [])) [0, 1, 2, 3, 4, 5, 6, 7, 8, 9, 10, 11] [0, 1, 2, 3, 4, 5, 6, 7, 8, 9, 10, 11] Try.mixed (by kernel_rfl) (fun x hq => S.imm) ?_
                    refine D_v E rfl rfl rfl (fun w hC => (R_move E rfl)) ?_
                    clear E a; intro a E
                    refine D_v E rfl rfl rfl (fun w hC => (R_move E rfl)) ?_
                    clear E a; intro a E
                    refine D_v E rfl rfl rfl (fun w hC => (R_lenV E rfl T56 hv_27.len)) ?_
                    clear E a; intro a E
                    refine D_v E rfl rfl rfl (fun w hC => (R_geq E rfl rfl)) ?_
                    clear E a; intro a E
                    refine D_v E rfl rfl rfl (fun w hC => (R_move E rfl)) ?_
                    clear E a; intro a E
                    have hc_133 : (decide ((((zi3 (max (max l0.length l1.length) l2.length) l0 l1 l2).length : Nat) : Int) ≤ ((k4 : Nat) : Int))) = false := by (clear S E; first | (simp; done) | decide | exact decide_eq_false (by omega) | (simp [zi2_len]; done) | (simp [zi3_len]; done) | (rw [z2_full0 (by omega)]; simp; done) | (rw [z2_full1 (by omega)]; simp; done) | (rw [z3_full0 (by omega)]; simp; done) | (rw [z3_full1 (by omega)]; simp; done) | (rw [z3_full2 (by omega)]; simp; done) | (simp; omega) | (rw [List.take_of_length_le (show (zi2 (max l0.length l1.length) l0 l1).length ≤ k by omega)]; simp; done) | (rw [List.take_of_length_le (show (zi2 (max l0.length l1.length) l0 l1).length ≤ k2 by omega)]; simp; done) | (rw [List.take_of_length_le (show (zi3 (max (max l0.length l1.length) l2.length) l0 l1 l2).length ≤ k3 by omega)]; simp; done))
                    replace E := E.val (t := 253) rfl hc_133
                    replace E := E.val (t := 254) rfl hc_133
                    refine D_vyes E rfl rfl rfl rfl rfl (fun w hC => (R_move E rfl)) ?_
                    clear E a; intro a E
                    refine D_vyes E rfl rfl rfl rfl rfl (fun w hC => (R_move E rfl)) ?_
                    clear E a; intro a E
                    obtain ⟨p_134, hp_134, qp_134⟩ := RdP3.at hv_27 hx_128
                    refine D_vyes E rfl rfl rfl rfl rfl (fun w hC => (R_idx E rfl rfl T56 hp_134 rfl)) ?_
                    clear E a; intro a E
                    refine D_vyes E rfl rfl rfl rfl rfl (fun w hC => (R_loadA (cs := [.int .i64 x_128.1, .int .i64 x_128.2.1, .int .i64 x_128.2.2]) E rfl (Try.isAgg64 _) (Try.sizeOf64 _) hC qp_134)) ?_
                    clear E a; intro a E
                    refine D_vyes E rfl rfl rfl rfl rfl (fun w hC => (R_loadGM E rfl (Try.isAgg72 _) (Try.sizeOf72 _) hC hb_132k132)) ?_
                    clear E a; intro a E
                    refine D_vyes E rfl rfl rfl rfl rfl (fun w hC => (R_neqA E rfl rfl (by kernel_rfl) (EQ72 x_128.1 x_128.2.1 x_128.2.2 x_128.1 x_128.2.1 x_128.2.2 _))) ?_
                    clear E a; intro a E
                    refine D_v E rfl rfl rfl (fun w hC => (R_pickF E rfl rfl)) ?_
                    clear E a; intro a E
                    refine D_end (NoP_n ?_)
                    refine T_n ?_
                    have hc_135 : (decide (¬ (x_128.1 = x_128.1 ∧ x_128.2.1 = x_128.2.1 ∧ x_128.2.2 = x_128.2.2 ∧ True))) = false := by (clear S E; first | (simp; done) | decide | exact decide_eq_false (by omega) | (simp [zi2_len]; done) | (simp [zi3_len]; done) | (rw [z2_full0 (by omega)]; simp; done) | (rw [z2_full1 (by omega)]; simp; done) | (rw [z3_full0 (by omega)]; simp; done) | (rw [z3_full1 (by omega)]; simp; done) | (rw [z3_full2 (by omega)]; simp; done) | (simp; omega) | (rw [List.take_of_length_le (show (zi2 (max l0.length l1.length) l0 l1).length ≤ k by omega)]; simp; done) | (rw [List.take_of_length_le (show (zi2 (max l0.length l1.length) l0 l1).length ≤ k2 by omega)]; simp; done) | (rw [List.take_of_length_le (show (zi3 (max (max l0.length l1.length) l2.length) l0 l1 l2).length ≤ k3 by omega)]; simp; done))
                    refine WP_condF E rfl hc_135 ?_
                    refine WP_skip ?_
                    refine B_n ?_
                    refine T_n ?_
                    refine WP_region ?_
                    refine S_v E rfl (R_addx (m := ((k4 + 1 : Nat) : Int)) E rfl rfl (by omega) (by omega)) rfl ?_
                    clear E a; intro a E
                    refine S_v E rfl (R_move E rfl) rfl ?_
                    clear E a; intro a E
                    refine WL_nil ?_
                    refine T_n ?_
                    exact ⟨k4 + 1, ⟨M_131, (hM_126.trans hM_131), S, E.keep ⟨rfl, rfl, rfl, rfl, rfl, rfl, rfl, rfl, trivial⟩, by ((try clear S); (try clear E); first | assumption | omega | rfl | (simp; done) | (simp_all; done) | (simp [List.take_add_one, *]; done) | grind [List.take_add_one])⟩, by omega⟩
                  · replace hc_127 := of_decide_eq_false hc_127
                    refine WP_exit ?_
                    refine T_x ?_
                    refine T_x ?_
                    refine B_x ?_
                    refine T_n ?_
                    refine WP_seq ?_
                    refine WP_region ?_
                    refine S_v E rfl (R_move E rfl) rfl ?_
                    clear E a; intro a E
                    refine S_v E rfl (R_move E rfl) rfl ?_
                    clear E a; intro a E
                    refine S_v E rfl (R_loadGM E rfl (Try.isAgg31 _) (Try.sizeOf31 _) S.imm hb_1) rfl ?_
                    clear E a; intro a E
                    refine S_x (X_pu E S rfl rfl rfl (impl_ZipBy2 h0 h1 (by omega) (by first | omega | (simp; done) | (simp; omega)) (by first | omega | (simp; done) | (simp; omega))) (Hp.le.refl _) ?_)
                    clear E a S; rintro a v_137 w M_136 hM_136 hv_137 S E
                    replace h0 := h0.le hM_136
                    replace h1 := h1.le hM_136
                    replace h2 := h2.le hM_136
                    replace hb_1 := hM_136.2 _ _ hb_1
                    replace hz_9 := hz_9.le hM_136
                    replace hz_11 := hz_11.le hM_136
                    replace hv_13 := hv_13.le RP2_mono hM_136
                    replace hv_15 := hv_15.le hM_136
                    replace hv_22 := hv_22.le RP2_mono hM_136
                    replace hv_24 := hv_24.le hM_136
                    replace hv_25 := hv_25.le hM_136
                    replace hv_27 := hv_27.le RP3_mono hM_136
                    replace hv_29 := hv_29.le hM_136
                    replace hv_30 := hv_30.le hM_136
                    replace hv_31 := hv_31.le hM_136
                    replace hv_35 := hv_35.le hM_136
                    replace hv_39 := hv_39.le hM_136
                    replace hv_43 := hv_43.le hM_136
                    replace hv_47 := hv_47.le hM_136
                    replace hv_51 := hv_51.le hM_136
                    replace hz_94 := hz_94.le RP2_mono hM_136
                    replace hv_96 := hv_96.le hM_136
                    replace hv_97 := hv_97.le hM_136
                    replace hz_99 := hz_99.le RP3_mono hM_136
                    replace hv_101 := hv_101.le hM_136
                    replace hv_102 := hv_102.le hM_136
                    replace hv_103 := hv_103.le hM_136
                    replace hv_105 := hv_105.le RP2_mono hM_136
                    replace hv_119 := hv_119.le hM_136
                    replace hz_121 := hz_121.le hM_136
                    replace hv_125 := hv_125.le RP3_mono hM_136
                    refine S_v E rfl (R_move E rfl) rfl ?_
                    clear E a; intro a E
                    refine S_x (X_pu E S rfl rfl rfl (laws_eq hv_137 hz_121) (Hp.le.refl _) ?_)
                    clear E a S; rintro a _ w M_138 hM_138 rfl S E
                    replace h0 := h0.le hM_138
                    replace h1 := h1.le hM_138
                    replace h2 := h2.le hM_138
                    replace hb_1 := hM_138.2 _ _ hb_1
                    replace hz_9 := hz_9.le hM_138
                    replace hz_11 := hz_11.le hM_138
                    replace hv_13 := hv_13.le RP2_mono hM_138
                    replace hv_15 := hv_15.le hM_138
                    replace hv_22 := hv_22.le RP2_mono hM_138
                    replace hv_24 := hv_24.le hM_138
                    replace hv_25 := hv_25.le hM_138
                    replace hv_27 := hv_27.le RP3_mono hM_138
                    replace hv_29 := hv_29.le hM_138
                    replace hv_30 := hv_30.le hM_138
                    replace hv_31 := hv_31.le hM_138
                    replace hv_35 := hv_35.le hM_138
                    replace hv_39 := hv_39.le hM_138
                    replace hv_43 := hv_43.le hM_138
                    replace hv_47 := hv_47.le hM_138
                    replace hv_51 := hv_51.le hM_138
                    replace hz_94 := hz_94.le RP2_mono hM_138
                    replace hv_96 := hv_96.le hM_138
                    replace hv_97 := hv_97.le hM_138
                    replace hz_99 := hz_99.le RP3_mono hM_138
                    replace hv_101 := hv_101.le hM_138
                    replace hv_102 := hv_102.le hM_138
                    replace hv_103 := hv_103.le hM_138
                    replace hv_105 := hv_105.le RP2_mono hM_138
                    replace hv_119 := hv_119.le hM_138
                    replace hz_121 := hz_121.le hM_138
                    replace hv_125 := hv_125.le RP3_mono hM_138
                    replace hv_137 := hv_137.le hM_138
                    refine S_v E rfl (R_assign E rfl) rfl ?_
                    clear E a; intro a E
                    refine WL_nil ?_
                    refine T_n ?_
                    refine WP_ret ?_
                    exact F_ret1 E Try.results10 rfl ⟨_, rfl, M_138, (hM_2.trans (hM_8.trans (hM_10.trans (hM_12.trans (hM_16.trans (hM_17.trans (hM_19.trans (hM_21.trans (hM_23.trans (hM_26.trans (hM_28.trans (hM_34.trans (hM_36.trans (hM_38.trans (hM_40.trans (hM_42.trans (hM_44.trans (hM_46.trans (hM_48.trans (hM_50.trans (hM_52.trans (hM_55.trans (hM_67.trans (hM_81.trans (hM_93.trans (hM_95.trans (hM_98.trans (hM_100.trans (hM_104.trans (hM_106.trans (hM_108.trans (hM_110.trans (hM_112.trans (hM_114.trans (hM_116.trans (hM_118.trans (hM_120.trans (hM_122.trans (hM_124.trans (hM_126.trans (hM_136.trans hM_138))))))))))))))))))))))))))))))))))))))))), (congrArg Value.bool (by (clear S E; first | (simp; done) | decide | exact decide_eq_false (by omega) | (simp [zi2_len]; done) | (simp [zi3_len]; done) | (rw [z2_full0 (by omega)]; simp; done) | (rw [z2_full1 (by omega)]; simp; done) | (rw [z3_full0 (by omega)]; simp; done) | (rw [z3_full1 (by omega)]; simp; done) | (rw [z3_full2 (by omega)]; simp; done) | (simp; omega) | (rw [List.take_of_length_le (show (zi2 (max l0.length l1.length) l0 l1).length ≤ k by omega)]; simp; done) | (rw [List.take_of_length_le (show (zi2 (max l0.length l1.length) l0 l1).length ≤ k2 by omega)]; simp; done) | (rw [List.take_of_length_le (show (zi3 (max (max l0.length l1.length) l2.length) l0 l1 l2).length ≤ k3 by omega)]; simp; done)))), S⟩

end Go.Proofs.Ytbdacnblipmapaa.wFnZipped
