/- Walks through the functions that laws.FnGroupsMapped reaches: what each computes; no conditions beyond what each theorem states. -/
import Derived.Test.YtpncgdecfhfjmaaWFnGroupsMappedb
set_option linter.unusedVariables false
set_option linter.unusedSimpArgs false
namespace Go.Proofs.Ytpncgdecfhfjmaa.wFnGroupsMapped
open Go Go.Sl
set_option maxRecDepth 100000 in
set_option maxHeartbeats 4000000 in
theorem laws_FnGroupsMapped {M : Hp} {v0 : Value} {l0 : List Int} (h0 : RdI M v0 l0){kk1 kn1 : Int} (gk1 : -9223372036854775808 ≤ kn1 ∧ kn1 ≤ 9223372036854775807) {kk2 kn2 : Int} (gk2 : -9223372036854775808 ≤ kn2 ∧ kn2 ≤ 9223372036854775807) (hr0 : (∀ x ∈ l0, -9223372036854775808 ≤ x ∧ x ≤ 9223372036854775807)) :
    PuC Try.prog 4 M [v0, .agg #[.int .i64 kk1, .int .i64 kn1], .agg #[.int .i64 kk2, .int .i64 kn2]] (fun r M' => r = .bool true) := by
  refine PuC_enter Try.func4 rfl Try.ntmps4 rfl ?_
  intro a w M1 H hM1 S E
  replace h0 := h0.le hM1
  have b0 := h0.bound
  refine WP_seq ?_
  refine WP_region ?_
  refine S_x (X_box (cs := #[.int .i64 kk1, .int .i64 kn1]) E S rfl rfl rfl ?_)
  clear E a S; rintro a w b_1 E S
  obtain ⟨M_2, hM_2, hb_1, S⟩ := S.freezeB
  replace h0 := h0.le hM_2
  refine S_x (X_box (cs := #[.int .i64 kk2, .int .i64 kn2]) E S rfl rfl rfl ?_)
  clear E a S; rintro a w b_3 E S
  obtain ⟨M_4, hM_4, hb_3, S⟩ := S.freezeB
  replace h0 := h0.le hM_4
  replace hb_1 := hM_4.2 _ _ hb_1
  refine S_v E rfl (R_assign E rfl) rfl ?_
  clear E a; intro a E
  refine WL_nil ?_
  refine T_n ?_
  refine WP_seq ?_
  refine WP_seq ?_
  refine WP_region ?_
  refine S_v E rfl (R_move E rfl) rfl ?_
  clear E a; intro a E
  refine S_v E rfl (R_lenV E rfl T22 h0.len) rfl ?_
  clear E a; intro a E
  refine S_v E rfl (R_gtr E rfl rfl) rfl ?_
  clear E a; intro a E
  refine WL_nil ?_
  refine T_n ?_
  refine WP_cond E rfl (fun hc_5 => ?_) (fun hc_5 => ?_)
  · replace hc_5 := of_decide_eq_true hc_5
    refine WP_seq ?_
    refine WP_region ?_
    refine S_v E rfl (R_assign E rfl) rfl ?_
    clear E a; intro a E
    refine WL_nil ?_
    refine T_n ?_
    refine WP_ret ?_
    refine T_r ?_
    exact F_ret1 E Try.results4 rfl ⟨_, rfl, M_4, (hM_2.trans hM_4), rfl, S⟩
  · replace hc_5 := of_decide_eq_false hc_5
    refine WP_skip ?_
    refine T_n ?_
    refine WP_seq ?_
    refine WP_seq ?_
    refine WP_region ?_
    refine S_x (X_buildI (ys := [1]) E S rfl T22 rfl rfl rfl ?_)
    clear E a S; rintro a w v_6 E S
    refine S_v E rfl (R_build (u := .agg #[.int .i64 0, .int .i64 0]) (vs := []) E rfl (fun w => FB24__  w)) rfl ?_
    clear E a; intro a E
    refine S_v E rfl (R_build (u := .agg #[.int .i64 0, .int .i64 0]) (vs := []) E rfl (fun w => FB24__  w)) rfl ?_
    clear E a; intro a E
    have S0 := S; clear S
    obtain ⟨M_7, hM_7, hz_8, S⟩ := S0.freezeI (by (first | omega | (simp; done) | exact Nat.le_trans (grpO_len _ _ _) (by first | omega | (rw [List.length_take]; omega)) | (simp only [List.length_map, List.length_take] at *; omega) | (refine Nat.le_trans (Nat.mul_le_mul_right _ (Nat.le_trans (grpO_len _ _ _) (List.length_take_le ..))) ?_; omega)))
    clear S0
    replace h0 := h0.le hM_7
    replace hb_1 := hM_7.2 _ _ hb_1
    replace hb_3 := hM_7.2 _ _ hb_3
    refine S_x (X_pu E S rfl rfl rfl (impl_GroupByMap hz_8 (by omega) (by omega) (by (first | omega | (simp; omega) | (simp; done) | (simp_all; omega) | grind))) (Hp.le.refl _) ?_)
    clear E a S; rintro a v_10 w M_9 hM_9 hv_10 S E
    replace h0 := h0.le hM_9
    replace hb_1 := hM_9.2 _ _ hb_1
    replace hb_3 := hM_9.2 _ _ hb_3
    replace hz_8 := hz_8.le hM_9
    refine S_v E rfl (R_lenV E rfl T25 hv_10.len) rfl ?_
    clear E a; intro a E
    refine S_v E rfl (R_neq E rfl rfl) rfl ?_
    clear E a; intro a E
    refine WL_nil ?_
    refine T_n ?_
    have hc_11 : (decide ((((grpS (fun x => (keyAt 0 0 x 0, keyAt 0 0 x 0)) [1]).length : Nat) : Int) ≠ 1)) = false := by (clear S E; first | (rw [grpS_one]; decide) | (simp; done) | decide | (rw [eall]; simp; done) | (simp only [eall]; simp; done) | (rw [eall]; rfl))
    refine WP_condF E rfl hc_11 ?_
    refine WP_skip ?_
    refine T_n ?_
    refine WP_seq ?_
    refine WP_seq ?_
    refine WP_region ?_
    refine S_v E rfl (R_move E rfl) rfl ?_
    clear E a; intro a E
    refine S_x (X_buildM (R := RSl 1 RInt) (vs := [v0]) (xs := [l0]) (RSl_mono RInt_mono) E S rfl T54 rfl rfl rfl (by intro u hu; simp only [List.mem_cons, List.not_mem_nil, or_false] at hu; rcases hu with rfl <;> first | exact RdI.one h0 | rfl) rfl (rowsC (R := RSl 1 RInt) (RdI.row h0) rowsN) ?_)
    clear E a S; rintro a v_12 w M_13 hM_13 hv_12 S E
    replace hv_12 : RdII M_13 v_12 [l0] := hv_12
    replace h0 := h0.le hM_13
    replace hb_1 := hM_13.2 _ _ hb_1
    replace hb_3 := hM_13.2 _ _ hb_3
    replace hz_8 := hz_8.le hM_13
    replace hv_10 := hv_10.le RG2_mono hM_13
    refine S_x (X_pu E S rfl rfl rfl (laws_few hv_12) (Hp.le.refl _) ?_)
    clear E a S; rintro a _ w M_14 hM_14 rfl S E
    replace h0 := h0.le hM_14
    replace hb_1 := hM_14.2 _ _ hb_1
    replace hb_3 := hM_14.2 _ _ hb_3
    replace hz_8 := hz_8.le hM_14
    replace hv_10 := hv_10.le RG2_mono hM_14
    replace hv_12 := hv_12.le hM_14
    refine S_v E rfl (R_not E rfl) rfl ?_
    clear E a; intro a E
    refine S_v E rfl (R_move E rfl) rfl ?_
    clear E a; intro a E
    refine split_bool (!(decide (∀ x ∈ [l0], x.length ≤ 300))) (fun hc_15 => ?_) (fun hc_15 => ?_)
    · replace E := E.val (t := 28) rfl hc_15
      replace E := E.val (t := 29) rfl hc_15
      refine WL_guard_no E rfl rfl rfl rfl fun a E => ?_
      refine WL_guard_no E rfl rfl rfl rfl fun a E => ?_
      refine WL_guard_no E rfl rfl rfl rfl fun a E => ?_
      refine S_v E rfl (R_pickT E rfl rfl) rfl ?_
      clear E a; intro a E
      refine S_v E rfl (R_move E rfl) rfl ?_
      clear E a; intro a E
      refine WL_guard_no E rfl rfl rfl rfl fun a E => ?_
      refine WL_guard_no E rfl rfl rfl rfl fun a E => ?_
      refine WL_guard_no E rfl rfl rfl rfl fun a E => ?_
      refine S_v E rfl (R_pickT E rfl rfl) rfl ?_
      clear E a; intro a E
      refine WL_nil ?_
      refine T_n ?_
      refine WP_condT E rfl rfl ?_
      refine WP_seq ?_
      refine WP_region ?_
      refine S_v E rfl (R_assign E rfl) rfl ?_
      clear E a; intro a E
      refine WL_nil ?_
      refine T_n ?_
      refine WP_ret ?_
      refine T_r ?_
      exact F_ret1 E Try.results4 rfl ⟨_, rfl, M_14, (hM_2.trans (hM_4.trans (hM_7.trans (hM_9.trans (hM_13.trans hM_14))))), rfl, S⟩
    · replace E := E.val (t := 28) rfl hc_15
      replace E := E.val (t := 29) rfl hc_15
      refine WL_guard_yes E rfl rfl ?_
      refine S_v E rfl (R_loadGM E rfl (Try.isAgg24 _) (Try.sizeOf24 _) S.imm hb_1) rfl ?_
      clear E a; intro a E
      refine WL_guard_yes E rfl rfl ?_
      refine S_x (X_pu E S rfl rfl rfl (laws_just (by omega)) (Hp.le.refl _) ?_)
      clear E a S; rintro a _ w M_16 hM_16 rfl S E
      replace h0 := h0.le hM_16
      replace hb_1 := hM_16.2 _ _ hb_1
      replace hb_3 := hM_16.2 _ _ hb_3
      replace hz_8 := hz_8.le hM_16
      replace hv_10 := hv_10.le RG2_mono hM_16
      replace hv_12 := hv_12.le hM_16
      refine WL_guard_yes E rfl rfl ?_
      refine S_v E rfl (R_not E rfl) rfl ?_
      clear E a; intro a E
      refine S_v E rfl (R_pickF E rfl rfl) rfl ?_
      clear E a; intro a E
      refine S_v E rfl (R_move E rfl) rfl ?_
      clear E a; intro a E
      refine split_bool (!(decide (-1099511627776 < kn1 ∧ kn1 < 1099511627776))) (fun hc_17 => ?_) (fun hc_17 => ?_)
      · replace E := E.val (t := 32) rfl hc_17
        replace E := E.val (t := 33) rfl hc_17
        replace E := E.val (t := 34) rfl hc_17
        refine WL_guard_no E rfl rfl rfl rfl fun a E => ?_
        refine WL_guard_no E rfl rfl rfl rfl fun a E => ?_
        refine WL_guard_no E rfl rfl rfl rfl fun a E => ?_
        refine S_v E rfl (R_pickT E rfl rfl) rfl ?_
        clear E a; intro a E
        refine WL_nil ?_
        refine T_n ?_
        refine WP_condT E rfl rfl ?_
        refine WP_seq ?_
        refine WP_region ?_
        refine S_v E rfl (R_assign E rfl) rfl ?_
        clear E a; intro a E
        refine WL_nil ?_
        refine T_n ?_
        refine WP_ret ?_
        refine T_r ?_
        exact F_ret1 E Try.results4 rfl ⟨_, rfl, M_16, (hM_2.trans (hM_4.trans (hM_7.trans (hM_9.trans (hM_13.trans (hM_14.trans hM_16)))))), rfl, S⟩
      · replace E := E.val (t := 32) rfl hc_17
        replace E := E.val (t := 33) rfl hc_17
        replace E := E.val (t := 34) rfl hc_17
        refine WL_guard_yes E rfl rfl ?_
        refine S_v E rfl (R_loadGM E rfl (Try.isAgg24 _) (Try.sizeOf24 _) S.imm hb_3) rfl ?_
        clear E a; intro a E
        refine WL_guard_yes E rfl rfl ?_
        refine S_x (X_pu E S rfl rfl rfl (laws_just (by omega)) (Hp.le.refl _) ?_)
        clear E a S; rintro a _ w M_18 hM_18 rfl S E
        replace h0 := h0.le hM_18
        replace hb_1 := hM_18.2 _ _ hb_1
        replace hb_3 := hM_18.2 _ _ hb_3
        replace hz_8 := hz_8.le hM_18
        replace hv_10 := hv_10.le RG2_mono hM_18
        replace hv_12 := hv_12.le hM_18
        refine WL_guard_yes E rfl rfl ?_
        refine S_v E rfl (R_not E rfl) rfl ?_
        clear E a; intro a E
        refine S_v E rfl (R_pickF E rfl rfl) rfl ?_
        clear E a; intro a E
        refine WL_nil ?_
        refine T_n ?_
        refine WP_cond E rfl (fun hc_19 => ?_) (fun hc_19 => ?_)
        · refine WP_seq ?_
          refine WP_region ?_
          refine S_v E rfl (R_assign E rfl) rfl ?_
          clear E a; intro a E
          refine WL_nil ?_
          refine T_n ?_
          refine WP_ret ?_
          refine T_r ?_
          exact F_ret1 E Try.results4 rfl ⟨_, rfl, M_18, (hM_2.trans (hM_4.trans (hM_7.trans (hM_9.trans (hM_13.trans (hM_14.trans (hM_16.trans hM_18))))))), rfl, S⟩
        · have hln : l0.length ≤ 300 := (by simp_all)
          have hkj : -1099511627776 < kn1 ∧ kn1 < 1099511627776 := (by simp_all)
          have hkk : -1099511627776 < kn2 ∧ kn2 < 1099511627776 := (by simp_all)
          refine WP_skip ?_
          refine T_n ?_
          refine WP_seq ?_
          refine WP_region ?_
          refine S_v E rfl (R_assign E rfl) rfl ?_
          clear E a; intro a E
          refine WL_nil ?_
          refine T_n ?_
          refine WP_seq ?_
          refine WP_seq ?_
          refine WP_region ?_
          refine S_v E rfl (R_move E rfl) rfl ?_
          clear E a; intro a E
          refine S_v E rfl (R_lenV E rfl T22 h0.len) rfl ?_
          clear E a; intro a E
          refine S_v E rfl (R_move E rfl) rfl ?_
          clear E a; intro a E
          refine WL_nil ?_
          refine T_n ?_
          refine WP_block ?_
          replace S := (S.ownNil (e := 3) (sz := 1)).made0
          replace S := S.re1 (l' := (l0.take 0).map (fun x => keyAt kk1 kn1 x 0)) (by first | (simp; done) | (rw [map_take_s (fun x => keyAt kk1 kn1 x 0) (by assumption)]; done))
          refine WP_loop (γ := Nat) (fun (k : Nat) a w => ∃ (M_21 : Hp) (u7 : Value), Hp.le M_18 M_21 ∧ St w M_21 (OwnI 3 u7 ((l0.take k).map (fun x => keyAt kk1 kn1 x 0)) :: H) ∧ Env a 108 [] [(0, v0), (4, .pointer (some ⟨b_1, 0, none⟩)), (5, .pointer (some ⟨b_3, 0, none⟩)), (7, u7), (39, v0), (40, .int .i64 (((l0).length : Nat) : Int)), (41, .int .i64 ((k : Nat) : Int))] ∧ (k ≤ (l0).length)) (fun k => ((l0).length) - k) 0 ⟨M_18, _, Hp.le.refl _, S, E.keep ⟨rfl, rfl, rfl, rfl, rfl, rfl, rfl, trivial⟩, by ((try clear S); (try clear E); first | assumption | omega | rfl | (simp; done) | (simp_all; done) | (simp [List.take_add_one, *]; done) | grind [List.take_add_one])⟩ ?_
          try clear E
          try clear S
          try clear a
          try clear w
          rintro k a w ⟨M_21, u7, hM_21, S, E, hL0_0⟩
          replace h0 := h0.le hM_21
          replace hb_1 := hM_21.2 _ _ hb_1
          replace hb_3 := hM_21.2 _ _ hb_3
          replace hz_8 := hz_8.le hM_21
          replace hv_10 := hv_10.le RG2_mono hM_21
          replace hv_12 := hv_12.le hM_21
          refine WP_seq ?_
          refine WP_region ?_
          refine S_v E rfl (R_lss E rfl rfl) rfl ?_
          clear E a; intro a E
          refine WL_nil ?_
          refine T_n ?_
          refine WP_seq ?_
          refine WP_cond E rfl (fun hc_22 => ?_) (fun hc_22 => ?_)
          · replace hc_22 := of_decide_eq_true hc_22
            refine WP_skip ?_
            refine T_n ?_
            refine WP_seq ?_
            refine WP_block ?_
            refine WP_seq ?_
            refine WP_region ?_
            obtain ⟨x_23, hx_23⟩ : ∃ x, (l0)[k]? = some x := ⟨_, List.getElem?_eq_getElem (by first | omega | (simp; done) | (simp; omega) | (simp_all; omega))⟩
            obtain ⟨p_24, hp_24, qp_24⟩ := h0.at hx_23
            refine S_v E rfl (R_idx E rfl rfl T22 hp_24 rfl) rfl ?_
            clear E a; intro a E
            refine S_v E rfl (R_loadM E rfl Try.isAgg3 S.imm qp_24) rfl ?_
            clear E a; intro a E
            refine S_v E rfl (R_assign E rfl) rfl ?_
            clear E a; intro a E
            refine WL_nil ?_
            refine T_n ?_
            refine WP_region ?_
            refine S_v E rfl (R_move E rfl) rfl ?_
            clear E a; intro a E
            refine S_v E rfl (R_loadGM E rfl (Try.isAgg24 _) (Try.sizeOf24 _) S.imm hb_1) rfl ?_
            clear E a; intro a E
            refine S_v E rfl (R_move E rfl) rfl ?_
            clear E a; intro a E
            refine S_x (X_pu E S rfl rfl rfl (laws_stands (by omega)) (Hp.le.refl _) ?_)
            clear E a S; rintro a _ w M_25 hM_25 rfl S E
            replace h0 := h0.le hM_25
            replace hb_1 := hM_25.2 _ _ hb_1
            replace hb_3 := hM_25.2 _ _ hb_3
            replace hz_8 := hz_8.le hM_25
            replace hv_10 := hv_10.le RG2_mono hM_25
            replace hv_12 := hv_12.le hM_25
            refine S_x (X_buildI (ys := [keyAt kk1 kn1 x_23 0]) E S rfl T22 rfl rfl rfl ?_)
            clear E a S; rintro a w v_26 E S
            replace S := S.front1
            replace S := S.front1
            refine S_x (X_appendB (xs := (l0.take k).map (fun x => keyAt kk1 kn1 x 0)) (ys := [keyAt kk1 kn1 x_23 0]) E S rfl rfl rfl T22 (by (first | omega | (simp only [List.length_cons, List.length_nil, List.length_map, List.length_take]; first | omega | (refine Nat.le_trans (Nat.mul_le_mul_right _ (Nat.add_le_add_right (Nat.le_trans (grpO_len _ _ _) (List.length_take_le ..)) _)) ?_; omega) | (refine Nat.le_trans (Nat.add_le_add_right (Nat.le_trans (grpO_len _ _ _) (List.length_take_le ..)) _) ?_; omega)) | (simp only [List.length_cons, List.length_nil, List.length_map, List.length_take] at *; omega))) ?_)
            clear E a S; rintro a w v_27 E S
            refine S_v E rfl (R_assign E rfl) rfl ?_
            clear E a; intro a E
            refine WL_nil ?_
            refine B_n ?_
            refine T_n ?_
            refine WP_region ?_
            refine S_v E rfl (R_addx (m := ((k + 1 : Nat) : Int)) E rfl rfl (by omega) (by omega)) rfl ?_
            clear E a; intro a E
            refine S_v E rfl (R_move E rfl) rfl ?_
            clear E a; intro a E
            refine WL_nil ?_
            refine T_n ?_
            replace S := S.re1 (l' := (l0.take (k + 1)).map (fun x => keyAt kk1 kn1 x 0)) (by first | (simp; done) | (rw [map_take_s (fun x => keyAt kk1 kn1 x 0) (by assumption)]; done))
            exact ⟨k + 1, ⟨M_25, _, (hM_21.trans hM_25), S, E.keep ⟨rfl, rfl, rfl, rfl, rfl, rfl, rfl, trivial⟩, by ((try clear S); (try clear E); first | assumption | omega | rfl | (simp; done) | (simp_all; done) | (simp [List.take_add_one, *]; done) | grind [List.take_add_one])⟩, by omega⟩
          · replace hc_22 := of_decide_eq_false hc_22
            have etk : l0.take k = l0 := List.take_of_length_le (by omega)
            have hkl : ((l0.take k).map (fun x => keyAt kk1 kn1 x 0)).length ≤ 300 := by rw [etk, List.length_map]; omega
            have hs1 := (setI_spec ((l0.take k).map (fun x => keyAt kk1 kn1 x 0))).2.2
            refine WP_exit ?_
            refine T_x ?_
            refine T_x ?_
            refine B_x ?_
            refine T_n ?_
            refine WP_seq ?_
            refine WP_region ?_
            refine S_v E rfl (R_assign E rfl) rfl ?_
            clear E a; intro a E
            refine WL_nil ?_
            refine T_n ?_
            refine WP_seq ?_
            refine WP_seq ?_
            refine WP_region ?_
            refine S_v E rfl (R_move E rfl) rfl ?_
            clear E a; intro a E
            have S0 := S; clear S
            obtain ⟨M_28, hM_28, hz_29, S⟩ := S0.freezeI (by (first | omega | (simp; done) | exact Nat.le_trans (grpO_len _ _ _) (by first | omega | (rw [List.length_take]; omega)) | (simp only [List.length_map, List.length_take] at *; omega) | (refine Nat.le_trans (Nat.mul_le_mul_right _ (Nat.le_trans (grpO_len _ _ _) (List.length_take_le ..))) ?_; omega)))
            clear S0
            replace h0 := h0.le hM_28
            replace hb_1 := hM_28.2 _ _ hb_1
            replace hb_3 := hM_28.2 _ _ hb_3
            replace hz_8 := hz_8.le hM_28
            replace hv_10 := hv_10.le RG2_mono hM_28
            replace hv_12 := hv_12.le hM_28
            refine S_x (X_pu E S rfl rfl rfl (laws_sorted hz_29 (by (first | omega | (simp; omega) | (simp; done) | (simp_all; omega) | grind))) (Hp.le.refl _) ?_)
            clear E a S; rintro a v_31 w M_30 hM_30 hv_31 S E
            replace h0 := h0.le hM_30
            replace hb_1 := hM_30.2 _ _ hb_1
            replace hb_3 := hM_30.2 _ _ hb_3
            replace hz_8 := hz_8.le hM_30
            replace hv_10 := hv_10.le RG2_mono hM_30
            replace hv_12 := hv_12.le hM_30
            replace hz_29 := hz_29.le hM_30
            refine S_v E rfl (R_lenV E rfl T22 hv_31.len) rfl ?_
            clear E a; intro a E
            refine S_v E rfl (R_move E rfl) rfl ?_
            clear E a; intro a E
            refine WL_nil ?_
            refine T_n ?_
            refine WP_block ?_
            replace S : St w M_30 (OwnC 31 2 (.slice none 0 0) ([] : List (Int × List Int)).length [] :: _) := S.ownNil
            have hr_33 : RowsR RG2 2 M_30 ([] : List (Int × List Int)) [] := RowsR.nil
            have hre : ([] : List (Int × List Int)) = ((setI ((l0.take k).map (fun x => keyAt kk1 kn1 x 0))).take 0).map (fun key => (key, grpO (fun x => (keyAt kk1 kn1 x 0, keyAt kk2 kn2 x 0)) key l0)) := by first | (simp; done) | exact mpG_snoc (by assumption) (by rw [List.take_of_length_le (l := l0) (i := m) (by omega)])
            replace S := S.reR hre
            replace hr_33 := hr_33.eq hre
            clear hre
            refine WP_loop (γ := Nat) (fun (j : Nat) a w => ∃ (M_34 : Hp) (u10 : Value) (xs10 : List Value), Hp.le M_30 M_34 ∧ St w M_34 (OwnC 31 2 u10 (((setI ((l0.take k).map (fun x => keyAt kk1 kn1 x 0))).take j).map (fun key => (key, grpO (fun x => (keyAt kk1 kn1 x 0, keyAt kk2 kn2 x 0)) key l0))).length xs10 :: H) ∧ Env a 108 [] [(0, v0), (4, .pointer (some ⟨b_1, 0, none⟩)), (5, .pointer (some ⟨b_3, 0, none⟩)), (10, u10), (53, v_31), (54, .int .i64 (((setI ((l0.take k).map (fun x => keyAt kk1 kn1 x 0))).length : Nat) : Int)), (55, .int .i64 ((j : Nat) : Int))] ∧ (j ≤ (setI ((l0.take k).map (fun x => keyAt kk1 kn1 x 0))).length) ∧ RowsR RG2 2 M_34 (((setI ((l0.take k).map (fun x => keyAt kk1 kn1 x 0))).take j).map (fun key => (key, grpO (fun x => (keyAt kk1 kn1 x 0, keyAt kk2 kn2 x 0)) key l0))) xs10) (fun j => ((setI ((l0.take k).map (fun x => keyAt kk1 kn1 x 0))).length) - j) 0 ⟨M_30, _, _, Hp.le.refl _, S, E.keep ⟨rfl, rfl, rfl, rfl, rfl, rfl, rfl, trivial⟩, by ((try clear S); (try clear E); first | assumption | omega | rfl | (simp; done) | (simp_all; done) | (simp [List.take_add_one, *]; done) | grind [List.take_add_one]), hr_33⟩ ?_
            try clear E
            try clear S
            try clear a
            try clear w
            rintro j a w ⟨M_34, u10, xs10, hM_34, S, E, hL1_0, hr10⟩
            replace h0 := h0.le hM_34
            replace hb_1 := hM_34.2 _ _ hb_1
            replace hb_3 := hM_34.2 _ _ hb_3
            replace hz_8 := hz_8.le hM_34
            replace hv_10 := hv_10.le RG2_mono hM_34
            replace hv_12 := hv_12.le hM_34
            replace hz_29 := hz_29.le hM_34
            replace hv_31 := hv_31.le hM_34
            refine WP_seq ?_
            refine WP_region ?_
            refine S_v E rfl (R_lss E rfl rfl) rfl ?_
            clear E a; intro a E
            refine WL_nil ?_
            refine T_n ?_
            refine WP_seq ?_
            refine WP_cond E rfl (fun hc_35 => ?_) (fun hc_35 => ?_)
            · replace hc_35 := of_decide_eq_true hc_35
              refine WP_skip ?_
              refine T_n ?_
              refine WP_seq ?_
              refine WP_block ?_
              refine WP_seq ?_
              refine WP_region ?_
              obtain ⟨x_36, hx_36⟩ : ∃ x, (setI ((l0.take k).map (fun x => keyAt kk1 kn1 x 0)))[j]? = some x := ⟨_, List.getElem?_eq_getElem (by first | omega | (simp; done) | (simp; omega) | (simp_all; omega))⟩
              obtain ⟨p_37, hp_37, qp_37⟩ := hv_31.at hx_36
              refine S_v E rfl (R_idx E rfl rfl T22 hp_37 rfl) rfl ?_
              clear E a; intro a E
              refine S_v E rfl (R_loadM E rfl Try.isAgg3 S.imm qp_37) rfl ?_
              clear E a; intro a E
              refine S_v E rfl (R_assign E rfl) rfl ?_
              clear E a; intro a E
              refine WL_nil ?_
              refine T_n ?_
              refine WP_seq ?_
              refine WP_region ?_
              refine S_v E rfl (R_move E rfl) rfl ?_
              clear E a; intro a E
              refine S_v E rfl (R_build (u := .agg #[.int .i64 x_36, .slice none 0 0]) (vs := [.int .i64 x_36]) E rfl (fun w => FB31_0_i x_36 w)) rfl ?_
              clear E a; intro a E
              refine S_x (X_alloc (cs := #[.int .i64 0, .slice none 0 0]) E S rfl Try.zeroValue31 rfl ?_)
              clear E a S; rintro a w b_38 E S
              refine S_x0 (X_storeG (us := [.int .i64 x_36, .slice none 0 0]) E S rfl rfl (Try.sizeOf31 _) rfl (by intro u hu; simp only [List.mem_cons, List.not_mem_nil, or_false] at hu; rcases hu with rfl | rfl <;> first | exact rfl | exact rfl) ?_)
              clear E a S; rintro a w E S
              replace S : St w M_34 (blk b_38 (.cells #[.int .i64 x_36, .slice none 0 0] 31) :: _) := S
              refine WL_nil ?_
              refine T_n ?_
              refine WP_seq ?_
              refine WP_seq ?_
              refine WP_region ?_
              refine S_v E rfl (R_move E rfl) rfl ?_
              clear E a; intro a E
              refine S_v E rfl (R_lenV E rfl T22 h0.len) rfl ?_
              clear E a; intro a E
              refine S_v E rfl (R_move E rfl) rfl ?_
              clear E a; intro a E
              refine WL_nil ?_
              refine T_n ?_
              refine WP_block ?_
              replace S := (S.ownNil (e := 3) (sz := 1)).made0
              replace S := S.re1 (l' := grpO (fun x => (keyAt kk1 kn1 x 0, keyAt kk2 kn2 x 0)) x_36 (l0.take 0)) (by first | (simp [grpO]; done) | exact grpO_yes (f := (fun x => (keyAt kk1 kn1 x 0, keyAt kk2 kn2 x 0))) (by assumption) (by assumption) | exact grpO_no (f := (fun x => (keyAt kk1 kn1 x 0, keyAt kk2 kn2 x 0))) (by assumption) (by assumption))
              refine WP_loop (γ := Nat) (fun (m : Nat) a w => ∃ (M_40 : Hp) (u13 : Value), Hp.le M_34 M_40 ∧ St w M_40 (OwnI 3 u13 (grpO (fun x => (keyAt kk1 kn1 x 0, keyAt kk2 kn2 x 0)) x_36 (l0.take m)) :: blk b_38 (.cells #[.int .i64 x_36, u13] 31) :: OwnC 31 2 u10 (((setI ((l0.take k).map (fun x => keyAt kk1 kn1 x 0))).take j).map (fun key => (key, grpO (fun x => (keyAt kk1 kn1 x 0, keyAt kk2 kn2 x 0)) key l0))).length xs10 :: H) ∧ Env a 108 [] [(0, v0), (4, .pointer (some ⟨b_1, 0, none⟩)), (5, .pointer (some ⟨b_3, 0, none⟩)), (10, u10), (12, .int .i64 x_36), (13, .pointer (some ⟨b_38, 0, none⟩)), (53, v_31), (54, .int .i64 (((setI ((l0.take k).map (fun x => keyAt kk1 kn1 x 0))).length : Nat) : Int)), (55, .int .i64 ((j : Nat) : Int)), (61, v0), (62, .int .i64 (((l0).length : Nat) : Int)), (63, .int .i64 ((m : Nat) : Int))] ∧ (m ≤ (l0).length)) (fun m => ((l0).length) - m) 0 ⟨M_34, _, Hp.le.refl _, S, E.keep ⟨rfl, rfl, rfl, rfl, rfl, rfl, rfl, rfl, rfl, rfl, rfl, rfl, trivial⟩, by ((try clear S); (try clear E); first | assumption | omega | rfl | (simp; done) | (simp_all; done) | (simp [List.take_add_one, *]; done) | grind [List.take_add_one])⟩ ?_
              try clear E
              try clear S
              try clear a
              try clear w
              rintro m a w ⟨M_40, u13, hM_40, S, E, hL2_0⟩
              replace h0 := h0.le hM_40
              replace hb_1 := hM_40.2 _ _ hb_1
              replace hb_3 := hM_40.2 _ _ hb_3
              replace hz_8 := hz_8.le hM_40
              replace hv_10 := hv_10.le RG2_mono hM_40
              replace hv_12 := hv_12.le hM_40
              replace hz_29 := hz_29.le hM_40
              replace hv_31 := hv_31.le hM_40
              replace hr10 := hr10.le RG2_mono hM_40
              refine WP_seq ?_
              refine WP_region ?_
              refine S_v E rfl (R_lss E rfl rfl) rfl ?_
              clear E a; intro a E
              refine WL_nil ?_
              refine T_n ?_
              refine WP_seq ?_
              refine WP_cond E rfl (fun hc_41 => ?_) (fun hc_41 => ?_)
              · replace hc_41 := of_decide_eq_true hc_41
                refine WP_skip ?_
                refine T_n ?_
                refine WP_seq ?_
                refine WP_block ?_
                refine WP_seq ?_
                refine WP_region ?_
                obtain ⟨x_42, hx_42⟩ : ∃ x, (l0)[m]? = some x := ⟨_, List.getElem?_eq_getElem (by first | omega | (simp; done) | (simp; omega) | (simp_all; omega))⟩
                obtain ⟨p_43, hp_43, qp_43⟩ := h0.at hx_42
                refine S_v E rfl (R_idx E rfl rfl T22 hp_43 rfl) rfl ?_
                clear E a; intro a E
                refine S_v E rfl (R_loadM E rfl Try.isAgg3 S.imm qp_43) rfl ?_
                clear E a; intro a E
                refine S_v E rfl (R_assign E rfl) rfl ?_
                clear E a; intro a E
                refine WL_nil ?_
                refine T_n ?_
                refine WP_seq ?_
                refine WP_region ?_
                refine S_v E rfl (R_loadGM E rfl (Try.isAgg24 _) (Try.sizeOf24 _) S.imm hb_1) rfl ?_
                clear E a; intro a E
                refine S_v E rfl (R_move E rfl) rfl ?_
                clear E a; intro a E
                refine S_x (X_pu E S rfl rfl rfl (laws_stands (by omega)) (Hp.le.refl _) ?_)
                clear E a S; rintro a _ w M_44 hM_44 rfl S E
                replace h0 := h0.le hM_44
                replace hb_1 := hM_44.2 _ _ hb_1
                replace hb_3 := hM_44.2 _ _ hb_3
                replace hz_8 := hz_8.le hM_44
                replace hv_10 := hv_10.le RG2_mono hM_44
                replace hv_12 := hv_12.le hM_44
                replace hz_29 := hz_29.le hM_44
                replace hv_31 := hv_31.le hM_44
                replace hr10 := hr10.le RG2_mono hM_44
                refine S_v E rfl (R_move E rfl) rfl ?_
                clear E a; intro a E
                refine S_v E rfl (R_eql E rfl rfl) rfl ?_
                clear E a; intro a E
                refine WL_nil ?_
                refine T_n ?_
                refine WP_cond E rfl (fun hc_45 => ?_) (fun hc_45 => ?_)
                · replace hc_45 := of_decide_eq_true hc_45
                  have hb_1k45 := hb_1
                  have hb_3k45 := hb_3
                  have qp_43k45 := qp_43
                  replace S := S.mono_heap (w' := World.drew _) rfl
                  refine WP_drawn (C := fun x w => agree M_44 w ∧ (x = 1 → w.heap[b_38]? = some (.cells #[.int .i64 x_36, u13] 31))) (bf := (fun i => bif Nat.beq i 4 then [] else bif Nat.beq i 5 then [] else bif Nat.beq i 6 then [1] else bif Nat.beq i 8 then [1] else [])) [0, 1, 2, 3, 7] [0, 1, 2, 3, 4, 5, 6, 7, 8] Try.mixed (by kernel_rfl) (fun x hq => ⟨S.imm, fun _ => (S.mem (.tail _ (.head _)))⟩) ?_
                  refine D_v E rfl rfl rfl (fun w hC => (R_fieldAddr E rfl (FA31_1 _))) ?_
                  clear E a; intro a E
                  refine D_v E rfl rfl rfl (fun w hC => (R_load E rfl (Try.isAgg22 _) (cell_blkf (hC.2 rfl) rfl))) ?_
                  clear E a; intro a E
                  refine D_v E rfl rfl rfl (fun w hC => (R_loadGM E rfl (Try.isAgg24 _) (Try.sizeOf24 _) hC.1 hb_3k45)) ?_
                  clear E a; intro a E
                  refine D_v E rfl rfl rfl (fun w hC => (R_move E rfl)) ?_
                  clear E a; intro a E
                  refine D_x rfl rfl rfl (X_pu E S rfl rfl rfl (laws_stands (by omega)) (Hp.le.refl _) ?_)
                  clear E a S; rintro a _ w M_46 hM_46 rfl S E
                  replace h0 := h0.le hM_46
                  replace hb_1 := hM_46.2 _ _ hb_1
                  replace hb_3 := hM_46.2 _ _ hb_3
                  replace hz_8 := hz_8.le hM_46
                  replace hv_10 := hv_10.le RG2_mono hM_46
                  replace hv_12 := hv_12.le hM_46
                  replace hz_29 := hz_29.le hM_46
                  replace hv_31 := hv_31.le hM_46
                  replace hr10 := hr10.le RG2_mono hM_46
                  refine ⟨fun x hq hb => ⟨(agree_le hM_46 S.imm), (fun _ => (S.mem (.tail _ (.head _))))⟩, ?_⟩
                  refine D_x rfl rfl rfl (X_buildI (ys := [keyAt kk2 kn2 x_42 0]) E S rfl T22 rfl rfl rfl ?_)
                  clear E a S; rintro a w v_47 E S
                  refine ⟨fun x hq hb => ⟨(agree_le hM_46 S.imm), (fun _ => (S.mem (.tail _ (.tail _ (.head _)))))⟩, ?_⟩
                  replace S := S.front1
                  replace S := S.front1
                  refine D_x rfl rfl rfl (X_appendB (xs := grpO (fun x => (keyAt kk1 kn1 x 0, keyAt kk2 kn2 x 0)) x_36 (l0.take m)) (ys := [keyAt kk2 kn2 x_42 0]) E S rfl rfl rfl T22 (by (first | omega | (simp only [List.length_cons, List.length_nil, List.length_map, List.length_take]; first | omega | (refine Nat.le_trans (Nat.mul_le_mul_right _ (Nat.add_le_add_right (Nat.le_trans (grpO_len _ _ _) (List.length_take_le ..)) _)) ?_; omega) | (refine Nat.le_trans (Nat.add_le_add_right (Nat.le_trans (grpO_len _ _ _) (List.length_take_le ..)) _) ?_; omega)) | (simp only [List.length_cons, List.length_nil, List.length_map, List.length_take] at *; omega))) ?_)
                  clear E a S; rintro a w v_48 E S
                  refine ⟨fun x hq hb => ⟨(agree_le hM_46 S.imm), (fun e => by subst e; exact absurd hb (by decide))⟩, ?_⟩
                  refine D_v E rfl rfl rfl (fun w hC => (R_fieldAddr E rfl (FA31_1 _))) ?_
                  clear E a; intro a E
                  have ho_49 := S.oneI
                  replace S := S.front1
                  refine D_x rfl rfl rfl (X_storeB (f := 1) E S rfl rfl (Try.sizeOf22 _) ho_49 rfl ?_)
                  clear E a S; rintro a w E S
                  replace S : St w M_46 (blk b_38 (.cells #[.int .i64 x_36, v_48] 31) :: _) := S
                  refine ⟨fun x hq hb => ⟨(agree_le hM_46 S.imm), (fun e => by subst e; exact absurd hb (by decide))⟩, ?_⟩
                  refine D_end (NoP_n ?_)
                  refine B_n ?_
                  refine T_n ?_
                  refine WP_region ?_
                  refine S_v E rfl (R_addx (m := ((m + 1 : Nat) : Int)) E rfl rfl (by omega) (by omega)) rfl ?_
                  clear E a; intro a E
                  refine S_v E rfl (R_move E rfl) rfl ?_
                  clear E a; intro a E
                  refine WL_nil ?_
                  refine T_n ?_
                  replace S := S.front2
                  replace S := S.front1
                  replace S := S.front2
                  replace S := S.re1 (l' := grpO (fun x => (keyAt kk1 kn1 x 0, keyAt kk2 kn2 x 0)) x_36 (l0.take (m + 1))) (by first | (simp [grpO]; done) | exact grpO_yes (f := (fun x => (keyAt kk1 kn1 x 0, keyAt kk2 kn2 x 0))) (by assumption) (by assumption) | exact grpO_no (f := (fun x => (keyAt kk1 kn1 x 0, keyAt kk2 kn2 x 0))) (by assumption) (by assumption))
                  exact ⟨m + 1, ⟨M_46, _, (hM_40.trans (hM_44.trans hM_46)), S, E.keep ⟨rfl, rfl, rfl, rfl, rfl, rfl, rfl, rfl, rfl, rfl, rfl, rfl, trivial⟩, by ((try clear S); (try clear E); first | assumption | omega | rfl | (simp; done) | (simp_all; done) | (simp [List.take_add_one, *]; done) | grind [List.take_add_one])⟩, by omega⟩
                · replace hc_45 := of_decide_eq_false hc_45
                  refine WP_skip ?_
                  refine B_n ?_
                  refine T_n ?_
                  refine WP_region ?_
                  refine S_v E rfl (R_addx (m := ((m + 1 : Nat) : Int)) E rfl rfl (by omega) (by omega)) rfl ?_
                  clear E a; intro a E
                  refine S_v E rfl (R_move E rfl) rfl ?_
                  clear E a; intro a E
                  refine WL_nil ?_
                  refine T_n ?_
                  replace S := S.re1 (l' := grpO (fun x => (keyAt kk1 kn1 x 0, keyAt kk2 kn2 x 0)) x_36 (l0.take (m + 1))) (by first | (simp [grpO]; done) | exact grpO_yes (f := (fun x => (keyAt kk1 kn1 x 0, keyAt kk2 kn2 x 0))) (by assumption) (by assumption) | exact grpO_no (f := (fun x => (keyAt kk1 kn1 x 0, keyAt kk2 kn2 x 0))) (by assumption) (by assumption))
                  exact ⟨m + 1, ⟨M_44, _, (hM_40.trans hM_44), S, E.keep ⟨rfl, rfl, rfl, rfl, rfl, rfl, rfl, rfl, rfl, rfl, rfl, rfl, trivial⟩, by ((try clear S); (try clear E); first | assumption | omega | rfl | (simp; done) | (simp_all; done) | (simp [List.take_add_one, *]; done) | grind [List.take_add_one])⟩, by omega⟩
              · replace hc_41 := of_decide_eq_false hc_41
                refine WP_exit ?_
                refine T_x ?_
                refine T_x ?_
                refine B_x ?_
                refine T_n ?_
                refine WP_region ?_
                refine S_v E rfl (R_move E rfl) rfl ?_
                clear E a; intro a E
                have S0 := S; clear S
                obtain ⟨M_50, hM_50, hz_51, S⟩ := S0.freezeI (by (first | omega | (simp; done) | exact Nat.le_trans (grpO_len _ _ _) (by first | omega | (rw [List.length_take]; omega)) | (simp only [List.length_map, List.length_take] at *; omega) | (refine Nat.le_trans (Nat.mul_le_mul_right _ (Nat.le_trans (grpO_len _ _ _) (List.length_take_le ..))) ?_; omega)))
                clear S0
                replace h0 := h0.le hM_50
                replace hb_1 := hM_50.2 _ _ hb_1
                replace hb_3 := hM_50.2 _ _ hb_3
                replace hz_8 := hz_8.le hM_50
                replace hv_10 := hv_10.le RG2_mono hM_50
                replace hv_12 := hv_12.le hM_50
                replace hz_29 := hz_29.le hM_50
                replace hv_31 := hv_31.le hM_50
                replace hr10 := hr10.le RG2_mono hM_50
                have S0 := S; clear S
                obtain ⟨M_52, hM_52, hb_53, S⟩ := S0.freezeB
                clear S0
                replace h0 := h0.le hM_52
                replace hb_1 := hM_52.2 _ _ hb_1
                replace hb_3 := hM_52.2 _ _ hb_3
                replace hz_8 := hz_8.le hM_52
                replace hv_10 := hv_10.le RG2_mono hM_52
                replace hv_12 := hv_12.le hM_52
                replace hz_29 := hz_29.le hM_52
                replace hv_31 := hv_31.le hM_52
                replace hr10 := hr10.le RG2_mono hM_52
                replace hz_51 := hz_51.le hM_52
                refine S_v E rfl (R_loadGM E rfl (Try.isAgg31 _) (Try.sizeOf31 _) S.imm hb_53) rfl ?_
                clear E a; intro a E
                refine S_x (X_buildA1 (R := RG2) (cs := [.int .i64 x_36, u13]) (x0 := (x_36, grpO (fun x => (keyAt kk1 kn1 x 0, keyAt kk2 kn2 x 0)) x_36 (l0.take m))) RG2_mono E S rfl T25 rfl rfl rfl ⟨_, rfl, hz_51⟩ ?_)
                clear E a S; rintro a v_54 w M_55 hM_55 hv_54 S E
                replace h0 := h0.le hM_55
                replace hb_1 := hM_55.2 _ _ hb_1
                replace hb_3 := hM_55.2 _ _ hb_3
                replace hz_8 := hz_8.le hM_55
                replace hv_10 := hv_10.le RG2_mono hM_55
                replace hv_12 := hv_12.le hM_55
                replace hz_29 := hz_29.le hM_55
                replace hv_31 := hv_31.le hM_55
                replace hr10 := hr10.le RG2_mono hM_55
                replace hz_51 := hz_51.le hM_55
                replace hb_53 := hM_55.2 _ _ hb_53
                refine S_x (X_appendR (R := RG2) (zs := ((setI ((l0.take k).map (fun x => keyAt kk1 kn1 x 0))).take j).map (fun key => (key, grpO (fun x => (keyAt kk1 kn1 x 0, keyAt kk2 kn2 x 0)) key l0))) (ys := [(x_36, grpO (fun x => (keyAt kk1 kn1 x 0, keyAt kk2 kn2 x 0)) x_36 (l0.take m))]) E S hr10 rfl rfl rfl T25 hv_54 one_RG2 (by (first | omega | (simp only [List.length_cons, List.length_nil, List.length_map, List.length_take]; first | omega | (refine Nat.le_trans (Nat.mul_le_mul_right _ (Nat.add_le_add_right (Nat.le_trans (grpO_len _ _ _) (List.length_take_le ..)) _)) ?_; omega) | (refine Nat.le_trans (Nat.add_le_add_right (Nat.le_trans (grpO_len _ _ _) (List.length_take_le ..)) _) ?_; omega)) | (simp only [List.length_cons, List.length_nil, List.length_map, List.length_take] at *; omega))) (by (first | omega | (simp only [List.length_cons, List.length_nil, List.length_map, List.length_take]; first | omega | (refine Nat.le_trans (Nat.mul_le_mul_right _ (Nat.add_le_add_right (Nat.le_trans (grpO_len _ _ _) (List.length_take_le ..)) _)) ?_; omega) | (refine Nat.le_trans (Nat.add_le_add_right (Nat.le_trans (grpO_len _ _ _) (List.length_take_le ..)) _) ?_; omega)) | (simp only [List.length_cons, List.length_nil, List.length_map, List.length_take] at *; omega))) ?_)
                clear E a S; rintro a w v_56 xs_57 E hr_58 S
                refine S_v E rfl (R_assign E rfl) rfl ?_
                clear E a; intro a E
                refine WL_nil ?_
                refine B_n ?_
                refine T_n ?_
                refine WP_region ?_
                refine S_v E rfl (R_addx (m := ((j + 1 : Nat) : Int)) E rfl rfl (by omega) (by omega)) rfl ?_
                clear E a; intro a E
                refine S_v E rfl (R_move E rfl) rfl ?_
                clear E a; intro a E
                refine WL_nil ?_
                refine T_n ?_
                have hre : (((setI ((l0.take k).map (fun x => keyAt kk1 kn1 x 0))).take j).map (fun key => (key, grpO (fun x => (keyAt kk1 kn1 x 0, keyAt kk2 kn2 x 0)) key l0))) ++ [(x_36, grpO (fun x => (keyAt kk1 kn1 x 0, keyAt kk2 kn2 x 0)) x_36 (l0.take m))] = ((setI ((l0.take k).map (fun x => keyAt kk1 kn1 x 0))).take (j + 1)).map (fun key => (key, grpO (fun x => (keyAt kk1 kn1 x 0, keyAt kk2 kn2 x 0)) key l0)) := by first | (simp; done) | exact mpG_snoc (by assumption) (by rw [List.take_of_length_le (l := l0) (i := m) (by omega)])
                replace S := S.reR hre
                replace hr_58 := hr_58.eq hre
                clear hre
                exact ⟨j + 1, ⟨M_55, _, _, (hM_34.trans (hM_40.trans (hM_50.trans (hM_52.trans hM_55)))), S, E.keep ⟨rfl, rfl, rfl, rfl, rfl, rfl, rfl, trivial⟩, by ((try clear S); (try clear E); first | assumption | omega | rfl | (simp; done) | (simp_all; done) | (simp [List.take_add_one, *]; done) | grind [List.take_add_one]), hr_58⟩, by omega⟩
            · replace hc_35 := of_decide_eq_false hc_35
              have eall : ((setI ((l0.take k).map (fun x => keyAt kk1 kn1 x 0))).take j).map (fun key => (key, grpO (fun x => (keyAt kk1 kn1 x 0, keyAt kk2 kn2 x 0)) key l0)) = grpS (fun x => (keyAt kk1 kn1 x 0, keyAt kk2 kn2 x 0)) l0 := by rw [List.take_of_length_le (by omega), etk]; exact grpS_keys _ _
              refine WP_exit ?_
              refine T_x ?_
              refine T_x ?_
              refine B_x ?_
              refine T_n ?_
              refine WP_seq ?_
              refine WP_region ?_
              refine S_v E rfl (R_move E rfl) rfl ?_
              clear E a; intro a E
              refine S_v E rfl (R_move E rfl) rfl ?_
              clear E a; intro a E
              refine S_v E rfl (R_loadGM E rfl (Try.isAgg24 _) (Try.sizeOf24 _) S.imm hb_1) rfl ?_
              clear E a; intro a E
              refine S_v E rfl (R_loadGM E rfl (Try.isAgg24 _) (Try.sizeOf24 _) S.imm hb_3) rfl ?_
              clear E a; intro a E
              refine S_x (X_pu E S rfl rfl rfl (spec_GroupByMap h0 (by omega) (by omega) (by (first | omega | (simp; omega) | (simp; done) | (simp_all; omega) | grind)) (by first | assumption | exact (fun x hx => by rcases List.mem_append.1 hx with h | h; exact hr0 x h; exact hr1 x h))) (Hp.le.refl _) ?_)
              clear E a S; rintro a v_60 w M_59 hM_59 hv_60 S E
              replace h0 := h0.le hM_59
              replace hb_1 := hM_59.2 _ _ hb_1
              replace hb_3 := hM_59.2 _ _ hb_3
              replace hz_8 := hz_8.le hM_59
              replace hv_10 := hv_10.le RG2_mono hM_59
              replace hv_12 := hv_12.le hM_59
              replace hz_29 := hz_29.le hM_59
              replace hv_31 := hv_31.le hM_59
              replace hr10 := hr10.le RG2_mono hM_59
              have S0 := S; clear S
              obtain ⟨M_61, hM_61, hz_62, S⟩ := S0.freezeR hr10 RG2_mono (by (first | omega | (simp; done) | exact Nat.le_trans (grpO_len _ _ _) (by first | omega | (rw [List.length_take]; omega)) | (simp only [List.length_map, List.length_take] at *; omega) | (refine Nat.le_trans (Nat.mul_le_mul_right _ (Nat.le_trans (grpO_len _ _ _) (List.length_take_le ..))) ?_; omega)))
              clear S0
              replace h0 := h0.le hM_61
              replace hb_1 := hM_61.2 _ _ hb_1
              replace hb_3 := hM_61.2 _ _ hb_3
              replace hz_8 := hz_8.le hM_61
              replace hv_10 := hv_10.le RG2_mono hM_61
              replace hv_12 := hv_12.le hM_61
              replace hz_29 := hz_29.le hM_61
              replace hv_31 := hv_31.le hM_61
              replace hv_60 := hv_60.le RG2_mono hM_61
              refine S_x (X_pu E S rfl rfl rfl (laws_refGroups hz_62 hv_60) (Hp.le.refl _) ?_)
              clear E a S; rintro a _ w M_63 hM_63 rfl S E
              replace h0 := h0.le hM_63
              replace hb_1 := hM_63.2 _ _ hb_1
              replace hb_3 := hM_63.2 _ _ hb_3
              replace hz_8 := hz_8.le hM_63
              replace hv_10 := hv_10.le RG2_mono hM_63
              replace hv_12 := hv_12.le hM_63
              replace hz_29 := hz_29.le hM_63
              replace hv_31 := hv_31.le hM_63
              replace hv_60 := hv_60.le RG2_mono hM_63
              replace hz_62 := hz_62.le RG2_mono hM_63
              refine S_v E rfl (R_move E rfl) rfl ?_
              clear E a; intro a E
              have hc_64 : (decide (((setI ((l0.take k).map (fun x => keyAt kk1 kn1 x 0))).take j).map (fun key => (key, grpO (fun x => (keyAt kk1 kn1 x 0, keyAt kk2 kn2 x 0)) key l0)) = grpS (fun x => (keyAt kk1 kn1 x 0, keyAt kk2 kn2 x 0)) l0)) = true := by (clear S E; first | (rw [grpS_one]; decide) | (simp; done) | decide | (rw [eall]; simp; done) | (simp only [eall]; simp; done) | (rw [eall]; rfl))
              replace E := E.val (t := 91) rfl hc_64
              replace E := E.val (t := 92) rfl hc_64
              refine WL_guard_yes E rfl rfl ?_
              refine S_v E rfl (R_move E rfl) rfl ?_
              clear E a; intro a E
              refine WL_guard_yes E rfl rfl ?_
              refine S_v E rfl (R_loadGM E rfl (Try.isAgg24 _) (Try.sizeOf24 _) S.imm hb_1) rfl ?_
              clear E a; intro a E
              refine WL_guard_yes E rfl rfl ?_
              refine S_v E rfl (R_loadGM E rfl (Try.isAgg24 _) (Try.sizeOf24 _) S.imm hb_3) rfl ?_
              clear E a; intro a E
              refine WL_guard_yes E rfl rfl ?_
              refine S_x (X_pu E S rfl rfl rfl (impl_GroupByMap h0 (by omega) (by omega) (by (first | omega | (simp; omega) | (simp; done) | (simp_all; omega) | grind))) (Hp.le.refl _) ?_)
              clear E a S; rintro a v_66 w M_65 hM_65 hv_66 S E
              replace h0 := h0.le hM_65
              replace hb_1 := hM_65.2 _ _ hb_1
              replace hb_3 := hM_65.2 _ _ hb_3
              replace hz_8 := hz_8.le hM_65
              replace hv_10 := hv_10.le RG2_mono hM_65
              replace hv_12 := hv_12.le hM_65
              replace hz_29 := hz_29.le hM_65
              replace hv_31 := hv_31.le hM_65
              replace hv_60 := hv_60.le RG2_mono hM_65
              replace hz_62 := hz_62.le RG2_mono hM_65
              refine WL_guard_yes E rfl rfl ?_
              refine S_v E rfl (R_move E rfl) rfl ?_
              clear E a; intro a E
              refine WL_guard_yes E rfl rfl ?_
              refine S_x (X_pu E S rfl rfl rfl (laws_eqGroups hv_66 hz_62) (Hp.le.refl _) ?_)
              clear E a S; rintro a _ w M_67 hM_67 rfl S E
              replace h0 := h0.le hM_67
              replace hb_1 := hM_67.2 _ _ hb_1
              replace hb_3 := hM_67.2 _ _ hb_3
              replace hz_8 := hz_8.le hM_67
              replace hv_10 := hv_10.le RG2_mono hM_67
              replace hv_12 := hv_12.le hM_67
              replace hz_29 := hz_29.le hM_67
              replace hv_31 := hv_31.le hM_67
              replace hv_60 := hv_60.le RG2_mono hM_67
              replace hz_62 := hz_62.le RG2_mono hM_67
              replace hv_66 := hv_66.le RG2_mono hM_67
              refine S_v E rfl (R_pickT E rfl rfl) rfl ?_
              clear E a; intro a E
              refine S_v E rfl (R_move E rfl) rfl ?_
              clear E a; intro a E
              have hc_68 : (decide (grpS (fun x => (keyAt kk1 kn1 x 0, keyAt kk2 kn2 x 0)) l0 = ((setI ((l0.take k).map (fun x => keyAt kk1 kn1 x 0))).take j).map (fun key => (key, grpO (fun x => (keyAt kk1 kn1 x 0, keyAt kk2 kn2 x 0)) key l0)))) = true := by (clear S E; first | (rw [grpS_one]; decide) | (simp; done) | decide | (rw [eall]; simp; done) | (simp only [eall]; simp; done) | (rw [eall]; rfl))
              replace E := E.val (t := 98) rfl hc_68
              replace E := E.val (t := 99) rfl hc_68
              replace E := E.val (t := 100) rfl hc_68
              refine WL_guard_yes E rfl rfl ?_
              refine S_v E rfl (R_move E rfl) rfl ?_
              clear E a; intro a E
              refine WL_guard_yes E rfl rfl ?_
              refine S_v E rfl (R_loadGM E rfl (Try.isAgg24 _) (Try.sizeOf24 _) S.imm hb_1) rfl ?_
              clear E a; intro a E
              refine WL_guard_yes E rfl rfl ?_
              refine S_v E rfl (R_loadGM E rfl (Try.isAgg24 _) (Try.sizeOf24 _) S.imm hb_3) rfl ?_
              clear E a; intro a E
              refine WL_guard_yes E rfl rfl ?_
              refine S_x (X_pu E S rfl rfl rfl (impl_GroupByMapSeq h0 (by omega) (by omega) (by (first | omega | (simp; omega) | (simp; done) | (simp_all; omega) | grind))) (Hp.le.refl _) ?_)
              clear E a S; rintro a v_70 w M_69 hM_69 hv_70 S E
              replace h0 := h0.le hM_69
              replace hb_1 := hM_69.2 _ _ hb_1
              replace hb_3 := hM_69.2 _ _ hb_3
              replace hz_8 := hz_8.le hM_69
              replace hv_10 := hv_10.le RG2_mono hM_69
              replace hv_12 := hv_12.le hM_69
              replace hz_29 := hz_29.le hM_69
              replace hv_31 := hv_31.le hM_69
              replace hv_60 := hv_60.le RG2_mono hM_69
              replace hz_62 := hz_62.le RG2_mono hM_69
              replace hv_66 := hv_66.le RG2_mono hM_69
              refine WL_guard_yes E rfl rfl ?_
              refine S_v E rfl (R_move E rfl) rfl ?_
              clear E a; intro a E
              refine WL_guard_yes E rfl rfl ?_
              refine S_x (X_pu E S rfl rfl rfl (laws_eqGroups hv_70 hz_62) (Hp.le.refl _) ?_)
              clear E a S; rintro a _ w M_71 hM_71 rfl S E
              replace h0 := h0.le hM_71
              replace hb_1 := hM_71.2 _ _ hb_1
              replace hb_3 := hM_71.2 _ _ hb_3
              replace hz_8 := hz_8.le hM_71
              replace hv_10 := hv_10.le RG2_mono hM_71
              replace hv_12 := hv_12.le hM_71
              replace hz_29 := hz_29.le hM_71
              replace hv_31 := hv_31.le hM_71
              replace hv_60 := hv_60.le RG2_mono hM_71
              replace hz_62 := hz_62.le RG2_mono hM_71
              replace hv_66 := hv_66.le RG2_mono hM_71
              replace hv_70 := hv_70.le RG2_mono hM_71
              refine S_v E rfl (R_pickT E rfl rfl) rfl ?_
              clear E a; intro a E
              refine S_v E rfl (R_assign E rfl) rfl ?_
              clear E a; intro a E
              refine WL_nil ?_
              refine T_n ?_
              refine WP_ret ?_
              exact F_ret1 E Try.results4 rfl ⟨_, rfl, M_71, (hM_2.trans (hM_4.trans (hM_7.trans (hM_9.trans (hM_13.trans (hM_14.trans (hM_16.trans (hM_18.trans (hM_21.trans (hM_28.trans (hM_30.trans (hM_34.trans (hM_59.trans (hM_61.trans (hM_63.trans (hM_65.trans (hM_67.trans (hM_69.trans hM_71)))))))))))))))))), (congrArg Value.bool (by (clear S E; first | (rw [grpS_one]; decide) | (simp; done) | decide | (rw [eall]; simp; done) | (simp only [eall]; simp; done) | (rw [eall]; rfl)))), S⟩

end Go.Proofs.Ytpncgdecfhfjmaa.wFnGroupsMapped
