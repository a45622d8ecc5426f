/- Walks through the functions that laws.FnSetRoads reaches: what each computes; no conditions beyond what each theorem states. -/
import Derived.Test.YtlmpgefhnmfhpaaGreatWFnSetRoadsc
set_option linter.unusedVariables false
set_option linter.unusedSimpArgs false
namespace Go.Proofs.YtlmpgefhnmfhpaaGreat.wFnSetRoads
open Go Go.Sl
set_option maxRecDepth 100000 in
set_option maxHeartbeats 4000000 in
theorem laws_FnSetRoads {M : Hp} {v0 v1 : Value} {l0 l1 : List Int} (h0 : RdI M v0 l0) (h1 : RdI M v1 l1) :
    PuC Tryz.prog 9 M [v0, v1] (fun r M' => r = .bool true) := by
  refine PuC_enter Tryz.func9 rfl Tryz.ntmps9 rfl ?_
  intro a w M1 H hM1 S E
  replace h0 := h0.le hM1
  replace h1 := h1.le hM1
  have b0 := h0.bound
  have b1 := h1.bound
  refine WP_seq ?_
  refine WP_region ?_
  refine S_v E rfl (R_assign E rfl) rfl ?_
  clear E a; intro a E
  refine WL_nil ?_
  refine T_n ?_
  refine WP_seq ?_
  refine WP_seq ?_
  refine WP_region ?_
  refine S_v E rfl (R_move E rfl) rfl ?_
  clear E a; intro a E
  refine S_v E rfl (R_lenV E rfl T22 h0.len) rfl ?_
  clear E a; intro a E
  refine S_v E rfl (R_gtr E rfl rfl) rfl ?_
  clear E a; intro a E
  refine S_v E rfl (R_move E rfl) rfl ?_
  clear E a; intro a E
  refine split_bool (decide (2147483647 < (((l0).length : Nat) : Int))) (fun hc_1 => ?_) (fun hc_1 => ?_)
  · replace E := E.val (t := 17) rfl hc_1
    replace E := E.val (t := 18) rfl hc_1
    replace hc_1 := of_decide_eq_true hc_1
    refine WL_guard_no E rfl rfl rfl rfl fun a E => ?_
    refine WL_guard_no E rfl rfl rfl rfl fun a E => ?_
    refine WL_guard_no E rfl rfl rfl rfl fun a E => ?_
    refine S_v E rfl (R_pickT E rfl rfl) rfl ?_
    clear E a; intro a E
    refine WL_nil ?_
    refine T_n ?_
    refine WP_condT E rfl rfl ?_
    refine WP_seq ?_
    refine WP_region ?_
    refine S_v E rfl (R_assign E rfl) rfl ?_
    clear E a; intro a E
    refine WL_nil ?_
    refine T_n ?_
    refine WP_ret ?_
    refine T_r ?_
    exact F_ret1 E Tryz.results9 rfl ⟨_, rfl, M1, (Hp.le.refl _), rfl, S⟩
  · replace E := E.val (t := 17) rfl hc_1
    replace E := E.val (t := 18) rfl hc_1
    replace hc_1 := of_decide_eq_false hc_1
    refine WL_guard_yes E rfl rfl ?_
    refine S_v E rfl (R_move E rfl) rfl ?_
    clear E a; intro a E
    refine WL_guard_yes E rfl rfl ?_
    refine S_v E rfl (R_lenV E rfl T22 h1.len) rfl ?_
    clear E a; intro a E
    refine WL_guard_yes E rfl rfl ?_
    refine S_v E rfl (R_gtr E rfl rfl) rfl ?_
    clear E a; intro a E
    refine S_v E rfl (R_pickF E rfl rfl) rfl ?_
    clear E a; intro a E
    refine WL_nil ?_
    refine T_n ?_
    refine WP_cond E rfl (fun hc_2 => ?_) (fun hc_2 => ?_)
    · replace hc_2 := of_decide_eq_true hc_2
      refine WP_seq ?_
      refine WP_region ?_
      refine S_v E rfl (R_assign E rfl) rfl ?_
      clear E a; intro a E
      refine WL_nil ?_
      refine T_n ?_
      refine WP_ret ?_
      refine T_r ?_
      exact F_ret1 E Tryz.results9 rfl ⟨_, rfl, M1, (Hp.le.refl _), rfl, S⟩
    · replace hc_2 := of_decide_eq_false hc_2
      refine WP_skip ?_
      refine T_n ?_
      refine WP_seq ?_
      refine WP_seq ?_
      refine WP_region ?_
      refine S_x (X_buildI (ys := [1]) E S rfl T22 rfl rfl rfl ?_)
      clear E a S; rintro a w v_3 E S
      refine S_x (X_buildI (ys := [2]) E S rfl T22 rfl rfl rfl ?_)
      clear E a S; rintro a w v_4 E S
      replace S := S.front1
      have S0 := S; clear S
      obtain ⟨M_5, hM_5, hz_6, S⟩ := S0.freezeI (by (first | omega | (simp; done) | (simp only [List.length_append]; omega)))
      clear S0
      replace h0 := h0.le hM_5
      replace h1 := h1.le hM_5
      have S0 := S; clear S
      obtain ⟨M_7, hM_7, hz_8, S⟩ := S0.freezeI (by (first | omega | (simp; done) | (simp only [List.length_append]; omega)))
      clear S0
      replace h0 := h0.le hM_7
      replace h1 := h1.le hM_7
      replace hz_6 := hz_6.le hM_7
      refine S_x (X_pu E S rfl rfl rfl (impl_SetUnion hz_6 hz_8 (by first | assumption | omega | (simp; done)) (by first | assumption | omega | (simp; done))) (Hp.le.refl _) ?_)
      clear E a S; rintro a v_10 w M_9 hM_9 hv_10 S E
      replace h0 := h0.le hM_9
      replace h1 := h1.le hM_9
      replace hz_6 := hz_6.le hM_9
      replace hz_8 := hz_8.le hM_9
      have hzl := suL_len ([1] ++ [2])
      rw [List.length_append] at hzl
      refine S_v E rfl (R_lenV E rfl T22 hv_10.len) rfl ?_
      clear E a; intro a E
      refine S_v E rfl (R_neq E rfl rfl) rfl ?_
      clear E a; intro a E
      refine WL_nil ?_
      refine T_n ?_
      have hc_11 : (decide ((((suL ([1] ++ [2])).length : Nat) : Int) ≠ 2)) = false := by (clear S E; first | (simp [suL_card]; decide) | (simp only [Bool.not_eq_false', decide_eq_true_eq]; first | exact suL_set _ | (refine setI_eq fun z => ?_; simp [mem_keyL]; done) | (skip; (try rw [suL_set]); first | (refine setI_eq fun z => ?_; (simp only [mem_meet2, mem_keyL, List.flatten_cons, List.flatten_nil, List.append_nil, List.mem_append, List.mem_filter, decide_eq_true_eq, Bool.and_eq_true, Bool.not_eq_true', decide_eq_false_iff_not]; by_cases h1 : z ∈ l0 <;> by_cases h2 : z ∈ l1 <;> simp [h1, h2]; done)) | (refine road (by omega) fun z => ?_; (simp only [mem_meet2, mem_keyL, List.flatten_cons, List.flatten_nil, List.append_nil, List.mem_append, List.mem_filter, decide_eq_true_eq, Bool.and_eq_true, Bool.not_eq_true', decide_eq_false_iff_not]; by_cases h1 : z ∈ l0 <;> by_cases h2 : z ∈ l1 <;> simp [h1, h2]; done)) | (refine road2 (by omega) fun z => ?_; (simp only [mem_meet2, mem_keyL, List.flatten_cons, List.flatten_nil, List.append_nil, List.mem_append, List.mem_filter, decide_eq_true_eq, Bool.and_eq_true, Bool.not_eq_true', decide_eq_false_iff_not]; by_cases h1 : z ∈ l0 <;> by_cases h2 : z ∈ l1 <;> simp [h1, h2]; done)))))
      refine WP_condF E rfl hc_11 ?_
      refine WP_skip ?_
      refine T_n ?_
      refine WP_seq ?_
      refine WP_seq ?_
      refine WP_region ?_
      refine S_v E rfl (R_move E rfl) rfl ?_
      clear E a; intro a E
      refine S_v E rfl (R_move E rfl) rfl ?_
      clear E a; intro a E
      refine S_x (X_buildM (R := RSl 1 RInt) (vs := [v0, v1]) (xs := [l0, l1]) (RSl_mono RInt_mono) E S rfl T36 rfl rfl rfl (by intro u hu; simp only [List.mem_cons, List.not_mem_nil, or_false] at hu; rcases hu with rfl | rfl <;> first | exact RdI.one h0 | exact RdI.one h1 | rfl) rfl (rowsC (R := RSl 1 RInt) (RdI.row h0) (rowsC (R := RSl 1 RInt) (RdI.row h1) rowsN)) ?_)
      clear E a S; rintro a v_12 w M_13 hM_13 hv_12 S E
      replace hv_12 : RdII M_13 v_12 [l0, l1] := hv_12
      replace h0 := h0.le hM_13
      replace h1 := h1.le hM_13
      replace hz_6 := hz_6.le hM_13
      replace hz_8 := hz_8.le hM_13
      replace hv_10 := hv_10.le hM_13
      refine S_x (X_pu E S rfl rfl rfl (laws_few hv_12) (Hp.le.refl _) ?_)
      clear E a S; rintro a _ w M_14 hM_14 rfl S E
      replace h0 := h0.le hM_14
      replace h1 := h1.le hM_14
      replace hz_6 := hz_6.le hM_14
      replace hz_8 := hz_8.le hM_14
      replace hv_10 := hv_10.le hM_14
      replace hv_12 := hv_12.le hM_14
      refine S_v E rfl (R_not E rfl) rfl ?_
      clear E a; intro a E
      refine WL_nil ?_
      refine T_n ?_
      refine WP_cond E rfl (fun hc_15 => ?_) (fun hc_15 => ?_)
      · refine WP_seq ?_
        refine WP_region ?_
        refine S_v E rfl (R_assign E rfl) rfl ?_
        clear E a; intro a E
        refine WL_nil ?_
        refine T_n ?_
        refine WP_ret ?_
        refine T_r ?_
        exact F_ret1 E Tryz.results9 rfl ⟨_, rfl, M_14, (hM_5.trans (hM_7.trans (hM_9.trans (hM_13.trans hM_14)))), rfl, S⟩
      · have hle : l0.length ≤ 300 ∧ l1.length ≤ 300 := (by simp_all)
        obtain ⟨hle1, hle2⟩ := hle
        have hsb := (setI_spec (l0 ++ l1)).2.2
        rw [List.length_append] at hsb
        have hkl : (keyL ([l0, l1] : List (List Int)).flatten).length ≤ l0.length + l1.length := Nat.le_trans (keyL_le' _) (by simp)
        have hml : (meetF (fun x => x) [l0, l1]).length ≤ 300 := meet_len (fun x => x) (T := 300) (by simp; omega)
        refine WP_skip ?_
        refine T_n ?_
        refine WP_seq ?_
        refine WP_region ?_
        refine S_v E rfl (R_move E rfl) rfl ?_
        clear E a; intro a E
        refine S_v E rfl (R_move E rfl) rfl ?_
        clear E a; intro a E
        refine S_x (X_buildM (R := RSl 1 RInt) (vs := [v0, v1]) (xs := [l0, l1]) (RSl_mono RInt_mono) E S rfl T36 rfl rfl rfl (by intro u hu; simp only [List.mem_cons, List.not_mem_nil, or_false] at hu; rcases hu with rfl | rfl <;> first | exact RdI.one h0 | exact RdI.one h1 | rfl) rfl (rowsC (R := RSl 1 RInt) (RdI.row h0) (rowsC (R := RSl 1 RInt) (RdI.row h1) rowsN)) ?_)
        clear E a S; rintro a v_16 w M_17 hM_17 hv_16 S E
        replace hv_16 : RdII M_17 v_16 [l0, l1] := hv_16
        replace h0 := h0.le hM_17
        replace h1 := h1.le hM_17
        replace hz_6 := hz_6.le hM_17
        replace hz_8 := hz_8.le hM_17
        replace hv_10 := hv_10.le hM_17
        replace hv_12 := hv_12.le hM_17
        refine S_v E rfl (R_assign E rfl) rfl ?_
        clear E a; intro a E
        refine WL_nil ?_
        refine T_n ?_
        refine WP_seq ?_
        refine WP_region ?_
        refine S_v E rfl (R_assign E rfl) rfl ?_
        clear E a; intro a E
        refine S_v E rfl (R_assign E rfl) rfl ?_
        clear E a; intro a E
        refine S_v E rfl (R_assign E rfl) rfl ?_
        clear E a; intro a E
        refine WL_nil ?_
        refine T_n ?_
        refine WP_seq ?_
        refine WP_seq ?_
        refine WP_region ?_
        refine S_v E rfl (R_move E rfl) rfl ?_
        clear E a; intro a E
        refine S_v E rfl (R_move E rfl) rfl ?_
        clear E a; intro a E
        refine S_x (X_pu E S rfl rfl rfl (laws_both h0 h1 (by first | omega | (simp; omega) | (simp_all; omega))) (Hp.le.refl _) ?_)
        clear E a S; rintro a v_19 w M_18 hM_18 hv_19 S E
        replace h0 := h0.le hM_18
        replace h1 := h1.le hM_18
        replace hz_6 := hz_6.le hM_18
        replace hz_8 := hz_8.le hM_18
        replace hv_10 := hv_10.le hM_18
        replace hv_12 := hv_12.le hM_18
        replace hv_16 := hv_16.le hM_18
        refine S_x (X_pu E S rfl rfl rfl (laws_sorted hv_19 (by (first | omega | (simp; omega) | (simp; done) | (simp_all; omega) | grind))) (Hp.le.refl _) ?_)
        clear E a S; rintro a v_21 w M_20 hM_20 hv_21 S E
        replace h0 := h0.le hM_20
        replace h1 := h1.le hM_20
        replace hz_6 := hz_6.le hM_20
        replace hz_8 := hz_8.le hM_20
        replace hv_10 := hv_10.le hM_20
        replace hv_12 := hv_12.le hM_20
        replace hv_16 := hv_16.le hM_20
        replace hv_19 := hv_19.le hM_20
        refine S_v E rfl (R_lenV E rfl T22 hv_21.len) rfl ?_
        clear E a; intro a E
        refine S_v E rfl (R_move E rfl) rfl ?_
        clear E a; intro a E
        refine WL_nil ?_
        refine T_n ?_
        refine WP_block ?_
        replace S := (S.ownNil (e := 3) (sz := 1)).made0
        replace S := (S.ownNil (e := 3) (sz := 1)).made0
        replace S := (S.ownNil (e := 3) (sz := 1)).made0
        replace S := S.front2
        replace S := S.re1 (l' := ((setI (l0 ++ l1)).take 0).filter (fun z => !decide (z ∈ l0))) (by first | (simp; done) | exact ft_yes (by assumption) (by simp_all; done) | exact ft_no (by assumption) (by simp_all; done))
        replace S := S.front2
        replace S := S.re1 (l' := ((setI (l0 ++ l1)).take 0).filter (fun z => decide (z ∈ l0) && !decide (z ∈ l1))) (by first | (simp; done) | exact ft_yes (by assumption) (by simp_all; done) | exact ft_no (by assumption) (by simp_all; done))
        replace S := S.front2
        replace S := S.re1 (l' := ((setI (l0 ++ l1)).take 0).filter (fun z => decide (z ∈ l0) && decide (z ∈ l1))) (by first | (simp; done) | exact ft_yes (by assumption) (by simp_all; done) | exact ft_no (by assumption) (by simp_all; done))
        refine WP_loop (γ := Nat) (fun (k : Nat) a w => ∃ (M_25 : Hp) (u6 : Value) (u7 : Value) (u8 : Value), Hp.le M_20 M_25 ∧ St w M_25 (OwnI 3 u6 (((setI (l0 ++ l1)).take k).filter (fun z => decide (z ∈ l0) && decide (z ∈ l1))) :: OwnI 3 u7 (((setI (l0 ++ l1)).take k).filter (fun z => decide (z ∈ l0) && !decide (z ∈ l1))) :: OwnI 3 u8 (((setI (l0 ++ l1)).take k).filter (fun z => !decide (z ∈ l0))) :: H) ∧ Env a 201 [] [(0, v0), (1, v1), (5, v_16), (6, u6), (7, u7), (8, u8), (39, v_21), (40, .int .i64 (((setI (l0 ++ l1)).length : Nat) : Int)), (41, .int .i64 ((k : Nat) : Int))] ∧ (k ≤ (setI (l0 ++ l1)).length)) (fun k => ((setI (l0 ++ l1)).length) - k) 0 ⟨M_20, _, _, _, Hp.le.refl _, S, E.keep ⟨rfl, rfl, rfl, rfl, rfl, rfl, rfl, rfl, rfl, trivial⟩, by ((try clear S); (try clear E); first | assumption | omega | rfl | (simp; done) | (simp_all; done) | (simp [List.take_add_one, *]; done) | grind [List.take_add_one])⟩ ?_
        try clear E
        try clear S
        try clear a
        try clear w
        rintro k a w ⟨M_25, u6, u7, u8, hM_25, S, E, hL0_0⟩
        replace h0 := h0.le hM_25
        replace h1 := h1.le hM_25
        replace hz_6 := hz_6.le hM_25
        replace hz_8 := hz_8.le hM_25
        replace hv_10 := hv_10.le hM_25
        replace hv_12 := hv_12.le hM_25
        replace hv_16 := hv_16.le hM_25
        replace hv_19 := hv_19.le hM_25
        replace hv_21 := hv_21.le hM_25
        have hf6 := List.length_filter_le (fun z => decide (z ∈ l0) && decide (z ∈ l1)) ((setI (l0 ++ l1)).take k)
        rw [List.length_take] at hf6
        have hf7 := List.length_filter_le (fun z => decide (z ∈ l0) && !decide (z ∈ l1)) ((setI (l0 ++ l1)).take k)
        rw [List.length_take] at hf7
        have hf8 := List.length_filter_le (fun z => !decide (z ∈ l0)) ((setI (l0 ++ l1)).take k)
        rw [List.length_take] at hf8
        refine WP_seq ?_
        refine WP_region ?_
        refine S_v E rfl (R_lss E rfl rfl) rfl ?_
        clear E a; intro a E
        refine WL_nil ?_
        refine T_n ?_
        refine WP_seq ?_
        refine WP_cond E rfl (fun hc_26 => ?_) (fun hc_26 => ?_)
        · replace hc_26 := of_decide_eq_true hc_26
          refine WP_skip ?_
          refine T_n ?_
          refine WP_seq ?_
          refine WP_block ?_
          refine WP_seq ?_
          refine WP_region ?_
          obtain ⟨x_27, hx_27⟩ : ∃ x, (setI (l0 ++ l1))[k]? = some x := ⟨_, List.getElem?_eq_getElem (by (first | decide | (rw [relL_len]; decide) | omega | (simp; done) | (rw [relL_len]; omega) | (rw [relL_len]; simp only [List.length_cons, List.length_nil] at *; omega) | (simp only [List.length_cons, List.length_nil] at *; omega)))⟩
          obtain ⟨p_28, hp_28, qp_28⟩ := hv_21.at hx_27
          refine S_v E rfl (R_idx E rfl rfl T22 hp_28 rfl) rfl ?_
          clear E a; intro a E
          refine S_v E rfl (R_loadM E rfl Tryz.isAgg3 S.imm qp_28) rfl ?_
          clear E a; intro a E
          refine S_v E rfl (R_assign E rfl) rfl ?_
          clear E a; intro a E
          refine WL_nil ?_
          refine T_n ?_
          refine WP_block ?_
          refine WP_seq ?_
          refine WP_region ?_
          refine S_v E rfl (R_move E rfl) rfl ?_
          clear E a; intro a E
          refine S_v E rfl (R_move E rfl) rfl ?_
          clear E a; intro a E
          refine S_x (X_pu E S rfl rfl rfl (laws_in h0) (Hp.le.refl _) ?_)
          clear E a S; rintro a _ w M_29 hM_29 rfl S E
          replace h0 := h0.le hM_29
          replace h1 := h1.le hM_29
          replace hz_6 := hz_6.le hM_29
          replace hz_8 := hz_8.le hM_29
          replace hv_10 := hv_10.le hM_29
          replace hv_12 := hv_12.le hM_29
          replace hv_16 := hv_16.le hM_29
          replace hv_19 := hv_19.le hM_29
          replace hv_21 := hv_21.le hM_29
          refine S_v E rfl (R_move E rfl) rfl ?_
          clear E a; intro a E
          refine split_bool (decide (x_27 ∈ l0)) (fun hc_30 => ?_) (fun hc_30 => ?_)
          · replace E := E.val (t := 52) rfl hc_30
            replace E := E.val (t := 53) rfl hc_30
            replace hc_30 := of_decide_eq_true hc_30
            refine WL_guard_yes E rfl rfl ?_
            refine S_v E rfl (R_move E rfl) rfl ?_
            clear E a; intro a E
            refine WL_guard_yes E rfl rfl ?_
            refine S_v E rfl (R_move E rfl) rfl ?_
            clear E a; intro a E
            refine WL_guard_yes E rfl rfl ?_
            refine S_x (X_pu E S rfl rfl rfl (laws_in h1) (Hp.le.refl _) ?_)
            clear E a S; rintro a _ w M_31 hM_31 rfl S E
            replace h0 := h0.le hM_31
            replace h1 := h1.le hM_31
            replace hz_6 := hz_6.le hM_31
            replace hz_8 := hz_8.le hM_31
            replace hv_10 := hv_10.le hM_31
            replace hv_12 := hv_12.le hM_31
            replace hv_16 := hv_16.le hM_31
            replace hv_19 := hv_19.le hM_31
            replace hv_21 := hv_21.le hM_31
            refine S_v E rfl (R_pickT E rfl rfl) rfl ?_
            clear E a; intro a E
            refine S_v E rfl (R_assign E rfl) rfl ?_
            clear E a; intro a E
            refine WL_nil ?_
            refine T_n ?_
            refine WP_cond E rfl (fun hc_32 => ?_) (fun hc_32 => ?_)
            · replace hc_32 := of_decide_eq_true hc_32
              refine WP_region ?_
              refine S_v E rfl (R_move E rfl) rfl ?_
              clear E a; intro a E
              refine S_v E rfl (R_move E rfl) rfl ?_
              clear E a; intro a E
              refine S_x (X_buildI (ys := [x_27]) E S rfl T22 rfl rfl rfl ?_)
              clear E a S; rintro a w v_33 E S
              replace S := S.front1
              replace S := S.front1
              refine S_x (X_appendB (xs := ((setI (l0 ++ l1)).take k).filter (fun z => decide (z ∈ l0) && decide (z ∈ l1))) (ys := [x_27]) E S rfl rfl rfl T22 (by (simp only [List.length_cons, List.length_nil]; omega)) ?_)
              clear E a S; rintro a w v_34 E S
              refine S_v E rfl (R_assign E rfl) rfl ?_
              clear E a; intro a E
              refine WL_nil ?_
              refine B_n ?_
              refine B_n ?_
              refine T_n ?_
              refine WP_region ?_
              refine S_v E rfl (R_addx (m := ((k + 1 : Nat) : Int)) E rfl rfl (by omega) (by omega)) rfl ?_
              clear E a; intro a E
              refine S_v E rfl (R_move E rfl) rfl ?_
              clear E a; intro a E
              refine WL_nil ?_
              refine T_n ?_
              replace S := S.front2
              replace S := S.re1 (l' := ((setI (l0 ++ l1)).take (k + 1)).filter (fun z => !decide (z ∈ l0))) (by first | (simp; done) | exact ft_yes (by assumption) (by simp_all; done) | exact ft_no (by assumption) (by simp_all; done))
              replace S := S.front2
              replace S := S.re1 (l' := ((setI (l0 ++ l1)).take (k + 1)).filter (fun z => decide (z ∈ l0) && !decide (z ∈ l1))) (by first | (simp; done) | exact ft_yes (by assumption) (by simp_all; done) | exact ft_no (by assumption) (by simp_all; done))
              replace S := S.front2
              replace S := S.re1 (l' := ((setI (l0 ++ l1)).take (k + 1)).filter (fun z => decide (z ∈ l0) && decide (z ∈ l1))) (by first | (simp; done) | exact ft_yes (by assumption) (by simp_all; done) | exact ft_no (by assumption) (by simp_all; done))
              exact ⟨k + 1, ⟨M_31, _, _, _, (hM_25.trans (hM_29.trans hM_31)), S, E.keep ⟨rfl, rfl, rfl, rfl, rfl, rfl, rfl, rfl, rfl, trivial⟩, by ((try clear S); (try clear E); first | assumption | omega | rfl | (simp; done) | (simp_all; done) | (simp [List.take_add_one, *]; done) | grind [List.take_add_one])⟩, by omega⟩
            · replace hc_32 := of_decide_eq_false hc_32
              refine WP_seq ?_
              refine WP_region ?_
              refine S_v E rfl (R_move E rfl) rfl ?_
              clear E a; intro a E
              refine S_v E rfl (R_move E rfl) rfl ?_
              clear E a; intro a E
              refine S_x (X_pu E S rfl rfl rfl (laws_in h0) (Hp.le.refl _) ?_)
              clear E a S; rintro a _ w M_35 hM_35 rfl S E
              replace h0 := h0.le hM_35
              replace h1 := h1.le hM_35
              replace hz_6 := hz_6.le hM_35
              replace hz_8 := hz_8.le hM_35
              replace hv_10 := hv_10.le hM_35
              replace hv_12 := hv_12.le hM_35
              replace hv_16 := hv_16.le hM_35
              replace hv_19 := hv_19.le hM_35
              replace hv_21 := hv_21.le hM_35
              refine S_v E rfl (R_assign E rfl) rfl ?_
              clear E a; intro a E
              refine WL_nil ?_
              refine T_n ?_
              refine WP_cond E rfl (fun hc_36 => ?_) (fun hc_36 => ?_)
              · replace hc_36 := of_decide_eq_true hc_36
                refine WP_region ?_
                refine S_v E rfl (R_move E rfl) rfl ?_
                clear E a; intro a E
                refine S_v E rfl (R_move E rfl) rfl ?_
                clear E a; intro a E
                refine S_x (X_buildI (ys := [x_27]) E S rfl T22 rfl rfl rfl ?_)
                clear E a S; rintro a w v_37 E S
                replace S := S.front2
                replace S := S.front1
                refine S_x (X_appendB (xs := ((setI (l0 ++ l1)).take k).filter (fun z => decide (z ∈ l0) && !decide (z ∈ l1))) (ys := [x_27]) E S rfl rfl rfl T22 (by (simp only [List.length_cons, List.length_nil]; omega)) ?_)
                clear E a S; rintro a w v_38 E S
                refine S_v E rfl (R_assign E rfl) rfl ?_
                clear E a; intro a E
                refine WL_nil ?_
                refine B_n ?_
                refine B_n ?_
                refine T_n ?_
                refine WP_region ?_
                refine S_v E rfl (R_addx (m := ((k + 1 : Nat) : Int)) E rfl rfl (by omega) (by omega)) rfl ?_
                clear E a; intro a E
                refine S_v E rfl (R_move E rfl) rfl ?_
                clear E a; intro a E
                refine WL_nil ?_
                refine T_n ?_
                replace S := S.front2
                replace S := S.front1
                replace S := S.front2
                replace S := S.front2
                replace S := S.re1 (l' := ((setI (l0 ++ l1)).take (k + 1)).filter (fun z => !decide (z ∈ l0))) (by first | (simp; done) | exact ft_yes (by assumption) (by simp_all; done) | exact ft_no (by assumption) (by simp_all; done))
                replace S := S.front2
                replace S := S.re1 (l' := ((setI (l0 ++ l1)).take (k + 1)).filter (fun z => decide (z ∈ l0) && !decide (z ∈ l1))) (by first | (simp; done) | exact ft_yes (by assumption) (by simp_all; done) | exact ft_no (by assumption) (by simp_all; done))
                replace S := S.front2
                replace S := S.re1 (l' := ((setI (l0 ++ l1)).take (k + 1)).filter (fun z => decide (z ∈ l0) && decide (z ∈ l1))) (by first | (simp; done) | exact ft_yes (by assumption) (by simp_all; done) | exact ft_no (by assumption) (by simp_all; done))
                exact ⟨k + 1, ⟨M_35, _, _, _, (hM_25.trans (hM_29.trans (hM_31.trans hM_35))), S, E.keep ⟨rfl, rfl, rfl, rfl, rfl, rfl, rfl, rfl, rfl, trivial⟩, by ((try clear S); (try clear E); first | assumption | omega | rfl | (simp; done) | (simp_all; done) | (simp [List.take_add_one, *]; done) | grind [List.take_add_one])⟩, by omega⟩
              · replace hc_36 := of_decide_eq_false hc_36
                refine WP_region ?_
                refine S_v E rfl (R_move E rfl) rfl ?_
                clear E a; intro a E
                refine S_v E rfl (R_move E rfl) rfl ?_
                clear E a; intro a E
                refine S_x (X_buildI (ys := [x_27]) E S rfl T22 rfl rfl rfl ?_)
                clear E a S; rintro a w v_39 E S
                replace S := S.front3
                replace S := S.front1
                refine S_x (X_appendB (xs := ((setI (l0 ++ l1)).take k).filter (fun z => !decide (z ∈ l0))) (ys := [x_27]) E S rfl rfl rfl T22 (by (simp only [List.length_cons, List.length_nil]; omega)) ?_)
                clear E a S; rintro a w v_40 E S
                refine S_v E rfl (R_assign E rfl) rfl ?_
                clear E a; intro a E
                refine WL_nil ?_
                refine B_n ?_
                refine B_n ?_
                refine T_n ?_
                refine WP_region ?_
                refine S_v E rfl (R_addx (m := ((k + 1 : Nat) : Int)) E rfl rfl (by omega) (by omega)) rfl ?_
                clear E a; intro a E
                refine S_v E rfl (R_move E rfl) rfl ?_
                clear E a; intro a E
                refine WL_nil ?_
                refine T_n ?_
                replace S := S.front2
                replace S := S.front2
                replace S := S.front2
                replace S := S.re1 (l' := ((setI (l0 ++ l1)).take (k + 1)).filter (fun z => !decide (z ∈ l0))) (by first | (simp; done) | exact ft_yes (by assumption) (by simp_all; done) | exact ft_no (by assumption) (by simp_all; done))
                replace S := S.front2
                replace S := S.re1 (l' := ((setI (l0 ++ l1)).take (k + 1)).filter (fun z => decide (z ∈ l0) && !decide (z ∈ l1))) (by first | (simp; done) | exact ft_yes (by assumption) (by simp_all; done) | exact ft_no (by assumption) (by simp_all; done))
                replace S := S.front2
                replace S := S.re1 (l' := ((setI (l0 ++ l1)).take (k + 1)).filter (fun z => decide (z ∈ l0) && decide (z ∈ l1))) (by first | (simp; done) | exact ft_yes (by assumption) (by simp_all; done) | exact ft_no (by assumption) (by simp_all; done))
                exact ⟨k + 1, ⟨M_35, _, _, _, (hM_25.trans (hM_29.trans (hM_31.trans hM_35))), S, E.keep ⟨rfl, rfl, rfl, rfl, rfl, rfl, rfl, rfl, rfl, trivial⟩, by ((try clear S); (try clear E); first | assumption | omega | rfl | (simp; done) | (simp_all; done) | (simp [List.take_add_one, *]; done) | grind [List.take_add_one])⟩, by omega⟩
          · replace E := E.val (t := 52) rfl hc_30
            replace E := E.val (t := 53) rfl hc_30
            replace hc_30 := of_decide_eq_false hc_30
            refine WL_guard_no E rfl rfl rfl rfl fun a E => ?_
            refine WL_guard_no E rfl rfl rfl rfl fun a E => ?_
            refine WL_guard_no E rfl rfl rfl rfl fun a E => ?_
            refine S_v E rfl (R_pickF E rfl rfl) rfl ?_
            clear E a; intro a E
            refine S_v E rfl (R_assign E rfl) rfl ?_
            clear E a; intro a E
            refine WL_nil ?_
            refine T_n ?_
            refine WP_condF E rfl rfl ?_
            refine WP_seq ?_
            refine WP_region ?_
            refine S_v E rfl (R_move E rfl) rfl ?_
            clear E a; intro a E
            refine S_v E rfl (R_move E rfl) rfl ?_
            clear E a; intro a E
            refine S_x (X_pu E S rfl rfl rfl (laws_in h0) (Hp.le.refl _) ?_)
            clear E a S; rintro a _ w M_41 hM_41 rfl S E
            replace h0 := h0.le hM_41
            replace h1 := h1.le hM_41
            replace hz_6 := hz_6.le hM_41
            replace hz_8 := hz_8.le hM_41
            replace hv_10 := hv_10.le hM_41
            replace hv_12 := hv_12.le hM_41
            replace hv_16 := hv_16.le hM_41
            replace hv_19 := hv_19.le hM_41
            replace hv_21 := hv_21.le hM_41
            refine S_v E rfl (R_assign E rfl) rfl ?_
            clear E a; intro a E
            refine WL_nil ?_
            refine T_n ?_
            refine WP_cond E rfl (fun hc_42 => ?_) (fun hc_42 => ?_)
            · replace hc_42 := of_decide_eq_true hc_42
              refine WP_region ?_
              refine S_v E rfl (R_move E rfl) rfl ?_
              clear E a; intro a E
              refine S_v E rfl (R_move E rfl) rfl ?_
              clear E a; intro a E
              refine S_x (X_buildI (ys := [x_27]) E S rfl T22 rfl rfl rfl ?_)
              clear E a S; rintro a w v_43 E S
              replace S := S.front2
              replace S := S.front1
              refine S_x (X_appendB (xs := ((setI (l0 ++ l1)).take k).filter (fun z => decide (z ∈ l0) && !decide (z ∈ l1))) (ys := [x_27]) E S rfl rfl rfl T22 (by (simp only [List.length_cons, List.length_nil]; omega)) ?_)
              clear E a S; rintro a w v_44 E S
              refine S_v E rfl (R_assign E rfl) rfl ?_
              clear E a; intro a E
              refine WL_nil ?_
              refine B_n ?_
              refine B_n ?_
              refine T_n ?_
              refine WP_region ?_
              refine S_v E rfl (R_addx (m := ((k + 1 : Nat) : Int)) E rfl rfl (by omega) (by omega)) rfl ?_
              clear E a; intro a E
              refine S_v E rfl (R_move E rfl) rfl ?_
              clear E a; intro a E
              refine WL_nil ?_
              refine T_n ?_
              replace S := S.front2
              replace S := S.front1
              replace S := S.front2
              replace S := S.front2
              replace S := S.re1 (l' := ((setI (l0 ++ l1)).take (k + 1)).filter (fun z => !decide (z ∈ l0))) (by first | (simp; done) | exact ft_yes (by assumption) (by simp_all; done) | exact ft_no (by assumption) (by simp_all; done))
              replace S := S.front2
              replace S := S.re1 (l' := ((setI (l0 ++ l1)).take (k + 1)).filter (fun z => decide (z ∈ l0) && !decide (z ∈ l1))) (by first | (simp; done) | exact ft_yes (by assumption) (by simp_all; done) | exact ft_no (by assumption) (by simp_all; done))
              replace S := S.front2
              replace S := S.re1 (l' := ((setI (l0 ++ l1)).take (k + 1)).filter (fun z => decide (z ∈ l0) && decide (z ∈ l1))) (by first | (simp; done) | exact ft_yes (by assumption) (by simp_all; done) | exact ft_no (by assumption) (by simp_all; done))
              exact ⟨k + 1, ⟨M_41, _, _, _, (hM_25.trans (hM_29.trans hM_41)), S, E.keep ⟨rfl, rfl, rfl, rfl, rfl, rfl, rfl, rfl, rfl, trivial⟩, by ((try clear S); (try clear E); first | assumption | omega | rfl | (simp; done) | (simp_all; done) | (simp [List.take_add_one, *]; done) | grind [List.take_add_one])⟩, by omega⟩
            · replace hc_42 := of_decide_eq_false hc_42
              refine WP_region ?_
              refine S_v E rfl (R_move E rfl) rfl ?_
              clear E a; intro a E
              refine S_v E rfl (R_move E rfl) rfl ?_
              clear E a; intro a E
              refine S_x (X_buildI (ys := [x_27]) E S rfl T22 rfl rfl rfl ?_)
              clear E a S; rintro a w v_45 E S
              replace S := S.front3
              replace S := S.front1
              refine S_x (X_appendB (xs := ((setI (l0 ++ l1)).take k).filter (fun z => !decide (z ∈ l0))) (ys := [x_27]) E S rfl rfl rfl T22 (by (simp only [List.length_cons, List.length_nil]; omega)) ?_)
              clear E a S; rintro a w v_46 E S
              refine S_v E rfl (R_assign E rfl) rfl ?_
              clear E a; intro a E
              refine WL_nil ?_
              refine B_n ?_
              refine B_n ?_
              refine T_n ?_
              refine WP_region ?_
              refine S_v E rfl (R_addx (m := ((k + 1 : Nat) : Int)) E rfl rfl (by omega) (by omega)) rfl ?_
              clear E a; intro a E
              refine S_v E rfl (R_move E rfl) rfl ?_
              clear E a; intro a E
              refine WL_nil ?_
              refine T_n ?_
              replace S := S.front2
              replace S := S.front2
              replace S := S.front2
              replace S := S.re1 (l' := ((setI (l0 ++ l1)).take (k + 1)).filter (fun z => !decide (z ∈ l0))) (by first | (simp; done) | exact ft_yes (by assumption) (by simp_all; done) | exact ft_no (by assumption) (by simp_all; done))
              replace S := S.front2
              replace S := S.re1 (l' := ((setI (l0 ++ l1)).take (k + 1)).filter (fun z => decide (z ∈ l0) && !decide (z ∈ l1))) (by first | (simp; done) | exact ft_yes (by assumption) (by simp_all; done) | exact ft_no (by assumption) (by simp_all; done))
              replace S := S.front2
              replace S := S.re1 (l' := ((setI (l0 ++ l1)).take (k + 1)).filter (fun z => decide (z ∈ l0) && decide (z ∈ l1))) (by first | (simp; done) | exact ft_yes (by assumption) (by simp_all; done) | exact ft_no (by assumption) (by simp_all; done))
              exact ⟨k + 1, ⟨M_41, _, _, _, (hM_25.trans (hM_29.trans hM_41)), S, E.keep ⟨rfl, rfl, rfl, rfl, rfl, rfl, rfl, rfl, rfl, trivial⟩, by ((try clear S); (try clear E); first | assumption | omega | rfl | (simp; done) | (simp_all; done) | (simp [List.take_add_one, *]; done) | grind [List.take_add_one])⟩, by omega⟩
        · replace hc_26 := of_decide_eq_false hc_26
          refine WP_exit ?_
          refine T_x ?_
          refine T_x ?_
          refine B_x ?_
          refine T_n ?_
          refine WP_seq ?_
          refine WP_region ?_
          refine S_v E rfl (R_move E rfl) rfl ?_
          clear E a; intro a E
          refine S_v E rfl (R_move E rfl) rfl ?_
          clear E a; intro a E
          refine S_x (X_pu E S rfl rfl rfl (impl_Difference h0 h1 (by (first | omega | (simp; omega) | (simp; done) | (simp_all; omega) | grind)) (by (first | omega | (simp; omega) | (simp; done) | (simp_all; omega) | grind))) (Hp.le.refl _) ?_)
          clear E a S; rintro a _ w M_47 hM_47 ⟨v_48, v_49, rfl, hv_48, hv_49⟩ S E
          replace h0 := h0.le hM_47
          replace h1 := h1.le hM_47
          replace hz_6 := hz_6.le hM_47
          replace hz_8 := hz_8.le hM_47
          replace hv_10 := hv_10.le hM_47
          replace hv_12 := hv_12.le hM_47
          replace hv_16 := hv_16.le hM_47
          replace hv_19 := hv_19.le hM_47
          replace hv_21 := hv_21.le hM_47
          refine S_v E rfl (R_move E rfl) rfl ?_
          clear E a; intro a E
          refine S_v E rfl (R_extract E rfl rfl) rfl ?_
          clear E a; intro a E
          refine S_v E rfl (R_extract E rfl rfl) rfl ?_
          clear E a; intro a E
          refine S_v E rfl (R_assign E rfl) rfl ?_
          clear E a; intro a E
          refine S_v E rfl (R_assign E rfl) rfl ?_
          clear E a; intro a E
          refine WL_nil ?_
          refine T_n ?_
          refine WP_seq ?_
          refine WP_seq ?_
          refine WP_region ?_
          refine S_v E rfl (R_move E rfl) rfl ?_
          clear E a; intro a E
          refine S_x (X_pu E S rfl rfl rfl (impl_Union hv_16 (by first | assumption | omega | decide | (simp [total]; omega) | (simp [total]; done))) (Hp.le.refl _) ?_)
          clear E a S; rintro a v_51 w M_50 hM_50 hv_51 S E
          replace h0 := h0.le hM_50
          replace h1 := h1.le hM_50
          replace hz_6 := hz_6.le hM_50
          replace hz_8 := hz_8.le hM_50
          replace hv_10 := hv_10.le hM_50
          replace hv_12 := hv_12.le hM_50
          replace hv_16 := hv_16.le hM_50
          replace hv_19 := hv_19.le hM_50
          replace hv_21 := hv_21.le hM_50
          replace hv_48 := hv_48.le hM_50
          replace hv_49 := hv_49.le hM_50
          refine S_x (X_pu E S rfl rfl rfl (laws_sorted hv_51 (by (first | omega | (simp; omega) | (simp; done) | (simp_all; omega) | grind))) (Hp.le.refl _) ?_)
          clear E a S; rintro a v_53 w M_52 hM_52 hv_53 S E
          replace h0 := h0.le hM_52
          replace h1 := h1.le hM_52
          replace hz_6 := hz_6.le hM_52
          replace hz_8 := hz_8.le hM_52
          replace hv_10 := hv_10.le hM_52
          replace hv_12 := hv_12.le hM_52
          replace hv_16 := hv_16.le hM_52
          replace hv_19 := hv_19.le hM_52
          replace hv_21 := hv_21.le hM_52
          replace hv_48 := hv_48.le hM_52
          replace hv_49 := hv_49.le hM_52
          replace hv_51 := hv_51.le hM_52
          refine S_v E rfl (R_move E rfl) rfl ?_
          clear E a; intro a E
          refine S_v E rfl (R_move E rfl) rfl ?_
          clear E a; intro a E
          refine S_x (X_pu E S rfl rfl rfl (laws_both h0 h1 (by first | omega | (simp; omega) | (simp_all; omega))) (Hp.le.refl _) ?_)
          clear E a S; rintro a v_55 w M_54 hM_54 hv_55 S E
          replace h0 := h0.le hM_54
          replace h1 := h1.le hM_54
          replace hz_6 := hz_6.le hM_54
          replace hz_8 := hz_8.le hM_54
          replace hv_10 := hv_10.le hM_54
          replace hv_12 := hv_12.le hM_54
          replace hv_16 := hv_16.le hM_54
          replace hv_19 := hv_19.le hM_54
          replace hv_21 := hv_21.le hM_54
          replace hv_48 := hv_48.le hM_54
          replace hv_49 := hv_49.le hM_54
          replace hv_51 := hv_51.le hM_54
          replace hv_53 := hv_53.le hM_54
          refine S_x (X_pu E S rfl rfl rfl (laws_sorted hv_55 (by (first | omega | (simp; omega) | (simp; done) | (simp_all; omega) | grind))) (Hp.le.refl _) ?_)
          clear E a S; rintro a v_57 w M_56 hM_56 hv_57 S E
          replace h0 := h0.le hM_56
          replace h1 := h1.le hM_56
          replace hz_6 := hz_6.le hM_56
          replace hz_8 := hz_8.le hM_56
          replace hv_10 := hv_10.le hM_56
          replace hv_12 := hv_12.le hM_56
          replace hv_16 := hv_16.le hM_56
          replace hv_19 := hv_19.le hM_56
          replace hv_21 := hv_21.le hM_56
          replace hv_48 := hv_48.le hM_56
          replace hv_49 := hv_49.le hM_56
          replace hv_51 := hv_51.le hM_56
          replace hv_53 := hv_53.le hM_56
          replace hv_55 := hv_55.le hM_56
          refine S_x (X_pu E S rfl rfl rfl (laws_eq hv_53 hv_57) (Hp.le.refl _) ?_)
          clear E a S; rintro a _ w M_58 hM_58 rfl S E
          replace h0 := h0.le hM_58
          replace h1 := h1.le hM_58
          replace hz_6 := hz_6.le hM_58
          replace hz_8 := hz_8.le hM_58
          replace hv_10 := hv_10.le hM_58
          replace hv_12 := hv_12.le hM_58
          replace hv_16 := hv_16.le hM_58
          replace hv_19 := hv_19.le hM_58
          replace hv_21 := hv_21.le hM_58
          replace hv_48 := hv_48.le hM_58
          replace hv_49 := hv_49.le hM_58
          replace hv_51 := hv_51.le hM_58
          replace hv_53 := hv_53.le hM_58
          replace hv_55 := hv_55.le hM_58
          replace hv_57 := hv_57.le hM_58
          refine S_v E rfl (R_not E rfl) rfl ?_
          clear E a; intro a E
          refine S_v E rfl (R_move E rfl) rfl ?_
          clear E a; intro a E
          have hc_59 : (!(decide (setI (keyL ([l0, l1]).flatten) = setI (l0 ++ l1)))) = false := by (clear S E; first | (simp [suL_card]; decide) | (simp only [Bool.not_eq_false', decide_eq_true_eq]; first | exact suL_set _ | (refine setI_eq fun z => ?_; simp [mem_keyL]; done) | (skip; (try rw [suL_set]); first | (refine setI_eq fun z => ?_; (simp only [mem_meet2, mem_keyL, List.flatten_cons, List.flatten_nil, List.append_nil, List.mem_append, List.mem_filter, decide_eq_true_eq, Bool.and_eq_true, Bool.not_eq_true', decide_eq_false_iff_not]; by_cases h1 : z ∈ l0 <;> by_cases h2 : z ∈ l1 <;> simp [h1, h2]; done)) | (refine road (by omega) fun z => ?_; (simp only [mem_meet2, mem_keyL, List.flatten_cons, List.flatten_nil, List.append_nil, List.mem_append, List.mem_filter, decide_eq_true_eq, Bool.and_eq_true, Bool.not_eq_true', decide_eq_false_iff_not]; by_cases h1 : z ∈ l0 <;> by_cases h2 : z ∈ l1 <;> simp [h1, h2]; done)) | (refine road2 (by omega) fun z => ?_; (simp only [mem_meet2, mem_keyL, List.flatten_cons, List.flatten_nil, List.append_nil, List.mem_append, List.mem_filter, decide_eq_true_eq, Bool.and_eq_true, Bool.not_eq_true', decide_eq_false_iff_not]; by_cases h1 : z ∈ l0 <;> by_cases h2 : z ∈ l1 <;> simp [h1, h2]; done)))))
          replace E := E.val (t := 85) rfl hc_59
          replace E := E.val (t := 86) rfl hc_59
          refine WL_guard_yes E rfl rfl ?_
          refine S_v E rfl (R_move E rfl) rfl ?_
          clear E a; intro a E
          refine WL_guard_yes E rfl rfl ?_
          refine S_x (X_pu E S rfl rfl rfl (impl_Intersect hv_16 (by first | assumption | omega | (intro x hx; simp only [List.mem_cons, List.not_mem_nil, or_false] at hx; rcases hx with rfl | rfl <;> omega) | (intro x hx; simp only [List.mem_cons, List.not_mem_nil, or_false] at hx; rcases hx with rfl | rfl <;> simp; done))) (Hp.le.refl _) ?_)
          clear E a S; rintro a v_61 w M_60 hM_60 hv_61 S E
          replace h0 := h0.le hM_60
          replace h1 := h1.le hM_60
          replace hz_6 := hz_6.le hM_60
          replace hz_8 := hz_8.le hM_60
          replace hv_10 := hv_10.le hM_60
          replace hv_12 := hv_12.le hM_60
          replace hv_16 := hv_16.le hM_60
          replace hv_19 := hv_19.le hM_60
          replace hv_21 := hv_21.le hM_60
          replace hv_48 := hv_48.le hM_60
          replace hv_49 := hv_49.le hM_60
          replace hv_51 := hv_51.le hM_60
          replace hv_53 := hv_53.le hM_60
          replace hv_55 := hv_55.le hM_60
          replace hv_57 := hv_57.le hM_60
          refine WL_guard_yes E rfl rfl ?_
          refine S_x (X_pu E S rfl rfl rfl (laws_sorted hv_61 (by (first | omega | (simp; omega) | (simp; done) | (simp_all; omega) | grind))) (Hp.le.refl _) ?_)
          clear E a S; rintro a v_63 w M_62 hM_62 hv_63 S E
          replace h0 := h0.le hM_62
          replace h1 := h1.le hM_62
          replace hz_6 := hz_6.le hM_62
          replace hz_8 := hz_8.le hM_62
          replace hv_10 := hv_10.le hM_62
          replace hv_12 := hv_12.le hM_62
          replace hv_16 := hv_16.le hM_62
          replace hv_19 := hv_19.le hM_62
          replace hv_21 := hv_21.le hM_62
          replace hv_48 := hv_48.le hM_62
          replace hv_49 := hv_49.le hM_62
          replace hv_51 := hv_51.le hM_62
          replace hv_53 := hv_53.le hM_62
          replace hv_55 := hv_55.le hM_62
          replace hv_57 := hv_57.le hM_62
          replace hv_61 := hv_61.le hM_62
          refine WL_guard_yes E rfl rfl ?_
          refine S_v E rfl (R_move E rfl) rfl ?_
          clear E a; intro a E
          have S0 := S; clear S
          obtain ⟨M_64, hM_64, hz_65, S⟩ := S0.freezeI (by (first | omega | (simp; done) | (simp only [List.length_append]; omega)))
          clear S0
          replace h0 := h0.le hM_64
          replace h1 := h1.le hM_64
          replace hz_6 := hz_6.le hM_64
          replace hz_8 := hz_8.le hM_64
          replace hv_10 := hv_10.le hM_64
          replace hv_12 := hv_12.le hM_64
          replace hv_16 := hv_16.le hM_64
          replace hv_19 := hv_19.le hM_64
          replace hv_21 := hv_21.le hM_64
          replace hv_48 := hv_48.le hM_64
          replace hv_49 := hv_49.le hM_64
          replace hv_51 := hv_51.le hM_64
          replace hv_53 := hv_53.le hM_64
          replace hv_55 := hv_55.le hM_64
          replace hv_57 := hv_57.le hM_64
          replace hv_61 := hv_61.le hM_64
          replace hv_63 := hv_63.le hM_64
          refine WL_guard_yes E rfl rfl ?_
          refine S_x (X_pu E S rfl rfl rfl (laws_eq hv_63 hz_65) (Hp.le.refl _) ?_)
          clear E a S; rintro a _ w M_66 hM_66 rfl S E
          replace h0 := h0.le hM_66
          replace h1 := h1.le hM_66
          replace hz_6 := hz_6.le hM_66
          replace hz_8 := hz_8.le hM_66
          replace hv_10 := hv_10.le hM_66
          replace hv_12 := hv_12.le hM_66
          replace hv_16 := hv_16.le hM_66
          replace hv_19 := hv_19.le hM_66
          replace hv_21 := hv_21.le hM_66
          replace hv_48 := hv_48.le hM_66
          replace hv_49 := hv_49.le hM_66
          replace hv_51 := hv_51.le hM_66
          replace hv_53 := hv_53.le hM_66
          replace hv_55 := hv_55.le hM_66
          replace hv_57 := hv_57.le hM_66
          replace hv_61 := hv_61.le hM_66
          replace hv_63 := hv_63.le hM_66
          replace hz_65 := hz_65.le hM_66
          refine WL_guard_yes E rfl rfl ?_
          refine S_v E rfl (R_not E rfl) rfl ?_
          clear E a; intro a E
          refine S_v E rfl (R_pickF E rfl rfl) rfl ?_
          clear E a; intro a E
          refine S_v E rfl (R_move E rfl) rfl ?_
          clear E a; intro a E
          have hc_67 : (!(decide (setI (meetF (fun x => x) [l0, l1]) = ((setI (l0 ++ l1)).take k).filter (fun z => decide (z ∈ l0) && decide (z ∈ l1))))) = false := by (clear S E; first | (simp [suL_card]; decide) | (simp only [Bool.not_eq_false', decide_eq_true_eq]; first | exact suL_set _ | (refine setI_eq fun z => ?_; simp [mem_keyL]; done) | (skip; (try rw [suL_set]); first | (refine setI_eq fun z => ?_; (simp only [mem_meet2, mem_keyL, List.flatten_cons, List.flatten_nil, List.append_nil, List.mem_append, List.mem_filter, decide_eq_true_eq, Bool.and_eq_true, Bool.not_eq_true', decide_eq_false_iff_not]; by_cases h1 : z ∈ l0 <;> by_cases h2 : z ∈ l1 <;> simp [h1, h2]; done)) | (refine road (by omega) fun z => ?_; (simp only [mem_meet2, mem_keyL, List.flatten_cons, List.flatten_nil, List.append_nil, List.mem_append, List.mem_filter, decide_eq_true_eq, Bool.and_eq_true, Bool.not_eq_true', decide_eq_false_iff_not]; by_cases h1 : z ∈ l0 <;> by_cases h2 : z ∈ l1 <;> simp [h1, h2]; done)) | (refine road2 (by omega) fun z => ?_; (simp only [mem_meet2, mem_keyL, List.flatten_cons, List.flatten_nil, List.append_nil, List.mem_append, List.mem_filter, decide_eq_true_eq, Bool.and_eq_true, Bool.not_eq_true', decide_eq_false_iff_not]; by_cases h1 : z ∈ l0 <;> by_cases h2 : z ∈ l1 <;> simp [h1, h2]; done)))))
          replace E := E.val (t := 92) rfl hc_67
          replace E := E.val (t := 93) rfl hc_67
          replace E := E.val (t := 94) rfl hc_67
          refine WL_guard_yes E rfl rfl ?_
          refine S_v E rfl (R_move E rfl) rfl ?_
          clear E a; intro a E
          refine WL_guard_yes E rfl rfl ?_
          refine S_x (X_pu E S rfl rfl rfl (laws_sorted hv_48 (by (first | omega | (simp; omega) | (simp; done) | (simp_all; omega) | grind))) (Hp.le.refl _) ?_)
          clear E a S; rintro a v_69 w M_68 hM_68 hv_69 S E
          replace h0 := h0.le hM_68
          replace h1 := h1.le hM_68
          replace hz_6 := hz_6.le hM_68
          replace hz_8 := hz_8.le hM_68
          replace hv_10 := hv_10.le hM_68
          replace hv_12 := hv_12.le hM_68
          replace hv_16 := hv_16.le hM_68
          replace hv_19 := hv_19.le hM_68
          replace hv_21 := hv_21.le hM_68
          replace hv_48 := hv_48.le hM_68
          replace hv_49 := hv_49.le hM_68
          replace hv_51 := hv_51.le hM_68
          replace hv_53 := hv_53.le hM_68
          replace hv_55 := hv_55.le hM_68
          replace hv_57 := hv_57.le hM_68
          replace hv_61 := hv_61.le hM_68
          replace hv_63 := hv_63.le hM_68
          replace hz_65 := hz_65.le hM_68
          refine WL_guard_yes E rfl rfl ?_
          refine S_v E rfl (R_move E rfl) rfl ?_
          clear E a; intro a E
          have S0 := S; clear S
          obtain ⟨M_70, hM_70, hz_71, S⟩ := S0.freezeI (by (first | omega | (simp; done) | (simp only [List.length_append]; omega)))
          clear S0
          replace h0 := h0.le hM_70
          replace h1 := h1.le hM_70
          replace hz_6 := hz_6.le hM_70
          replace hz_8 := hz_8.le hM_70
          replace hv_10 := hv_10.le hM_70
          replace hv_12 := hv_12.le hM_70
          replace hv_16 := hv_16.le hM_70
          replace hv_19 := hv_19.le hM_70
          replace hv_21 := hv_21.le hM_70
          replace hv_48 := hv_48.le hM_70
          replace hv_49 := hv_49.le hM_70
          replace hv_51 := hv_51.le hM_70
          replace hv_53 := hv_53.le hM_70
          replace hv_55 := hv_55.le hM_70
          replace hv_57 := hv_57.le hM_70
          replace hv_61 := hv_61.le hM_70
          replace hv_63 := hv_63.le hM_70
          replace hz_65 := hz_65.le hM_70
          replace hv_69 := hv_69.le hM_70
          refine WL_guard_yes E rfl rfl ?_
          refine S_x (X_pu E S rfl rfl rfl (laws_eq hv_69 hz_71) (Hp.le.refl _) ?_)
          clear E a S; rintro a _ w M_72 hM_72 rfl S E
          replace h0 := h0.le hM_72
          replace h1 := h1.le hM_72
          replace hz_6 := hz_6.le hM_72
          replace hz_8 := hz_8.le hM_72
          replace hv_10 := hv_10.le hM_72
          replace hv_12 := hv_12.le hM_72
          replace hv_16 := hv_16.le hM_72
          replace hv_19 := hv_19.le hM_72
          replace hv_21 := hv_21.le hM_72
          replace hv_48 := hv_48.le hM_72
          replace hv_49 := hv_49.le hM_72
          replace hv_51 := hv_51.le hM_72
          replace hv_53 := hv_53.le hM_72
          replace hv_55 := hv_55.le hM_72
          replace hv_57 := hv_57.le hM_72
          replace hv_61 := hv_61.le hM_72
          replace hv_63 := hv_63.le hM_72
          replace hz_65 := hz_65.le hM_72
          replace hv_69 := hv_69.le hM_72
          replace hz_71 := hz_71.le hM_72
          refine WL_guard_yes E rfl rfl ?_
          refine S_v E rfl (R_not E rfl) rfl ?_
          clear E a; intro a E
          refine S_v E rfl (R_pickF E rfl rfl) rfl ?_
          clear E a; intro a E
          refine S_v E rfl (R_move E rfl) rfl ?_
          clear E a; intro a E
          have hc_73 : (!(decide (setI ((l0).filter (fun x => !decide (x ∈ l1))) = ((setI (l0 ++ l1)).take k).filter (fun z => decide (z ∈ l0) && !decide (z ∈ l1))))) = false := by (clear S E; first | (simp [suL_card]; decide) | (simp only [Bool.not_eq_false', decide_eq_true_eq]; first | exact suL_set _ | (refine setI_eq fun z => ?_; simp [mem_keyL]; done) | (skip; (try rw [suL_set]); first | (refine setI_eq fun z => ?_; (simp only [mem_meet2, mem_keyL, List.flatten_cons, List.flatten_nil, List.append_nil, List.mem_append, List.mem_filter, decide_eq_true_eq, Bool.and_eq_true, Bool.not_eq_true', decide_eq_false_iff_not]; by_cases h1 : z ∈ l0 <;> by_cases h2 : z ∈ l1 <;> simp [h1, h2]; done)) | (refine road (by omega) fun z => ?_; (simp only [mem_meet2, mem_keyL, List.flatten_cons, List.flatten_nil, List.append_nil, List.mem_append, List.mem_filter, decide_eq_true_eq, Bool.and_eq_true, Bool.not_eq_true', decide_eq_false_iff_not]; by_cases h1 : z ∈ l0 <;> by_cases h2 : z ∈ l1 <;> simp [h1, h2]; done)) | (refine road2 (by omega) fun z => ?_; (simp only [mem_meet2, mem_keyL, List.flatten_cons, List.flatten_nil, List.append_nil, List.mem_append, List.mem_filter, decide_eq_true_eq, Bool.and_eq_true, Bool.not_eq_true', decide_eq_false_iff_not]; by_cases h1 : z ∈ l0 <;> by_cases h2 : z ∈ l1 <;> simp [h1, h2]; done)))))
          replace E := E.val (t := 99) rfl hc_73
          replace E := E.val (t := 100) rfl hc_73
          replace E := E.val (t := 101) rfl hc_73
          refine WL_guard_yes E rfl rfl ?_
          refine S_v E rfl (R_move E rfl) rfl ?_
          clear E a; intro a E
          refine WL_guard_yes E rfl rfl ?_
          refine S_x (X_pu E S rfl rfl rfl (laws_sorted hv_49 (by (first | omega | (simp; omega) | (simp; done) | (simp_all; omega) | grind))) (Hp.le.refl _) ?_)
          clear E a S; rintro a v_75 w M_74 hM_74 hv_75 S E
          replace h0 := h0.le hM_74
          replace h1 := h1.le hM_74
          replace hz_6 := hz_6.le hM_74
          replace hz_8 := hz_8.le hM_74
          replace hv_10 := hv_10.le hM_74
          replace hv_12 := hv_12.le hM_74
          replace hv_16 := hv_16.le hM_74
          replace hv_19 := hv_19.le hM_74
          replace hv_21 := hv_21.le hM_74
          replace hv_48 := hv_48.le hM_74
          replace hv_49 := hv_49.le hM_74
          replace hv_51 := hv_51.le hM_74
          replace hv_53 := hv_53.le hM_74
          replace hv_55 := hv_55.le hM_74
          replace hv_57 := hv_57.le hM_74
          replace hv_61 := hv_61.le hM_74
          replace hv_63 := hv_63.le hM_74
          replace hz_65 := hz_65.le hM_74
          replace hv_69 := hv_69.le hM_74
          replace hz_71 := hz_71.le hM_74
          refine WL_guard_yes E rfl rfl ?_
          refine S_v E rfl (R_move E rfl) rfl ?_
          clear E a; intro a E
          have S0 := S; clear S
          obtain ⟨M_76, hM_76, hz_77, S⟩ := S0.freezeI (by (first | omega | (simp; done) | (simp only [List.length_append]; omega)))
          clear S0
          replace h0 := h0.le hM_76
          replace h1 := h1.le hM_76
          replace hz_6 := hz_6.le hM_76
          replace hz_8 := hz_8.le hM_76
          replace hv_10 := hv_10.le hM_76
          replace hv_12 := hv_12.le hM_76
          replace hv_16 := hv_16.le hM_76
          replace hv_19 := hv_19.le hM_76
          replace hv_21 := hv_21.le hM_76
          replace hv_48 := hv_48.le hM_76
          replace hv_49 := hv_49.le hM_76
          replace hv_51 := hv_51.le hM_76
          replace hv_53 := hv_53.le hM_76
          replace hv_55 := hv_55.le hM_76
          replace hv_57 := hv_57.le hM_76
          replace hv_61 := hv_61.le hM_76
          replace hv_63 := hv_63.le hM_76
          replace hz_65 := hz_65.le hM_76
          replace hv_69 := hv_69.le hM_76
          replace hz_71 := hz_71.le hM_76
          replace hv_75 := hv_75.le hM_76
          refine WL_guard_yes E rfl rfl ?_
          refine S_x (X_pu E S rfl rfl rfl (laws_eq hv_75 hz_77) (Hp.le.refl _) ?_)
          clear E a S; rintro a _ w M_78 hM_78 rfl S E
          replace h0 := h0.le hM_78
          replace h1 := h1.le hM_78
          replace hz_6 := hz_6.le hM_78
          replace hz_8 := hz_8.le hM_78
          replace hv_10 := hv_10.le hM_78
          replace hv_12 := hv_12.le hM_78
          replace hv_16 := hv_16.le hM_78
          replace hv_19 := hv_19.le hM_78
          replace hv_21 := hv_21.le hM_78
          replace hv_48 := hv_48.le hM_78
          replace hv_49 := hv_49.le hM_78
          replace hv_51 := hv_51.le hM_78
          replace hv_53 := hv_53.le hM_78
          replace hv_55 := hv_55.le hM_78
          replace hv_57 := hv_57.le hM_78
          replace hv_61 := hv_61.le hM_78
          replace hv_63 := hv_63.le hM_78
          replace hz_65 := hz_65.le hM_78
          replace hv_69 := hv_69.le hM_78
          replace hz_71 := hz_71.le hM_78
          replace hv_75 := hv_75.le hM_78
          replace hz_77 := hz_77.le hM_78
          refine WL_guard_yes E rfl rfl ?_
          refine S_v E rfl (R_not E rfl) rfl ?_
          clear E a; intro a E
          refine S_v E rfl (R_pickF E rfl rfl) rfl ?_
          clear E a; intro a E
          refine S_v E rfl (R_move E rfl) rfl ?_
          clear E a; intro a E
          have hc_79 : (!(decide (setI ((l1).filter (fun x => !decide (x ∈ l0))) = ((setI (l0 ++ l1)).take k).filter (fun z => !decide (z ∈ l0))))) = false := by (clear S E; first | (simp [suL_card]; decide) | (simp only [Bool.not_eq_false', decide_eq_true_eq]; first | exact suL_set _ | (refine setI_eq fun z => ?_; simp [mem_keyL]; done) | (skip; (try rw [suL_set]); first | (refine setI_eq fun z => ?_; (simp only [mem_meet2, mem_keyL, List.flatten_cons, List.flatten_nil, List.append_nil, List.mem_append, List.mem_filter, decide_eq_true_eq, Bool.and_eq_true, Bool.not_eq_true', decide_eq_false_iff_not]; by_cases h1 : z ∈ l0 <;> by_cases h2 : z ∈ l1 <;> simp [h1, h2]; done)) | (refine road (by omega) fun z => ?_; (simp only [mem_meet2, mem_keyL, List.flatten_cons, List.flatten_nil, List.append_nil, List.mem_append, List.mem_filter, decide_eq_true_eq, Bool.and_eq_true, Bool.not_eq_true', decide_eq_false_iff_not]; by_cases h1 : z ∈ l0 <;> by_cases h2 : z ∈ l1 <;> simp [h1, h2]; done)) | (refine road2 (by omega) fun z => ?_; (simp only [mem_meet2, mem_keyL, List.flatten_cons, List.flatten_nil, List.append_nil, List.mem_append, List.mem_filter, decide_eq_true_eq, Bool.and_eq_true, Bool.not_eq_true', decide_eq_false_iff_not]; by_cases h1 : z ∈ l0 <;> by_cases h2 : z ∈ l1 <;> simp [h1, h2]; done)))))
          replace E := E.val (t := 106) rfl hc_79
          replace E := E.val (t := 107) rfl hc_79
          replace E := E.val (t := 108) rfl hc_79
          refine WL_guard_yes E rfl rfl ?_
          refine S_v E rfl (R_move E rfl) rfl ?_
          clear E a; intro a E
          refine WL_guard_yes E rfl rfl ?_
          refine S_v E rfl (R_move E rfl) rfl ?_
          clear E a; intro a E
          refine WL_guard_yes E rfl rfl ?_
          refine S_x (X_pu E S rfl rfl rfl (impl_Without h0 h1 (by (first | omega | (simp; omega) | (simp; done) | (simp_all; omega) | grind))) (Hp.le.refl _) ?_)
          clear E a S; rintro a v_81 w M_80 hM_80 hv_81 S E
          replace h0 := h0.le hM_80
          replace h1 := h1.le hM_80
          replace hz_6 := hz_6.le hM_80
          replace hz_8 := hz_8.le hM_80
          replace hv_10 := hv_10.le hM_80
          replace hv_12 := hv_12.le hM_80
          replace hv_16 := hv_16.le hM_80
          replace hv_19 := hv_19.le hM_80
          replace hv_21 := hv_21.le hM_80
          replace hv_48 := hv_48.le hM_80
          replace hv_49 := hv_49.le hM_80
          replace hv_51 := hv_51.le hM_80
          replace hv_53 := hv_53.le hM_80
          replace hv_55 := hv_55.le hM_80
          replace hv_57 := hv_57.le hM_80
          replace hv_61 := hv_61.le hM_80
          replace hv_63 := hv_63.le hM_80
          replace hz_65 := hz_65.le hM_80
          replace hv_69 := hv_69.le hM_80
          replace hz_71 := hz_71.le hM_80
          replace hv_75 := hv_75.le hM_80
          replace hz_77 := hz_77.le hM_80
          refine WL_guard_yes E rfl rfl ?_
          refine S_x (X_pu E S rfl rfl rfl (laws_sorted hv_81 (by (first | omega | (simp; omega) | (simp; done) | (simp_all; omega) | grind))) (Hp.le.refl _) ?_)
          clear E a S; rintro a v_83 w M_82 hM_82 hv_83 S E
          replace h0 := h0.le hM_82
          replace h1 := h1.le hM_82
          replace hz_6 := hz_6.le hM_82
          replace hz_8 := hz_8.le hM_82
          replace hv_10 := hv_10.le hM_82
          replace hv_12 := hv_12.le hM_82
          replace hv_16 := hv_16.le hM_82
          replace hv_19 := hv_19.le hM_82
          replace hv_21 := hv_21.le hM_82
          replace hv_48 := hv_48.le hM_82
          replace hv_49 := hv_49.le hM_82
          replace hv_51 := hv_51.le hM_82
          replace hv_53 := hv_53.le hM_82
          replace hv_55 := hv_55.le hM_82
          replace hv_57 := hv_57.le hM_82
          replace hv_61 := hv_61.le hM_82
          replace hv_63 := hv_63.le hM_82
          replace hz_65 := hz_65.le hM_82
          replace hv_69 := hv_69.le hM_82
          replace hz_71 := hz_71.le hM_82
          replace hv_75 := hv_75.le hM_82
          replace hz_77 := hz_77.le hM_82
          replace hv_81 := hv_81.le hM_82
          refine WL_guard_yes E rfl rfl ?_
          refine S_v E rfl (R_move E rfl) rfl ?_
          clear E a; intro a E
          refine WL_guard_yes E rfl rfl ?_
          refine S_x (X_pu E S rfl rfl rfl (laws_eq hv_83 hz_71) (Hp.le.refl _) ?_)
          clear E a S; rintro a _ w M_84 hM_84 rfl S E
          replace h0 := h0.le hM_84
          replace h1 := h1.le hM_84
          replace hz_6 := hz_6.le hM_84
          replace hz_8 := hz_8.le hM_84
          replace hv_10 := hv_10.le hM_84
          replace hv_12 := hv_12.le hM_84
          replace hv_16 := hv_16.le hM_84
          replace hv_19 := hv_19.le hM_84
          replace hv_21 := hv_21.le hM_84
          replace hv_48 := hv_48.le hM_84
          replace hv_49 := hv_49.le hM_84
          replace hv_51 := hv_51.le hM_84
          replace hv_53 := hv_53.le hM_84
          replace hv_55 := hv_55.le hM_84
          replace hv_57 := hv_57.le hM_84
          replace hv_61 := hv_61.le hM_84
          replace hv_63 := hv_63.le hM_84
          replace hz_65 := hz_65.le hM_84
          replace hv_69 := hv_69.le hM_84
          replace hz_71 := hz_71.le hM_84
          replace hv_75 := hv_75.le hM_84
          replace hz_77 := hz_77.le hM_84
          replace hv_81 := hv_81.le hM_84
          replace hv_83 := hv_83.le hM_84
          refine WL_guard_yes E rfl rfl ?_
          refine S_v E rfl (R_not E rfl) rfl ?_
          clear E a; intro a E
          refine S_v E rfl (R_pickF E rfl rfl) rfl ?_
          clear E a; intro a E
          refine S_v E rfl (R_move E rfl) rfl ?_
          clear E a; intro a E
          have hc_85 : (!(decide (setI ((l0).filter (fun x => !decide (x ∈ l1))) = ((setI (l0 ++ l1)).take k).filter (fun z => decide (z ∈ l0) && !decide (z ∈ l1))))) = false := by (clear S E; first | (simp [suL_card]; decide) | (simp only [Bool.not_eq_false', decide_eq_true_eq]; first | exact suL_set _ | (refine setI_eq fun z => ?_; simp [mem_keyL]; done) | (skip; (try rw [suL_set]); first | (refine setI_eq fun z => ?_; (simp only [mem_meet2, mem_keyL, List.flatten_cons, List.flatten_nil, List.append_nil, List.mem_append, List.mem_filter, decide_eq_true_eq, Bool.and_eq_true, Bool.not_eq_true', decide_eq_false_iff_not]; by_cases h1 : z ∈ l0 <;> by_cases h2 : z ∈ l1 <;> simp [h1, h2]; done)) | (refine road (by omega) fun z => ?_; (simp only [mem_meet2, mem_keyL, List.flatten_cons, List.flatten_nil, List.append_nil, List.mem_append, List.mem_filter, decide_eq_true_eq, Bool.and_eq_true, Bool.not_eq_true', decide_eq_false_iff_not]; by_cases h1 : z ∈ l0 <;> by_cases h2 : z ∈ l1 <;> simp [h1, h2]; done)) | (refine road2 (by omega) fun z => ?_; (simp only [mem_meet2, mem_keyL, List.flatten_cons, List.flatten_nil, List.append_nil, List.mem_append, List.mem_filter, decide_eq_true_eq, Bool.and_eq_true, Bool.not_eq_true', decide_eq_false_iff_not]; by_cases h1 : z ∈ l0 <;> by_cases h2 : z ∈ l1 <;> simp [h1, h2]; done)))))
          replace E := E.val (t := 115) rfl hc_85
          replace E := E.val (t := 116) rfl hc_85
          replace E := E.val (t := 117) rfl hc_85
          refine WL_guard_yes E rfl rfl ?_
          refine S_v E rfl (R_move E rfl) rfl ?_
          clear E a; intro a E
          refine WL_guard_yes E rfl rfl ?_
          refine S_x (X_pu E S rfl rfl rfl (impl_UnionSeq hv_16 (by first | assumption | omega | decide | (simp [total]; omega) | (simp [total]; done)) (by first | assumption | omega | (simp; done) | (simp; omega))) (Hp.le.refl _) ?_)
          clear E a S; rintro a v_87 w M_86 hM_86 hv_87 S E
          replace h0 := h0.le hM_86
          replace h1 := h1.le hM_86
          replace hz_6 := hz_6.le hM_86
          replace hz_8 := hz_8.le hM_86
          replace hv_10 := hv_10.le hM_86
          replace hv_12 := hv_12.le hM_86
          replace hv_16 := hv_16.le hM_86
          replace hv_19 := hv_19.le hM_86
          replace hv_21 := hv_21.le hM_86
          replace hv_48 := hv_48.le hM_86
          replace hv_49 := hv_49.le hM_86
          replace hv_51 := hv_51.le hM_86
          replace hv_53 := hv_53.le hM_86
          replace hv_55 := hv_55.le hM_86
          replace hv_57 := hv_57.le hM_86
          replace hv_61 := hv_61.le hM_86
          replace hv_63 := hv_63.le hM_86
          replace hz_65 := hz_65.le hM_86
          replace hv_69 := hv_69.le hM_86
          replace hz_71 := hz_71.le hM_86
          replace hv_75 := hv_75.le hM_86
          replace hz_77 := hz_77.le hM_86
          replace hv_81 := hv_81.le hM_86
          replace hv_83 := hv_83.le hM_86
          refine WL_guard_yes E rfl rfl ?_
          refine S_x (X_pu E S rfl rfl rfl (laws_sorted hv_87 (by (first | omega | (simp; omega) | (simp; done) | (simp_all; omega) | grind))) (Hp.le.refl _) ?_)
          clear E a S; rintro a v_89 w M_88 hM_88 hv_89 S E
          replace h0 := h0.le hM_88
          replace h1 := h1.le hM_88
          replace hz_6 := hz_6.le hM_88
          replace hz_8 := hz_8.le hM_88
          replace hv_10 := hv_10.le hM_88
          replace hv_12 := hv_12.le hM_88
          replace hv_16 := hv_16.le hM_88
          replace hv_19 := hv_19.le hM_88
          replace hv_21 := hv_21.le hM_88
          replace hv_48 := hv_48.le hM_88
          replace hv_49 := hv_49.le hM_88
          replace hv_51 := hv_51.le hM_88
          replace hv_53 := hv_53.le hM_88
          replace hv_55 := hv_55.le hM_88
          replace hv_57 := hv_57.le hM_88
          replace hv_61 := hv_61.le hM_88
          replace hv_63 := hv_63.le hM_88
          replace hz_65 := hz_65.le hM_88
          replace hv_69 := hv_69.le hM_88
          replace hz_71 := hz_71.le hM_88
          replace hv_75 := hv_75.le hM_88
          replace hz_77 := hz_77.le hM_88
          replace hv_81 := hv_81.le hM_88
          replace hv_83 := hv_83.le hM_88
          replace hv_87 := hv_87.le hM_88
          refine WL_guard_yes E rfl rfl ?_
          refine S_v E rfl (R_move E rfl) rfl ?_
          clear E a; intro a E
          refine WL_guard_yes E rfl rfl ?_
          refine S_v E rfl (R_move E rfl) rfl ?_
          clear E a; intro a E
          refine WL_guard_yes E rfl rfl ?_
          refine S_x (X_pu E S rfl rfl rfl (laws_both h0 h1 (by first | omega | (simp; omega) | (simp_all; omega))) (Hp.le.refl _) ?_)
          clear E a S; rintro a v_91 w M_90 hM_90 hv_91 S E
          replace h0 := h0.le hM_90
          replace h1 := h1.le hM_90
          replace hz_6 := hz_6.le hM_90
          replace hz_8 := hz_8.le hM_90
          replace hv_10 := hv_10.le hM_90
          replace hv_12 := hv_12.le hM_90
          replace hv_16 := hv_16.le hM_90
          replace hv_19 := hv_19.le hM_90
          replace hv_21 := hv_21.le hM_90
          replace hv_48 := hv_48.le hM_90
          replace hv_49 := hv_49.le hM_90
          replace hv_51 := hv_51.le hM_90
          replace hv_53 := hv_53.le hM_90
          replace hv_55 := hv_55.le hM_90
          replace hv_57 := hv_57.le hM_90
          replace hv_61 := hv_61.le hM_90
          replace hv_63 := hv_63.le hM_90
          replace hz_65 := hz_65.le hM_90
          replace hv_69 := hv_69.le hM_90
          replace hz_71 := hz_71.le hM_90
          replace hv_75 := hv_75.le hM_90
          replace hz_77 := hz_77.le hM_90
          replace hv_81 := hv_81.le hM_90
          replace hv_83 := hv_83.le hM_90
          replace hv_87 := hv_87.le hM_90
          replace hv_89 := hv_89.le hM_90
          refine WL_guard_yes E rfl rfl ?_
          refine S_x (X_pu E S rfl rfl rfl (laws_sorted hv_91 (by (first | omega | (simp; omega) | (simp; done) | (simp_all; omega) | grind))) (Hp.le.refl _) ?_)
          clear E a S; rintro a v_93 w M_92 hM_92 hv_93 S E
          replace h0 := h0.le hM_92
          replace h1 := h1.le hM_92
          replace hz_6 := hz_6.le hM_92
          replace hz_8 := hz_8.le hM_92
          replace hv_10 := hv_10.le hM_92
          replace hv_12 := hv_12.le hM_92
          replace hv_16 := hv_16.le hM_92
          replace hv_19 := hv_19.le hM_92
          replace hv_21 := hv_21.le hM_92
          replace hv_48 := hv_48.le hM_92
          replace hv_49 := hv_49.le hM_92
          replace hv_51 := hv_51.le hM_92
          replace hv_53 := hv_53.le hM_92
          replace hv_55 := hv_55.le hM_92
          replace hv_57 := hv_57.le hM_92
          replace hv_61 := hv_61.le hM_92
          replace hv_63 := hv_63.le hM_92
          replace hz_65 := hz_65.le hM_92
          replace hv_69 := hv_69.le hM_92
          replace hz_71 := hz_71.le hM_92
          replace hv_75 := hv_75.le hM_92
          replace hz_77 := hz_77.le hM_92
          replace hv_81 := hv_81.le hM_92
          replace hv_83 := hv_83.le hM_92
          replace hv_87 := hv_87.le hM_92
          replace hv_89 := hv_89.le hM_92
          replace hv_91 := hv_91.le hM_92
          refine WL_guard_yes E rfl rfl ?_
          refine S_x (X_pu E S rfl rfl rfl (laws_eq hv_89 hv_93) (Hp.le.refl _) ?_)
          clear E a S; rintro a _ w M_94 hM_94 rfl S E
          replace h0 := h0.le hM_94
          replace h1 := h1.le hM_94
          replace hz_6 := hz_6.le hM_94
          replace hz_8 := hz_8.le hM_94
          replace hv_10 := hv_10.le hM_94
          replace hv_12 := hv_12.le hM_94
          replace hv_16 := hv_16.le hM_94
          replace hv_19 := hv_19.le hM_94
          replace hv_21 := hv_21.le hM_94
          replace hv_48 := hv_48.le hM_94
          replace hv_49 := hv_49.le hM_94
          replace hv_51 := hv_51.le hM_94
          replace hv_53 := hv_53.le hM_94
          replace hv_55 := hv_55.le hM_94
          replace hv_57 := hv_57.le hM_94
          replace hv_61 := hv_61.le hM_94
          replace hv_63 := hv_63.le hM_94
          replace hz_65 := hz_65.le hM_94
          replace hv_69 := hv_69.le hM_94
          replace hz_71 := hz_71.le hM_94
          replace hv_75 := hv_75.le hM_94
          replace hz_77 := hz_77.le hM_94
          replace hv_81 := hv_81.le hM_94
          replace hv_83 := hv_83.le hM_94
          replace hv_87 := hv_87.le hM_94
          replace hv_89 := hv_89.le hM_94
          replace hv_91 := hv_91.le hM_94
          replace hv_93 := hv_93.le hM_94
          refine WL_guard_yes E rfl rfl ?_
          refine S_v E rfl (R_not E rfl) rfl ?_
          clear E a; intro a E
          refine S_v E rfl (R_pickF E rfl rfl) rfl ?_
          clear E a; intro a E
          refine S_v E rfl (R_move E rfl) rfl ?_
          clear E a; intro a E
          have hc_95 : (!(decide (setI (keyL ([l0, l1]).flatten) = setI (l0 ++ l1)))) = false := by (clear S E; first | (simp [suL_card]; decide) | (simp only [Bool.not_eq_false', decide_eq_true_eq]; first | exact suL_set _ | (refine setI_eq fun z => ?_; simp [mem_keyL]; done) | (skip; (try rw [suL_set]); first | (refine setI_eq fun z => ?_; (simp only [mem_meet2, mem_keyL, List.flatten_cons, List.flatten_nil, List.append_nil, List.mem_append, List.mem_filter, decide_eq_true_eq, Bool.and_eq_true, Bool.not_eq_true', decide_eq_false_iff_not]; by_cases h1 : z ∈ l0 <;> by_cases h2 : z ∈ l1 <;> simp [h1, h2]; done)) | (refine road (by omega) fun z => ?_; (simp only [mem_meet2, mem_keyL, List.flatten_cons, List.flatten_nil, List.append_nil, List.mem_append, List.mem_filter, decide_eq_true_eq, Bool.and_eq_true, Bool.not_eq_true', decide_eq_false_iff_not]; by_cases h1 : z ∈ l0 <;> by_cases h2 : z ∈ l1 <;> simp [h1, h2]; done)) | (refine road2 (by omega) fun z => ?_; (simp only [mem_meet2, mem_keyL, List.flatten_cons, List.flatten_nil, List.append_nil, List.mem_append, List.mem_filter, decide_eq_true_eq, Bool.and_eq_true, Bool.not_eq_true', decide_eq_false_iff_not]; by_cases h1 : z ∈ l0 <;> by_cases h2 : z ∈ l1 <;> simp [h1, h2]; done)))))
          replace E := E.val (t := 126) rfl hc_95
          replace E := E.val (t := 127) rfl hc_95
          replace E := E.val (t := 128) rfl hc_95
          refine WL_guard_yes E rfl rfl ?_
          refine S_v E rfl (R_move E rfl) rfl ?_
          clear E a; intro a E
          refine WL_guard_yes E rfl rfl ?_
          refine S_x (X_pu E S rfl rfl rfl (impl_IntersectSeq hv_16 (by first | assumption | omega | (simp; done) | (simp; omega)) (by first | assumption | omega | (intro x hx; simp only [List.mem_cons, List.not_mem_nil, or_false] at hx; rcases hx with rfl | rfl <;> omega) | (intro x hx; simp only [List.mem_cons, List.not_mem_nil, or_false] at hx; rcases hx with rfl | rfl <;> simp; done))) (Hp.le.refl _) ?_)
          clear E a S; rintro a v_97 w M_96 hM_96 hv_97 S E
          replace h0 := h0.le hM_96
          replace h1 := h1.le hM_96
          replace hz_6 := hz_6.le hM_96
          replace hz_8 := hz_8.le hM_96
          replace hv_10 := hv_10.le hM_96
          replace hv_12 := hv_12.le hM_96
          replace hv_16 := hv_16.le hM_96
          replace hv_19 := hv_19.le hM_96
          replace hv_21 := hv_21.le hM_96
          replace hv_48 := hv_48.le hM_96
          replace hv_49 := hv_49.le hM_96
          replace hv_51 := hv_51.le hM_96
          replace hv_53 := hv_53.le hM_96
          replace hv_55 := hv_55.le hM_96
          replace hv_57 := hv_57.le hM_96
          replace hv_61 := hv_61.le hM_96
          replace hv_63 := hv_63.le hM_96
          replace hz_65 := hz_65.le hM_96
          replace hv_69 := hv_69.le hM_96
          replace hz_71 := hz_71.le hM_96
          replace hv_75 := hv_75.le hM_96
          replace hz_77 := hz_77.le hM_96
          replace hv_81 := hv_81.le hM_96
          replace hv_83 := hv_83.le hM_96
          replace hv_87 := hv_87.le hM_96
          replace hv_89 := hv_89.le hM_96
          replace hv_91 := hv_91.le hM_96
          replace hv_93 := hv_93.le hM_96
          refine WL_guard_yes E rfl rfl ?_
          refine S_x (X_pu E S rfl rfl rfl (laws_sorted hv_97 (by (first | omega | (simp; omega) | (simp; done) | (simp_all; omega) | grind))) (Hp.le.refl _) ?_)
          clear E a S; rintro a v_99 w M_98 hM_98 hv_99 S E
          replace h0 := h0.le hM_98
          replace h1 := h1.le hM_98
          replace hz_6 := hz_6.le hM_98
          replace hz_8 := hz_8.le hM_98
          replace hv_10 := hv_10.le hM_98
          replace hv_12 := hv_12.le hM_98
          replace hv_16 := hv_16.le hM_98
          replace hv_19 := hv_19.le hM_98
          replace hv_21 := hv_21.le hM_98
          replace hv_48 := hv_48.le hM_98
          replace hv_49 := hv_49.le hM_98
          replace hv_51 := hv_51.le hM_98
          replace hv_53 := hv_53.le hM_98
          replace hv_55 := hv_55.le hM_98
          replace hv_57 := hv_57.le hM_98
          replace hv_61 := hv_61.le hM_98
          replace hv_63 := hv_63.le hM_98
          replace hz_65 := hz_65.le hM_98
          replace hv_69 := hv_69.le hM_98
          replace hz_71 := hz_71.le hM_98
          replace hv_75 := hv_75.le hM_98
          replace hz_77 := hz_77.le hM_98
          replace hv_81 := hv_81.le hM_98
          replace hv_83 := hv_83.le hM_98
          replace hv_87 := hv_87.le hM_98
          replace hv_89 := hv_89.le hM_98
          replace hv_91 := hv_91.le hM_98
          replace hv_93 := hv_93.le hM_98
          replace hv_97 := hv_97.le hM_98
          refine WL_guard_yes E rfl rfl ?_
          refine S_v E rfl (R_move E rfl) rfl ?_
          clear E a; intro a E
          refine WL_guard_yes E rfl rfl ?_
          refine S_x (X_pu E S rfl rfl rfl (laws_eq hv_99 hz_65) (Hp.le.refl _) ?_)
          clear E a S; rintro a _ w M_100 hM_100 rfl S E
          replace h0 := h0.le hM_100
          replace h1 := h1.le hM_100
          replace hz_6 := hz_6.le hM_100
          replace hz_8 := hz_8.le hM_100
          replace hv_10 := hv_10.le hM_100
          replace hv_12 := hv_12.le hM_100
          replace hv_16 := hv_16.le hM_100
          replace hv_19 := hv_19.le hM_100
          replace hv_21 := hv_21.le hM_100
          replace hv_48 := hv_48.le hM_100
          replace hv_49 := hv_49.le hM_100
          replace hv_51 := hv_51.le hM_100
          replace hv_53 := hv_53.le hM_100
          replace hv_55 := hv_55.le hM_100
          replace hv_57 := hv_57.le hM_100
          replace hv_61 := hv_61.le hM_100
          replace hv_63 := hv_63.le hM_100
          replace hz_65 := hz_65.le hM_100
          replace hv_69 := hv_69.le hM_100
          replace hz_71 := hz_71.le hM_100
          replace hv_75 := hv_75.le hM_100
          replace hz_77 := hz_77.le hM_100
          replace hv_81 := hv_81.le hM_100
          replace hv_83 := hv_83.le hM_100
          replace hv_87 := hv_87.le hM_100
          replace hv_89 := hv_89.le hM_100
          replace hv_91 := hv_91.le hM_100
          replace hv_93 := hv_93.le hM_100
          replace hv_97 := hv_97.le hM_100
          replace hv_99 := hv_99.le hM_100
          refine WL_guard_yes E rfl rfl ?_
          refine S_v E rfl (R_not E rfl) rfl ?_
          clear E a; intro a E
          refine S_v E rfl (R_pickF E rfl rfl) rfl ?_
          clear E a; intro a E
          refine S_v E rfl (R_move E rfl) rfl ?_
          clear E a; intro a E
          have hc_101 : (!(decide (setI (meetF (fun x => x) [l0, l1]) = ((setI (l0 ++ l1)).take k).filter (fun z => decide (z ∈ l0) && decide (z ∈ l1))))) = false := by (clear S E; first | (simp [suL_card]; decide) | (simp only [Bool.not_eq_false', decide_eq_true_eq]; first | exact suL_set _ | (refine setI_eq fun z => ?_; simp [mem_keyL]; done) | (skip; (try rw [suL_set]); first | (refine setI_eq fun z => ?_; (simp only [mem_meet2, mem_keyL, List.flatten_cons, List.flatten_nil, List.append_nil, List.mem_append, List.mem_filter, decide_eq_true_eq, Bool.and_eq_true, Bool.not_eq_true', decide_eq_false_iff_not]; by_cases h1 : z ∈ l0 <;> by_cases h2 : z ∈ l1 <;> simp [h1, h2]; done)) | (refine road (by omega) fun z => ?_; (simp only [mem_meet2, mem_keyL, List.flatten_cons, List.flatten_nil, List.append_nil, List.mem_append, List.mem_filter, decide_eq_true_eq, Bool.and_eq_true, Bool.not_eq_true', decide_eq_false_iff_not]; by_cases h1 : z ∈ l0 <;> by_cases h2 : z ∈ l1 <;> simp [h1, h2]; done)) | (refine road2 (by omega) fun z => ?_; (simp only [mem_meet2, mem_keyL, List.flatten_cons, List.flatten_nil, List.append_nil, List.mem_append, List.mem_filter, decide_eq_true_eq, Bool.and_eq_true, Bool.not_eq_true', decide_eq_false_iff_not]; by_cases h1 : z ∈ l0 <;> by_cases h2 : z ∈ l1 <;> simp [h1, h2]; done)))))
          replace E := E.val (t := 134) rfl hc_101
          replace E := E.val (t := 135) rfl hc_101
          replace E := E.val (t := 136) rfl hc_101
          refine WL_guard_yes E rfl rfl ?_
          refine S_v E rfl (R_move E rfl) rfl ?_
          clear E a; intro a E
          refine WL_guard_yes E rfl rfl ?_
          refine S_v E rfl (R_move E rfl) rfl ?_
          clear E a; intro a E
          refine WL_guard_yes E rfl rfl ?_
          refine S_x (X_pu E S rfl rfl rfl (impl_WithoutSeq h0 h1 (by (first | omega | (simp; omega) | (simp; done) | (simp_all; omega) | grind))) (Hp.le.refl _) ?_)
          clear E a S; rintro a v_103 w M_102 hM_102 hv_103 S E
          replace h0 := h0.le hM_102
          replace h1 := h1.le hM_102
          replace hz_6 := hz_6.le hM_102
          replace hz_8 := hz_8.le hM_102
          replace hv_10 := hv_10.le hM_102
          replace hv_12 := hv_12.le hM_102
          replace hv_16 := hv_16.le hM_102
          replace hv_19 := hv_19.le hM_102
          replace hv_21 := hv_21.le hM_102
          replace hv_48 := hv_48.le hM_102
          replace hv_49 := hv_49.le hM_102
          replace hv_51 := hv_51.le hM_102
          replace hv_53 := hv_53.le hM_102
          replace hv_55 := hv_55.le hM_102
          replace hv_57 := hv_57.le hM_102
          replace hv_61 := hv_61.le hM_102
          replace hv_63 := hv_63.le hM_102
          replace hz_65 := hz_65.le hM_102
          replace hv_69 := hv_69.le hM_102
          replace hz_71 := hz_71.le hM_102
          replace hv_75 := hv_75.le hM_102
          replace hz_77 := hz_77.le hM_102
          replace hv_81 := hv_81.le hM_102
          replace hv_83 := hv_83.le hM_102
          replace hv_87 := hv_87.le hM_102
          replace hv_89 := hv_89.le hM_102
          replace hv_91 := hv_91.le hM_102
          replace hv_93 := hv_93.le hM_102
          replace hv_97 := hv_97.le hM_102
          replace hv_99 := hv_99.le hM_102
          refine WL_guard_yes E rfl rfl ?_
          refine S_x (X_pu E S rfl rfl rfl (laws_sorted hv_103 (by (first | omega | (simp; omega) | (simp; done) | (simp_all; omega) | grind))) (Hp.le.refl _) ?_)
          clear E a S; rintro a v_105 w M_104 hM_104 hv_105 S E
          replace h0 := h0.le hM_104
          replace h1 := h1.le hM_104
          replace hz_6 := hz_6.le hM_104
          replace hz_8 := hz_8.le hM_104
          replace hv_10 := hv_10.le hM_104
          replace hv_12 := hv_12.le hM_104
          replace hv_16 := hv_16.le hM_104
          replace hv_19 := hv_19.le hM_104
          replace hv_21 := hv_21.le hM_104
          replace hv_48 := hv_48.le hM_104
          replace hv_49 := hv_49.le hM_104
          replace hv_51 := hv_51.le hM_104
          replace hv_53 := hv_53.le hM_104
          replace hv_55 := hv_55.le hM_104
          replace hv_57 := hv_57.le hM_104
          replace hv_61 := hv_61.le hM_104
          replace hv_63 := hv_63.le hM_104
          replace hz_65 := hz_65.le hM_104
          replace hv_69 := hv_69.le hM_104
          replace hz_71 := hz_71.le hM_104
          replace hv_75 := hv_75.le hM_104
          replace hz_77 := hz_77.le hM_104
          replace hv_81 := hv_81.le hM_104
          replace hv_83 := hv_83.le hM_104
          replace hv_87 := hv_87.le hM_104
          replace hv_89 := hv_89.le hM_104
          replace hv_91 := hv_91.le hM_104
          replace hv_93 := hv_93.le hM_104
          replace hv_97 := hv_97.le hM_104
          replace hv_99 := hv_99.le hM_104
          replace hv_103 := hv_103.le hM_104
          refine WL_guard_yes E rfl rfl ?_
          refine S_v E rfl (R_move E rfl) rfl ?_
          clear E a; intro a E
          refine WL_guard_yes E rfl rfl ?_
          refine S_x (X_pu E S rfl rfl rfl (laws_eq hv_105 hz_71) (Hp.le.refl _) ?_)
          clear E a S; rintro a _ w M_106 hM_106 rfl S E
          replace h0 := h0.le hM_106
          replace h1 := h1.le hM_106
          replace hz_6 := hz_6.le hM_106
          replace hz_8 := hz_8.le hM_106
          replace hv_10 := hv_10.le hM_106
          replace hv_12 := hv_12.le hM_106
          replace hv_16 := hv_16.le hM_106
          replace hv_19 := hv_19.le hM_106
          replace hv_21 := hv_21.le hM_106
          replace hv_48 := hv_48.le hM_106
          replace hv_49 := hv_49.le hM_106
          replace hv_51 := hv_51.le hM_106
          replace hv_53 := hv_53.le hM_106
          replace hv_55 := hv_55.le hM_106
          replace hv_57 := hv_57.le hM_106
          replace hv_61 := hv_61.le hM_106
          replace hv_63 := hv_63.le hM_106
          replace hz_65 := hz_65.le hM_106
          replace hv_69 := hv_69.le hM_106
          replace hz_71 := hz_71.le hM_106
          replace hv_75 := hv_75.le hM_106
          replace hz_77 := hz_77.le hM_106
          replace hv_81 := hv_81.le hM_106
          replace hv_83 := hv_83.le hM_106
          replace hv_87 := hv_87.le hM_106
          replace hv_89 := hv_89.le hM_106
          replace hv_91 := hv_91.le hM_106
          replace hv_93 := hv_93.le hM_106
          replace hv_97 := hv_97.le hM_106
          replace hv_99 := hv_99.le hM_106
          replace hv_103 := hv_103.le hM_106
          replace hv_105 := hv_105.le hM_106
          refine WL_guard_yes E rfl rfl ?_
          refine S_v E rfl (R_not E rfl) rfl ?_
          clear E a; intro a E
          refine S_v E rfl (R_pickF E rfl rfl) rfl ?_
          clear E a; intro a E
          refine WL_nil ?_
          refine T_n ?_
          have hc_107 : (!(decide (setI ((l0).filter (fun x => !decide (x ∈ l1))) = ((setI (l0 ++ l1)).take k).filter (fun z => decide (z ∈ l0) && !decide (z ∈ l1))))) = false := by (clear S E; first | (simp [suL_card]; decide) | (simp only [Bool.not_eq_false', decide_eq_true_eq]; first | exact suL_set _ | (refine setI_eq fun z => ?_; simp [mem_keyL]; done) | (skip; (try rw [suL_set]); first | (refine setI_eq fun z => ?_; (simp only [mem_meet2, mem_keyL, List.flatten_cons, List.flatten_nil, List.append_nil, List.mem_append, List.mem_filter, decide_eq_true_eq, Bool.and_eq_true, Bool.not_eq_true', decide_eq_false_iff_not]; by_cases h1 : z ∈ l0 <;> by_cases h2 : z ∈ l1 <;> simp [h1, h2]; done)) | (refine road (by omega) fun z => ?_; (simp only [mem_meet2, mem_keyL, List.flatten_cons, List.flatten_nil, List.append_nil, List.mem_append, List.mem_filter, decide_eq_true_eq, Bool.and_eq_true, Bool.not_eq_true', decide_eq_false_iff_not]; by_cases h1 : z ∈ l0 <;> by_cases h2 : z ∈ l1 <;> simp [h1, h2]; done)) | (refine road2 (by omega) fun z => ?_; (simp only [mem_meet2, mem_keyL, List.flatten_cons, List.flatten_nil, List.append_nil, List.mem_append, List.mem_filter, decide_eq_true_eq, Bool.and_eq_true, Bool.not_eq_true', decide_eq_false_iff_not]; by_cases h1 : z ∈ l0 <;> by_cases h2 : z ∈ l1 <;> simp [h1, h2]; done)))))
          refine WP_condF E rfl hc_107 ?_
          refine WP_skip ?_
          refine T_n ?_
          refine WP_seq ?_
          refine WP_seq ?_
          refine WP_region ?_
          refine S_x (X_buildM (R := RB1) (vs := [.bool false, .bool true]) (xs := [false, true]) RB1_mono E S rfl T28 rfl rfl rfl (by intro u hu; simp only [List.mem_cons, List.not_mem_nil, or_false] at hu; rcases hu with rfl | rfl <;> first | exact rfl | exact rfl) rfl (rowsC (R := RB1) rfl (rowsC (R := RB1) rfl rowsN)) ?_)
          clear E a S; rintro a v_108 w M_109 hM_109 hv_108 S E
          replace h0 := h0.le hM_109
          replace h1 := h1.le hM_109
          replace hz_6 := hz_6.le hM_109
          replace hz_8 := hz_8.le hM_109
          replace hv_10 := hv_10.le hM_109
          replace hv_12 := hv_12.le hM_109
          replace hv_16 := hv_16.le hM_109
          replace hv_19 := hv_19.le hM_109
          replace hv_21 := hv_21.le hM_109
          replace hv_48 := hv_48.le hM_109
          replace hv_49 := hv_49.le hM_109
          replace hv_51 := hv_51.le hM_109
          replace hv_53 := hv_53.le hM_109
          replace hv_55 := hv_55.le hM_109
          replace hv_57 := hv_57.le hM_109
          replace hv_61 := hv_61.le hM_109
          replace hv_63 := hv_63.le hM_109
          replace hz_65 := hz_65.le hM_109
          replace hv_69 := hv_69.le hM_109
          replace hz_71 := hz_71.le hM_109
          replace hv_75 := hv_75.le hM_109
          replace hz_77 := hz_77.le hM_109
          replace hv_81 := hv_81.le hM_109
          replace hv_83 := hv_83.le hM_109
          replace hv_87 := hv_87.le hM_109
          replace hv_89 := hv_89.le hM_109
          replace hv_91 := hv_91.le hM_109
          replace hv_93 := hv_93.le hM_109
          replace hv_97 := hv_97.le hM_109
          replace hv_99 := hv_99.le hM_109
          replace hv_103 := hv_103.le hM_109
          replace hv_105 := hv_105.le hM_109
          refine S_v E rfl (R_lenV E rfl T28 hv_108.len) rfl ?_
          clear E a; intro a E
          refine S_v E rfl (R_move E rfl) rfl ?_
          clear E a; intro a E
          refine WL_nil ?_
          refine T_n ?_
          refine WP_block ?_
          refine WP_loop (γ := Nat) (fun (i : Nat) a w => ∃ (M_110 : Hp), Hp.le M_109 M_110 ∧ St w M_110 (H) ∧ Env a 201 [] [(0, v0), (1, v1), (6, u6), (7, u7), (8, u8), (145, v_108), (146, .int .i64 ((([false, true]).length : Nat) : Int)), (147, .int .i64 ((i : Nat) : Int))] ∧ (i ≤ 2)) (fun i => 2 - i) 0 ⟨M_109, Hp.le.refl _, S, E.keep ⟨rfl, rfl, rfl, rfl, rfl, rfl, rfl, rfl, trivial⟩, (by omega)⟩ ?_
          try clear E
          try clear S
          try clear a
          try clear w
          rintro i a w ⟨M_110, hM_110, S, E, hL1_0⟩
          replace h0 := h0.le hM_110
          replace h1 := h1.le hM_110
          replace hz_6 := hz_6.le hM_110
          replace hz_8 := hz_8.le hM_110
          replace hv_10 := hv_10.le hM_110
          replace hv_12 := hv_12.le hM_110
          replace hv_16 := hv_16.le hM_110
          replace hv_19 := hv_19.le hM_110
          replace hv_21 := hv_21.le hM_110
          replace hv_48 := hv_48.le hM_110
          replace hv_49 := hv_49.le hM_110
          replace hv_51 := hv_51.le hM_110
          replace hv_53 := hv_53.le hM_110
          replace hv_55 := hv_55.le hM_110
          replace hv_57 := hv_57.le hM_110
          replace hv_61 := hv_61.le hM_110
          replace hv_63 := hv_63.le hM_110
          replace hz_65 := hz_65.le hM_110
          replace hv_69 := hv_69.le hM_110
          replace hz_71 := hz_71.le hM_110
          replace hv_75 := hv_75.le hM_110
          replace hz_77 := hz_77.le hM_110
          replace hv_81 := hv_81.le hM_110
          replace hv_83 := hv_83.le hM_110
          replace hv_87 := hv_87.le hM_110
          replace hv_89 := hv_89.le hM_110
          replace hv_91 := hv_91.le hM_110
          replace hv_93 := hv_93.le hM_110
          replace hv_97 := hv_97.le hM_110
          replace hv_99 := hv_99.le hM_110
          replace hv_103 := hv_103.le hM_110
          replace hv_105 := hv_105.le hM_110
          replace hv_108 := hv_108.le RB1_mono hM_110
          refine WP_seq ?_
          refine WP_region ?_
          refine S_v E rfl (R_lss E rfl rfl) rfl ?_
          clear E a; intro a E
          refine WL_nil ?_
          refine T_n ?_
          refine WP_seq ?_
          refine WP_cond E rfl (fun hc_111 => ?_) (fun hc_111 => ?_)
          · replace hc_111 := of_decide_eq_true hc_111
            refine WP_skip ?_
            refine T_n ?_
            refine WP_seq ?_
            refine WP_block ?_
            refine WP_seq ?_
            refine WP_region ?_
            obtain ⟨x_112, hx_112⟩ : ∃ x, ([false, true])[i]? = some x := ⟨_, List.getElem?_eq_getElem (by (first | decide | (rw [relL_len]; decide) | omega | (simp; done) | (rw [relL_len]; omega) | (rw [relL_len]; simp only [List.length_cons, List.length_nil] at *; omega) | (simp only [List.length_cons, List.length_nil] at *; omega)))⟩
            obtain ⟨p_113, hp_113, qp_113⟩ := RdB.at hv_108 hx_112
            refine S_v E rfl (R_idx E rfl rfl T28 hp_113 rfl) rfl ?_
            clear E a; intro a E
            refine S_v E rfl (R_loadM E rfl Tryz.isAgg4 S.imm qp_113) rfl ?_
            clear E a; intro a E
            refine S_v E rfl (R_assign E rfl) rfl ?_
            clear E a; intro a E
            refine WL_nil ?_
            refine T_n ?_
            refine WP_seq ?_
            refine WP_region ?_
            refine S_v E rfl (R_move E rfl) rfl ?_
            clear E a; intro a E
            refine S_v E rfl (R_move E rfl) rfl ?_
            clear E a; intro a E
            refine S_v E rfl (R_move E rfl) rfl ?_
            clear E a; intro a E
            refine S_x (X_pu E S rfl rfl rfl (impl_SetUnion h0 h1 (by first | assumption | omega | (simp; done)) (by first | assumption | omega | (simp; done))) (Hp.le.refl _) ?_)
            clear E a S; rintro a v_115 w M_114 hM_114 hv_115 S E
            replace h0 := h0.le hM_114
            replace h1 := h1.le hM_114
            replace hz_6 := hz_6.le hM_114
            replace hz_8 := hz_8.le hM_114
            replace hv_10 := hv_10.le hM_114
            replace hv_12 := hv_12.le hM_114
            replace hv_16 := hv_16.le hM_114
            replace hv_19 := hv_19.le hM_114
            replace hv_21 := hv_21.le hM_114
            replace hv_48 := hv_48.le hM_114
            replace hv_49 := hv_49.le hM_114
            replace hv_51 := hv_51.le hM_114
            replace hv_53 := hv_53.le hM_114
            replace hv_55 := hv_55.le hM_114
            replace hv_57 := hv_57.le hM_114
            replace hv_61 := hv_61.le hM_114
            replace hv_63 := hv_63.le hM_114
            replace hz_65 := hz_65.le hM_114
            replace hv_69 := hv_69.le hM_114
            replace hz_71 := hz_71.le hM_114
            replace hv_75 := hv_75.le hM_114
            replace hz_77 := hz_77.le hM_114
            replace hv_81 := hv_81.le hM_114
            replace hv_83 := hv_83.le hM_114
            replace hv_87 := hv_87.le hM_114
            replace hv_89 := hv_89.le hM_114
            replace hv_91 := hv_91.le hM_114
            replace hv_93 := hv_93.le hM_114
            replace hv_97 := hv_97.le hM_114
            replace hv_99 := hv_99.le hM_114
            replace hv_103 := hv_103.le hM_114
            replace hv_105 := hv_105.le hM_114
            replace hv_108 := hv_108.le RB1_mono hM_114
            have hzl := suL_len (l0 ++ l1)
            rw [List.length_append] at hzl
            refine S_v E rfl (R_move E rfl) rfl ?_
            clear E a; intro a E
            refine S_v E rfl (R_move E rfl) rfl ?_
            clear E a; intro a E
            refine S_x (X_pu E S rfl rfl rfl (laws_both h0 h1 (by first | omega | (simp; omega) | (simp_all; omega))) (Hp.le.refl _) ?_)
            clear E a S; rintro a v_117 w M_116 hM_116 hv_117 S E
            replace h0 := h0.le hM_116
            replace h1 := h1.le hM_116
            replace hz_6 := hz_6.le hM_116
            replace hz_8 := hz_8.le hM_116
            replace hv_10 := hv_10.le hM_116
            replace hv_12 := hv_12.le hM_116
            replace hv_16 := hv_16.le hM_116
            replace hv_19 := hv_19.le hM_116
            replace hv_21 := hv_21.le hM_116
            replace hv_48 := hv_48.le hM_116
            replace hv_49 := hv_49.le hM_116
            replace hv_51 := hv_51.le hM_116
            replace hv_53 := hv_53.le hM_116
            replace hv_55 := hv_55.le hM_116
            replace hv_57 := hv_57.le hM_116
            replace hv_61 := hv_61.le hM_116
            replace hv_63 := hv_63.le hM_116
            replace hz_65 := hz_65.le hM_116
            replace hv_69 := hv_69.le hM_116
            replace hz_71 := hz_71.le hM_116
            replace hv_75 := hv_75.le hM_116
            replace hz_77 := hz_77.le hM_116
            replace hv_81 := hv_81.le hM_116
            replace hv_83 := hv_83.le hM_116
            replace hv_87 := hv_87.le hM_116
            replace hv_89 := hv_89.le hM_116
            replace hv_91 := hv_91.le hM_116
            replace hv_93 := hv_93.le hM_116
            replace hv_97 := hv_97.le hM_116
            replace hv_99 := hv_99.le hM_116
            replace hv_103 := hv_103.le hM_116
            replace hv_105 := hv_105.le hM_116
            replace hv_108 := hv_108.le RB1_mono hM_116
            replace hv_115 := hv_115.le hM_116
            refine S_x (X_pu E S rfl rfl rfl (laws_sorted hv_117 (by (first | omega | (simp; omega) | (simp; done) | (simp_all; omega) | grind))) (Hp.le.refl _) ?_)
            clear E a S; rintro a v_119 w M_118 hM_118 hv_119 S E
            replace h0 := h0.le hM_118
            replace h1 := h1.le hM_118
            replace hz_6 := hz_6.le hM_118
            replace hz_8 := hz_8.le hM_118
            replace hv_10 := hv_10.le hM_118
            replace hv_12 := hv_12.le hM_118
            replace hv_16 := hv_16.le hM_118
            replace hv_19 := hv_19.le hM_118
            replace hv_21 := hv_21.le hM_118
            replace hv_48 := hv_48.le hM_118
            replace hv_49 := hv_49.le hM_118
            replace hv_51 := hv_51.le hM_118
            replace hv_53 := hv_53.le hM_118
            replace hv_55 := hv_55.le hM_118
            replace hv_57 := hv_57.le hM_118
            replace hv_61 := hv_61.le hM_118
            replace hv_63 := hv_63.le hM_118
            replace hz_65 := hz_65.le hM_118
            replace hv_69 := hv_69.le hM_118
            replace hz_71 := hz_71.le hM_118
            replace hv_75 := hv_75.le hM_118
            replace hz_77 := hz_77.le hM_118
            replace hv_81 := hv_81.le hM_118
            replace hv_83 := hv_83.le hM_118
            replace hv_87 := hv_87.le hM_118
            replace hv_89 := hv_89.le hM_118
            replace hv_91 := hv_91.le hM_118
            replace hv_93 := hv_93.le hM_118
            replace hv_97 := hv_97.le hM_118
            replace hv_99 := hv_99.le hM_118
            replace hv_103 := hv_103.le hM_118
            replace hv_105 := hv_105.le hM_118
            replace hv_108 := hv_108.le RB1_mono hM_118
            replace hv_115 := hv_115.le hM_118
            replace hv_117 := hv_117.le hM_118
            refine S_x (X_pu E S rfl rfl rfl (laws_eq hv_115 hv_119) (Hp.le.refl _) ?_)
            clear E a S; rintro a _ w M_120 hM_120 rfl S E
            replace h0 := h0.le hM_120
            replace h1 := h1.le hM_120
            replace hz_6 := hz_6.le hM_120
            replace hz_8 := hz_8.le hM_120
            replace hv_10 := hv_10.le hM_120
            replace hv_12 := hv_12.le hM_120
            replace hv_16 := hv_16.le hM_120
            replace hv_19 := hv_19.le hM_120
            replace hv_21 := hv_21.le hM_120
            replace hv_48 := hv_48.le hM_120
            replace hv_49 := hv_49.le hM_120
            replace hv_51 := hv_51.le hM_120
            replace hv_53 := hv_53.le hM_120
            replace hv_55 := hv_55.le hM_120
            replace hv_57 := hv_57.le hM_120
            replace hv_61 := hv_61.le hM_120
            replace hv_63 := hv_63.le hM_120
            replace hz_65 := hz_65.le hM_120
            replace hv_69 := hv_69.le hM_120
            replace hz_71 := hz_71.le hM_120
            replace hv_75 := hv_75.le hM_120
            replace hz_77 := hz_77.le hM_120
            replace hv_81 := hv_81.le hM_120
            replace hv_83 := hv_83.le hM_120
            replace hv_87 := hv_87.le hM_120
            replace hv_89 := hv_89.le hM_120
            replace hv_91 := hv_91.le hM_120
            replace hv_93 := hv_93.le hM_120
            replace hv_97 := hv_97.le hM_120
            replace hv_99 := hv_99.le hM_120
            replace hv_103 := hv_103.le hM_120
            replace hv_105 := hv_105.le hM_120
            replace hv_108 := hv_108.le RB1_mono hM_120
            replace hv_115 := hv_115.le hM_120
            replace hv_117 := hv_117.le hM_120
            replace hv_119 := hv_119.le hM_120
            refine S_v E rfl (R_not E rfl) rfl ?_
            clear E a; intro a E
            refine S_v E rfl (R_move E rfl) rfl ?_
            clear E a; intro a E
            have hc_121 : (!(decide (suL (l0 ++ l1) = setI (l0 ++ l1)))) = false := by (clear S E; first | (simp [suL_card]; decide) | (simp only [Bool.not_eq_false', decide_eq_true_eq]; first | exact suL_set _ | (refine setI_eq fun z => ?_; simp [mem_keyL]; done) | (skip; (try rw [suL_set]); first | (refine setI_eq fun z => ?_; (simp only [mem_meet2, mem_keyL, List.flatten_cons, List.flatten_nil, List.append_nil, List.mem_append, List.mem_filter, decide_eq_true_eq, Bool.and_eq_true, Bool.not_eq_true', decide_eq_false_iff_not]; by_cases h1 : z ∈ l0 <;> by_cases h2 : z ∈ l1 <;> simp [h1, h2]; done)) | (refine road (by omega) fun z => ?_; (simp only [mem_meet2, mem_keyL, List.flatten_cons, List.flatten_nil, List.append_nil, List.mem_append, List.mem_filter, decide_eq_true_eq, Bool.and_eq_true, Bool.not_eq_true', decide_eq_false_iff_not]; by_cases h1 : z ∈ l0 <;> by_cases h2 : z ∈ l1 <;> simp [h1, h2]; done)) | (refine road2 (by omega) fun z => ?_; (simp only [mem_meet2, mem_keyL, List.flatten_cons, List.flatten_nil, List.append_nil, List.mem_append, List.mem_filter, decide_eq_true_eq, Bool.and_eq_true, Bool.not_eq_true', decide_eq_false_iff_not]; by_cases h1 : z ∈ l0 <;> by_cases h2 : z ∈ l1 <;> simp [h1, h2]; done)))))
            replace E := E.val (t := 160) rfl hc_121
            replace E := E.val (t := 161) rfl hc_121
            refine WL_guard_yes E rfl rfl ?_
            refine S_v E rfl (R_move E rfl) rfl ?_
            clear E a; intro a E
            refine WL_guard_yes E rfl rfl ?_
            refine S_v E rfl (R_move E rfl) rfl ?_
            clear E a; intro a E
            refine WL_guard_yes E rfl rfl ?_
            refine S_v E rfl (R_move E rfl) rfl ?_
            clear E a; intro a E
            refine WL_guard_yes E rfl rfl ?_
            refine S_x (X_pu E S rfl rfl rfl (impl_SetIntersect h0 h1 (by first | assumption | omega | (simp; done)) (by first | assumption | omega | (simp; done))) (Hp.le.refl _) ?_)
            clear E a S; rintro a v_123 w M_122 hM_122 hv_123 S E
            replace h0 := h0.le hM_122
            replace h1 := h1.le hM_122
            replace hz_6 := hz_6.le hM_122
            replace hz_8 := hz_8.le hM_122
            replace hv_10 := hv_10.le hM_122
            replace hv_12 := hv_12.le hM_122
            replace hv_16 := hv_16.le hM_122
            replace hv_19 := hv_19.le hM_122
            replace hv_21 := hv_21.le hM_122
            replace hv_48 := hv_48.le hM_122
            replace hv_49 := hv_49.le hM_122
            replace hv_51 := hv_51.le hM_122
            replace hv_53 := hv_53.le hM_122
            replace hv_55 := hv_55.le hM_122
            replace hv_57 := hv_57.le hM_122
            replace hv_61 := hv_61.le hM_122
            replace hv_63 := hv_63.le hM_122
            replace hz_65 := hz_65.le hM_122
            replace hv_69 := hv_69.le hM_122
            replace hz_71 := hz_71.le hM_122
            replace hv_75 := hv_75.le hM_122
            replace hz_77 := hz_77.le hM_122
            replace hv_81 := hv_81.le hM_122
            replace hv_83 := hv_83.le hM_122
            replace hv_87 := hv_87.le hM_122
            replace hv_89 := hv_89.le hM_122
            replace hv_91 := hv_91.le hM_122
            replace hv_93 := hv_93.le hM_122
            replace hv_97 := hv_97.le hM_122
            replace hv_99 := hv_99.le hM_122
            replace hv_103 := hv_103.le hM_122
            replace hv_105 := hv_105.le hM_122
            replace hv_108 := hv_108.le RB1_mono hM_122
            replace hv_115 := hv_115.le hM_122
            replace hv_117 := hv_117.le hM_122
            replace hv_119 := hv_119.le hM_122
            have hzl := Nat.le_trans (suL_len ((l0).filter (fun z => decide (z ∈ l1)))) (List.length_filter_le _ _)
            refine WL_guard_yes E rfl rfl ?_
            refine S_v E rfl (R_move E rfl) rfl ?_
            clear E a; intro a E
            refine WL_guard_yes E rfl rfl ?_
            refine S_x (X_pu E S rfl rfl rfl (laws_eq hv_123 hz_65) (Hp.le.refl _) ?_)
            clear E a S; rintro a _ w M_124 hM_124 rfl S E
            replace h0 := h0.le hM_124
            replace h1 := h1.le hM_124
            replace hz_6 := hz_6.le hM_124
            replace hz_8 := hz_8.le hM_124
            replace hv_10 := hv_10.le hM_124
            replace hv_12 := hv_12.le hM_124
            replace hv_16 := hv_16.le hM_124
            replace hv_19 := hv_19.le hM_124
            replace hv_21 := hv_21.le hM_124
            replace hv_48 := hv_48.le hM_124
            replace hv_49 := hv_49.le hM_124
            replace hv_51 := hv_51.le hM_124
            replace hv_53 := hv_53.le hM_124
            replace hv_55 := hv_55.le hM_124
            replace hv_57 := hv_57.le hM_124
            replace hv_61 := hv_61.le hM_124
            replace hv_63 := hv_63.le hM_124
            replace hz_65 := hz_65.le hM_124
            replace hv_69 := hv_69.le hM_124
            replace hz_71 := hz_71.le hM_124
            replace hv_75 := hv_75.le hM_124
            replace hz_77 := hz_77.le hM_124
            replace hv_81 := hv_81.le hM_124
            replace hv_83 := hv_83.le hM_124
            replace hv_87 := hv_87.le hM_124
            replace hv_89 := hv_89.le hM_124
            replace hv_91 := hv_91.le hM_124
            replace hv_93 := hv_93.le hM_124
            replace hv_97 := hv_97.le hM_124
            replace hv_99 := hv_99.le hM_124
            replace hv_103 := hv_103.le hM_124
            replace hv_105 := hv_105.le hM_124
            replace hv_108 := hv_108.le RB1_mono hM_124
            replace hv_115 := hv_115.le hM_124
            replace hv_117 := hv_117.le hM_124
            replace hv_119 := hv_119.le hM_124
            replace hv_123 := hv_123.le hM_124
            refine WL_guard_yes E rfl rfl ?_
            refine S_v E rfl (R_not E rfl) rfl ?_
            clear E a; intro a E
            refine S_v E rfl (R_pickF E rfl rfl) rfl ?_
            clear E a; intro a E
            refine S_v E rfl (R_move E rfl) rfl ?_
            clear E a; intro a E
            have hc_125 : (!(decide (suL ((l0).filter (fun z => decide (z ∈ l1))) = ((setI (l0 ++ l1)).take k).filter (fun z => decide (z ∈ l0) && decide (z ∈ l1))))) = false := by (clear S E; first | (simp [suL_card]; decide) | (simp only [Bool.not_eq_false', decide_eq_true_eq]; first | exact suL_set _ | (refine setI_eq fun z => ?_; simp [mem_keyL]; done) | (skip; (try rw [suL_set]); first | (refine setI_eq fun z => ?_; (simp only [mem_meet2, mem_keyL, List.flatten_cons, List.flatten_nil, List.append_nil, List.mem_append, List.mem_filter, decide_eq_true_eq, Bool.and_eq_true, Bool.not_eq_true', decide_eq_false_iff_not]; by_cases h1 : z ∈ l0 <;> by_cases h2 : z ∈ l1 <;> simp [h1, h2]; done)) | (refine road (by omega) fun z => ?_; (simp only [mem_meet2, mem_keyL, List.flatten_cons, List.flatten_nil, List.append_nil, List.mem_append, List.mem_filter, decide_eq_true_eq, Bool.and_eq_true, Bool.not_eq_true', decide_eq_false_iff_not]; by_cases h1 : z ∈ l0 <;> by_cases h2 : z ∈ l1 <;> simp [h1, h2]; done)) | (refine road2 (by omega) fun z => ?_; (simp only [mem_meet2, mem_keyL, List.flatten_cons, List.flatten_nil, List.append_nil, List.mem_append, List.mem_filter, decide_eq_true_eq, Bool.and_eq_true, Bool.not_eq_true', decide_eq_false_iff_not]; by_cases h1 : z ∈ l0 <;> by_cases h2 : z ∈ l1 <;> simp [h1, h2]; done)))))
            replace E := E.val (t := 168) rfl hc_125
            replace E := E.val (t := 169) rfl hc_125
            replace E := E.val (t := 170) rfl hc_125
            refine WL_guard_yes E rfl rfl ?_
            refine S_v E rfl (R_move E rfl) rfl ?_
            clear E a; intro a E
            refine WL_guard_yes E rfl rfl ?_
            refine S_v E rfl (R_move E rfl) rfl ?_
            clear E a; intro a E
            refine WL_guard_yes E rfl rfl ?_
            refine S_v E rfl (R_move E rfl) rfl ?_
            clear E a; intro a E
            refine WL_guard_yes E rfl rfl ?_
            refine S_x (X_pu E S rfl rfl rfl (impl_SetDifference h0 h1 (by first | assumption | omega | (simp; done)) (by first | assumption | omega | (simp; done))) (Hp.le.refl _) ?_)
            clear E a S; rintro a v_127 w M_126 hM_126 hv_127 S E
            replace h0 := h0.le hM_126
            replace h1 := h1.le hM_126
            replace hz_6 := hz_6.le hM_126
            replace hz_8 := hz_8.le hM_126
            replace hv_10 := hv_10.le hM_126
            replace hv_12 := hv_12.le hM_126
            replace hv_16 := hv_16.le hM_126
            replace hv_19 := hv_19.le hM_126
            replace hv_21 := hv_21.le hM_126
            replace hv_48 := hv_48.le hM_126
            replace hv_49 := hv_49.le hM_126
            replace hv_51 := hv_51.le hM_126
            replace hv_53 := hv_53.le hM_126
            replace hv_55 := hv_55.le hM_126
            replace hv_57 := hv_57.le hM_126
            replace hv_61 := hv_61.le hM_126
            replace hv_63 := hv_63.le hM_126
            replace hz_65 := hz_65.le hM_126
            replace hv_69 := hv_69.le hM_126
            replace hz_71 := hz_71.le hM_126
            replace hv_75 := hv_75.le hM_126
            replace hz_77 := hz_77.le hM_126
            replace hv_81 := hv_81.le hM_126
            replace hv_83 := hv_83.le hM_126
            replace hv_87 := hv_87.le hM_126
            replace hv_89 := hv_89.le hM_126
            replace hv_91 := hv_91.le hM_126
            replace hv_93 := hv_93.le hM_126
            replace hv_97 := hv_97.le hM_126
            replace hv_99 := hv_99.le hM_126
            replace hv_103 := hv_103.le hM_126
            replace hv_105 := hv_105.le hM_126
            replace hv_108 := hv_108.le RB1_mono hM_126
            replace hv_115 := hv_115.le hM_126
            replace hv_117 := hv_117.le hM_126
            replace hv_119 := hv_119.le hM_126
            replace hv_123 := hv_123.le hM_126
            have hzl := Nat.le_trans (suL_len ((l0).filter (fun z => decide (z ∉ l1)))) (List.length_filter_le _ _)
            refine WL_guard_yes E rfl rfl ?_
            refine S_v E rfl (R_move E rfl) rfl ?_
            clear E a; intro a E
            refine WL_guard_yes E rfl rfl ?_
            refine S_x (X_pu E S rfl rfl rfl (laws_eq hv_127 hz_71) (Hp.le.refl _) ?_)
            clear E a S; rintro a _ w M_128 hM_128 rfl S E
            replace h0 := h0.le hM_128
            replace h1 := h1.le hM_128
            replace hz_6 := hz_6.le hM_128
            replace hz_8 := hz_8.le hM_128
            replace hv_10 := hv_10.le hM_128
            replace hv_12 := hv_12.le hM_128
            replace hv_16 := hv_16.le hM_128
            replace hv_19 := hv_19.le hM_128
            replace hv_21 := hv_21.le hM_128
            replace hv_48 := hv_48.le hM_128
            replace hv_49 := hv_49.le hM_128
            replace hv_51 := hv_51.le hM_128
            replace hv_53 := hv_53.le hM_128
            replace hv_55 := hv_55.le hM_128
            replace hv_57 := hv_57.le hM_128
            replace hv_61 := hv_61.le hM_128
            replace hv_63 := hv_63.le hM_128
            replace hz_65 := hz_65.le hM_128
            replace hv_69 := hv_69.le hM_128
            replace hz_71 := hz_71.le hM_128
            replace hv_75 := hv_75.le hM_128
            replace hz_77 := hz_77.le hM_128
            replace hv_81 := hv_81.le hM_128
            replace hv_83 := hv_83.le hM_128
            replace hv_87 := hv_87.le hM_128
            replace hv_89 := hv_89.le hM_128
            replace hv_91 := hv_91.le hM_128
            replace hv_93 := hv_93.le hM_128
            replace hv_97 := hv_97.le hM_128
            replace hv_99 := hv_99.le hM_128
            replace hv_103 := hv_103.le hM_128
            replace hv_105 := hv_105.le hM_128
            replace hv_108 := hv_108.le RB1_mono hM_128
            replace hv_115 := hv_115.le hM_128
            replace hv_117 := hv_117.le hM_128
            replace hv_119 := hv_119.le hM_128
            replace hv_123 := hv_123.le hM_128
            replace hv_127 := hv_127.le hM_128
            refine WL_guard_yes E rfl rfl ?_
            refine S_v E rfl (R_not E rfl) rfl ?_
            clear E a; intro a E
            refine S_v E rfl (R_pickF E rfl rfl) rfl ?_
            clear E a; intro a E
            refine S_v E rfl (R_move E rfl) rfl ?_
            clear E a; intro a E
            have hc_129 : (!(decide (suL ((l0).filter (fun z => decide (z ∉ l1))) = ((setI (l0 ++ l1)).take k).filter (fun z => decide (z ∈ l0) && !decide (z ∈ l1))))) = false := by (clear S E; first | (simp [suL_card]; decide) | (simp only [Bool.not_eq_false', decide_eq_true_eq]; first | exact suL_set _ | (refine setI_eq fun z => ?_; simp [mem_keyL]; done) | (skip; (try rw [suL_set]); first | (refine setI_eq fun z => ?_; (simp only [mem_meet2, mem_keyL, List.flatten_cons, List.flatten_nil, List.append_nil, List.mem_append, List.mem_filter, decide_eq_true_eq, Bool.and_eq_true, Bool.not_eq_true', decide_eq_false_iff_not]; by_cases h1 : z ∈ l0 <;> by_cases h2 : z ∈ l1 <;> simp [h1, h2]; done)) | (refine road (by omega) fun z => ?_; (simp only [mem_meet2, mem_keyL, List.flatten_cons, List.flatten_nil, List.append_nil, List.mem_append, List.mem_filter, decide_eq_true_eq, Bool.and_eq_true, Bool.not_eq_true', decide_eq_false_iff_not]; by_cases h1 : z ∈ l0 <;> by_cases h2 : z ∈ l1 <;> simp [h1, h2]; done)) | (refine road2 (by omega) fun z => ?_; (simp only [mem_meet2, mem_keyL, List.flatten_cons, List.flatten_nil, List.append_nil, List.mem_append, List.mem_filter, decide_eq_true_eq, Bool.and_eq_true, Bool.not_eq_true', decide_eq_false_iff_not]; by_cases h1 : z ∈ l0 <;> by_cases h2 : z ∈ l1 <;> simp [h1, h2]; done)))))
            replace E := E.val (t := 177) rfl hc_129
            replace E := E.val (t := 178) rfl hc_129
            replace E := E.val (t := 179) rfl hc_129
            refine WL_guard_yes E rfl rfl ?_
            refine S_v E rfl (R_move E rfl) rfl ?_
            clear E a; intro a E
            refine WL_guard_yes E rfl rfl ?_
            refine S_v E rfl (R_move E rfl) rfl ?_
            clear E a; intro a E
            refine WL_guard_yes E rfl rfl ?_
            refine S_v E rfl (R_move E rfl) rfl ?_
            clear E a; intro a E
            refine WL_guard_yes E rfl rfl ?_
            refine S_x (X_pu E S rfl rfl rfl (impl_SetDifference h1 h0 (by first | assumption | omega | (simp; done)) (by first | assumption | omega | (simp; done))) (Hp.le.refl _) ?_)
            clear E a S; rintro a v_131 w M_130 hM_130 hv_131 S E
            replace h0 := h0.le hM_130
            replace h1 := h1.le hM_130
            replace hz_6 := hz_6.le hM_130
            replace hz_8 := hz_8.le hM_130
            replace hv_10 := hv_10.le hM_130
            replace hv_12 := hv_12.le hM_130
            replace hv_16 := hv_16.le hM_130
            replace hv_19 := hv_19.le hM_130
            replace hv_21 := hv_21.le hM_130
            replace hv_48 := hv_48.le hM_130
            replace hv_49 := hv_49.le hM_130
            replace hv_51 := hv_51.le hM_130
            replace hv_53 := hv_53.le hM_130
            replace hv_55 := hv_55.le hM_130
            replace hv_57 := hv_57.le hM_130
            replace hv_61 := hv_61.le hM_130
            replace hv_63 := hv_63.le hM_130
            replace hz_65 := hz_65.le hM_130
            replace hv_69 := hv_69.le hM_130
            replace hz_71 := hz_71.le hM_130
            replace hv_75 := hv_75.le hM_130
            replace hz_77 := hz_77.le hM_130
            replace hv_81 := hv_81.le hM_130
            replace hv_83 := hv_83.le hM_130
            replace hv_87 := hv_87.le hM_130
            replace hv_89 := hv_89.le hM_130
            replace hv_91 := hv_91.le hM_130
            replace hv_93 := hv_93.le hM_130
            replace hv_97 := hv_97.le hM_130
            replace hv_99 := hv_99.le hM_130
            replace hv_103 := hv_103.le hM_130
            replace hv_105 := hv_105.le hM_130
            replace hv_108 := hv_108.le RB1_mono hM_130
            replace hv_115 := hv_115.le hM_130
            replace hv_117 := hv_117.le hM_130
            replace hv_119 := hv_119.le hM_130
            replace hv_123 := hv_123.le hM_130
            replace hv_127 := hv_127.le hM_130
            have hzl := Nat.le_trans (suL_len ((l1).filter (fun z => decide (z ∉ l0)))) (List.length_filter_le _ _)
            refine WL_guard_yes E rfl rfl ?_
            refine S_v E rfl (R_move E rfl) rfl ?_
            clear E a; intro a E
            refine WL_guard_yes E rfl rfl ?_
            refine S_x (X_pu E S rfl rfl rfl (laws_eq hv_131 hz_77) (Hp.le.refl _) ?_)
            clear E a S; rintro a _ w M_132 hM_132 rfl S E
            replace h0 := h0.le hM_132
            replace h1 := h1.le hM_132
            replace hz_6 := hz_6.le hM_132
            replace hz_8 := hz_8.le hM_132
            replace hv_10 := hv_10.le hM_132
            replace hv_12 := hv_12.le hM_132
            replace hv_16 := hv_16.le hM_132
            replace hv_19 := hv_19.le hM_132
            replace hv_21 := hv_21.le hM_132
            replace hv_48 := hv_48.le hM_132
            replace hv_49 := hv_49.le hM_132
            replace hv_51 := hv_51.le hM_132
            replace hv_53 := hv_53.le hM_132
            replace hv_55 := hv_55.le hM_132
            replace hv_57 := hv_57.le hM_132
            replace hv_61 := hv_61.le hM_132
            replace hv_63 := hv_63.le hM_132
            replace hz_65 := hz_65.le hM_132
            replace hv_69 := hv_69.le hM_132
            replace hz_71 := hz_71.le hM_132
            replace hv_75 := hv_75.le hM_132
            replace hz_77 := hz_77.le hM_132
            replace hv_81 := hv_81.le hM_132
            replace hv_83 := hv_83.le hM_132
            replace hv_87 := hv_87.le hM_132
            replace hv_89 := hv_89.le hM_132
            replace hv_91 := hv_91.le hM_132
            replace hv_93 := hv_93.le hM_132
            replace hv_97 := hv_97.le hM_132
            replace hv_99 := hv_99.le hM_132
            replace hv_103 := hv_103.le hM_132
            replace hv_105 := hv_105.le hM_132
            replace hv_108 := hv_108.le RB1_mono hM_132
            replace hv_115 := hv_115.le hM_132
            replace hv_117 := hv_117.le hM_132
            replace hv_119 := hv_119.le hM_132
            replace hv_123 := hv_123.le hM_132
            replace hv_127 := hv_127.le hM_132
            replace hv_131 := hv_131.le hM_132
            refine WL_guard_yes E rfl rfl ?_
            refine S_v E rfl (R_not E rfl) rfl ?_
            clear E a; intro a E
            refine S_v E rfl (R_pickF E rfl rfl) rfl ?_
            clear E a; intro a E
            refine S_v E rfl (R_move E rfl) rfl ?_
            clear E a; intro a E
            have hc_133 : (!(decide (suL ((l1).filter (fun z => decide (z ∉ l0))) = ((setI (l0 ++ l1)).take k).filter (fun z => !decide (z ∈ l0))))) = false := by (clear S E; first | (simp [suL_card]; decide) | (simp only [Bool.not_eq_false', decide_eq_true_eq]; first | exact suL_set _ | (refine setI_eq fun z => ?_; simp [mem_keyL]; done) | (skip; (try rw [suL_set]); first | (refine setI_eq fun z => ?_; (simp only [mem_meet2, mem_keyL, List.flatten_cons, List.flatten_nil, List.append_nil, List.mem_append, List.mem_filter, decide_eq_true_eq, Bool.and_eq_true, Bool.not_eq_true', decide_eq_false_iff_not]; by_cases h1 : z ∈ l0 <;> by_cases h2 : z ∈ l1 <;> simp [h1, h2]; done)) | (refine road (by omega) fun z => ?_; (simp only [mem_meet2, mem_keyL, List.flatten_cons, List.flatten_nil, List.append_nil, List.mem_append, List.mem_filter, decide_eq_true_eq, Bool.and_eq_true, Bool.not_eq_true', decide_eq_false_iff_not]; by_cases h1 : z ∈ l0 <;> by_cases h2 : z ∈ l1 <;> simp [h1, h2]; done)) | (refine road2 (by omega) fun z => ?_; (simp only [mem_meet2, mem_keyL, List.flatten_cons, List.flatten_nil, List.append_nil, List.mem_append, List.mem_filter, decide_eq_true_eq, Bool.and_eq_true, Bool.not_eq_true', decide_eq_false_iff_not]; by_cases h1 : z ∈ l0 <;> by_cases h2 : z ∈ l1 <;> simp [h1, h2]; done)))))
            replace E := E.val (t := 186) rfl hc_133
            replace E := E.val (t := 187) rfl hc_133
            replace E := E.val (t := 188) rfl hc_133
            refine WL_guard_yes E rfl rfl ?_
            refine S_v E rfl (R_move E rfl) rfl ?_
            clear E a; intro a E
            refine WL_guard_yes E rfl rfl ?_
            refine S_v E rfl (R_move E rfl) rfl ?_
            clear E a; intro a E
            refine WL_guard_yes E rfl rfl ?_
            refine S_v E rfl (R_move E rfl) rfl ?_
            clear E a; intro a E
            refine WL_guard_yes E rfl rfl ?_
            refine S_x (X_pu E S rfl rfl rfl (impl_SetSymmetric h0 h1 (by first | assumption | omega | (simp; done)) (by first | assumption | omega | (simp; done))) (Hp.le.refl _) ?_)
            clear E a S; rintro a v_135 w M_134 hM_134 hv_135 S E
            replace h0 := h0.le hM_134
            replace h1 := h1.le hM_134
            replace hz_6 := hz_6.le hM_134
            replace hz_8 := hz_8.le hM_134
            replace hv_10 := hv_10.le hM_134
            replace hv_12 := hv_12.le hM_134
            replace hv_16 := hv_16.le hM_134
            replace hv_19 := hv_19.le hM_134
            replace hv_21 := hv_21.le hM_134
            replace hv_48 := hv_48.le hM_134
            replace hv_49 := hv_49.le hM_134
            replace hv_51 := hv_51.le hM_134
            replace hv_53 := hv_53.le hM_134
            replace hv_55 := hv_55.le hM_134
            replace hv_57 := hv_57.le hM_134
            replace hv_61 := hv_61.le hM_134
            replace hv_63 := hv_63.le hM_134
            replace hz_65 := hz_65.le hM_134
            replace hv_69 := hv_69.le hM_134
            replace hz_71 := hz_71.le hM_134
            replace hv_75 := hv_75.le hM_134
            replace hz_77 := hz_77.le hM_134
            replace hv_81 := hv_81.le hM_134
            replace hv_83 := hv_83.le hM_134
            replace hv_87 := hv_87.le hM_134
            replace hv_89 := hv_89.le hM_134
            replace hv_91 := hv_91.le hM_134
            replace hv_93 := hv_93.le hM_134
            replace hv_97 := hv_97.le hM_134
            replace hv_99 := hv_99.le hM_134
            replace hv_103 := hv_103.le hM_134
            replace hv_105 := hv_105.le hM_134
            replace hv_108 := hv_108.le RB1_mono hM_134
            replace hv_115 := hv_115.le hM_134
            replace hv_117 := hv_117.le hM_134
            replace hv_119 := hv_119.le hM_134
            replace hv_123 := hv_123.le hM_134
            replace hv_127 := hv_127.le hM_134
            replace hv_131 := hv_131.le hM_134
            have hzl := suL_len ((l0).filter (fun z => decide (z ∉ l1)) ++ (l1).filter (fun z => decide (z ∉ l0)))
            rw [List.length_append] at hzl
            have hzm := List.length_filter_le (fun z => decide (z ∉ l1)) l0
            have hzn := List.length_filter_le (fun z => decide (z ∉ l0)) l1
            refine WL_guard_yes E rfl rfl ?_
            refine S_v E rfl (R_move E rfl) rfl ?_
            clear E a; intro a E
            refine WL_guard_yes E rfl rfl ?_
            refine S_v E rfl (R_move E rfl) rfl ?_
            clear E a; intro a E
            refine WL_guard_yes E rfl rfl ?_
            refine S_x (X_pu E S rfl rfl rfl (laws_both hz_71 hz_77 (by first | omega | (simp; omega) | (simp_all; omega))) (Hp.le.refl _) ?_)
            clear E a S; rintro a v_137 w M_136 hM_136 hv_137 S E
            replace h0 := h0.le hM_136
            replace h1 := h1.le hM_136
            replace hz_6 := hz_6.le hM_136
            replace hz_8 := hz_8.le hM_136
            replace hv_10 := hv_10.le hM_136
            replace hv_12 := hv_12.le hM_136
            replace hv_16 := hv_16.le hM_136
            replace hv_19 := hv_19.le hM_136
            replace hv_21 := hv_21.le hM_136
            replace hv_48 := hv_48.le hM_136
            replace hv_49 := hv_49.le hM_136
            replace hv_51 := hv_51.le hM_136
            replace hv_53 := hv_53.le hM_136
            replace hv_55 := hv_55.le hM_136
            replace hv_57 := hv_57.le hM_136
            replace hv_61 := hv_61.le hM_136
            replace hv_63 := hv_63.le hM_136
            replace hz_65 := hz_65.le hM_136
            replace hv_69 := hv_69.le hM_136
            replace hz_71 := hz_71.le hM_136
            replace hv_75 := hv_75.le hM_136
            replace hz_77 := hz_77.le hM_136
            replace hv_81 := hv_81.le hM_136
            replace hv_83 := hv_83.le hM_136
            replace hv_87 := hv_87.le hM_136
            replace hv_89 := hv_89.le hM_136
            replace hv_91 := hv_91.le hM_136
            replace hv_93 := hv_93.le hM_136
            replace hv_97 := hv_97.le hM_136
            replace hv_99 := hv_99.le hM_136
            replace hv_103 := hv_103.le hM_136
            replace hv_105 := hv_105.le hM_136
            replace hv_108 := hv_108.le RB1_mono hM_136
            replace hv_115 := hv_115.le hM_136
            replace hv_117 := hv_117.le hM_136
            replace hv_119 := hv_119.le hM_136
            replace hv_123 := hv_123.le hM_136
            replace hv_127 := hv_127.le hM_136
            replace hv_131 := hv_131.le hM_136
            replace hv_135 := hv_135.le hM_136
            refine WL_guard_yes E rfl rfl ?_
            refine S_x (X_pu E S rfl rfl rfl (laws_sorted hv_137 (by (first | omega | (simp; omega) | (simp; done) | (simp_all; omega) | grind))) (Hp.le.refl _) ?_)
            clear E a S; rintro a v_139 w M_138 hM_138 hv_139 S E
            replace h0 := h0.le hM_138
            replace h1 := h1.le hM_138
            replace hz_6 := hz_6.le hM_138
            replace hz_8 := hz_8.le hM_138
            replace hv_10 := hv_10.le hM_138
            replace hv_12 := hv_12.le hM_138
            replace hv_16 := hv_16.le hM_138
            replace hv_19 := hv_19.le hM_138
            replace hv_21 := hv_21.le hM_138
            replace hv_48 := hv_48.le hM_138
            replace hv_49 := hv_49.le hM_138
            replace hv_51 := hv_51.le hM_138
            replace hv_53 := hv_53.le hM_138
            replace hv_55 := hv_55.le hM_138
            replace hv_57 := hv_57.le hM_138
            replace hv_61 := hv_61.le hM_138
            replace hv_63 := hv_63.le hM_138
            replace hz_65 := hz_65.le hM_138
            replace hv_69 := hv_69.le hM_138
            replace hz_71 := hz_71.le hM_138
            replace hv_75 := hv_75.le hM_138
            replace hz_77 := hz_77.le hM_138
            replace hv_81 := hv_81.le hM_138
            replace hv_83 := hv_83.le hM_138
            replace hv_87 := hv_87.le hM_138
            replace hv_89 := hv_89.le hM_138
            replace hv_91 := hv_91.le hM_138
            replace hv_93 := hv_93.le hM_138
            replace hv_97 := hv_97.le hM_138
            replace hv_99 := hv_99.le hM_138
            replace hv_103 := hv_103.le hM_138
            replace hv_105 := hv_105.le hM_138
            replace hv_108 := hv_108.le RB1_mono hM_138
            replace hv_115 := hv_115.le hM_138
            replace hv_117 := hv_117.le hM_138
            replace hv_119 := hv_119.le hM_138
            replace hv_123 := hv_123.le hM_138
            replace hv_127 := hv_127.le hM_138
            replace hv_131 := hv_131.le hM_138
            replace hv_135 := hv_135.le hM_138
            replace hv_137 := hv_137.le hM_138
            refine WL_guard_yes E rfl rfl ?_
            refine S_x (X_pu E S rfl rfl rfl (laws_eq hv_135 hv_139) (Hp.le.refl _) ?_)
            clear E a S; rintro a _ w M_140 hM_140 rfl S E
            replace h0 := h0.le hM_140
            replace h1 := h1.le hM_140
            replace hz_6 := hz_6.le hM_140
            replace hz_8 := hz_8.le hM_140
            replace hv_10 := hv_10.le hM_140
            replace hv_12 := hv_12.le hM_140
            replace hv_16 := hv_16.le hM_140
            replace hv_19 := hv_19.le hM_140
            replace hv_21 := hv_21.le hM_140
            replace hv_48 := hv_48.le hM_140
            replace hv_49 := hv_49.le hM_140
            replace hv_51 := hv_51.le hM_140
            replace hv_53 := hv_53.le hM_140
            replace hv_55 := hv_55.le hM_140
            replace hv_57 := hv_57.le hM_140
            replace hv_61 := hv_61.le hM_140
            replace hv_63 := hv_63.le hM_140
            replace hz_65 := hz_65.le hM_140
            replace hv_69 := hv_69.le hM_140
            replace hz_71 := hz_71.le hM_140
            replace hv_75 := hv_75.le hM_140
            replace hz_77 := hz_77.le hM_140
            replace hv_81 := hv_81.le hM_140
            replace hv_83 := hv_83.le hM_140
            replace hv_87 := hv_87.le hM_140
            replace hv_89 := hv_89.le hM_140
            replace hv_91 := hv_91.le hM_140
            replace hv_93 := hv_93.le hM_140
            replace hv_97 := hv_97.le hM_140
            replace hv_99 := hv_99.le hM_140
            replace hv_103 := hv_103.le hM_140
            replace hv_105 := hv_105.le hM_140
            replace hv_108 := hv_108.le RB1_mono hM_140
            replace hv_115 := hv_115.le hM_140
            replace hv_117 := hv_117.le hM_140
            replace hv_119 := hv_119.le hM_140
            replace hv_123 := hv_123.le hM_140
            replace hv_127 := hv_127.le hM_140
            replace hv_131 := hv_131.le hM_140
            replace hv_135 := hv_135.le hM_140
            replace hv_137 := hv_137.le hM_140
            replace hv_139 := hv_139.le hM_140
            refine WL_guard_yes E rfl rfl ?_
            refine S_v E rfl (R_not E rfl) rfl ?_
            clear E a; intro a E
            refine S_v E rfl (R_pickF E rfl rfl) rfl ?_
            clear E a; intro a E
            refine WL_nil ?_
            refine T_n ?_
            have hc_141 : (!(decide (suL ((l0).filter (fun z => decide (z ∉ l1)) ++ (l1).filter (fun z => decide (z ∉ l0))) = setI ((((setI (l0 ++ l1)).take k).filter (fun z => decide (z ∈ l0) && !decide (z ∈ l1))) ++ (((setI (l0 ++ l1)).take k).filter (fun z => !decide (z ∈ l0))))))) = false := by (clear S E; first | (simp [suL_card]; decide) | (simp only [Bool.not_eq_false', decide_eq_true_eq]; first | exact suL_set _ | (refine setI_eq fun z => ?_; simp [mem_keyL]; done) | (skip; (try rw [suL_set]); first | (refine setI_eq fun z => ?_; (simp only [mem_meet2, mem_keyL, List.flatten_cons, List.flatten_nil, List.append_nil, List.mem_append, List.mem_filter, decide_eq_true_eq, Bool.and_eq_true, Bool.not_eq_true', decide_eq_false_iff_not]; by_cases h1 : z ∈ l0 <;> by_cases h2 : z ∈ l1 <;> simp [h1, h2]; done)) | (refine road (by omega) fun z => ?_; (simp only [mem_meet2, mem_keyL, List.flatten_cons, List.flatten_nil, List.append_nil, List.mem_append, List.mem_filter, decide_eq_true_eq, Bool.and_eq_true, Bool.not_eq_true', decide_eq_false_iff_not]; by_cases h1 : z ∈ l0 <;> by_cases h2 : z ∈ l1 <;> simp [h1, h2]; done)) | (refine road2 (by omega) fun z => ?_; (simp only [mem_meet2, mem_keyL, List.flatten_cons, List.flatten_nil, List.append_nil, List.mem_append, List.mem_filter, decide_eq_true_eq, Bool.and_eq_true, Bool.not_eq_true', decide_eq_false_iff_not]; by_cases h1 : z ∈ l0 <;> by_cases h2 : z ∈ l1 <;> simp [h1, h2]; done)))))
            refine WP_condF E rfl hc_141 ?_
            refine WP_skip ?_
            refine B_n ?_
            refine T_n ?_
            refine WP_region ?_
            refine S_v E rfl (R_addx (m := ((i + 1 : Nat) : Int)) E rfl rfl (by omega) (by omega)) rfl ?_
            clear E a; intro a E
            refine S_v E rfl (R_move E rfl) rfl ?_
            clear E a; intro a E
            refine WL_nil ?_
            refine T_n ?_
            exact ⟨i + 1, ⟨M_140, (hM_110.trans (hM_114.trans (hM_116.trans (hM_118.trans (hM_120.trans (hM_122.trans (hM_124.trans (hM_126.trans (hM_128.trans (hM_130.trans (hM_132.trans (hM_134.trans (hM_136.trans (hM_138.trans hM_140)))))))))))))), S, E.keep ⟨rfl, rfl, rfl, rfl, rfl, rfl, rfl, rfl, trivial⟩, (by simp at *; omega)⟩, (by simp at *; omega)⟩
          · replace hc_111 := of_decide_eq_false hc_111
            refine WP_exit ?_
            refine T_x ?_
            refine T_x ?_
            refine B_x ?_
            refine T_n ?_
            refine WP_seq ?_
            refine WP_region ?_
            refine S_v E rfl (R_assign E rfl) rfl ?_
            clear E a; intro a E
            refine WL_nil ?_
            refine T_n ?_
            refine WP_ret ?_
            exact F_ret1 E Tryz.results9 rfl ⟨_, rfl, M_110, (hM_5.trans (hM_7.trans (hM_9.trans (hM_13.trans (hM_14.trans (hM_17.trans (hM_18.trans (hM_20.trans (hM_25.trans (hM_47.trans (hM_50.trans (hM_52.trans (hM_54.trans (hM_56.trans (hM_58.trans (hM_60.trans (hM_62.trans (hM_64.trans (hM_66.trans (hM_68.trans (hM_70.trans (hM_72.trans (hM_74.trans (hM_76.trans (hM_78.trans (hM_80.trans (hM_82.trans (hM_84.trans (hM_86.trans (hM_88.trans (hM_90.trans (hM_92.trans (hM_94.trans (hM_96.trans (hM_98.trans (hM_100.trans (hM_102.trans (hM_104.trans (hM_106.trans (hM_109.trans hM_110)))))))))))))))))))))))))))))))))))))))), rfl, S⟩

end Go.Proofs.YtlmpgefhnmfhpaaGreat.wFnSetRoads
