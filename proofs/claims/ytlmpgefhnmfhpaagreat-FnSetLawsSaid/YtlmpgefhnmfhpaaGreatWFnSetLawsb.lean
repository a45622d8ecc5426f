/- Walks through the functions that laws.FnSetLaws reaches: what each computes; no conditions beyond what each theorem states. -/
import Derived.Test.YtlmpgefhnmfhpaaGreatWFnSetLawsa
set_option linter.unusedVariables false
set_option linter.unusedSimpArgs false
namespace Go.Proofs.YtlmpgefhnmfhpaaGreat.wFnSetLaws
open Go Go.Sl
set_option maxRecDepth 100000 in
set_option maxHeartbeats 4000000 in
theorem laws_FnSetLaws {M : Hp} {x0 : Bool} {v1 v2 v3 : Value} {l1 l2 l3 : List Int} (h1 : RdI M v1 l1) (h2 : RdI M v2 l2) (h3 : RdI M v3 l3) :
    PuC Tryz.prog 3 M [.bool x0, v1, v2, v3] (fun r M' => r = .bool true) := by
  refine PuC_enter Tryz.func3 rfl Tryz.ntmps3 rfl ?_
  intro a w M1 H hM1 S E
  replace h1 := h1.le hM1
  replace h2 := h2.le hM1
  replace h3 := h3.le hM1
  have b1 := h1.bound
  have b2 := h2.bound
  have b3 := h3.bound
  refine WP_seq ?_
  refine WP_region ?_
  refine S_x (X_box (cs := #[.bool x0]) E S rfl rfl rfl ?_)
  clear E a S; rintro a w b_1 E S
  obtain ⟨M_2, hM_2, hb_1, S⟩ := S.freezeB
  replace h1 := h1.le hM_2
  replace h2 := h2.le hM_2
  replace h3 := h3.le hM_2
  refine S_v E rfl (R_assign E rfl) rfl ?_
  clear E a; intro a E
  refine WL_nil ?_
  refine T_n ?_
  refine WP_seq ?_
  refine WP_seq ?_
  refine WP_region ?_
  refine S_v E rfl (R_move E rfl) rfl ?_
  clear E a; intro a E
  refine S_v E rfl (R_lenV E rfl T22 h1.len) rfl ?_
  clear E a; intro a E
  refine S_v E rfl (R_gtr E rfl rfl) rfl ?_
  clear E a; intro a E
  refine S_v E rfl (R_move E rfl) rfl ?_
  clear E a; intro a E
  refine split_bool (decide (2147483647 < (((l1).length : Nat) : Int))) (fun hc_3 => ?_) (fun hc_3 => ?_)
  · replace E := E.val (t := 15) rfl hc_3
    replace E := E.val (t := 16) rfl hc_3
    replace hc_3 := of_decide_eq_true hc_3
    refine WL_guard_no E rfl rfl rfl rfl fun a E => ?_
    refine WL_guard_no E rfl rfl rfl rfl fun a E => ?_
    refine WL_guard_no E rfl rfl rfl rfl fun a E => ?_
    refine S_v E rfl (R_pickT E rfl rfl) rfl ?_
    clear E a; intro a E
    refine S_v E rfl (R_move E rfl) rfl ?_
    clear E a; intro a E
    refine WL_guard_no E rfl rfl rfl rfl fun a E => ?_
    refine WL_guard_no E rfl rfl rfl rfl fun a E => ?_
    refine WL_guard_no E rfl rfl rfl rfl fun a E => ?_
    refine S_v E rfl (R_pickT E rfl rfl) rfl ?_
    clear E a; intro a E
    refine WL_nil ?_
    refine T_n ?_
    refine WP_condT E rfl rfl ?_
    refine WP_seq ?_
    refine WP_region ?_
    refine S_v E rfl (R_assign E rfl) rfl ?_
    clear E a; intro a E
    refine WL_nil ?_
    refine T_n ?_
    refine WP_ret ?_
    refine T_r ?_
    exact F_ret1 E Tryz.results3 rfl ⟨_, rfl, M_2, hM_2, rfl, S⟩
  · replace E := E.val (t := 15) rfl hc_3
    replace E := E.val (t := 16) rfl hc_3
    replace hc_3 := of_decide_eq_false hc_3
    refine WL_guard_yes E rfl rfl ?_
    refine S_v E rfl (R_move E rfl) rfl ?_
    clear E a; intro a E
    refine WL_guard_yes E rfl rfl ?_
    refine S_v E rfl (R_lenV E rfl T22 h2.len) rfl ?_
    clear E a; intro a E
    refine WL_guard_yes E rfl rfl ?_
    refine S_v E rfl (R_gtr E rfl rfl) rfl ?_
    clear E a; intro a E
    refine S_v E rfl (R_pickF E rfl rfl) rfl ?_
    clear E a; intro a E
    refine S_v E rfl (R_move E rfl) rfl ?_
    clear E a; intro a E
    refine split_bool (decide (2147483647 < (((l2).length : Nat) : Int))) (fun hc_4 => ?_) (fun hc_4 => ?_)
    · replace E := E.val (t := 19) rfl hc_4
      replace E := E.val (t := 20) rfl hc_4
      replace E := E.val (t := 21) rfl hc_4
      replace hc_4 := of_decide_eq_true hc_4
      refine WL_guard_no E rfl rfl rfl rfl fun a E => ?_
      refine WL_guard_no E rfl rfl rfl rfl fun a E => ?_
      refine WL_guard_no E rfl rfl rfl rfl fun a E => ?_
      refine S_v E rfl (R_pickT E rfl rfl) rfl ?_
      clear E a; intro a E
      refine WL_nil ?_
      refine T_n ?_
      refine WP_condT E rfl rfl ?_
      refine WP_seq ?_
      refine WP_region ?_
      refine S_v E rfl (R_assign E rfl) rfl ?_
      clear E a; intro a E
      refine WL_nil ?_
      refine T_n ?_
      refine WP_ret ?_
      refine T_r ?_
      exact F_ret1 E Tryz.results3 rfl ⟨_, rfl, M_2, hM_2, rfl, S⟩
    · replace E := E.val (t := 19) rfl hc_4
      replace E := E.val (t := 20) rfl hc_4
      replace E := E.val (t := 21) rfl hc_4
      replace hc_4 := of_decide_eq_false hc_4
      refine WL_guard_yes E rfl rfl ?_
      refine S_v E rfl (R_move E rfl) rfl ?_
      clear E a; intro a E
      refine WL_guard_yes E rfl rfl ?_
      refine S_v E rfl (R_lenV E rfl T22 h3.len) rfl ?_
      clear E a; intro a E
      refine WL_guard_yes E rfl rfl ?_
      refine S_v E rfl (R_gtr E rfl rfl) rfl ?_
      clear E a; intro a E
      refine S_v E rfl (R_pickF E rfl rfl) rfl ?_
      clear E a; intro a E
      refine WL_nil ?_
      refine T_n ?_
      refine WP_cond E rfl (fun hc_5 => ?_) (fun hc_5 => ?_)
      · replace hc_5 := of_decide_eq_true hc_5
        refine WP_seq ?_
        refine WP_region ?_
        refine S_v E rfl (R_assign E rfl) rfl ?_
        clear E a; intro a E
        refine WL_nil ?_
        refine T_n ?_
        refine WP_ret ?_
        refine T_r ?_
        exact F_ret1 E Tryz.results3 rfl ⟨_, rfl, M_2, hM_2, rfl, S⟩
      · replace hc_5 := of_decide_eq_false hc_5
        refine WP_skip ?_
        refine T_n ?_
        refine WP_seq ?_
        refine WP_seq ?_
        refine WP_region ?_
        refine S_v E rfl (R_loadM E rfl Tryz.isAgg4 S.imm (cellM_box hb_1)) rfl ?_
        clear E a; intro a E
        refine S_x (X_buildI (ys := [1]) E S rfl T22 rfl rfl rfl ?_)
        clear E a S; rintro a w v_6 E S
        refine S_x (X_buildI (ys := [2]) E S rfl T22 rfl rfl rfl ?_)
        clear E a S; rintro a w v_7 E S
        replace S := S.front1
        have S0 := S; clear S
        obtain ⟨M_8, hM_8, hz_9, S⟩ := S0.freezeI (by (first | omega | (simp; done)))
        clear S0
        replace h1 := h1.le hM_8
        replace h2 := h2.le hM_8
        replace h3 := h3.le hM_8
        replace hb_1 := hM_8.2 _ _ hb_1
        have S0 := S; clear S
        obtain ⟨M_10, hM_10, hz_11, S⟩ := S0.freezeI (by (first | omega | (simp; done)))
        clear S0
        replace h1 := h1.le hM_10
        replace h2 := h2.le hM_10
        replace h3 := h3.le hM_10
        replace hb_1 := hM_10.2 _ _ hb_1
        replace hz_9 := hz_9.le hM_10
        refine S_x (X_pu E S rfl rfl rfl (impl_SetUnion hz_9 hz_11 (by first | assumption | omega | (simp; done)) (by first | assumption | omega | (simp; done))) (Hp.le.refl _) ?_)
        clear E a S; rintro a v_13 w M_12 hM_12 hv_13 S E
        replace h1 := h1.le hM_12
        replace h2 := h2.le hM_12
        replace h3 := h3.le hM_12
        replace hb_1 := hM_12.2 _ _ hb_1
        replace hz_9 := hz_9.le hM_12
        replace hz_11 := hz_11.le hM_12
        have hzl := suL_len ([1] ++ [2])
        rw [List.length_append] at hzl
        refine S_v E rfl (R_lenV E rfl T22 hv_13.len) rfl ?_
        clear E a; intro a E
        refine S_v E rfl (R_neq E rfl rfl) rfl ?_
        clear E a; intro a E
        refine WL_nil ?_
        refine T_n ?_
        have hc_14 : (decide ((((suL ([1] ++ [2])).length : Nat) : Int) ≠ 2)) = false := by (clear S E; first | (refine decide_eq_true ?_; first | rfl | (refine suL_eq fun x => ?_; simp only [mem_suL, List.mem_append, List.mem_filter, decide_eq_true_eq]; by_cases hx0 : x ∈ l1 <;> by_cases hx1 : x ∈ l2 <;> by_cases hx2 : x ∈ l3 <;> simp only [hx0, hx1, hx2, not_true_eq_false, not_false_eq_true, and_true, true_and, and_false, false_and, or_true, true_or, or_false, false_or, and_self, or_self])) | (refine decide_eq_true ?_; simp only [suL_card]; have h9 := card_incl l1 l2; omega) | (refine decide_eq_false ?_; have h9 : (suL (([1] : List Int) ++ [2])).length = 2 := (by rw [suL_card]; decide +kernel); omega))
        refine WP_condF E rfl hc_14 ?_
        refine WP_skip ?_
        refine T_n ?_
        refine WP_seq ?_
        refine WP_seq ?_
        refine WP_region ?_
        refine S_v E rfl (R_move E rfl) rfl ?_
        clear E a; intro a E
        refine S_v E rfl (R_move E rfl) rfl ?_
        clear E a; intro a E
        refine S_v E rfl (R_move E rfl) rfl ?_
        clear E a; intro a E
        refine S_x (X_buildM (R := RSl 1 RInt) (vs := [v1, v2, v3]) (xs := [l1, l2, l3]) (RSl_mono RInt_mono) E S rfl T36 rfl rfl rfl (by intro u hu; simp only [List.mem_cons, List.not_mem_nil, or_false] at hu; rcases hu with rfl | rfl | rfl <;> first | exact RdI.one h1 | exact RdI.one h2 | exact RdI.one h3 | rfl) rfl (rowsC (R := RSl 1 RInt) (RdI.row h1) (rowsC (R := RSl 1 RInt) (RdI.row h2) (rowsC (R := RSl 1 RInt) (RdI.row h3) rowsN))) ?_)
        clear E a S; rintro a v_15 w M_16 hM_16 hv_15 S E
        replace hv_15 : RdII M_16 v_15 [l1, l2, l3] := hv_15
        replace h1 := h1.le hM_16
        replace h2 := h2.le hM_16
        replace h3 := h3.le hM_16
        replace hb_1 := hM_16.2 _ _ hb_1
        replace hz_9 := hz_9.le hM_16
        replace hz_11 := hz_11.le hM_16
        replace hv_13 := hv_13.le hM_16
        refine S_x (X_pu E S rfl rfl rfl (laws_few hv_15) (Hp.le.refl _) ?_)
        clear E a S; rintro a _ w M_17 hM_17 rfl S E
        replace h1 := h1.le hM_17
        replace h2 := h2.le hM_17
        replace h3 := h3.le hM_17
        replace hb_1 := hM_17.2 _ _ hb_1
        replace hz_9 := hz_9.le hM_17
        replace hz_11 := hz_11.le hM_17
        replace hv_13 := hv_13.le hM_17
        replace hv_15 := hv_15.le hM_17
        refine S_v E rfl (R_not E rfl) rfl ?_
        clear E a; intro a E
        refine WL_nil ?_
        refine T_n ?_
        refine WP_cond E rfl (fun hc_18 => ?_) (fun hc_18 => ?_)
        · refine WP_seq ?_
          refine WP_region ?_
          refine S_v E rfl (R_assign E rfl) rfl ?_
          clear E a; intro a E
          refine WL_nil ?_
          refine T_n ?_
          refine WP_ret ?_
          refine T_r ?_
          exact F_ret1 E Tryz.results3 rfl ⟨_, rfl, M_17, (hM_2.trans (hM_8.trans (hM_10.trans (hM_12.trans (hM_16.trans hM_17))))), rfl, S⟩
        · have hle : l1.length ≤ 300 ∧ l2.length ≤ 300 ∧ l3.length ≤ 300 := (by simp_all)
          obtain ⟨hle1, hle2, hle3⟩ := hle
          refine WP_skip ?_
          refine T_n ?_
          refine WP_seq ?_
          refine WP_region ?_
          refine S_v E rfl (R_makeFunc E rfl rfl) rfl ?_
          clear E a; intro a E
          refine S_v E rfl (R_assign E rfl) rfl ?_
          clear E a; intro a E
          refine WL_nil ?_
          refine T_n ?_
          refine WP_seq ?_
          refine WP_region ?_
          refine S_v E rfl (R_makeFunc E rfl rfl) rfl ?_
          clear E a; intro a E
          refine S_v E rfl (R_assign E rfl) rfl ?_
          clear E a; intro a E
          refine WL_nil ?_
          refine T_n ?_
          refine WP_seq ?_
          refine WP_region ?_
          refine S_v E rfl (R_makeFunc E rfl rfl) rfl ?_
          clear E a; intro a E
          refine S_v E rfl (R_assign E rfl) rfl ?_
          clear E a; intro a E
          refine WL_nil ?_
          refine T_n ?_
          refine WP_seq ?_
          refine WP_region ?_
          refine S_v E rfl (R_makeFunc E rfl rfl) rfl ?_
          clear E a; intro a E
          refine S_v E rfl (R_assign E rfl) rfl ?_
          clear E a; intro a E
          refine WL_nil ?_
          refine T_n ?_
          refine WP_seq ?_
          refine WP_region ?_
          refine S_v E rfl (R_move E rfl) rfl ?_
          clear E a; intro a E
          refine S_v E rfl (R_move E rfl) rfl ?_
          clear E a; intro a E
          refine S_v E rfl (R_move E rfl) rfl ?_
          clear E a; intro a E
          refine S_v E rfl (R_move E rfl) rfl ?_
          clear E a; intro a E
          refine S_x (X_pu E S rfl rfl rfl (laws_FnSetLaws_1 h1 h2 (by first | assumption | omega) (by first | assumption | omega) hb_1) (Hp.le.refl _) ?_)
          clear E a S; rintro a v_20 w M_19 hM_19 hv_20 S E
          replace h1 := h1.le hM_19
          replace h2 := h2.le hM_19
          replace h3 := h3.le hM_19
          replace hb_1 := hM_19.2 _ _ hb_1
          replace hz_9 := hz_9.le hM_19
          replace hz_11 := hz_11.le hM_19
          replace hv_13 := hv_13.le hM_19
          replace hv_15 := hv_15.le hM_19
          have hzl := suL_len (l1 ++ l2)
          rw [List.length_append] at hzl
          refine S_v E rfl (R_move E rfl) rfl ?_
          clear E a; intro a E
          refine S_x (X_pu E S rfl rfl rfl (laws_FnSetLaws_1 hv_20 h3 (by first | assumption | omega) (by first | assumption | omega) hb_1) (Hp.le.refl _) ?_)
          clear E a S; rintro a v_22 w M_21 hM_21 hv_22 S E
          replace h1 := h1.le hM_21
          replace h2 := h2.le hM_21
          replace h3 := h3.le hM_21
          replace hb_1 := hM_21.2 _ _ hb_1
          replace hz_9 := hz_9.le hM_21
          replace hz_11 := hz_11.le hM_21
          replace hv_13 := hv_13.le hM_21
          replace hv_15 := hv_15.le hM_21
          replace hv_20 := hv_20.le hM_21
          have hzl := suL_len ((suL (l1 ++ l2)) ++ l3)
          rw [List.length_append] at hzl
          refine S_v E rfl (R_move E rfl) rfl ?_
          clear E a; intro a E
          refine S_v E rfl (R_move E rfl) rfl ?_
          clear E a; intro a E
          refine S_v E rfl (R_move E rfl) rfl ?_
          clear E a; intro a E
          refine S_v E rfl (R_move E rfl) rfl ?_
          clear E a; intro a E
          refine S_v E rfl (R_move E rfl) rfl ?_
          clear E a; intro a E
          refine S_x (X_pu E S rfl rfl rfl (laws_FnSetLaws_1 h2 h3 (by first | assumption | omega) (by first | assumption | omega) hb_1) (Hp.le.refl _) ?_)
          clear E a S; rintro a v_24 w M_23 hM_23 hv_24 S E
          replace h1 := h1.le hM_23
          replace h2 := h2.le hM_23
          replace h3 := h3.le hM_23
          replace hb_1 := hM_23.2 _ _ hb_1
          replace hz_9 := hz_9.le hM_23
          replace hz_11 := hz_11.le hM_23
          replace hv_13 := hv_13.le hM_23
          replace hv_15 := hv_15.le hM_23
          replace hv_20 := hv_20.le hM_23
          replace hv_22 := hv_22.le hM_23
          have hzl := suL_len (l2 ++ l3)
          rw [List.length_append] at hzl
          refine S_x (X_pu E S rfl rfl rfl (laws_FnSetLaws_1 h1 hv_24 (by first | assumption | omega) (by first | assumption | omega) hb_1) (Hp.le.refl _) ?_)
          clear E a S; rintro a v_26 w M_25 hM_25 hv_26 S E
          replace h1 := h1.le hM_25
          replace h2 := h2.le hM_25
          replace h3 := h3.le hM_25
          replace hb_1 := hM_25.2 _ _ hb_1
          replace hz_9 := hz_9.le hM_25
          replace hz_11 := hz_11.le hM_25
          replace hv_13 := hv_13.le hM_25
          replace hv_15 := hv_15.le hM_25
          replace hv_20 := hv_20.le hM_25
          replace hv_22 := hv_22.le hM_25
          replace hv_24 := hv_24.le hM_25
          have hzl := suL_len (l1 ++ (suL (l2 ++ l3)))
          rw [List.length_append] at hzl
          refine S_x (X_pu E S rfl rfl rfl (laws_eq hv_22 hv_26) (Hp.le.refl _) ?_)
          clear E a S; rintro a _ w M_27 hM_27 rfl S E
          replace h1 := h1.le hM_27
          replace h2 := h2.le hM_27
          replace h3 := h3.le hM_27
          replace hb_1 := hM_27.2 _ _ hb_1
          replace hz_9 := hz_9.le hM_27
          replace hz_11 := hz_11.le hM_27
          replace hv_13 := hv_13.le hM_27
          replace hv_15 := hv_15.le hM_27
          replace hv_20 := hv_20.le hM_27
          replace hv_22 := hv_22.le hM_27
          replace hv_24 := hv_24.le hM_27
          replace hv_26 := hv_26.le hM_27
          refine S_v E rfl (R_move E rfl) rfl ?_
          clear E a; intro a E
          have hc_28 : (decide (suL ((suL (l1 ++ l2)) ++ l3) = suL (l1 ++ (suL (l2 ++ l3))))) = true := by (clear S E; first | (refine decide_eq_true ?_; first | rfl | (refine suL_eq fun x => ?_; simp only [mem_suL, List.mem_append, List.mem_filter, decide_eq_true_eq]; by_cases hx0 : x ∈ l1 <;> by_cases hx1 : x ∈ l2 <;> by_cases hx2 : x ∈ l3 <;> simp only [hx0, hx1, hx2, not_true_eq_false, not_false_eq_true, and_true, true_and, and_false, false_and, or_true, true_or, or_false, false_or, and_self, or_self])) | (refine decide_eq_true ?_; simp only [suL_card]; have h9 := card_incl l1 l2; omega) | (refine decide_eq_false ?_; have h9 : (suL (([1] : List Int) ++ [2])).length = 2 := (by rw [suL_card]; decide +kernel); omega))
          replace E := E.val (t := 56) rfl hc_28
          replace E := E.val (t := 57) rfl hc_28
          refine WL_guard_yes E rfl rfl ?_
          refine S_v E rfl (R_move E rfl) rfl ?_
          clear E a; intro a E
          refine WL_guard_yes E rfl rfl ?_
          refine S_v E rfl (R_move E rfl) rfl ?_
          clear E a; intro a E
          refine WL_guard_yes E rfl rfl ?_
          refine S_v E rfl (R_move E rfl) rfl ?_
          clear E a; intro a E
          refine WL_guard_yes E rfl rfl ?_
          refine S_v E rfl (R_move E rfl) rfl ?_
          clear E a; intro a E
          refine WL_guard_yes E rfl rfl ?_
          refine S_x (X_pu E S rfl rfl rfl (laws_FnSetLaws_2 h1 h2 (by first | assumption | omega) (by first | assumption | omega) hb_1) (Hp.le.refl _) ?_)
          clear E a S; rintro a v_30 w M_29 hM_29 hv_30 S E
          replace h1 := h1.le hM_29
          replace h2 := h2.le hM_29
          replace h3 := h3.le hM_29
          replace hb_1 := hM_29.2 _ _ hb_1
          replace hz_9 := hz_9.le hM_29
          replace hz_11 := hz_11.le hM_29
          replace hv_13 := hv_13.le hM_29
          replace hv_15 := hv_15.le hM_29
          replace hv_20 := hv_20.le hM_29
          replace hv_22 := hv_22.le hM_29
          replace hv_24 := hv_24.le hM_29
          replace hv_26 := hv_26.le hM_29
          have hzl := Nat.le_trans (suL_len ((l1).filter (fun z => decide (z ∈ l2)))) (List.length_filter_le _ _)
          refine WL_guard_yes E rfl rfl ?_
          refine S_v E rfl (R_move E rfl) rfl ?_
          clear E a; intro a E
          refine WL_guard_yes E rfl rfl ?_
          refine S_x (X_pu E S rfl rfl rfl (laws_FnSetLaws_2 hv_30 h3 (by first | assumption | omega) (by first | assumption | omega) hb_1) (Hp.le.refl _) ?_)
          clear E a S; rintro a v_32 w M_31 hM_31 hv_32 S E
          replace h1 := h1.le hM_31
          replace h2 := h2.le hM_31
          replace h3 := h3.le hM_31
          replace hb_1 := hM_31.2 _ _ hb_1
          replace hz_9 := hz_9.le hM_31
          replace hz_11 := hz_11.le hM_31
          replace hv_13 := hv_13.le hM_31
          replace hv_15 := hv_15.le hM_31
          replace hv_20 := hv_20.le hM_31
          replace hv_22 := hv_22.le hM_31
          replace hv_24 := hv_24.le hM_31
          replace hv_26 := hv_26.le hM_31
          replace hv_30 := hv_30.le hM_31
          have hzl := Nat.le_trans (suL_len ((suL ((l1).filter (fun z => decide (z ∈ l2)))).filter (fun z => decide (z ∈ l3)))) (List.length_filter_le _ _)
          refine WL_guard_yes E rfl rfl ?_
          refine S_v E rfl (R_move E rfl) rfl ?_
          clear E a; intro a E
          refine WL_guard_yes E rfl rfl ?_
          refine S_v E rfl (R_move E rfl) rfl ?_
          clear E a; intro a E
          refine WL_guard_yes E rfl rfl ?_
          refine S_v E rfl (R_move E rfl) rfl ?_
          clear E a; intro a E
          refine WL_guard_yes E rfl rfl ?_
          refine S_v E rfl (R_move E rfl) rfl ?_
          clear E a; intro a E
          refine WL_guard_yes E rfl rfl ?_
          refine S_v E rfl (R_move E rfl) rfl ?_
          clear E a; intro a E
          refine WL_guard_yes E rfl rfl ?_
          refine S_x (X_pu E S rfl rfl rfl (laws_FnSetLaws_2 h2 h3 (by first | assumption | omega) (by first | assumption | omega) hb_1) (Hp.le.refl _) ?_)
          clear E a S; rintro a v_34 w M_33 hM_33 hv_34 S E
          replace h1 := h1.le hM_33
          replace h2 := h2.le hM_33
          replace h3 := h3.le hM_33
          replace hb_1 := hM_33.2 _ _ hb_1
          replace hz_9 := hz_9.le hM_33
          replace hz_11 := hz_11.le hM_33
          replace hv_13 := hv_13.le hM_33
          replace hv_15 := hv_15.le hM_33
          replace hv_20 := hv_20.le hM_33
          replace hv_22 := hv_22.le hM_33
          replace hv_24 := hv_24.le hM_33
          replace hv_26 := hv_26.le hM_33
          replace hv_30 := hv_30.le hM_33
          replace hv_32 := hv_32.le hM_33
          have hzl := Nat.le_trans (suL_len ((l2).filter (fun z => decide (z ∈ l3)))) (List.length_filter_le _ _)
          refine WL_guard_yes E rfl rfl ?_
          refine S_x (X_pu E S rfl rfl rfl (laws_FnSetLaws_2 h1 hv_34 (by first | assumption | omega) (by first | assumption | omega) hb_1) (Hp.le.refl _) ?_)
          clear E a S; rintro a v_36 w M_35 hM_35 hv_36 S E
          replace h1 := h1.le hM_35
          replace h2 := h2.le hM_35
          replace h3 := h3.le hM_35
          replace hb_1 := hM_35.2 _ _ hb_1
          replace hz_9 := hz_9.le hM_35
          replace hz_11 := hz_11.le hM_35
          replace hv_13 := hv_13.le hM_35
          replace hv_15 := hv_15.le hM_35
          replace hv_20 := hv_20.le hM_35
          replace hv_22 := hv_22.le hM_35
          replace hv_24 := hv_24.le hM_35
          replace hv_26 := hv_26.le hM_35
          replace hv_30 := hv_30.le hM_35
          replace hv_32 := hv_32.le hM_35
          replace hv_34 := hv_34.le hM_35
          have hzl := Nat.le_trans (suL_len ((l1).filter (fun z => decide (z ∈ (suL ((l2).filter (fun z => decide (z ∈ l3)))))))) (List.length_filter_le _ _)
          refine WL_guard_yes E rfl rfl ?_
          refine S_x (X_pu E S rfl rfl rfl (laws_eq hv_32 hv_36) (Hp.le.refl _) ?_)
          clear E a S; rintro a _ w M_37 hM_37 rfl S E
          replace h1 := h1.le hM_37
          replace h2 := h2.le hM_37
          replace h3 := h3.le hM_37
          replace hb_1 := hM_37.2 _ _ hb_1
          replace hz_9 := hz_9.le hM_37
          replace hz_11 := hz_11.le hM_37
          replace hv_13 := hv_13.le hM_37
          replace hv_15 := hv_15.le hM_37
          replace hv_20 := hv_20.le hM_37
          replace hv_22 := hv_22.le hM_37
          replace hv_24 := hv_24.le hM_37
          replace hv_26 := hv_26.le hM_37
          replace hv_30 := hv_30.le hM_37
          replace hv_32 := hv_32.le hM_37
          replace hv_34 := hv_34.le hM_37
          replace hv_36 := hv_36.le hM_37
          refine S_v E rfl (R_pickT E rfl rfl) rfl ?_
          clear E a; intro a E
          refine S_v E rfl (R_move E rfl) rfl ?_
          clear E a; intro a E
          have hc_38 : (decide (suL ((suL ((l1).filter (fun z => decide (z ∈ l2)))).filter (fun z => decide (z ∈ l3))) = suL ((l1).filter (fun z => decide (z ∈ (suL ((l2).filter (fun z => decide (z ∈ l3))))))))) = true := by (clear S E; first | (refine decide_eq_true ?_; first | rfl | (refine suL_eq fun x => ?_; simp only [mem_suL, List.mem_append, List.mem_filter, decide_eq_true_eq]; by_cases hx0 : x ∈ l1 <;> by_cases hx1 : x ∈ l2 <;> by_cases hx2 : x ∈ l3 <;> simp only [hx0, hx1, hx2, not_true_eq_false, not_false_eq_true, and_true, true_and, and_false, false_and, or_true, true_or, or_false, false_or, and_self, or_self])) | (refine decide_eq_true ?_; simp only [suL_card]; have h9 := card_incl l1 l2; omega) | (refine decide_eq_false ?_; have h9 : (suL (([1] : List Int) ++ [2])).length = 2 := (by rw [suL_card]; decide +kernel); omega))
          replace E := E.val (t := 72) rfl hc_38
          replace E := E.val (t := 73) rfl hc_38
          replace E := E.val (t := 74) rfl hc_38
          refine WL_guard_yes E rfl rfl ?_
          refine S_v E rfl (R_move E rfl) rfl ?_
          clear E a; intro a E
          refine WL_guard_yes E rfl rfl ?_
          refine S_v E rfl (R_move E rfl) rfl ?_
          clear E a; intro a E
          refine WL_guard_yes E rfl rfl ?_
          refine S_v E rfl (R_move E rfl) rfl ?_
          clear E a; intro a E
          refine WL_guard_yes E rfl rfl ?_
          refine S_x (X_pu E S rfl rfl rfl (laws_FnSetLaws_1 h1 h2 (by first | assumption | omega) (by first | assumption | omega) hb_1) (Hp.le.refl _) ?_)
          clear E a S; rintro a v_40 w M_39 hM_39 hv_40 S E
          replace h1 := h1.le hM_39
          replace h2 := h2.le hM_39
          replace h3 := h3.le hM_39
          replace hb_1 := hM_39.2 _ _ hb_1
          replace hz_9 := hz_9.le hM_39
          replace hz_11 := hz_11.le hM_39
          replace hv_13 := hv_13.le hM_39
          replace hv_15 := hv_15.le hM_39
          replace hv_20 := hv_20.le hM_39
          replace hv_22 := hv_22.le hM_39
          replace hv_24 := hv_24.le hM_39
          replace hv_26 := hv_26.le hM_39
          replace hv_30 := hv_30.le hM_39
          replace hv_32 := hv_32.le hM_39
          replace hv_34 := hv_34.le hM_39
          replace hv_36 := hv_36.le hM_39
          have hzl := suL_len (l1 ++ l2)
          rw [List.length_append] at hzl
          refine WL_guard_yes E rfl rfl ?_
          refine S_v E rfl (R_move E rfl) rfl ?_
          clear E a; intro a E
          refine WL_guard_yes E rfl rfl ?_
          refine S_v E rfl (R_move E rfl) rfl ?_
          clear E a; intro a E
          refine WL_guard_yes E rfl rfl ?_
          refine S_v E rfl (R_move E rfl) rfl ?_
          clear E a; intro a E
          refine WL_guard_yes E rfl rfl ?_
          refine S_x (X_pu E S rfl rfl rfl (laws_FnSetLaws_1 h2 h1 (by first | assumption | omega) (by first | assumption | omega) hb_1) (Hp.le.refl _) ?_)
          clear E a S; rintro a v_42 w M_41 hM_41 hv_42 S E
          replace h1 := h1.le hM_41
          replace h2 := h2.le hM_41
          replace h3 := h3.le hM_41
          replace hb_1 := hM_41.2 _ _ hb_1
          replace hz_9 := hz_9.le hM_41
          replace hz_11 := hz_11.le hM_41
          replace hv_13 := hv_13.le hM_41
          replace hv_15 := hv_15.le hM_41
          replace hv_20 := hv_20.le hM_41
          replace hv_22 := hv_22.le hM_41
          replace hv_24 := hv_24.le hM_41
          replace hv_26 := hv_26.le hM_41
          replace hv_30 := hv_30.le hM_41
          replace hv_32 := hv_32.le hM_41
          replace hv_34 := hv_34.le hM_41
          replace hv_36 := hv_36.le hM_41
          replace hv_40 := hv_40.le hM_41
          have hzl := suL_len (l2 ++ l1)
          rw [List.length_append] at hzl
          refine WL_guard_yes E rfl rfl ?_
          refine S_x (X_pu E S rfl rfl rfl (laws_eq hv_40 hv_42) (Hp.le.refl _) ?_)
          clear E a S; rintro a _ w M_43 hM_43 rfl S E
          replace h1 := h1.le hM_43
          replace h2 := h2.le hM_43
          replace h3 := h3.le hM_43
          replace hb_1 := hM_43.2 _ _ hb_1
          replace hz_9 := hz_9.le hM_43
          replace hz_11 := hz_11.le hM_43
          replace hv_13 := hv_13.le hM_43
          replace hv_15 := hv_15.le hM_43
          replace hv_20 := hv_20.le hM_43
          replace hv_22 := hv_22.le hM_43
          replace hv_24 := hv_24.le hM_43
          replace hv_26 := hv_26.le hM_43
          replace hv_30 := hv_30.le hM_43
          replace hv_32 := hv_32.le hM_43
          replace hv_34 := hv_34.le hM_43
          replace hv_36 := hv_36.le hM_43
          replace hv_40 := hv_40.le hM_43
          replace hv_42 := hv_42.le hM_43
          refine S_v E rfl (R_pickT E rfl rfl) rfl ?_
          clear E a; intro a E
          refine S_v E rfl (R_move E rfl) rfl ?_
          clear E a; intro a E
          have hc_44 : (decide (suL (l1 ++ l2) = suL (l2 ++ l1))) = true := by (clear S E; first | (refine decide_eq_true ?_; first | rfl | (refine suL_eq fun x => ?_; simp only [mem_suL, List.mem_append, List.mem_filter, decide_eq_true_eq]; by_cases hx0 : x ∈ l1 <;> by_cases hx1 : x ∈ l2 <;> by_cases hx2 : x ∈ l3 <;> simp only [hx0, hx1, hx2, not_true_eq_false, not_false_eq_true, and_true, true_and, and_false, false_and, or_true, true_or, or_false, false_or, and_self, or_self])) | (refine decide_eq_true ?_; simp only [suL_card]; have h9 := card_incl l1 l2; omega) | (refine decide_eq_false ?_; have h9 : (suL (([1] : List Int) ++ [2])).length = 2 := (by rw [suL_card]; decide +kernel); omega))
          replace E := E.val (t := 83) rfl hc_44
          replace E := E.val (t := 84) rfl hc_44
          replace E := E.val (t := 85) rfl hc_44
          refine WL_guard_yes E rfl rfl ?_
          refine S_v E rfl (R_move E rfl) rfl ?_
          clear E a; intro a E
          refine WL_guard_yes E rfl rfl ?_
          refine S_v E rfl (R_move E rfl) rfl ?_
          clear E a; intro a E
          refine WL_guard_yes E rfl rfl ?_
          refine S_v E rfl (R_move E rfl) rfl ?_
          clear E a; intro a E
          refine WL_guard_yes E rfl rfl ?_
          refine S_x (X_pu E S rfl rfl rfl (laws_FnSetLaws_2 h1 h2 (by first | assumption | omega) (by first | assumption | omega) hb_1) (Hp.le.refl _) ?_)
          clear E a S; rintro a v_46 w M_45 hM_45 hv_46 S E
          replace h1 := h1.le hM_45
          replace h2 := h2.le hM_45
          replace h3 := h3.le hM_45
          replace hb_1 := hM_45.2 _ _ hb_1
          replace hz_9 := hz_9.le hM_45
          replace hz_11 := hz_11.le hM_45
          replace hv_13 := hv_13.le hM_45
          replace hv_15 := hv_15.le hM_45
          replace hv_20 := hv_20.le hM_45
          replace hv_22 := hv_22.le hM_45
          replace hv_24 := hv_24.le hM_45
          replace hv_26 := hv_26.le hM_45
          replace hv_30 := hv_30.le hM_45
          replace hv_32 := hv_32.le hM_45
          replace hv_34 := hv_34.le hM_45
          replace hv_36 := hv_36.le hM_45
          replace hv_40 := hv_40.le hM_45
          replace hv_42 := hv_42.le hM_45
          have hzl := Nat.le_trans (suL_len ((l1).filter (fun z => decide (z ∈ l2)))) (List.length_filter_le _ _)
          refine WL_guard_yes E rfl rfl ?_
          refine S_v E rfl (R_move E rfl) rfl ?_
          clear E a; intro a E
          refine WL_guard_yes E rfl rfl ?_
          refine S_v E rfl (R_move E rfl) rfl ?_
          clear E a; intro a E
          refine WL_guard_yes E rfl rfl ?_
          refine S_v E rfl (R_move E rfl) rfl ?_
          clear E a; intro a E
          refine WL_guard_yes E rfl rfl ?_
          refine S_x (X_pu E S rfl rfl rfl (laws_FnSetLaws_2 h2 h1 (by first | assumption | omega) (by first | assumption | omega) hb_1) (Hp.le.refl _) ?_)
          clear E a S; rintro a v_48 w M_47 hM_47 hv_48 S E
          replace h1 := h1.le hM_47
          replace h2 := h2.le hM_47
          replace h3 := h3.le hM_47
          replace hb_1 := hM_47.2 _ _ hb_1
          replace hz_9 := hz_9.le hM_47
          replace hz_11 := hz_11.le hM_47
          replace hv_13 := hv_13.le hM_47
          replace hv_15 := hv_15.le hM_47
          replace hv_20 := hv_20.le hM_47
          replace hv_22 := hv_22.le hM_47
          replace hv_24 := hv_24.le hM_47
          replace hv_26 := hv_26.le hM_47
          replace hv_30 := hv_30.le hM_47
          replace hv_32 := hv_32.le hM_47
          replace hv_34 := hv_34.le hM_47
          replace hv_36 := hv_36.le hM_47
          replace hv_40 := hv_40.le hM_47
          replace hv_42 := hv_42.le hM_47
          replace hv_46 := hv_46.le hM_47
          have hzl := Nat.le_trans (suL_len ((l2).filter (fun z => decide (z ∈ l1)))) (List.length_filter_le _ _)
          refine WL_guard_yes E rfl rfl ?_
          refine S_x (X_pu E S rfl rfl rfl (laws_eq hv_46 hv_48) (Hp.le.refl _) ?_)
          clear E a S; rintro a _ w M_49 hM_49 rfl S E
          replace h1 := h1.le hM_49
          replace h2 := h2.le hM_49
          replace h3 := h3.le hM_49
          replace hb_1 := hM_49.2 _ _ hb_1
          replace hz_9 := hz_9.le hM_49
          replace hz_11 := hz_11.le hM_49
          replace hv_13 := hv_13.le hM_49
          replace hv_15 := hv_15.le hM_49
          replace hv_20 := hv_20.le hM_49
          replace hv_22 := hv_22.le hM_49
          replace hv_24 := hv_24.le hM_49
          replace hv_26 := hv_26.le hM_49
          replace hv_30 := hv_30.le hM_49
          replace hv_32 := hv_32.le hM_49
          replace hv_34 := hv_34.le hM_49
          replace hv_36 := hv_36.le hM_49
          replace hv_40 := hv_40.le hM_49
          replace hv_42 := hv_42.le hM_49
          replace hv_46 := hv_46.le hM_49
          replace hv_48 := hv_48.le hM_49
          refine S_v E rfl (R_pickT E rfl rfl) rfl ?_
          clear E a; intro a E
          refine S_v E rfl (R_move E rfl) rfl ?_
          clear E a; intro a E
          have hc_50 : (decide (suL ((l1).filter (fun z => decide (z ∈ l2))) = suL ((l2).filter (fun z => decide (z ∈ l1))))) = true := by (clear S E; first | (refine decide_eq_true ?_; first | rfl | (refine suL_eq fun x => ?_; simp only [mem_suL, List.mem_append, List.mem_filter, decide_eq_true_eq]; by_cases hx0 : x ∈ l1 <;> by_cases hx1 : x ∈ l2 <;> by_cases hx2 : x ∈ l3 <;> simp only [hx0, hx1, hx2, not_true_eq_false, not_false_eq_true, and_true, true_and, and_false, false_and, or_true, true_or, or_false, false_or, and_self, or_self])) | (refine decide_eq_true ?_; simp only [suL_card]; have h9 := card_incl l1 l2; omega) | (refine decide_eq_false ?_; have h9 : (suL (([1] : List Int) ++ [2])).length = 2 := (by rw [suL_card]; decide +kernel); omega))
          replace E := E.val (t := 94) rfl hc_50
          replace E := E.val (t := 95) rfl hc_50
          replace E := E.val (t := 96) rfl hc_50
          refine WL_guard_yes E rfl rfl ?_
          refine S_v E rfl (R_move E rfl) rfl ?_
          clear E a; intro a E
          refine WL_guard_yes E rfl rfl ?_
          refine S_v E rfl (R_move E rfl) rfl ?_
          clear E a; intro a E
          refine WL_guard_yes E rfl rfl ?_
          refine S_v E rfl (R_move E rfl) rfl ?_
          clear E a; intro a E
          refine WL_guard_yes E rfl rfl ?_
          refine S_v E rfl (R_move E rfl) rfl ?_
          clear E a; intro a E
          refine WL_guard_yes E rfl rfl ?_
          refine S_v E rfl (R_move E rfl) rfl ?_
          clear E a; intro a E
          refine WL_guard_yes E rfl rfl ?_
          refine S_x (X_pu E S rfl rfl rfl (laws_FnSetLaws_1 h2 h3 (by first | assumption | omega) (by first | assumption | omega) hb_1) (Hp.le.refl _) ?_)
          clear E a S; rintro a v_52 w M_51 hM_51 hv_52 S E
          replace h1 := h1.le hM_51
          replace h2 := h2.le hM_51
          replace h3 := h3.le hM_51
          replace hb_1 := hM_51.2 _ _ hb_1
          replace hz_9 := hz_9.le hM_51
          replace hz_11 := hz_11.le hM_51
          replace hv_13 := hv_13.le hM_51
          replace hv_15 := hv_15.le hM_51
          replace hv_20 := hv_20.le hM_51
          replace hv_22 := hv_22.le hM_51
          replace hv_24 := hv_24.le hM_51
          replace hv_26 := hv_26.le hM_51
          replace hv_30 := hv_30.le hM_51
          replace hv_32 := hv_32.le hM_51
          replace hv_34 := hv_34.le hM_51
          replace hv_36 := hv_36.le hM_51
          replace hv_40 := hv_40.le hM_51
          replace hv_42 := hv_42.le hM_51
          replace hv_46 := hv_46.le hM_51
          replace hv_48 := hv_48.le hM_51
          have hzl := suL_len (l2 ++ l3)
          rw [List.length_append] at hzl
          refine WL_guard_yes E rfl rfl ?_
          refine S_x (X_pu E S rfl rfl rfl (laws_FnSetLaws_2 h1 hv_52 (by first | assumption | omega) (by first | assumption | omega) hb_1) (Hp.le.refl _) ?_)
          clear E a S; rintro a v_54 w M_53 hM_53 hv_54 S E
          replace h1 := h1.le hM_53
          replace h2 := h2.le hM_53
          replace h3 := h3.le hM_53
          replace hb_1 := hM_53.2 _ _ hb_1
          replace hz_9 := hz_9.le hM_53
          replace hz_11 := hz_11.le hM_53
          replace hv_13 := hv_13.le hM_53
          replace hv_15 := hv_15.le hM_53
          replace hv_20 := hv_20.le hM_53
          replace hv_22 := hv_22.le hM_53
          replace hv_24 := hv_24.le hM_53
          replace hv_26 := hv_26.le hM_53
          replace hv_30 := hv_30.le hM_53
          replace hv_32 := hv_32.le hM_53
          replace hv_34 := hv_34.le hM_53
          replace hv_36 := hv_36.le hM_53
          replace hv_40 := hv_40.le hM_53
          replace hv_42 := hv_42.le hM_53
          replace hv_46 := hv_46.le hM_53
          replace hv_48 := hv_48.le hM_53
          replace hv_52 := hv_52.le hM_53
          have hzl := Nat.le_trans (suL_len ((l1).filter (fun z => decide (z ∈ (suL (l2 ++ l3)))))) (List.length_filter_le _ _)
          refine WL_guard_yes E rfl rfl ?_
          refine S_v E rfl (R_move E rfl) rfl ?_
          clear E a; intro a E
          refine WL_guard_yes E rfl rfl ?_
          refine S_v E rfl (R_move E rfl) rfl ?_
          clear E a; intro a E
          refine WL_guard_yes E rfl rfl ?_
          refine S_v E rfl (R_move E rfl) rfl ?_
          clear E a; intro a E
          refine WL_guard_yes E rfl rfl ?_
          refine S_v E rfl (R_move E rfl) rfl ?_
          clear E a; intro a E
          refine WL_guard_yes E rfl rfl ?_
          refine S_x (X_pu E S rfl rfl rfl (laws_FnSetLaws_2 h1 h2 (by first | assumption | omega) (by first | assumption | omega) hb_1) (Hp.le.refl _) ?_)
          clear E a S; rintro a v_56 w M_55 hM_55 hv_56 S E
          replace h1 := h1.le hM_55
          replace h2 := h2.le hM_55
          replace h3 := h3.le hM_55
          replace hb_1 := hM_55.2 _ _ hb_1
          replace hz_9 := hz_9.le hM_55
          replace hz_11 := hz_11.le hM_55
          replace hv_13 := hv_13.le hM_55
          replace hv_15 := hv_15.le hM_55
          replace hv_20 := hv_20.le hM_55
          replace hv_22 := hv_22.le hM_55
          replace hv_24 := hv_24.le hM_55
          replace hv_26 := hv_26.le hM_55
          replace hv_30 := hv_30.le hM_55
          replace hv_32 := hv_32.le hM_55
          replace hv_34 := hv_34.le hM_55
          replace hv_36 := hv_36.le hM_55
          replace hv_40 := hv_40.le hM_55
          replace hv_42 := hv_42.le hM_55
          replace hv_46 := hv_46.le hM_55
          replace hv_48 := hv_48.le hM_55
          replace hv_52 := hv_52.le hM_55
          replace hv_54 := hv_54.le hM_55
          have hzl := Nat.le_trans (suL_len ((l1).filter (fun z => decide (z ∈ l2)))) (List.length_filter_le _ _)
          refine WL_guard_yes E rfl rfl ?_
          refine S_v E rfl (R_move E rfl) rfl ?_
          clear E a; intro a E
          refine WL_guard_yes E rfl rfl ?_
          refine S_v E rfl (R_move E rfl) rfl ?_
          clear E a; intro a E
          refine WL_guard_yes E rfl rfl ?_
          refine S_v E rfl (R_move E rfl) rfl ?_
          clear E a; intro a E
          refine WL_guard_yes E rfl rfl ?_
          refine S_x (X_pu E S rfl rfl rfl (laws_FnSetLaws_2 h1 h3 (by first | assumption | omega) (by first | assumption | omega) hb_1) (Hp.le.refl _) ?_)
          clear E a S; rintro a v_58 w M_57 hM_57 hv_58 S E
          replace h1 := h1.le hM_57
          replace h2 := h2.le hM_57
          replace h3 := h3.le hM_57
          replace hb_1 := hM_57.2 _ _ hb_1
          replace hz_9 := hz_9.le hM_57
          replace hz_11 := hz_11.le hM_57
          replace hv_13 := hv_13.le hM_57
          replace hv_15 := hv_15.le hM_57
          replace hv_20 := hv_20.le hM_57
          replace hv_22 := hv_22.le hM_57
          replace hv_24 := hv_24.le hM_57
          replace hv_26 := hv_26.le hM_57
          replace hv_30 := hv_30.le hM_57
          replace hv_32 := hv_32.le hM_57
          replace hv_34 := hv_34.le hM_57
          replace hv_36 := hv_36.le hM_57
          replace hv_40 := hv_40.le hM_57
          replace hv_42 := hv_42.le hM_57
          replace hv_46 := hv_46.le hM_57
          replace hv_48 := hv_48.le hM_57
          replace hv_52 := hv_52.le hM_57
          replace hv_54 := hv_54.le hM_57
          replace hv_56 := hv_56.le hM_57
          have hzl := Nat.le_trans (suL_len ((l1).filter (fun z => decide (z ∈ l3)))) (List.length_filter_le _ _)
          refine WL_guard_yes E rfl rfl ?_
          refine S_x (X_pu E S rfl rfl rfl (laws_FnSetLaws_1 hv_56 hv_58 (by first | assumption | omega) (by first | assumption | omega) hb_1) (Hp.le.refl _) ?_)
          clear E a S; rintro a v_60 w M_59 hM_59 hv_60 S E
          replace h1 := h1.le hM_59
          replace h2 := h2.le hM_59
          replace h3 := h3.le hM_59
          replace hb_1 := hM_59.2 _ _ hb_1
          replace hz_9 := hz_9.le hM_59
          replace hz_11 := hz_11.le hM_59
          replace hv_13 := hv_13.le hM_59
          replace hv_15 := hv_15.le hM_59
          replace hv_20 := hv_20.le hM_59
          replace hv_22 := hv_22.le hM_59
          replace hv_24 := hv_24.le hM_59
          replace hv_26 := hv_26.le hM_59
          replace hv_30 := hv_30.le hM_59
          replace hv_32 := hv_32.le hM_59
          replace hv_34 := hv_34.le hM_59
          replace hv_36 := hv_36.le hM_59
          replace hv_40 := hv_40.le hM_59
          replace hv_42 := hv_42.le hM_59
          replace hv_46 := hv_46.le hM_59
          replace hv_48 := hv_48.le hM_59
          replace hv_52 := hv_52.le hM_59
          replace hv_54 := hv_54.le hM_59
          replace hv_56 := hv_56.le hM_59
          replace hv_58 := hv_58.le hM_59
          have hzl := suL_len ((suL ((l1).filter (fun z => decide (z ∈ l2)))) ++ (suL ((l1).filter (fun z => decide (z ∈ l3)))))
          rw [List.length_append] at hzl
          refine WL_guard_yes E rfl rfl ?_
          refine S_x (X_pu E S rfl rfl rfl (laws_eq hv_54 hv_60) (Hp.le.refl _) ?_)
          clear E a S; rintro a _ w M_61 hM_61 rfl S E
          replace h1 := h1.le hM_61
          replace h2 := h2.le hM_61
          replace h3 := h3.le hM_61
          replace hb_1 := hM_61.2 _ _ hb_1
          replace hz_9 := hz_9.le hM_61
          replace hz_11 := hz_11.le hM_61
          replace hv_13 := hv_13.le hM_61
          replace hv_15 := hv_15.le hM_61
          replace hv_20 := hv_20.le hM_61
          replace hv_22 := hv_22.le hM_61
          replace hv_24 := hv_24.le hM_61
          replace hv_26 := hv_26.le hM_61
          replace hv_30 := hv_30.le hM_61
          replace hv_32 := hv_32.le hM_61
          replace hv_34 := hv_34.le hM_61
          replace hv_36 := hv_36.le hM_61
          replace hv_40 := hv_40.le hM_61
          replace hv_42 := hv_42.le hM_61
          replace hv_46 := hv_46.le hM_61
          replace hv_48 := hv_48.le hM_61
          replace hv_52 := hv_52.le hM_61
          replace hv_54 := hv_54.le hM_61
          replace hv_56 := hv_56.le hM_61
          replace hv_58 := hv_58.le hM_61
          replace hv_60 := hv_60.le hM_61
          refine S_v E rfl (R_pickT E rfl rfl) rfl ?_
          clear E a; intro a E
          refine S_v E rfl (R_move E rfl) rfl ?_
          clear E a; intro a E
          have hc_62 : (decide (suL ((l1).filter (fun z => decide (z ∈ (suL (l2 ++ l3))))) = suL ((suL ((l1).filter (fun z => decide (z ∈ l2)))) ++ (suL ((l1).filter (fun z => decide (z ∈ l3))))))) = true := by (clear S E; first | (refine decide_eq_true ?_; first | rfl | (refine suL_eq fun x => ?_; simp only [mem_suL, List.mem_append, List.mem_filter, decide_eq_true_eq]; by_cases hx0 : x ∈ l1 <;> by_cases hx1 : x ∈ l2 <;> by_cases hx2 : x ∈ l3 <;> simp only [hx0, hx1, hx2, not_true_eq_false, not_false_eq_true, and_true, true_and, and_false, false_and, or_true, true_or, or_false, false_or, and_self, or_self])) | (refine decide_eq_true ?_; simp only [suL_card]; have h9 := card_incl l1 l2; omega) | (refine decide_eq_false ?_; have h9 : (suL (([1] : List Int) ++ [2])).length = 2 := (by rw [suL_card]; decide +kernel); omega))
          replace E := E.val (t := 114) rfl hc_62
          replace E := E.val (t := 115) rfl hc_62
          replace E := E.val (t := 116) rfl hc_62
          refine WL_guard_yes E rfl rfl ?_
          refine S_v E rfl (R_move E rfl) rfl ?_
          clear E a; intro a E
          refine WL_guard_yes E rfl rfl ?_
          refine S_v E rfl (R_move E rfl) rfl ?_
          clear E a; intro a E
          refine WL_guard_yes E rfl rfl ?_
          refine S_v E rfl (R_move E rfl) rfl ?_
          clear E a; intro a E
          refine WL_guard_yes E rfl rfl ?_
          refine S_v E rfl (R_move E rfl) rfl ?_
          clear E a; intro a E
          refine WL_guard_yes E rfl rfl ?_
          refine S_v E rfl (R_move E rfl) rfl ?_
          clear E a; intro a E
          refine WL_guard_yes E rfl rfl ?_
          refine S_x (X_pu E S rfl rfl rfl (laws_FnSetLaws_2 h2 h3 (by first | assumption | omega) (by first | assumption | omega) hb_1) (Hp.le.refl _) ?_)
          clear E a S; rintro a v_64 w M_63 hM_63 hv_64 S E
          replace h1 := h1.le hM_63
          replace h2 := h2.le hM_63
          replace h3 := h3.le hM_63
          replace hb_1 := hM_63.2 _ _ hb_1
          replace hz_9 := hz_9.le hM_63
          replace hz_11 := hz_11.le hM_63
          replace hv_13 := hv_13.le hM_63
          replace hv_15 := hv_15.le hM_63
          replace hv_20 := hv_20.le hM_63
          replace hv_22 := hv_22.le hM_63
          replace hv_24 := hv_24.le hM_63
          replace hv_26 := hv_26.le hM_63
          replace hv_30 := hv_30.le hM_63
          replace hv_32 := hv_32.le hM_63
          replace hv_34 := hv_34.le hM_63
          replace hv_36 := hv_36.le hM_63
          replace hv_40 := hv_40.le hM_63
          replace hv_42 := hv_42.le hM_63
          replace hv_46 := hv_46.le hM_63
          replace hv_48 := hv_48.le hM_63
          replace hv_52 := hv_52.le hM_63
          replace hv_54 := hv_54.le hM_63
          replace hv_56 := hv_56.le hM_63
          replace hv_58 := hv_58.le hM_63
          replace hv_60 := hv_60.le hM_63
          have hzl := Nat.le_trans (suL_len ((l2).filter (fun z => decide (z ∈ l3)))) (List.length_filter_le _ _)
          refine WL_guard_yes E rfl rfl ?_
          refine S_x (X_pu E S rfl rfl rfl (laws_FnSetLaws_1 h1 hv_64 (by first | assumption | omega) (by first | assumption | omega) hb_1) (Hp.le.refl _) ?_)
          clear E a S; rintro a v_66 w M_65 hM_65 hv_66 S E
          replace h1 := h1.le hM_65
          replace h2 := h2.le hM_65
          replace h3 := h3.le hM_65
          replace hb_1 := hM_65.2 _ _ hb_1
          replace hz_9 := hz_9.le hM_65
          replace hz_11 := hz_11.le hM_65
          replace hv_13 := hv_13.le hM_65
          replace hv_15 := hv_15.le hM_65
          replace hv_20 := hv_20.le hM_65
          replace hv_22 := hv_22.le hM_65
          replace hv_24 := hv_24.le hM_65
          replace hv_26 := hv_26.le hM_65
          replace hv_30 := hv_30.le hM_65
          replace hv_32 := hv_32.le hM_65
          replace hv_34 := hv_34.le hM_65
          replace hv_36 := hv_36.le hM_65
          replace hv_40 := hv_40.le hM_65
          replace hv_42 := hv_42.le hM_65
          replace hv_46 := hv_46.le hM_65
          replace hv_48 := hv_48.le hM_65
          replace hv_52 := hv_52.le hM_65
          replace hv_54 := hv_54.le hM_65
          replace hv_56 := hv_56.le hM_65
          replace hv_58 := hv_58.le hM_65
          replace hv_60 := hv_60.le hM_65
          replace hv_64 := hv_64.le hM_65
          have hzl := suL_len (l1 ++ (suL ((l2).filter (fun z => decide (z ∈ l3)))))
          rw [List.length_append] at hzl
          refine WL_guard_yes E rfl rfl ?_
          refine S_v E rfl (R_move E rfl) rfl ?_
          clear E a; intro a E
          refine WL_guard_yes E rfl rfl ?_
          refine S_v E rfl (R_move E rfl) rfl ?_
          clear E a; intro a E
          refine WL_guard_yes E rfl rfl ?_
          refine S_v E rfl (R_move E rfl) rfl ?_
          clear E a; intro a E
          refine WL_guard_yes E rfl rfl ?_
          refine S_v E rfl (R_move E rfl) rfl ?_
          clear E a; intro a E
          refine WL_guard_yes E rfl rfl ?_
          refine S_x (X_pu E S rfl rfl rfl (laws_FnSetLaws_1 h1 h2 (by first | assumption | omega) (by first | assumption | omega) hb_1) (Hp.le.refl _) ?_)
          clear E a S; rintro a v_68 w M_67 hM_67 hv_68 S E
          replace h1 := h1.le hM_67
          replace h2 := h2.le hM_67
          replace h3 := h3.le hM_67
          replace hb_1 := hM_67.2 _ _ hb_1
          replace hz_9 := hz_9.le hM_67
          replace hz_11 := hz_11.le hM_67
          replace hv_13 := hv_13.le hM_67
          replace hv_15 := hv_15.le hM_67
          replace hv_20 := hv_20.le hM_67
          replace hv_22 := hv_22.le hM_67
          replace hv_24 := hv_24.le hM_67
          replace hv_26 := hv_26.le hM_67
          replace hv_30 := hv_30.le hM_67
          replace hv_32 := hv_32.le hM_67
          replace hv_34 := hv_34.le hM_67
          replace hv_36 := hv_36.le hM_67
          replace hv_40 := hv_40.le hM_67
          replace hv_42 := hv_42.le hM_67
          replace hv_46 := hv_46.le hM_67
          replace hv_48 := hv_48.le hM_67
          replace hv_52 := hv_52.le hM_67
          replace hv_54 := hv_54.le hM_67
          replace hv_56 := hv_56.le hM_67
          replace hv_58 := hv_58.le hM_67
          replace hv_60 := hv_60.le hM_67
          replace hv_64 := hv_64.le hM_67
          replace hv_66 := hv_66.le hM_67
          have hzl := suL_len (l1 ++ l2)
          rw [List.length_append] at hzl
          refine WL_guard_yes E rfl rfl ?_
          refine S_v E rfl (R_move E rfl) rfl ?_
          clear E a; intro a E
          refine WL_guard_yes E rfl rfl ?_
          refine S_v E rfl (R_move E rfl) rfl ?_
          clear E a; intro a E
          refine WL_guard_yes E rfl rfl ?_
          refine S_v E rfl (R_move E rfl) rfl ?_
          clear E a; intro a E
          refine WL_guard_yes E rfl rfl ?_
          refine S_x (X_pu E S rfl rfl rfl (laws_FnSetLaws_1 h1 h3 (by first | assumption | omega) (by first | assumption | omega) hb_1) (Hp.le.refl _) ?_)
          clear E a S; rintro a v_70 w M_69 hM_69 hv_70 S E
          replace h1 := h1.le hM_69
          replace h2 := h2.le hM_69
          replace h3 := h3.le hM_69
          replace hb_1 := hM_69.2 _ _ hb_1
          replace hz_9 := hz_9.le hM_69
          replace hz_11 := hz_11.le hM_69
          replace hv_13 := hv_13.le hM_69
          replace hv_15 := hv_15.le hM_69
          replace hv_20 := hv_20.le hM_69
          replace hv_22 := hv_22.le hM_69
          replace hv_24 := hv_24.le hM_69
          replace hv_26 := hv_26.le hM_69
          replace hv_30 := hv_30.le hM_69
          replace hv_32 := hv_32.le hM_69
          replace hv_34 := hv_34.le hM_69
          replace hv_36 := hv_36.le hM_69
          replace hv_40 := hv_40.le hM_69
          replace hv_42 := hv_42.le hM_69
          replace hv_46 := hv_46.le hM_69
          replace hv_48 := hv_48.le hM_69
          replace hv_52 := hv_52.le hM_69
          replace hv_54 := hv_54.le hM_69
          replace hv_56 := hv_56.le hM_69
          replace hv_58 := hv_58.le hM_69
          replace hv_60 := hv_60.le hM_69
          replace hv_64 := hv_64.le hM_69
          replace hv_66 := hv_66.le hM_69
          replace hv_68 := hv_68.le hM_69
          have hzl := suL_len (l1 ++ l3)
          rw [List.length_append] at hzl
          refine WL_guard_yes E rfl rfl ?_
          refine S_x (X_pu E S rfl rfl rfl (laws_FnSetLaws_2 hv_68 hv_70 (by first | assumption | omega) (by first | assumption | omega) hb_1) (Hp.le.refl _) ?_)
          clear E a S; rintro a v_72 w M_71 hM_71 hv_72 S E
          replace h1 := h1.le hM_71
          replace h2 := h2.le hM_71
          replace h3 := h3.le hM_71
          replace hb_1 := hM_71.2 _ _ hb_1
          replace hz_9 := hz_9.le hM_71
          replace hz_11 := hz_11.le hM_71
          replace hv_13 := hv_13.le hM_71
          replace hv_15 := hv_15.le hM_71
          replace hv_20 := hv_20.le hM_71
          replace hv_22 := hv_22.le hM_71
          replace hv_24 := hv_24.le hM_71
          replace hv_26 := hv_26.le hM_71
          replace hv_30 := hv_30.le hM_71
          replace hv_32 := hv_32.le hM_71
          replace hv_34 := hv_34.le hM_71
          replace hv_36 := hv_36.le hM_71
          replace hv_40 := hv_40.le hM_71
          replace hv_42 := hv_42.le hM_71
          replace hv_46 := hv_46.le hM_71
          replace hv_48 := hv_48.le hM_71
          replace hv_52 := hv_52.le hM_71
          replace hv_54 := hv_54.le hM_71
          replace hv_56 := hv_56.le hM_71
          replace hv_58 := hv_58.le hM_71
          replace hv_60 := hv_60.le hM_71
          replace hv_64 := hv_64.le hM_71
          replace hv_66 := hv_66.le hM_71
          replace hv_68 := hv_68.le hM_71
          replace hv_70 := hv_70.le hM_71
          have hzl := Nat.le_trans (suL_len ((suL (l1 ++ l2)).filter (fun z => decide (z ∈ (suL (l1 ++ l3)))))) (List.length_filter_le _ _)
          refine WL_guard_yes E rfl rfl ?_
          refine S_x (X_pu E S rfl rfl rfl (laws_eq hv_66 hv_72) (Hp.le.refl _) ?_)
          clear E a S; rintro a _ w M_73 hM_73 rfl S E
          replace h1 := h1.le hM_73
          replace h2 := h2.le hM_73
          replace h3 := h3.le hM_73
          replace hb_1 := hM_73.2 _ _ hb_1
          replace hz_9 := hz_9.le hM_73
          replace hz_11 := hz_11.le hM_73
          replace hv_13 := hv_13.le hM_73
          replace hv_15 := hv_15.le hM_73
          replace hv_20 := hv_20.le hM_73
          replace hv_22 := hv_22.le hM_73
          replace hv_24 := hv_24.le hM_73
          replace hv_26 := hv_26.le hM_73
          replace hv_30 := hv_30.le hM_73
          replace hv_32 := hv_32.le hM_73
          replace hv_34 := hv_34.le hM_73
          replace hv_36 := hv_36.le hM_73
          replace hv_40 := hv_40.le hM_73
          replace hv_42 := hv_42.le hM_73
          replace hv_46 := hv_46.le hM_73
          replace hv_48 := hv_48.le hM_73
          replace hv_52 := hv_52.le hM_73
          replace hv_54 := hv_54.le hM_73
          replace hv_56 := hv_56.le hM_73
          replace hv_58 := hv_58.le hM_73
          replace hv_60 := hv_60.le hM_73
          replace hv_64 := hv_64.le hM_73
          replace hv_66 := hv_66.le hM_73
          replace hv_68 := hv_68.le hM_73
          replace hv_70 := hv_70.le hM_73
          replace hv_72 := hv_72.le hM_73
          refine S_v E rfl (R_pickT E rfl rfl) rfl ?_
          clear E a; intro a E
          refine S_v E rfl (R_move E rfl) rfl ?_
          clear E a; intro a E
          have hc_74 : (decide (suL (l1 ++ (suL ((l2).filter (fun z => decide (z ∈ l3))))) = suL ((suL (l1 ++ l2)).filter (fun z => decide (z ∈ (suL (l1 ++ l3))))))) = true := by (clear S E; first | (refine decide_eq_true ?_; first | rfl | (refine suL_eq fun x => ?_; simp only [mem_suL, List.mem_append, List.mem_filter, decide_eq_true_eq]; by_cases hx0 : x ∈ l1 <;> by_cases hx1 : x ∈ l2 <;> by_cases hx2 : x ∈ l3 <;> simp only [hx0, hx1, hx2, not_true_eq_false, not_false_eq_true, and_true, true_and, and_false, false_and, or_true, true_or, or_false, false_or, and_self, or_self])) | (refine decide_eq_true ?_; simp only [suL_card]; have h9 := card_incl l1 l2; omega) | (refine decide_eq_false ?_; have h9 : (suL (([1] : List Int) ++ [2])).length = 2 := (by rw [suL_card]; decide +kernel); omega))
          replace E := E.val (t := 134) rfl hc_74
          replace E := E.val (t := 135) rfl hc_74
          replace E := E.val (t := 136) rfl hc_74
          refine WL_guard_yes E rfl rfl ?_
          refine S_v E rfl (R_move E rfl) rfl ?_
          clear E a; intro a E
          refine WL_guard_yes E rfl rfl ?_
          refine S_v E rfl (R_move E rfl) rfl ?_
          clear E a; intro a E
          refine WL_guard_yes E rfl rfl ?_
          refine S_v E rfl (R_move E rfl) rfl ?_
          clear E a; intro a E
          refine WL_guard_yes E rfl rfl ?_
          refine S_v E rfl (R_move E rfl) rfl ?_
          clear E a; intro a E
          refine WL_guard_yes E rfl rfl ?_
          refine S_v E rfl (R_move E rfl) rfl ?_
          clear E a; intro a E
          refine WL_guard_yes E rfl rfl ?_
          refine S_x (X_pu E S rfl rfl rfl (laws_FnSetLaws_1 h2 h3 (by first | assumption | omega) (by first | assumption | omega) hb_1) (Hp.le.refl _) ?_)
          clear E a S; rintro a v_76 w M_75 hM_75 hv_76 S E
          replace h1 := h1.le hM_75
          replace h2 := h2.le hM_75
          replace h3 := h3.le hM_75
          replace hb_1 := hM_75.2 _ _ hb_1
          replace hz_9 := hz_9.le hM_75
          replace hz_11 := hz_11.le hM_75
          replace hv_13 := hv_13.le hM_75
          replace hv_15 := hv_15.le hM_75
          replace hv_20 := hv_20.le hM_75
          replace hv_22 := hv_22.le hM_75
          replace hv_24 := hv_24.le hM_75
          replace hv_26 := hv_26.le hM_75
          replace hv_30 := hv_30.le hM_75
          replace hv_32 := hv_32.le hM_75
          replace hv_34 := hv_34.le hM_75
          replace hv_36 := hv_36.le hM_75
          replace hv_40 := hv_40.le hM_75
          replace hv_42 := hv_42.le hM_75
          replace hv_46 := hv_46.le hM_75
          replace hv_48 := hv_48.le hM_75
          replace hv_52 := hv_52.le hM_75
          replace hv_54 := hv_54.le hM_75
          replace hv_56 := hv_56.le hM_75
          replace hv_58 := hv_58.le hM_75
          replace hv_60 := hv_60.le hM_75
          replace hv_64 := hv_64.le hM_75
          replace hv_66 := hv_66.le hM_75
          replace hv_68 := hv_68.le hM_75
          replace hv_70 := hv_70.le hM_75
          replace hv_72 := hv_72.le hM_75
          have hzl := suL_len (l2 ++ l3)
          rw [List.length_append] at hzl
          refine WL_guard_yes E rfl rfl ?_
          refine S_x (X_pu E S rfl rfl rfl (laws_FnSetLaws_3 h1 hv_76 (by first | assumption | omega) (by first | assumption | omega) hb_1) (Hp.le.refl _) ?_)
          clear E a S; rintro a v_78 w M_77 hM_77 hv_78 S E
          replace h1 := h1.le hM_77
          replace h2 := h2.le hM_77
          replace h3 := h3.le hM_77
          replace hb_1 := hM_77.2 _ _ hb_1
          replace hz_9 := hz_9.le hM_77
          replace hz_11 := hz_11.le hM_77
          replace hv_13 := hv_13.le hM_77
          replace hv_15 := hv_15.le hM_77
          replace hv_20 := hv_20.le hM_77
          replace hv_22 := hv_22.le hM_77
          replace hv_24 := hv_24.le hM_77
          replace hv_26 := hv_26.le hM_77
          replace hv_30 := hv_30.le hM_77
          replace hv_32 := hv_32.le hM_77
          replace hv_34 := hv_34.le hM_77
          replace hv_36 := hv_36.le hM_77
          replace hv_40 := hv_40.le hM_77
          replace hv_42 := hv_42.le hM_77
          replace hv_46 := hv_46.le hM_77
          replace hv_48 := hv_48.le hM_77
          replace hv_52 := hv_52.le hM_77
          replace hv_54 := hv_54.le hM_77
          replace hv_56 := hv_56.le hM_77
          replace hv_58 := hv_58.le hM_77
          replace hv_60 := hv_60.le hM_77
          replace hv_64 := hv_64.le hM_77
          replace hv_66 := hv_66.le hM_77
          replace hv_68 := hv_68.le hM_77
          replace hv_70 := hv_70.le hM_77
          replace hv_72 := hv_72.le hM_77
          replace hv_76 := hv_76.le hM_77
          have hzl := Nat.le_trans (suL_len ((l1).filter (fun z => decide (z ∉ (suL (l2 ++ l3)))))) (List.length_filter_le _ _)
          refine WL_guard_yes E rfl rfl ?_
          refine S_v E rfl (R_move E rfl) rfl ?_
          clear E a; intro a E
          refine WL_guard_yes E rfl rfl ?_
          refine S_v E rfl (R_move E rfl) rfl ?_
          clear E a; intro a E
          refine WL_guard_yes E rfl rfl ?_
          refine S_v E rfl (R_move E rfl) rfl ?_
          clear E a; intro a E
          refine WL_guard_yes E rfl rfl ?_
          refine S_v E rfl (R_move E rfl) rfl ?_
          clear E a; intro a E
          refine WL_guard_yes E rfl rfl ?_
          refine S_x (X_pu E S rfl rfl rfl (laws_FnSetLaws_3 h1 h2 (by first | assumption | omega) (by first | assumption | omega) hb_1) (Hp.le.refl _) ?_)
          clear E a S; rintro a v_80 w M_79 hM_79 hv_80 S E
          replace h1 := h1.le hM_79
          replace h2 := h2.le hM_79
          replace h3 := h3.le hM_79
          replace hb_1 := hM_79.2 _ _ hb_1
          replace hz_9 := hz_9.le hM_79
          replace hz_11 := hz_11.le hM_79
          replace hv_13 := hv_13.le hM_79
          replace hv_15 := hv_15.le hM_79
          replace hv_20 := hv_20.le hM_79
          replace hv_22 := hv_22.le hM_79
          replace hv_24 := hv_24.le hM_79
          replace hv_26 := hv_26.le hM_79
          replace hv_30 := hv_30.le hM_79
          replace hv_32 := hv_32.le hM_79
          replace hv_34 := hv_34.le hM_79
          replace hv_36 := hv_36.le hM_79
          replace hv_40 := hv_40.le hM_79
          replace hv_42 := hv_42.le hM_79
          replace hv_46 := hv_46.le hM_79
          replace hv_48 := hv_48.le hM_79
          replace hv_52 := hv_52.le hM_79
          replace hv_54 := hv_54.le hM_79
          replace hv_56 := hv_56.le hM_79
          replace hv_58 := hv_58.le hM_79
          replace hv_60 := hv_60.le hM_79
          replace hv_64 := hv_64.le hM_79
          replace hv_66 := hv_66.le hM_79
          replace hv_68 := hv_68.le hM_79
          replace hv_70 := hv_70.le hM_79
          replace hv_72 := hv_72.le hM_79
          replace hv_76 := hv_76.le hM_79
          replace hv_78 := hv_78.le hM_79
          have hzl := Nat.le_trans (suL_len ((l1).filter (fun z => decide (z ∉ l2)))) (List.length_filter_le _ _)
          refine WL_guard_yes E rfl rfl ?_
          refine S_v E rfl (R_move E rfl) rfl ?_
          clear E a; intro a E
          refine WL_guard_yes E rfl rfl ?_
          refine S_v E rfl (R_move E rfl) rfl ?_
          clear E a; intro a E
          refine WL_guard_yes E rfl rfl ?_
          refine S_v E rfl (R_move E rfl) rfl ?_
          clear E a; intro a E
          refine WL_guard_yes E rfl rfl ?_
          refine S_x (X_pu E S rfl rfl rfl (laws_FnSetLaws_3 h1 h3 (by first | assumption | omega) (by first | assumption | omega) hb_1) (Hp.le.refl _) ?_)
          clear E a S; rintro a v_82 w M_81 hM_81 hv_82 S E
          replace h1 := h1.le hM_81
          replace h2 := h2.le hM_81
          replace h3 := h3.le hM_81
          replace hb_1 := hM_81.2 _ _ hb_1
          replace hz_9 := hz_9.le hM_81
          replace hz_11 := hz_11.le hM_81
          replace hv_13 := hv_13.le hM_81
          replace hv_15 := hv_15.le hM_81
          replace hv_20 := hv_20.le hM_81
          replace hv_22 := hv_22.le hM_81
          replace hv_24 := hv_24.le hM_81
          replace hv_26 := hv_26.le hM_81
          replace hv_30 := hv_30.le hM_81
          replace hv_32 := hv_32.le hM_81
          replace hv_34 := hv_34.le hM_81
          replace hv_36 := hv_36.le hM_81
          replace hv_40 := hv_40.le hM_81
          replace hv_42 := hv_42.le hM_81
          replace hv_46 := hv_46.le hM_81
          replace hv_48 := hv_48.le hM_81
          replace hv_52 := hv_52.le hM_81
          replace hv_54 := hv_54.le hM_81
          replace hv_56 := hv_56.le hM_81
          replace hv_58 := hv_58.le hM_81
          replace hv_60 := hv_60.le hM_81
          replace hv_64 := hv_64.le hM_81
          replace hv_66 := hv_66.le hM_81
          replace hv_68 := hv_68.le hM_81
          replace hv_70 := hv_70.le hM_81
          replace hv_72 := hv_72.le hM_81
          replace hv_76 := hv_76.le hM_81
          replace hv_78 := hv_78.le hM_81
          replace hv_80 := hv_80.le hM_81
          have hzl := Nat.le_trans (suL_len ((l1).filter (fun z => decide (z ∉ l3)))) (List.length_filter_le _ _)
          refine WL_guard_yes E rfl rfl ?_
          refine S_x (X_pu E S rfl rfl rfl (laws_FnSetLaws_2 hv_80 hv_82 (by first | assumption | omega) (by first | assumption | omega) hb_1) (Hp.le.refl _) ?_)
          clear E a S; rintro a v_84 w M_83 hM_83 hv_84 S E
          replace h1 := h1.le hM_83
          replace h2 := h2.le hM_83
          replace h3 := h3.le hM_83
          replace hb_1 := hM_83.2 _ _ hb_1
          replace hz_9 := hz_9.le hM_83
          replace hz_11 := hz_11.le hM_83
          replace hv_13 := hv_13.le hM_83
          replace hv_15 := hv_15.le hM_83
          replace hv_20 := hv_20.le hM_83
          replace hv_22 := hv_22.le hM_83
          replace hv_24 := hv_24.le hM_83
          replace hv_26 := hv_26.le hM_83
          replace hv_30 := hv_30.le hM_83
          replace hv_32 := hv_32.le hM_83
          replace hv_34 := hv_34.le hM_83
          replace hv_36 := hv_36.le hM_83
          replace hv_40 := hv_40.le hM_83
          replace hv_42 := hv_42.le hM_83
          replace hv_46 := hv_46.le hM_83
          replace hv_48 := hv_48.le hM_83
          replace hv_52 := hv_52.le hM_83
          replace hv_54 := hv_54.le hM_83
          replace hv_56 := hv_56.le hM_83
          replace hv_58 := hv_58.le hM_83
          replace hv_60 := hv_60.le hM_83
          replace hv_64 := hv_64.le hM_83
          replace hv_66 := hv_66.le hM_83
          replace hv_68 := hv_68.le hM_83
          replace hv_70 := hv_70.le hM_83
          replace hv_72 := hv_72.le hM_83
          replace hv_76 := hv_76.le hM_83
          replace hv_78 := hv_78.le hM_83
          replace hv_80 := hv_80.le hM_83
          replace hv_82 := hv_82.le hM_83
          have hzl := Nat.le_trans (suL_len ((suL ((l1).filter (fun z => decide (z ∉ l2)))).filter (fun z => decide (z ∈ (suL ((l1).filter (fun z => decide (z ∉ l3)))))))) (List.length_filter_le _ _)
          refine WL_guard_yes E rfl rfl ?_
          refine S_x (X_pu E S rfl rfl rfl (laws_eq hv_78 hv_84) (Hp.le.refl _) ?_)
          clear E a S; rintro a _ w M_85 hM_85 rfl S E
          replace h1 := h1.le hM_85
          replace h2 := h2.le hM_85
          replace h3 := h3.le hM_85
          replace hb_1 := hM_85.2 _ _ hb_1
          replace hz_9 := hz_9.le hM_85
          replace hz_11 := hz_11.le hM_85
          replace hv_13 := hv_13.le hM_85
          replace hv_15 := hv_15.le hM_85
          replace hv_20 := hv_20.le hM_85
          replace hv_22 := hv_22.le hM_85
          replace hv_24 := hv_24.le hM_85
          replace hv_26 := hv_26.le hM_85
          replace hv_30 := hv_30.le hM_85
          replace hv_32 := hv_32.le hM_85
          replace hv_34 := hv_34.le hM_85
          replace hv_36 := hv_36.le hM_85
          replace hv_40 := hv_40.le hM_85
          replace hv_42 := hv_42.le hM_85
          replace hv_46 := hv_46.le hM_85
          replace hv_48 := hv_48.le hM_85
          replace hv_52 := hv_52.le hM_85
          replace hv_54 := hv_54.le hM_85
          replace hv_56 := hv_56.le hM_85
          replace hv_58 := hv_58.le hM_85
          replace hv_60 := hv_60.le hM_85
          replace hv_64 := hv_64.le hM_85
          replace hv_66 := hv_66.le hM_85
          replace hv_68 := hv_68.le hM_85
          replace hv_70 := hv_70.le hM_85
          replace hv_72 := hv_72.le hM_85
          replace hv_76 := hv_76.le hM_85
          replace hv_78 := hv_78.le hM_85
          replace hv_80 := hv_80.le hM_85
          replace hv_82 := hv_82.le hM_85
          replace hv_84 := hv_84.le hM_85
          refine S_v E rfl (R_pickT E rfl rfl) rfl ?_
          clear E a; intro a E
          refine S_v E rfl (R_move E rfl) rfl ?_
          clear E a; intro a E
          have hc_86 : (decide (suL ((l1).filter (fun z => decide (z ∉ (suL (l2 ++ l3))))) = suL ((suL ((l1).filter (fun z => decide (z ∉ l2)))).filter (fun z => decide (z ∈ (suL ((l1).filter (fun z => decide (z ∉ l3))))))))) = true := by (clear S E; first | (refine decide_eq_true ?_; first | rfl | (refine suL_eq fun x => ?_; simp only [mem_suL, List.mem_append, List.mem_filter, decide_eq_true_eq]; by_cases hx0 : x ∈ l1 <;> by_cases hx1 : x ∈ l2 <;> by_cases hx2 : x ∈ l3 <;> simp only [hx0, hx1, hx2, not_true_eq_false, not_false_eq_true, and_true, true_and, and_false, false_and, or_true, true_or, or_false, false_or, and_self, or_self])) | (refine decide_eq_true ?_; simp only [suL_card]; have h9 := card_incl l1 l2; omega) | (refine decide_eq_false ?_; have h9 : (suL (([1] : List Int) ++ [2])).length = 2 := (by rw [suL_card]; decide +kernel); omega))
          replace E := E.val (t := 154) rfl hc_86
          replace E := E.val (t := 155) rfl hc_86
          replace E := E.val (t := 156) rfl hc_86
          refine WL_guard_yes E rfl rfl ?_
          refine S_v E rfl (R_move E rfl) rfl ?_
          clear E a; intro a E
          refine WL_guard_yes E rfl rfl ?_
          refine S_v E rfl (R_move E rfl) rfl ?_
          clear E a; intro a E
          refine WL_guard_yes E rfl rfl ?_
          refine S_v E rfl (R_move E rfl) rfl ?_
          clear E a; intro a E
          refine WL_guard_yes E rfl rfl ?_
          refine S_v E rfl (R_move E rfl) rfl ?_
          clear E a; intro a E
          refine WL_guard_yes E rfl rfl ?_
          refine S_v E rfl (R_move E rfl) rfl ?_
          clear E a; intro a E
          refine WL_guard_yes E rfl rfl ?_
          refine S_x (X_pu E S rfl rfl rfl (laws_FnSetLaws_2 h2 h3 (by first | assumption | omega) (by first | assumption | omega) hb_1) (Hp.le.refl _) ?_)
          clear E a S; rintro a v_88 w M_87 hM_87 hv_88 S E
          replace h1 := h1.le hM_87
          replace h2 := h2.le hM_87
          replace h3 := h3.le hM_87
          replace hb_1 := hM_87.2 _ _ hb_1
          replace hz_9 := hz_9.le hM_87
          replace hz_11 := hz_11.le hM_87
          replace hv_13 := hv_13.le hM_87
          replace hv_15 := hv_15.le hM_87
          replace hv_20 := hv_20.le hM_87
          replace hv_22 := hv_22.le hM_87
          replace hv_24 := hv_24.le hM_87
          replace hv_26 := hv_26.le hM_87
          replace hv_30 := hv_30.le hM_87
          replace hv_32 := hv_32.le hM_87
          replace hv_34 := hv_34.le hM_87
          replace hv_36 := hv_36.le hM_87
          replace hv_40 := hv_40.le hM_87
          replace hv_42 := hv_42.le hM_87
          replace hv_46 := hv_46.le hM_87
          replace hv_48 := hv_48.le hM_87
          replace hv_52 := hv_52.le hM_87
          replace hv_54 := hv_54.le hM_87
          replace hv_56 := hv_56.le hM_87
          replace hv_58 := hv_58.le hM_87
          replace hv_60 := hv_60.le hM_87
          replace hv_64 := hv_64.le hM_87
          replace hv_66 := hv_66.le hM_87
          replace hv_68 := hv_68.le hM_87
          replace hv_70 := hv_70.le hM_87
          replace hv_72 := hv_72.le hM_87
          replace hv_76 := hv_76.le hM_87
          replace hv_78 := hv_78.le hM_87
          replace hv_80 := hv_80.le hM_87
          replace hv_82 := hv_82.le hM_87
          replace hv_84 := hv_84.le hM_87
          have hzl := Nat.le_trans (suL_len ((l2).filter (fun z => decide (z ∈ l3)))) (List.length_filter_le _ _)
          refine WL_guard_yes E rfl rfl ?_
          refine S_x (X_pu E S rfl rfl rfl (laws_FnSetLaws_3 h1 hv_88 (by first | assumption | omega) (by first | assumption | omega) hb_1) (Hp.le.refl _) ?_)
          clear E a S; rintro a v_90 w M_89 hM_89 hv_90 S E
          replace h1 := h1.le hM_89
          replace h2 := h2.le hM_89
          replace h3 := h3.le hM_89
          replace hb_1 := hM_89.2 _ _ hb_1
          replace hz_9 := hz_9.le hM_89
          replace hz_11 := hz_11.le hM_89
          replace hv_13 := hv_13.le hM_89
          replace hv_15 := hv_15.le hM_89
          replace hv_20 := hv_20.le hM_89
          replace hv_22 := hv_22.le hM_89
          replace hv_24 := hv_24.le hM_89
          replace hv_26 := hv_26.le hM_89
          replace hv_30 := hv_30.le hM_89
          replace hv_32 := hv_32.le hM_89
          replace hv_34 := hv_34.le hM_89
          replace hv_36 := hv_36.le hM_89
          replace hv_40 := hv_40.le hM_89
          replace hv_42 := hv_42.le hM_89
          replace hv_46 := hv_46.le hM_89
          replace hv_48 := hv_48.le hM_89
          replace hv_52 := hv_52.le hM_89
          replace hv_54 := hv_54.le hM_89
          replace hv_56 := hv_56.le hM_89
          replace hv_58 := hv_58.le hM_89
          replace hv_60 := hv_60.le hM_89
          replace hv_64 := hv_64.le hM_89
          replace hv_66 := hv_66.le hM_89
          replace hv_68 := hv_68.le hM_89
          replace hv_70 := hv_70.le hM_89
          replace hv_72 := hv_72.le hM_89
          replace hv_76 := hv_76.le hM_89
          replace hv_78 := hv_78.le hM_89
          replace hv_80 := hv_80.le hM_89
          replace hv_82 := hv_82.le hM_89
          replace hv_84 := hv_84.le hM_89
          replace hv_88 := hv_88.le hM_89
          have hzl := Nat.le_trans (suL_len ((l1).filter (fun z => decide (z ∉ (suL ((l2).filter (fun z => decide (z ∈ l3)))))))) (List.length_filter_le _ _)
          refine WL_guard_yes E rfl rfl ?_
          refine S_v E rfl (R_move E rfl) rfl ?_
          clear E a; intro a E
          refine WL_guard_yes E rfl rfl ?_
          refine S_v E rfl (R_move E rfl) rfl ?_
          clear E a; intro a E
          refine WL_guard_yes E rfl rfl ?_
          refine S_v E rfl (R_move E rfl) rfl ?_
          clear E a; intro a E
          refine WL_guard_yes E rfl rfl ?_
          refine S_v E rfl (R_move E rfl) rfl ?_
          clear E a; intro a E
          refine WL_guard_yes E rfl rfl ?_
          refine S_x (X_pu E S rfl rfl rfl (laws_FnSetLaws_3 h1 h2 (by first | assumption | omega) (by first | assumption | omega) hb_1) (Hp.le.refl _) ?_)
          clear E a S; rintro a v_92 w M_91 hM_91 hv_92 S E
          replace h1 := h1.le hM_91
          replace h2 := h2.le hM_91
          replace h3 := h3.le hM_91
          replace hb_1 := hM_91.2 _ _ hb_1
          replace hz_9 := hz_9.le hM_91
          replace hz_11 := hz_11.le hM_91
          replace hv_13 := hv_13.le hM_91
          replace hv_15 := hv_15.le hM_91
          replace hv_20 := hv_20.le hM_91
          replace hv_22 := hv_22.le hM_91
          replace hv_24 := hv_24.le hM_91
          replace hv_26 := hv_26.le hM_91
          replace hv_30 := hv_30.le hM_91
          replace hv_32 := hv_32.le hM_91
          replace hv_34 := hv_34.le hM_91
          replace hv_36 := hv_36.le hM_91
          replace hv_40 := hv_40.le hM_91
          replace hv_42 := hv_42.le hM_91
          replace hv_46 := hv_46.le hM_91
          replace hv_48 := hv_48.le hM_91
          replace hv_52 := hv_52.le hM_91
          replace hv_54 := hv_54.le hM_91
          replace hv_56 := hv_56.le hM_91
          replace hv_58 := hv_58.le hM_91
          replace hv_60 := hv_60.le hM_91
          replace hv_64 := hv_64.le hM_91
          replace hv_66 := hv_66.le hM_91
          replace hv_68 := hv_68.le hM_91
          replace hv_70 := hv_70.le hM_91
          replace hv_72 := hv_72.le hM_91
          replace hv_76 := hv_76.le hM_91
          replace hv_78 := hv_78.le hM_91
          replace hv_80 := hv_80.le hM_91
          replace hv_82 := hv_82.le hM_91
          replace hv_84 := hv_84.le hM_91
          replace hv_88 := hv_88.le hM_91
          replace hv_90 := hv_90.le hM_91
          have hzl := Nat.le_trans (suL_len ((l1).filter (fun z => decide (z ∉ l2)))) (List.length_filter_le _ _)
          refine WL_guard_yes E rfl rfl ?_
          refine S_v E rfl (R_move E rfl) rfl ?_
          clear E a; intro a E
          refine WL_guard_yes E rfl rfl ?_
          refine S_v E rfl (R_move E rfl) rfl ?_
          clear E a; intro a E
          refine WL_guard_yes E rfl rfl ?_
          refine S_v E rfl (R_move E rfl) rfl ?_
          clear E a; intro a E
          refine WL_guard_yes E rfl rfl ?_
          refine S_x (X_pu E S rfl rfl rfl (laws_FnSetLaws_3 h1 h3 (by first | assumption | omega) (by first | assumption | omega) hb_1) (Hp.le.refl _) ?_)
          clear E a S; rintro a v_94 w M_93 hM_93 hv_94 S E
          replace h1 := h1.le hM_93
          replace h2 := h2.le hM_93
          replace h3 := h3.le hM_93
          replace hb_1 := hM_93.2 _ _ hb_1
          replace hz_9 := hz_9.le hM_93
          replace hz_11 := hz_11.le hM_93
          replace hv_13 := hv_13.le hM_93
          replace hv_15 := hv_15.le hM_93
          replace hv_20 := hv_20.le hM_93
          replace hv_22 := hv_22.le hM_93
          replace hv_24 := hv_24.le hM_93
          replace hv_26 := hv_26.le hM_93
          replace hv_30 := hv_30.le hM_93
          replace hv_32 := hv_32.le hM_93
          replace hv_34 := hv_34.le hM_93
          replace hv_36 := hv_36.le hM_93
          replace hv_40 := hv_40.le hM_93
          replace hv_42 := hv_42.le hM_93
          replace hv_46 := hv_46.le hM_93
          replace hv_48 := hv_48.le hM_93
          replace hv_52 := hv_52.le hM_93
          replace hv_54 := hv_54.le hM_93
          replace hv_56 := hv_56.le hM_93
          replace hv_58 := hv_58.le hM_93
          replace hv_60 := hv_60.le hM_93
          replace hv_64 := hv_64.le hM_93
          replace hv_66 := hv_66.le hM_93
          replace hv_68 := hv_68.le hM_93
          replace hv_70 := hv_70.le hM_93
          replace hv_72 := hv_72.le hM_93
          replace hv_76 := hv_76.le hM_93
          replace hv_78 := hv_78.le hM_93
          replace hv_80 := hv_80.le hM_93
          replace hv_82 := hv_82.le hM_93
          replace hv_84 := hv_84.le hM_93
          replace hv_88 := hv_88.le hM_93
          replace hv_90 := hv_90.le hM_93
          replace hv_92 := hv_92.le hM_93
          have hzl := Nat.le_trans (suL_len ((l1).filter (fun z => decide (z ∉ l3)))) (List.length_filter_le _ _)
          refine WL_guard_yes E rfl rfl ?_
          refine S_x (X_pu E S rfl rfl rfl (laws_FnSetLaws_1 hv_92 hv_94 (by first | assumption | omega) (by first | assumption | omega) hb_1) (Hp.le.refl _) ?_)
          clear E a S; rintro a v_96 w M_95 hM_95 hv_96 S E
          replace h1 := h1.le hM_95
          replace h2 := h2.le hM_95
          replace h3 := h3.le hM_95
          replace hb_1 := hM_95.2 _ _ hb_1
          replace hz_9 := hz_9.le hM_95
          replace hz_11 := hz_11.le hM_95
          replace hv_13 := hv_13.le hM_95
          replace hv_15 := hv_15.le hM_95
          replace hv_20 := hv_20.le hM_95
          replace hv_22 := hv_22.le hM_95
          replace hv_24 := hv_24.le hM_95
          replace hv_26 := hv_26.le hM_95
          replace hv_30 := hv_30.le hM_95
          replace hv_32 := hv_32.le hM_95
          replace hv_34 := hv_34.le hM_95
          replace hv_36 := hv_36.le hM_95
          replace hv_40 := hv_40.le hM_95
          replace hv_42 := hv_42.le hM_95
          replace hv_46 := hv_46.le hM_95
          replace hv_48 := hv_48.le hM_95
          replace hv_52 := hv_52.le hM_95
          replace hv_54 := hv_54.le hM_95
          replace hv_56 := hv_56.le hM_95
          replace hv_58 := hv_58.le hM_95
          replace hv_60 := hv_60.le hM_95
          replace hv_64 := hv_64.le hM_95
          replace hv_66 := hv_66.le hM_95
          replace hv_68 := hv_68.le hM_95
          replace hv_70 := hv_70.le hM_95
          replace hv_72 := hv_72.le hM_95
          replace hv_76 := hv_76.le hM_95
          replace hv_78 := hv_78.le hM_95
          replace hv_80 := hv_80.le hM_95
          replace hv_82 := hv_82.le hM_95
          replace hv_84 := hv_84.le hM_95
          replace hv_88 := hv_88.le hM_95
          replace hv_90 := hv_90.le hM_95
          replace hv_92 := hv_92.le hM_95
          replace hv_94 := hv_94.le hM_95
          have hzl := suL_len ((suL ((l1).filter (fun z => decide (z ∉ l2)))) ++ (suL ((l1).filter (fun z => decide (z ∉ l3)))))
          rw [List.length_append] at hzl
          refine WL_guard_yes E rfl rfl ?_
          refine S_x (X_pu E S rfl rfl rfl (laws_eq hv_90 hv_96) (Hp.le.refl _) ?_)
          clear E a S; rintro a _ w M_97 hM_97 rfl S E
          replace h1 := h1.le hM_97
          replace h2 := h2.le hM_97
          replace h3 := h3.le hM_97
          replace hb_1 := hM_97.2 _ _ hb_1
          replace hz_9 := hz_9.le hM_97
          replace hz_11 := hz_11.le hM_97
          replace hv_13 := hv_13.le hM_97
          replace hv_15 := hv_15.le hM_97
          replace hv_20 := hv_20.le hM_97
          replace hv_22 := hv_22.le hM_97
          replace hv_24 := hv_24.le hM_97
          replace hv_26 := hv_26.le hM_97
          replace hv_30 := hv_30.le hM_97
          replace hv_32 := hv_32.le hM_97
          replace hv_34 := hv_34.le hM_97
          replace hv_36 := hv_36.le hM_97
          replace hv_40 := hv_40.le hM_97
          replace hv_42 := hv_42.le hM_97
          replace hv_46 := hv_46.le hM_97
          replace hv_48 := hv_48.le hM_97
          replace hv_52 := hv_52.le hM_97
          replace hv_54 := hv_54.le hM_97
          replace hv_56 := hv_56.le hM_97
          replace hv_58 := hv_58.le hM_97
          replace hv_60 := hv_60.le hM_97
          replace hv_64 := hv_64.le hM_97
          replace hv_66 := hv_66.le hM_97
          replace hv_68 := hv_68.le hM_97
          replace hv_70 := hv_70.le hM_97
          replace hv_72 := hv_72.le hM_97
          replace hv_76 := hv_76.le hM_97
          replace hv_78 := hv_78.le hM_97
          replace hv_80 := hv_80.le hM_97
          replace hv_82 := hv_82.le hM_97
          replace hv_84 := hv_84.le hM_97
          replace hv_88 := hv_88.le hM_97
          replace hv_90 := hv_90.le hM_97
          replace hv_92 := hv_92.le hM_97
          replace hv_94 := hv_94.le hM_97
          replace hv_96 := hv_96.le hM_97
          refine S_v E rfl (R_pickT E rfl rfl) rfl ?_
          clear E a; intro a E
          refine S_v E rfl (R_move E rfl) rfl ?_
          clear E a; intro a E
          have hc_98 : (decide (suL ((l1).filter (fun z => decide (z ∉ (suL ((l2).filter (fun z => decide (z ∈ l3))))))) = suL ((suL ((l1).filter (fun z => decide (z ∉ l2)))) ++ (suL ((l1).filter (fun z => decide (z ∉ l3))))))) = true := by (clear S E; first | (refine decide_eq_true ?_; first | rfl | (refine suL_eq fun x => ?_; simp only [mem_suL, List.mem_append, List.mem_filter, decide_eq_true_eq]; by_cases hx0 : x ∈ l1 <;> by_cases hx1 : x ∈ l2 <;> by_cases hx2 : x ∈ l3 <;> simp only [hx0, hx1, hx2, not_true_eq_false, not_false_eq_true, and_true, true_and, and_false, false_and, or_true, true_or, or_false, false_or, and_self, or_self])) | (refine decide_eq_true ?_; simp only [suL_card]; have h9 := card_incl l1 l2; omega) | (refine decide_eq_false ?_; have h9 : (suL (([1] : List Int) ++ [2])).length = 2 := (by rw [suL_card]; decide +kernel); omega))
          replace E := E.val (t := 174) rfl hc_98
          replace E := E.val (t := 175) rfl hc_98
          replace E := E.val (t := 176) rfl hc_98
          refine WL_guard_yes E rfl rfl ?_
          refine S_v E rfl (R_move E rfl) rfl ?_
          clear E a; intro a E
          refine WL_guard_yes E rfl rfl ?_
          refine S_v E rfl (R_move E rfl) rfl ?_
          clear E a; intro a E
          refine WL_guard_yes E rfl rfl ?_
          refine S_v E rfl (R_move E rfl) rfl ?_
          clear E a; intro a E
          refine WL_guard_yes E rfl rfl ?_
          refine S_v E rfl (R_move E rfl) rfl ?_
          clear E a; intro a E
          refine WL_guard_yes E rfl rfl ?_
          refine S_x (X_pu E S rfl rfl rfl (laws_FnSetLaws_4 h1 h2 (by first | assumption | omega) (by first | assumption | omega) hb_1) (Hp.le.refl _) ?_)
          clear E a S; rintro a v_100 w M_99 hM_99 hv_100 S E
          replace h1 := h1.le hM_99
          replace h2 := h2.le hM_99
          replace h3 := h3.le hM_99
          replace hb_1 := hM_99.2 _ _ hb_1
          replace hz_9 := hz_9.le hM_99
          replace hz_11 := hz_11.le hM_99
          replace hv_13 := hv_13.le hM_99
          replace hv_15 := hv_15.le hM_99
          replace hv_20 := hv_20.le hM_99
          replace hv_22 := hv_22.le hM_99
          replace hv_24 := hv_24.le hM_99
          replace hv_26 := hv_26.le hM_99
          replace hv_30 := hv_30.le hM_99
          replace hv_32 := hv_32.le hM_99
          replace hv_34 := hv_34.le hM_99
          replace hv_36 := hv_36.le hM_99
          replace hv_40 := hv_40.le hM_99
          replace hv_42 := hv_42.le hM_99
          replace hv_46 := hv_46.le hM_99
          replace hv_48 := hv_48.le hM_99
          replace hv_52 := hv_52.le hM_99
          replace hv_54 := hv_54.le hM_99
          replace hv_56 := hv_56.le hM_99
          replace hv_58 := hv_58.le hM_99
          replace hv_60 := hv_60.le hM_99
          replace hv_64 := hv_64.le hM_99
          replace hv_66 := hv_66.le hM_99
          replace hv_68 := hv_68.le hM_99
          replace hv_70 := hv_70.le hM_99
          replace hv_72 := hv_72.le hM_99
          replace hv_76 := hv_76.le hM_99
          replace hv_78 := hv_78.le hM_99
          replace hv_80 := hv_80.le hM_99
          replace hv_82 := hv_82.le hM_99
          replace hv_84 := hv_84.le hM_99
          replace hv_88 := hv_88.le hM_99
          replace hv_90 := hv_90.le hM_99
          replace hv_92 := hv_92.le hM_99
          replace hv_94 := hv_94.le hM_99
          replace hv_96 := hv_96.le hM_99
          have hzl := suL_len ((l1).filter (fun z => decide (z ∉ l2)) ++ (l2).filter (fun z => decide (z ∉ l1)))
          rw [List.length_append] at hzl
          have hzm := List.length_filter_le (fun z => decide (z ∉ l2)) l1
          have hzn := List.length_filter_le (fun z => decide (z ∉ l1)) l2
          refine WL_guard_yes E rfl rfl ?_
          refine S_v E rfl (R_move E rfl) rfl ?_
          clear E a; intro a E
          refine WL_guard_yes E rfl rfl ?_
          refine S_x (X_pu E S rfl rfl rfl (laws_FnSetLaws_4 hv_100 h3 (by first | assumption | omega) (by first | assumption | omega) hb_1) (Hp.le.refl _) ?_)
          clear E a S; rintro a v_102 w M_101 hM_101 hv_102 S E
          replace h1 := h1.le hM_101
          replace h2 := h2.le hM_101
          replace h3 := h3.le hM_101
          replace hb_1 := hM_101.2 _ _ hb_1
          replace hz_9 := hz_9.le hM_101
          replace hz_11 := hz_11.le hM_101
          replace hv_13 := hv_13.le hM_101
          replace hv_15 := hv_15.le hM_101
          replace hv_20 := hv_20.le hM_101
          replace hv_22 := hv_22.le hM_101
          replace hv_24 := hv_24.le hM_101
          replace hv_26 := hv_26.le hM_101
          replace hv_30 := hv_30.le hM_101
          replace hv_32 := hv_32.le hM_101
          replace hv_34 := hv_34.le hM_101
          replace hv_36 := hv_36.le hM_101
          replace hv_40 := hv_40.le hM_101
          replace hv_42 := hv_42.le hM_101
          replace hv_46 := hv_46.le hM_101
          replace hv_48 := hv_48.le hM_101
          replace hv_52 := hv_52.le hM_101
          replace hv_54 := hv_54.le hM_101
          replace hv_56 := hv_56.le hM_101
          replace hv_58 := hv_58.le hM_101
          replace hv_60 := hv_60.le hM_101
          replace hv_64 := hv_64.le hM_101
          replace hv_66 := hv_66.le hM_101
          replace hv_68 := hv_68.le hM_101
          replace hv_70 := hv_70.le hM_101
          replace hv_72 := hv_72.le hM_101
          replace hv_76 := hv_76.le hM_101
          replace hv_78 := hv_78.le hM_101
          replace hv_80 := hv_80.le hM_101
          replace hv_82 := hv_82.le hM_101
          replace hv_84 := hv_84.le hM_101
          replace hv_88 := hv_88.le hM_101
          replace hv_90 := hv_90.le hM_101
          replace hv_92 := hv_92.le hM_101
          replace hv_94 := hv_94.le hM_101
          replace hv_96 := hv_96.le hM_101
          replace hv_100 := hv_100.le hM_101
          have hzl := suL_len ((suL ((l1).filter (fun z => decide (z ∉ l2)) ++ (l2).filter (fun z => decide (z ∉ l1)))).filter (fun z => decide (z ∉ l3)) ++ (l3).filter (fun z => decide (z ∉ (suL ((l1).filter (fun z => decide (z ∉ l2)) ++ (l2).filter (fun z => decide (z ∉ l1)))))))
          rw [List.length_append] at hzl
          have hzm := List.length_filter_le (fun z => decide (z ∉ l3)) (suL ((l1).filter (fun z => decide (z ∉ l2)) ++ (l2).filter (fun z => decide (z ∉ l1))))
          have hzn := List.length_filter_le (fun z => decide (z ∉ (suL ((l1).filter (fun z => decide (z ∉ l2)) ++ (l2).filter (fun z => decide (z ∉ l1)))))) l3
          refine WL_guard_yes E rfl rfl ?_
          refine S_v E rfl (R_move E rfl) rfl ?_
          clear E a; intro a E
          refine WL_guard_yes E rfl rfl ?_
          refine S_v E rfl (R_move E rfl) rfl ?_
          clear E a; intro a E
          refine WL_guard_yes E rfl rfl ?_
          refine S_v E rfl (R_move E rfl) rfl ?_
          clear E a; intro a E
          refine WL_guard_yes E rfl rfl ?_
          refine S_v E rfl (R_move E rfl) rfl ?_
          clear E a; intro a E
          refine WL_guard_yes E rfl rfl ?_
          refine S_v E rfl (R_move E rfl) rfl ?_
          clear E a; intro a E
          refine WL_guard_yes E rfl rfl ?_
          refine S_x (X_pu E S rfl rfl rfl (laws_FnSetLaws_4 h2 h3 (by first | assumption | omega) (by first | assumption | omega) hb_1) (Hp.le.refl _) ?_)
          clear E a S; rintro a v_104 w M_103 hM_103 hv_104 S E
          replace h1 := h1.le hM_103
          replace h2 := h2.le hM_103
          replace h3 := h3.le hM_103
          replace hb_1 := hM_103.2 _ _ hb_1
          replace hz_9 := hz_9.le hM_103
          replace hz_11 := hz_11.le hM_103
          replace hv_13 := hv_13.le hM_103
          replace hv_15 := hv_15.le hM_103
          replace hv_20 := hv_20.le hM_103
          replace hv_22 := hv_22.le hM_103
          replace hv_24 := hv_24.le hM_103
          replace hv_26 := hv_26.le hM_103
          replace hv_30 := hv_30.le hM_103
          replace hv_32 := hv_32.le hM_103
          replace hv_34 := hv_34.le hM_103
          replace hv_36 := hv_36.le hM_103
          replace hv_40 := hv_40.le hM_103
          replace hv_42 := hv_42.le hM_103
          replace hv_46 := hv_46.le hM_103
          replace hv_48 := hv_48.le hM_103
          replace hv_52 := hv_52.le hM_103
          replace hv_54 := hv_54.le hM_103
          replace hv_56 := hv_56.le hM_103
          replace hv_58 := hv_58.le hM_103
          replace hv_60 := hv_60.le hM_103
          replace hv_64 := hv_64.le hM_103
          replace hv_66 := hv_66.le hM_103
          replace hv_68 := hv_68.le hM_103
          replace hv_70 := hv_70.le hM_103
          replace hv_72 := hv_72.le hM_103
          replace hv_76 := hv_76.le hM_103
          replace hv_78 := hv_78.le hM_103
          replace hv_80 := hv_80.le hM_103
          replace hv_82 := hv_82.le hM_103
          replace hv_84 := hv_84.le hM_103
          replace hv_88 := hv_88.le hM_103
          replace hv_90 := hv_90.le hM_103
          replace hv_92 := hv_92.le hM_103
          replace hv_94 := hv_94.le hM_103
          replace hv_96 := hv_96.le hM_103
          replace hv_100 := hv_100.le hM_103
          replace hv_102 := hv_102.le hM_103
          have hzl := suL_len ((l2).filter (fun z => decide (z ∉ l3)) ++ (l3).filter (fun z => decide (z ∉ l2)))
          rw [List.length_append] at hzl
          have hzm := List.length_filter_le (fun z => decide (z ∉ l3)) l2
          have hzn := List.length_filter_le (fun z => decide (z ∉ l2)) l3
          refine WL_guard_yes E rfl rfl ?_
          refine S_x (X_pu E S rfl rfl rfl (laws_FnSetLaws_4 h1 hv_104 (by first | assumption | omega) (by first | assumption | omega) hb_1) (Hp.le.refl _) ?_)
          clear E a S; rintro a v_106 w M_105 hM_105 hv_106 S E
          replace h1 := h1.le hM_105
          replace h2 := h2.le hM_105
          replace h3 := h3.le hM_105
          replace hb_1 := hM_105.2 _ _ hb_1
          replace hz_9 := hz_9.le hM_105
          replace hz_11 := hz_11.le hM_105
          replace hv_13 := hv_13.le hM_105
          replace hv_15 := hv_15.le hM_105
          replace hv_20 := hv_20.le hM_105
          replace hv_22 := hv_22.le hM_105
          replace hv_24 := hv_24.le hM_105
          replace hv_26 := hv_26.le hM_105
          replace hv_30 := hv_30.le hM_105
          replace hv_32 := hv_32.le hM_105
          replace hv_34 := hv_34.le hM_105
          replace hv_36 := hv_36.le hM_105
          replace hv_40 := hv_40.le hM_105
          replace hv_42 := hv_42.le hM_105
          replace hv_46 := hv_46.le hM_105
          replace hv_48 := hv_48.le hM_105
          replace hv_52 := hv_52.le hM_105
          replace hv_54 := hv_54.le hM_105
          replace hv_56 := hv_56.le hM_105
          replace hv_58 := hv_58.le hM_105
          replace hv_60 := hv_60.le hM_105
          replace hv_64 := hv_64.le hM_105
          replace hv_66 := hv_66.le hM_105
          replace hv_68 := hv_68.le hM_105
          replace hv_70 := hv_70.le hM_105
          replace hv_72 := hv_72.le hM_105
          replace hv_76 := hv_76.le hM_105
          replace hv_78 := hv_78.le hM_105
          replace hv_80 := hv_80.le hM_105
          replace hv_82 := hv_82.le hM_105
          replace hv_84 := hv_84.le hM_105
          replace hv_88 := hv_88.le hM_105
          replace hv_90 := hv_90.le hM_105
          replace hv_92 := hv_92.le hM_105
          replace hv_94 := hv_94.le hM_105
          replace hv_96 := hv_96.le hM_105
          replace hv_100 := hv_100.le hM_105
          replace hv_102 := hv_102.le hM_105
          replace hv_104 := hv_104.le hM_105
          have hzl := suL_len ((l1).filter (fun z => decide (z ∉ (suL ((l2).filter (fun z => decide (z ∉ l3)) ++ (l3).filter (fun z => decide (z ∉ l2)))))) ++ (suL ((l2).filter (fun z => decide (z ∉ l3)) ++ (l3).filter (fun z => decide (z ∉ l2)))).filter (fun z => decide (z ∉ l1)))
          rw [List.length_append] at hzl
          have hzm := List.length_filter_le (fun z => decide (z ∉ (suL ((l2).filter (fun z => decide (z ∉ l3)) ++ (l3).filter (fun z => decide (z ∉ l2)))))) l1
          have hzn := List.length_filter_le (fun z => decide (z ∉ l1)) (suL ((l2).filter (fun z => decide (z ∉ l3)) ++ (l3).filter (fun z => decide (z ∉ l2))))
          refine WL_guard_yes E rfl rfl ?_
          refine S_x (X_pu E S rfl rfl rfl (laws_eq hv_102 hv_106) (Hp.le.refl _) ?_)
          clear E a S; rintro a _ w M_107 hM_107 rfl S E
          replace h1 := h1.le hM_107
          replace h2 := h2.le hM_107
          replace h3 := h3.le hM_107
          replace hb_1 := hM_107.2 _ _ hb_1
          replace hz_9 := hz_9.le hM_107
          replace hz_11 := hz_11.le hM_107
          replace hv_13 := hv_13.le hM_107
          replace hv_15 := hv_15.le hM_107
          replace hv_20 := hv_20.le hM_107
          replace hv_22 := hv_22.le hM_107
          replace hv_24 := hv_24.le hM_107
          replace hv_26 := hv_26.le hM_107
          replace hv_30 := hv_30.le hM_107
          replace hv_32 := hv_32.le hM_107
          replace hv_34 := hv_34.le hM_107
          replace hv_36 := hv_36.le hM_107
          replace hv_40 := hv_40.le hM_107
          replace hv_42 := hv_42.le hM_107
          replace hv_46 := hv_46.le hM_107
          replace hv_48 := hv_48.le hM_107
          replace hv_52 := hv_52.le hM_107
          replace hv_54 := hv_54.le hM_107
          replace hv_56 := hv_56.le hM_107
          replace hv_58 := hv_58.le hM_107
          replace hv_60 := hv_60.le hM_107
          replace hv_64 := hv_64.le hM_107
          replace hv_66 := hv_66.le hM_107
          replace hv_68 := hv_68.le hM_107
          replace hv_70 := hv_70.le hM_107
          replace hv_72 := hv_72.le hM_107
          replace hv_76 := hv_76.le hM_107
          replace hv_78 := hv_78.le hM_107
          replace hv_80 := hv_80.le hM_107
          replace hv_82 := hv_82.le hM_107
          replace hv_84 := hv_84.le hM_107
          replace hv_88 := hv_88.le hM_107
          replace hv_90 := hv_90.le hM_107
          replace hv_92 := hv_92.le hM_107
          replace hv_94 := hv_94.le hM_107
          replace hv_96 := hv_96.le hM_107
          replace hv_100 := hv_100.le hM_107
          replace hv_102 := hv_102.le hM_107
          replace hv_104 := hv_104.le hM_107
          replace hv_106 := hv_106.le hM_107
          refine S_v E rfl (R_pickT E rfl rfl) rfl ?_
          clear E a; intro a E
          refine S_v E rfl (R_move E rfl) rfl ?_
          clear E a; intro a E
          have hc_108 : (decide (suL ((suL ((l1).filter (fun z => decide (z ∉ l2)) ++ (l2).filter (fun z => decide (z ∉ l1)))).filter (fun z => decide (z ∉ l3)) ++ (l3).filter (fun z => decide (z ∉ (suL ((l1).filter (fun z => decide (z ∉ l2)) ++ (l2).filter (fun z => decide (z ∉ l1))))))) = suL ((l1).filter (fun z => decide (z ∉ (suL ((l2).filter (fun z => decide (z ∉ l3)) ++ (l3).filter (fun z => decide (z ∉ l2)))))) ++ (suL ((l2).filter (fun z => decide (z ∉ l3)) ++ (l3).filter (fun z => decide (z ∉ l2)))).filter (fun z => decide (z ∉ l1))))) = true := by (clear S E; first | (refine decide_eq_true ?_; first | rfl | (refine suL_eq fun x => ?_; simp only [mem_suL, List.mem_append, List.mem_filter, decide_eq_true_eq]; by_cases hx0 : x ∈ l1 <;> by_cases hx1 : x ∈ l2 <;> by_cases hx2 : x ∈ l3 <;> simp only [hx0, hx1, hx2, not_true_eq_false, not_false_eq_true, and_true, true_and, and_false, false_and, or_true, true_or, or_false, false_or, and_self, or_self])) | (refine decide_eq_true ?_; simp only [suL_card]; have h9 := card_incl l1 l2; omega) | (refine decide_eq_false ?_; have h9 : (suL (([1] : List Int) ++ [2])).length = 2 := (by rw [suL_card]; decide +kernel); omega))
          replace E := E.val (t := 191) rfl hc_108
          replace E := E.val (t := 192) rfl hc_108
          replace E := E.val (t := 193) rfl hc_108
          refine WL_guard_yes E rfl rfl ?_
          refine S_v E rfl (R_move E rfl) rfl ?_
          clear E a; intro a E
          refine WL_guard_yes E rfl rfl ?_
          refine S_v E rfl (R_move E rfl) rfl ?_
          clear E a; intro a E
          refine WL_guard_yes E rfl rfl ?_
          refine S_v E rfl (R_move E rfl) rfl ?_
          clear E a; intro a E
          refine WL_guard_yes E rfl rfl ?_
          refine S_x (X_pu E S rfl rfl rfl (laws_FnSetLaws_4 h1 h2 (by first | assumption | omega) (by first | assumption | omega) hb_1) (Hp.le.refl _) ?_)
          clear E a S; rintro a v_110 w M_109 hM_109 hv_110 S E
          replace h1 := h1.le hM_109
          replace h2 := h2.le hM_109
          replace h3 := h3.le hM_109
          replace hb_1 := hM_109.2 _ _ hb_1
          replace hz_9 := hz_9.le hM_109
          replace hz_11 := hz_11.le hM_109
          replace hv_13 := hv_13.le hM_109
          replace hv_15 := hv_15.le hM_109
          replace hv_20 := hv_20.le hM_109
          replace hv_22 := hv_22.le hM_109
          replace hv_24 := hv_24.le hM_109
          replace hv_26 := hv_26.le hM_109
          replace hv_30 := hv_30.le hM_109
          replace hv_32 := hv_32.le hM_109
          replace hv_34 := hv_34.le hM_109
          replace hv_36 := hv_36.le hM_109
          replace hv_40 := hv_40.le hM_109
          replace hv_42 := hv_42.le hM_109
          replace hv_46 := hv_46.le hM_109
          replace hv_48 := hv_48.le hM_109
          replace hv_52 := hv_52.le hM_109
          replace hv_54 := hv_54.le hM_109
          replace hv_56 := hv_56.le hM_109
          replace hv_58 := hv_58.le hM_109
          replace hv_60 := hv_60.le hM_109
          replace hv_64 := hv_64.le hM_109
          replace hv_66 := hv_66.le hM_109
          replace hv_68 := hv_68.le hM_109
          replace hv_70 := hv_70.le hM_109
          replace hv_72 := hv_72.le hM_109
          replace hv_76 := hv_76.le hM_109
          replace hv_78 := hv_78.le hM_109
          replace hv_80 := hv_80.le hM_109
          replace hv_82 := hv_82.le hM_109
          replace hv_84 := hv_84.le hM_109
          replace hv_88 := hv_88.le hM_109
          replace hv_90 := hv_90.le hM_109
          replace hv_92 := hv_92.le hM_109
          replace hv_94 := hv_94.le hM_109
          replace hv_96 := hv_96.le hM_109
          replace hv_100 := hv_100.le hM_109
          replace hv_102 := hv_102.le hM_109
          replace hv_104 := hv_104.le hM_109
          replace hv_106 := hv_106.le hM_109
          have hzl := suL_len ((l1).filter (fun z => decide (z ∉ l2)) ++ (l2).filter (fun z => decide (z ∉ l1)))
          rw [List.length_append] at hzl
          have hzm := List.length_filter_le (fun z => decide (z ∉ l2)) l1
          have hzn := List.length_filter_le (fun z => decide (z ∉ l1)) l2
          refine WL_guard_yes E rfl rfl ?_
          refine S_v E rfl (R_move E rfl) rfl ?_
          clear E a; intro a E
          refine WL_guard_yes E rfl rfl ?_
          refine S_v E rfl (R_move E rfl) rfl ?_
          clear E a; intro a E
          refine WL_guard_yes E rfl rfl ?_
          refine S_v E rfl (R_move E rfl) rfl ?_
          clear E a; intro a E
          refine WL_guard_yes E rfl rfl ?_
          refine S_v E rfl (R_move E rfl) rfl ?_
          clear E a; intro a E
          refine WL_guard_yes E rfl rfl ?_
          refine S_x (X_pu E S rfl rfl rfl (laws_FnSetLaws_1 h1 h2 (by first | assumption | omega) (by first | assumption | omega) hb_1) (Hp.le.refl _) ?_)
          clear E a S; rintro a v_112 w M_111 hM_111 hv_112 S E
          replace h1 := h1.le hM_111
          replace h2 := h2.le hM_111
          replace h3 := h3.le hM_111
          replace hb_1 := hM_111.2 _ _ hb_1
          replace hz_9 := hz_9.le hM_111
          replace hz_11 := hz_11.le hM_111
          replace hv_13 := hv_13.le hM_111
          replace hv_15 := hv_15.le hM_111
          replace hv_20 := hv_20.le hM_111
          replace hv_22 := hv_22.le hM_111
          replace hv_24 := hv_24.le hM_111
          replace hv_26 := hv_26.le hM_111
          replace hv_30 := hv_30.le hM_111
          replace hv_32 := hv_32.le hM_111
          replace hv_34 := hv_34.le hM_111
          replace hv_36 := hv_36.le hM_111
          replace hv_40 := hv_40.le hM_111
          replace hv_42 := hv_42.le hM_111
          replace hv_46 := hv_46.le hM_111
          replace hv_48 := hv_48.le hM_111
          replace hv_52 := hv_52.le hM_111
          replace hv_54 := hv_54.le hM_111
          replace hv_56 := hv_56.le hM_111
          replace hv_58 := hv_58.le hM_111
          replace hv_60 := hv_60.le hM_111
          replace hv_64 := hv_64.le hM_111
          replace hv_66 := hv_66.le hM_111
          replace hv_68 := hv_68.le hM_111
          replace hv_70 := hv_70.le hM_111
          replace hv_72 := hv_72.le hM_111
          replace hv_76 := hv_76.le hM_111
          replace hv_78 := hv_78.le hM_111
          replace hv_80 := hv_80.le hM_111
          replace hv_82 := hv_82.le hM_111
          replace hv_84 := hv_84.le hM_111
          replace hv_88 := hv_88.le hM_111
          replace hv_90 := hv_90.le hM_111
          replace hv_92 := hv_92.le hM_111
          replace hv_94 := hv_94.le hM_111
          replace hv_96 := hv_96.le hM_111
          replace hv_100 := hv_100.le hM_111
          replace hv_102 := hv_102.le hM_111
          replace hv_104 := hv_104.le hM_111
          replace hv_106 := hv_106.le hM_111
          replace hv_110 := hv_110.le hM_111
          have hzl := suL_len (l1 ++ l2)
          rw [List.length_append] at hzl
          refine WL_guard_yes E rfl rfl ?_
          refine S_v E rfl (R_move E rfl) rfl ?_
          clear E a; intro a E
          refine WL_guard_yes E rfl rfl ?_
          refine S_v E rfl (R_move E rfl) rfl ?_
          clear E a; intro a E
          refine WL_guard_yes E rfl rfl ?_
          refine S_v E rfl (R_move E rfl) rfl ?_
          clear E a; intro a E
          refine WL_guard_yes E rfl rfl ?_
          refine S_x (X_pu E S rfl rfl rfl (laws_FnSetLaws_2 h1 h2 (by first | assumption | omega) (by first | assumption | omega) hb_1) (Hp.le.refl _) ?_)
          clear E a S; rintro a v_114 w M_113 hM_113 hv_114 S E
          replace h1 := h1.le hM_113
          replace h2 := h2.le hM_113
          replace h3 := h3.le hM_113
          replace hb_1 := hM_113.2 _ _ hb_1
          replace hz_9 := hz_9.le hM_113
          replace hz_11 := hz_11.le hM_113
          replace hv_13 := hv_13.le hM_113
          replace hv_15 := hv_15.le hM_113
          replace hv_20 := hv_20.le hM_113
          replace hv_22 := hv_22.le hM_113
          replace hv_24 := hv_24.le hM_113
          replace hv_26 := hv_26.le hM_113
          replace hv_30 := hv_30.le hM_113
          replace hv_32 := hv_32.le hM_113
          replace hv_34 := hv_34.le hM_113
          replace hv_36 := hv_36.le hM_113
          replace hv_40 := hv_40.le hM_113
          replace hv_42 := hv_42.le hM_113
          replace hv_46 := hv_46.le hM_113
          replace hv_48 := hv_48.le hM_113
          replace hv_52 := hv_52.le hM_113
          replace hv_54 := hv_54.le hM_113
          replace hv_56 := hv_56.le hM_113
          replace hv_58 := hv_58.le hM_113
          replace hv_60 := hv_60.le hM_113
          replace hv_64 := hv_64.le hM_113
          replace hv_66 := hv_66.le hM_113
          replace hv_68 := hv_68.le hM_113
          replace hv_70 := hv_70.le hM_113
          replace hv_72 := hv_72.le hM_113
          replace hv_76 := hv_76.le hM_113
          replace hv_78 := hv_78.le hM_113
          replace hv_80 := hv_80.le hM_113
          replace hv_82 := hv_82.le hM_113
          replace hv_84 := hv_84.le hM_113
          replace hv_88 := hv_88.le hM_113
          replace hv_90 := hv_90.le hM_113
          replace hv_92 := hv_92.le hM_113
          replace hv_94 := hv_94.le hM_113
          replace hv_96 := hv_96.le hM_113
          replace hv_100 := hv_100.le hM_113
          replace hv_102 := hv_102.le hM_113
          replace hv_104 := hv_104.le hM_113
          replace hv_106 := hv_106.le hM_113
          replace hv_110 := hv_110.le hM_113
          replace hv_112 := hv_112.le hM_113
          have hzl := Nat.le_trans (suL_len ((l1).filter (fun z => decide (z ∈ l2)))) (List.length_filter_le _ _)
          refine WL_guard_yes E rfl rfl ?_
          refine S_x (X_pu E S rfl rfl rfl (laws_FnSetLaws_3 hv_112 hv_114 (by first | assumption | omega) (by first | assumption | omega) hb_1) (Hp.le.refl _) ?_)
          clear E a S; rintro a v_116 w M_115 hM_115 hv_116 S E
          replace h1 := h1.le hM_115
          replace h2 := h2.le hM_115
          replace h3 := h3.le hM_115
          replace hb_1 := hM_115.2 _ _ hb_1
          replace hz_9 := hz_9.le hM_115
          replace hz_11 := hz_11.le hM_115
          replace hv_13 := hv_13.le hM_115
          replace hv_15 := hv_15.le hM_115
          replace hv_20 := hv_20.le hM_115
          replace hv_22 := hv_22.le hM_115
          replace hv_24 := hv_24.le hM_115
          replace hv_26 := hv_26.le hM_115
          replace hv_30 := hv_30.le hM_115
          replace hv_32 := hv_32.le hM_115
          replace hv_34 := hv_34.le hM_115
          replace hv_36 := hv_36.le hM_115
          replace hv_40 := hv_40.le hM_115
          replace hv_42 := hv_42.le hM_115
          replace hv_46 := hv_46.le hM_115
          replace hv_48 := hv_48.le hM_115
          replace hv_52 := hv_52.le hM_115
          replace hv_54 := hv_54.le hM_115
          replace hv_56 := hv_56.le hM_115
          replace hv_58 := hv_58.le hM_115
          replace hv_60 := hv_60.le hM_115
          replace hv_64 := hv_64.le hM_115
          replace hv_66 := hv_66.le hM_115
          replace hv_68 := hv_68.le hM_115
          replace hv_70 := hv_70.le hM_115
          replace hv_72 := hv_72.le hM_115
          replace hv_76 := hv_76.le hM_115
          replace hv_78 := hv_78.le hM_115
          replace hv_80 := hv_80.le hM_115
          replace hv_82 := hv_82.le hM_115
          replace hv_84 := hv_84.le hM_115
          replace hv_88 := hv_88.le hM_115
          replace hv_90 := hv_90.le hM_115
          replace hv_92 := hv_92.le hM_115
          replace hv_94 := hv_94.le hM_115
          replace hv_96 := hv_96.le hM_115
          replace hv_100 := hv_100.le hM_115
          replace hv_102 := hv_102.le hM_115
          replace hv_104 := hv_104.le hM_115
          replace hv_106 := hv_106.le hM_115
          replace hv_110 := hv_110.le hM_115
          replace hv_112 := hv_112.le hM_115
          replace hv_114 := hv_114.le hM_115
          have hzl := Nat.le_trans (suL_len ((suL (l1 ++ l2)).filter (fun z => decide (z ∉ (suL ((l1).filter (fun z => decide (z ∈ l2)))))))) (List.length_filter_le _ _)
          refine WL_guard_yes E rfl rfl ?_
          refine S_x (X_pu E S rfl rfl rfl (laws_eq hv_110 hv_116) (Hp.le.refl _) ?_)
          clear E a S; rintro a _ w M_117 hM_117 rfl S E
          replace h1 := h1.le hM_117
          replace h2 := h2.le hM_117
          replace h3 := h3.le hM_117
          replace hb_1 := hM_117.2 _ _ hb_1
          replace hz_9 := hz_9.le hM_117
          replace hz_11 := hz_11.le hM_117
          replace hv_13 := hv_13.le hM_117
          replace hv_15 := hv_15.le hM_117
          replace hv_20 := hv_20.le hM_117
          replace hv_22 := hv_22.le hM_117
          replace hv_24 := hv_24.le hM_117
          replace hv_26 := hv_26.le hM_117
          replace hv_30 := hv_30.le hM_117
          replace hv_32 := hv_32.le hM_117
          replace hv_34 := hv_34.le hM_117
          replace hv_36 := hv_36.le hM_117
          replace hv_40 := hv_40.le hM_117
          replace hv_42 := hv_42.le hM_117
          replace hv_46 := hv_46.le hM_117
          replace hv_48 := hv_48.le hM_117
          replace hv_52 := hv_52.le hM_117
          replace hv_54 := hv_54.le hM_117
          replace hv_56 := hv_56.le hM_117
          replace hv_58 := hv_58.le hM_117
          replace hv_60 := hv_60.le hM_117
          replace hv_64 := hv_64.le hM_117
          replace hv_66 := hv_66.le hM_117
          replace hv_68 := hv_68.le hM_117
          replace hv_70 := hv_70.le hM_117
          replace hv_72 := hv_72.le hM_117
          replace hv_76 := hv_76.le hM_117
          replace hv_78 := hv_78.le hM_117
          replace hv_80 := hv_80.le hM_117
          replace hv_82 := hv_82.le hM_117
          replace hv_84 := hv_84.le hM_117
          replace hv_88 := hv_88.le hM_117
          replace hv_90 := hv_90.le hM_117
          replace hv_92 := hv_92.le hM_117
          replace hv_94 := hv_94.le hM_117
          replace hv_96 := hv_96.le hM_117
          replace hv_100 := hv_100.le hM_117
          replace hv_102 := hv_102.le hM_117
          replace hv_104 := hv_104.le hM_117
          replace hv_106 := hv_106.le hM_117
          replace hv_110 := hv_110.le hM_117
          replace hv_112 := hv_112.le hM_117
          replace hv_114 := hv_114.le hM_117
          replace hv_116 := hv_116.le hM_117
          refine S_v E rfl (R_pickT E rfl rfl) rfl ?_
          clear E a; intro a E
          refine S_v E rfl (R_move E rfl) rfl ?_
          clear E a; intro a E
          have hc_118 : (decide (suL ((l1).filter (fun z => decide (z ∉ l2)) ++ (l2).filter (fun z => decide (z ∉ l1))) = suL ((suL (l1 ++ l2)).filter (fun z => decide (z ∉ (suL ((l1).filter (fun z => decide (z ∈ l2))))))))) = true := by (clear S E; first | (refine decide_eq_true ?_; first | rfl | (refine suL_eq fun x => ?_; simp only [mem_suL, List.mem_append, List.mem_filter, decide_eq_true_eq]; by_cases hx0 : x ∈ l1 <;> by_cases hx1 : x ∈ l2 <;> by_cases hx2 : x ∈ l3 <;> simp only [hx0, hx1, hx2, not_true_eq_false, not_false_eq_true, and_true, true_and, and_false, false_and, or_true, true_or, or_false, false_or, and_self, or_self])) | (refine decide_eq_true ?_; simp only [suL_card]; have h9 := card_incl l1 l2; omega) | (refine decide_eq_false ?_; have h9 : (suL (([1] : List Int) ++ [2])).length = 2 := (by rw [suL_card]; decide +kernel); omega))
          replace E := E.val (t := 208) rfl hc_118
          replace E := E.val (t := 209) rfl hc_118
          replace E := E.val (t := 210) rfl hc_118
          refine WL_guard_yes E rfl rfl ?_
          refine S_v E rfl (R_move E rfl) rfl ?_
          clear E a; intro a E
          refine WL_guard_yes E rfl rfl ?_
          refine S_v E rfl (R_move E rfl) rfl ?_
          clear E a; intro a E
          refine WL_guard_yes E rfl rfl ?_
          refine S_v E rfl (R_move E rfl) rfl ?_
          clear E a; intro a E
          refine WL_guard_yes E rfl rfl ?_
          refine S_x (X_pu E S rfl rfl rfl (laws_FnSetLaws_1 h1 h2 (by first | assumption | omega) (by first | assumption | omega) hb_1) (Hp.le.refl _) ?_)
          clear E a S; rintro a v_120 w M_119 hM_119 hv_120 S E
          replace h1 := h1.le hM_119
          replace h2 := h2.le hM_119
          replace h3 := h3.le hM_119
          replace hb_1 := hM_119.2 _ _ hb_1
          replace hz_9 := hz_9.le hM_119
          replace hz_11 := hz_11.le hM_119
          replace hv_13 := hv_13.le hM_119
          replace hv_15 := hv_15.le hM_119
          replace hv_20 := hv_20.le hM_119
          replace hv_22 := hv_22.le hM_119
          replace hv_24 := hv_24.le hM_119
          replace hv_26 := hv_26.le hM_119
          replace hv_30 := hv_30.le hM_119
          replace hv_32 := hv_32.le hM_119
          replace hv_34 := hv_34.le hM_119
          replace hv_36 := hv_36.le hM_119
          replace hv_40 := hv_40.le hM_119
          replace hv_42 := hv_42.le hM_119
          replace hv_46 := hv_46.le hM_119
          replace hv_48 := hv_48.le hM_119
          replace hv_52 := hv_52.le hM_119
          replace hv_54 := hv_54.le hM_119
          replace hv_56 := hv_56.le hM_119
          replace hv_58 := hv_58.le hM_119
          replace hv_60 := hv_60.le hM_119
          replace hv_64 := hv_64.le hM_119
          replace hv_66 := hv_66.le hM_119
          replace hv_68 := hv_68.le hM_119
          replace hv_70 := hv_70.le hM_119
          replace hv_72 := hv_72.le hM_119
          replace hv_76 := hv_76.le hM_119
          replace hv_78 := hv_78.le hM_119
          replace hv_80 := hv_80.le hM_119
          replace hv_82 := hv_82.le hM_119
          replace hv_84 := hv_84.le hM_119
          replace hv_88 := hv_88.le hM_119
          replace hv_90 := hv_90.le hM_119
          replace hv_92 := hv_92.le hM_119
          replace hv_94 := hv_94.le hM_119
          replace hv_96 := hv_96.le hM_119
          replace hv_100 := hv_100.le hM_119
          replace hv_102 := hv_102.le hM_119
          replace hv_104 := hv_104.le hM_119
          replace hv_106 := hv_106.le hM_119
          replace hv_110 := hv_110.le hM_119
          replace hv_112 := hv_112.le hM_119
          replace hv_114 := hv_114.le hM_119
          replace hv_116 := hv_116.le hM_119
          have hzl := suL_len (l1 ++ l2)
          rw [List.length_append] at hzl
          refine WL_guard_yes E rfl rfl ?_
          refine S_v E rfl (R_lenV E rfl T22 hv_120.len) rfl ?_
          clear E a; intro a E
          refine WL_guard_yes E rfl rfl ?_
          refine S_v E rfl (R_move E rfl) rfl ?_
          clear E a; intro a E
          refine WL_guard_yes E rfl rfl ?_
          refine S_v E rfl (R_move E rfl) rfl ?_
          clear E a; intro a E
          refine WL_guard_yes E rfl rfl ?_
          refine S_v E rfl (R_move E rfl) rfl ?_
          clear E a; intro a E
          refine WL_guard_yes E rfl rfl ?_
          refine S_x (X_pu E S rfl rfl rfl (laws_FnSetLaws_2 h1 h2 (by first | assumption | omega) (by first | assumption | omega) hb_1) (Hp.le.refl _) ?_)
          clear E a S; rintro a v_122 w M_121 hM_121 hv_122 S E
          replace h1 := h1.le hM_121
          replace h2 := h2.le hM_121
          replace h3 := h3.le hM_121
          replace hb_1 := hM_121.2 _ _ hb_1
          replace hz_9 := hz_9.le hM_121
          replace hz_11 := hz_11.le hM_121
          replace hv_13 := hv_13.le hM_121
          replace hv_15 := hv_15.le hM_121
          replace hv_20 := hv_20.le hM_121
          replace hv_22 := hv_22.le hM_121
          replace hv_24 := hv_24.le hM_121
          replace hv_26 := hv_26.le hM_121
          replace hv_30 := hv_30.le hM_121
          replace hv_32 := hv_32.le hM_121
          replace hv_34 := hv_34.le hM_121
          replace hv_36 := hv_36.le hM_121
          replace hv_40 := hv_40.le hM_121
          replace hv_42 := hv_42.le hM_121
          replace hv_46 := hv_46.le hM_121
          replace hv_48 := hv_48.le hM_121
          replace hv_52 := hv_52.le hM_121
          replace hv_54 := hv_54.le hM_121
          replace hv_56 := hv_56.le hM_121
          replace hv_58 := hv_58.le hM_121
          replace hv_60 := hv_60.le hM_121
          replace hv_64 := hv_64.le hM_121
          replace hv_66 := hv_66.le hM_121
          replace hv_68 := hv_68.le hM_121
          replace hv_70 := hv_70.le hM_121
          replace hv_72 := hv_72.le hM_121
          replace hv_76 := hv_76.le hM_121
          replace hv_78 := hv_78.le hM_121
          replace hv_80 := hv_80.le hM_121
          replace hv_82 := hv_82.le hM_121
          replace hv_84 := hv_84.le hM_121
          replace hv_88 := hv_88.le hM_121
          replace hv_90 := hv_90.le hM_121
          replace hv_92 := hv_92.le hM_121
          replace hv_94 := hv_94.le hM_121
          replace hv_96 := hv_96.le hM_121
          replace hv_100 := hv_100.le hM_121
          replace hv_102 := hv_102.le hM_121
          replace hv_104 := hv_104.le hM_121
          replace hv_106 := hv_106.le hM_121
          replace hv_110 := hv_110.le hM_121
          replace hv_112 := hv_112.le hM_121
          replace hv_114 := hv_114.le hM_121
          replace hv_116 := hv_116.le hM_121
          replace hv_120 := hv_120.le hM_121
          have hzl := Nat.le_trans (suL_len ((l1).filter (fun z => decide (z ∈ l2)))) (List.length_filter_le _ _)
          refine WL_guard_yes E rfl rfl ?_
          refine S_v E rfl (R_lenV E rfl T22 hv_122.len) rfl ?_
          clear E a; intro a E
          refine WL_guard_yes E rfl rfl ?_
          refine S_v E rfl (R_addx (m := (((suL (l1 ++ l2)).length + (suL ((l1).filter (fun z => decide (z ∈ l2)))).length : Nat) : Int)) E rfl rfl (by omega) (by omega)) rfl ?_
          clear E a; intro a E
          refine WL_guard_yes E rfl rfl ?_
          refine S_v E rfl (R_move E rfl) rfl ?_
          clear E a; intro a E
          refine WL_guard_yes E rfl rfl ?_
          refine S_v E rfl (R_move E rfl) rfl ?_
          clear E a; intro a E
          refine WL_guard_yes E rfl rfl ?_
          refine S_v E rfl (R_move E rfl) rfl ?_
          clear E a; intro a E
          refine WL_guard_yes E rfl rfl ?_
          refine S_x (X_pu E S rfl rfl rfl (laws_FnSetLaws_1 h1 h1 (by first | assumption | omega) (by first | assumption | omega) hb_1) (Hp.le.refl _) ?_)
          clear E a S; rintro a v_124 w M_123 hM_123 hv_124 S E
          replace h1 := h1.le hM_123
          replace h2 := h2.le hM_123
          replace h3 := h3.le hM_123
          replace hb_1 := hM_123.2 _ _ hb_1
          replace hz_9 := hz_9.le hM_123
          replace hz_11 := hz_11.le hM_123
          replace hv_13 := hv_13.le hM_123
          replace hv_15 := hv_15.le hM_123
          replace hv_20 := hv_20.le hM_123
          replace hv_22 := hv_22.le hM_123
          replace hv_24 := hv_24.le hM_123
          replace hv_26 := hv_26.le hM_123
          replace hv_30 := hv_30.le hM_123
          replace hv_32 := hv_32.le hM_123
          replace hv_34 := hv_34.le hM_123
          replace hv_36 := hv_36.le hM_123
          replace hv_40 := hv_40.le hM_123
          replace hv_42 := hv_42.le hM_123
          replace hv_46 := hv_46.le hM_123
          replace hv_48 := hv_48.le hM_123
          replace hv_52 := hv_52.le hM_123
          replace hv_54 := hv_54.le hM_123
          replace hv_56 := hv_56.le hM_123
          replace hv_58 := hv_58.le hM_123
          replace hv_60 := hv_60.le hM_123
          replace hv_64 := hv_64.le hM_123
          replace hv_66 := hv_66.le hM_123
          replace hv_68 := hv_68.le hM_123
          replace hv_70 := hv_70.le hM_123
          replace hv_72 := hv_72.le hM_123
          replace hv_76 := hv_76.le hM_123
          replace hv_78 := hv_78.le hM_123
          replace hv_80 := hv_80.le hM_123
          replace hv_82 := hv_82.le hM_123
          replace hv_84 := hv_84.le hM_123
          replace hv_88 := hv_88.le hM_123
          replace hv_90 := hv_90.le hM_123
          replace hv_92 := hv_92.le hM_123
          replace hv_94 := hv_94.le hM_123
          replace hv_96 := hv_96.le hM_123
          replace hv_100 := hv_100.le hM_123
          replace hv_102 := hv_102.le hM_123
          replace hv_104 := hv_104.le hM_123
          replace hv_106 := hv_106.le hM_123
          replace hv_110 := hv_110.le hM_123
          replace hv_112 := hv_112.le hM_123
          replace hv_114 := hv_114.le hM_123
          replace hv_116 := hv_116.le hM_123
          replace hv_120 := hv_120.le hM_123
          replace hv_122 := hv_122.le hM_123
          have hzl := suL_len (l1 ++ l1)
          rw [List.length_append] at hzl
          refine WL_guard_yes E rfl rfl ?_
          refine S_v E rfl (R_lenV E rfl T22 hv_124.len) rfl ?_
          clear E a; intro a E
          refine WL_guard_yes E rfl rfl ?_
          refine S_v E rfl (R_move E rfl) rfl ?_
          clear E a; intro a E
          refine WL_guard_yes E rfl rfl ?_
          refine S_v E rfl (R_move E rfl) rfl ?_
          clear E a; intro a E
          refine WL_guard_yes E rfl rfl ?_
          refine S_v E rfl (R_move E rfl) rfl ?_
          clear E a; intro a E
          refine WL_guard_yes E rfl rfl ?_
          refine S_x (X_pu E S rfl rfl rfl (laws_FnSetLaws_1 h2 h2 (by first | assumption | omega) (by first | assumption | omega) hb_1) (Hp.le.refl _) ?_)
          clear E a S; rintro a v_126 w M_125 hM_125 hv_126 S E
          replace h1 := h1.le hM_125
          replace h2 := h2.le hM_125
          replace h3 := h3.le hM_125
          replace hb_1 := hM_125.2 _ _ hb_1
          replace hz_9 := hz_9.le hM_125
          replace hz_11 := hz_11.le hM_125
          replace hv_13 := hv_13.le hM_125
          replace hv_15 := hv_15.le hM_125
          replace hv_20 := hv_20.le hM_125
          replace hv_22 := hv_22.le hM_125
          replace hv_24 := hv_24.le hM_125
          replace hv_26 := hv_26.le hM_125
          replace hv_30 := hv_30.le hM_125
          replace hv_32 := hv_32.le hM_125
          replace hv_34 := hv_34.le hM_125
          replace hv_36 := hv_36.le hM_125
          replace hv_40 := hv_40.le hM_125
          replace hv_42 := hv_42.le hM_125
          replace hv_46 := hv_46.le hM_125
          replace hv_48 := hv_48.le hM_125
          replace hv_52 := hv_52.le hM_125
          replace hv_54 := hv_54.le hM_125
          replace hv_56 := hv_56.le hM_125
          replace hv_58 := hv_58.le hM_125
          replace hv_60 := hv_60.le hM_125
          replace hv_64 := hv_64.le hM_125
          replace hv_66 := hv_66.le hM_125
          replace hv_68 := hv_68.le hM_125
          replace hv_70 := hv_70.le hM_125
          replace hv_72 := hv_72.le hM_125
          replace hv_76 := hv_76.le hM_125
          replace hv_78 := hv_78.le hM_125
          replace hv_80 := hv_80.le hM_125
          replace hv_82 := hv_82.le hM_125
          replace hv_84 := hv_84.le hM_125
          replace hv_88 := hv_88.le hM_125
          replace hv_90 := hv_90.le hM_125
          replace hv_92 := hv_92.le hM_125
          replace hv_94 := hv_94.le hM_125
          replace hv_96 := hv_96.le hM_125
          replace hv_100 := hv_100.le hM_125
          replace hv_102 := hv_102.le hM_125
          replace hv_104 := hv_104.le hM_125
          replace hv_106 := hv_106.le hM_125
          replace hv_110 := hv_110.le hM_125
          replace hv_112 := hv_112.le hM_125
          replace hv_114 := hv_114.le hM_125
          replace hv_116 := hv_116.le hM_125
          replace hv_120 := hv_120.le hM_125
          replace hv_122 := hv_122.le hM_125
          replace hv_124 := hv_124.le hM_125
          have hzl := suL_len (l2 ++ l2)
          rw [List.length_append] at hzl
          refine WL_guard_yes E rfl rfl ?_
          refine S_v E rfl (R_lenV E rfl T22 hv_126.len) rfl ?_
          clear E a; intro a E
          refine WL_guard_yes E rfl rfl ?_
          refine S_v E rfl (R_addx (m := (((suL (l1 ++ l1)).length + (suL (l2 ++ l2)).length : Nat) : Int)) E rfl rfl (by omega) (by omega)) rfl ?_
          clear E a; intro a E
          refine WL_guard_yes E rfl rfl ?_
          refine S_v E rfl (R_eql E rfl rfl) rfl ?_
          clear E a; intro a E
          refine S_v E rfl (R_pickT E rfl rfl) rfl ?_
          clear E a; intro a E
          refine S_v E rfl (R_assign E rfl) rfl ?_
          clear E a; intro a E
          refine WL_nil ?_
          refine T_n ?_
          refine WP_ret ?_
          exact F_ret1 E Tryz.results3 rfl ⟨_, rfl, M_125, (hM_2.trans (hM_8.trans (hM_10.trans (hM_12.trans (hM_16.trans (hM_17.trans (hM_19.trans (hM_21.trans (hM_23.trans (hM_25.trans (hM_27.trans (hM_29.trans (hM_31.trans (hM_33.trans (hM_35.trans (hM_37.trans (hM_39.trans (hM_41.trans (hM_43.trans (hM_45.trans (hM_47.trans (hM_49.trans (hM_51.trans (hM_53.trans (hM_55.trans (hM_57.trans (hM_59.trans (hM_61.trans (hM_63.trans (hM_65.trans (hM_67.trans (hM_69.trans (hM_71.trans (hM_73.trans (hM_75.trans (hM_77.trans (hM_79.trans (hM_81.trans (hM_83.trans (hM_85.trans (hM_87.trans (hM_89.trans (hM_91.trans (hM_93.trans (hM_95.trans (hM_97.trans (hM_99.trans (hM_101.trans (hM_103.trans (hM_105.trans (hM_107.trans (hM_109.trans (hM_111.trans (hM_113.trans (hM_115.trans (hM_117.trans (hM_119.trans (hM_121.trans (hM_123.trans hM_125))))))))))))))))))))))))))))))))))))))))))))))))))))))))))), (congrArg Value.bool (by (clear S E; first | (refine decide_eq_true ?_; first | rfl | (refine suL_eq fun x => ?_; simp only [mem_suL, List.mem_append, List.mem_filter, decide_eq_true_eq]; by_cases hx0 : x ∈ l1 <;> by_cases hx1 : x ∈ l2 <;> by_cases hx2 : x ∈ l3 <;> simp only [hx0, hx1, hx2, not_true_eq_false, not_false_eq_true, and_true, true_and, and_false, false_and, or_true, true_or, or_false, false_or, and_self, or_self])) | (refine decide_eq_true ?_; simp only [suL_card]; have h9 := card_incl l1 l2; omega) | (refine decide_eq_false ?_; have h9 : (suL (([1] : List Int) ++ [2])).length = 2 := (by rw [suL_card]; decide +kernel); omega)))), S⟩

end Go.Proofs.YtlmpgefhnmfhpaaGreat.wFnSetLaws
