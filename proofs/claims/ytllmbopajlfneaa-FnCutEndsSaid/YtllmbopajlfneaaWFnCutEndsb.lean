/- Walks through the functions that laws.FnCutEnds reaches: what each computes; no conditions beyond what each theorem states. -/
import Derived.Test.YtllmbopajlfneaaWFnCutEndsa
set_option linter.unusedVariables false
set_option linter.unusedSimpArgs false
namespace Go.Proofs.Ytllmbopajlfneaa.wFnCutEnds
open Go Go.Sl
set_option maxRecDepth 100000 in
set_option maxHeartbeats 4000000 in
theorem laws_FnCutEnds {M : Hp} {v0 v1 : Value} {l0 l1 : List Int} (h0 : RdI M v0 l0) (h1 : RdI M v1 l1) :
    PuC Try.prog 8 M [v0, v1] (fun r M' => r = .bool true) := by
  refine PuC_enter Try.func8 rfl Try.ntmps8 rfl ?_
  intro a w M1 H hM1 S E
  replace h0 := h0.le hM1
  replace h1 := h1.le hM1
  have b0 := h0.bound
  have b1 := h1.bound
  have hcp := cutPl_len l0 l1; have hcs := cutSl_len l0 l1
  refine WP_seq ?_
  refine WP_region ?_
  refine S_v E rfl (R_assign E rfl) rfl ?_
  clear E a; intro a E
  refine WL_nil ?_
  refine T_n ?_
  refine WP_seq ?_
  refine WP_seq ?_
  refine WP_region ?_
  refine S_v E rfl (R_move E rfl) rfl ?_
  clear E a; intro a E
  refine S_v E rfl (R_lenV E rfl T22 h0.len) rfl ?_
  clear E a; intro a E
  refine S_v E rfl (R_gtr E rfl rfl) rfl ?_
  clear E a; intro a E
  refine S_v E rfl (R_move E rfl) rfl ?_
  clear E a; intro a E
  refine split_bool (decide (2147483647 < (((l0).length : Nat) : Int))) (fun hc_1 => ?_) (fun hc_1 => ?_)
  · replace E := E.val (t := 19) rfl hc_1
    replace E := E.val (t := 20) rfl hc_1
    replace hc_1 := of_decide_eq_true hc_1
    refine WL_guard_no E rfl rfl rfl rfl fun a E => ?_
    refine WL_guard_no E rfl rfl rfl rfl fun a E => ?_
    refine WL_guard_no E rfl rfl rfl rfl fun a E => ?_
    refine S_v E rfl (R_pickT E rfl rfl) rfl ?_
    clear E a; intro a E
    refine WL_nil ?_
    refine T_n ?_
    refine WP_condT E rfl rfl ?_
    refine WP_seq ?_
    refine WP_region ?_
    refine S_v E rfl (R_assign E rfl) rfl ?_
    clear E a; intro a E
    refine WL_nil ?_
    refine T_n ?_
    refine WP_ret ?_
    refine T_r ?_
    exact F_ret1 E Try.results8 rfl ⟨_, rfl, M1, (Hp.le.refl _), rfl, S⟩
  · replace E := E.val (t := 19) rfl hc_1
    replace E := E.val (t := 20) rfl hc_1
    replace hc_1 := of_decide_eq_false hc_1
    refine WL_guard_yes E rfl rfl ?_
    refine S_v E rfl (R_move E rfl) rfl ?_
    clear E a; intro a E
    refine WL_guard_yes E rfl rfl ?_
    refine S_v E rfl (R_lenV E rfl T22 h1.len) rfl ?_
    clear E a; intro a E
    refine WL_guard_yes E rfl rfl ?_
    refine S_v E rfl (R_gtr E rfl rfl) rfl ?_
    clear E a; intro a E
    refine S_v E rfl (R_pickF E rfl rfl) rfl ?_
    clear E a; intro a E
    refine WL_nil ?_
    refine T_n ?_
    refine WP_cond E rfl (fun hc_2 => ?_) (fun hc_2 => ?_)
    · replace hc_2 := of_decide_eq_true hc_2
      refine WP_seq ?_
      refine WP_region ?_
      refine S_v E rfl (R_assign E rfl) rfl ?_
      clear E a; intro a E
      refine WL_nil ?_
      refine T_n ?_
      refine WP_ret ?_
      refine T_r ?_
      exact F_ret1 E Try.results8 rfl ⟨_, rfl, M1, (Hp.le.refl _), rfl, S⟩
    · replace hc_2 := of_decide_eq_false hc_2
      refine WP_skip ?_
      refine T_n ?_
      refine WP_seq ?_
      refine WP_seq ?_
      refine WP_region ?_
      refine S_x (X_buildI (ys := [1, 2]) E S rfl T22 rfl rfl rfl ?_)
      clear E a S; rintro a w v_3 E S
      refine S_x (X_buildI (ys := [1]) E S rfl T22 rfl rfl rfl ?_)
      clear E a S; rintro a w v_4 E S
      replace S := S.front1
      have S0 := S; clear S
      obtain ⟨M_5, hM_5, hz_6, S⟩ := S0.freezeI (by (first | omega | (simp; omega) | (simp; done) | (simp_all; omega) | grind))
      clear S0
      replace h0 := h0.le hM_5
      replace h1 := h1.le hM_5
      have S0 := S; clear S
      obtain ⟨M_7, hM_7, hz_8, S⟩ := S0.freezeI (by (first | omega | (simp; omega) | (simp; done) | (simp_all; omega) | grind))
      clear S0
      replace h0 := h0.le hM_7
      replace h1 := h1.le hM_7
      replace hz_6 := hz_6.le hM_7
      refine S_x (X_pu E S rfl rfl rfl (impl_CutPrefix hz_6 hz_8 (by (first | omega | (simp; omega) | (simp; done) | (simp_all; omega) | grind))) (Hp.le.refl _) ?_)
      clear E a S; rintro a _ w M_9 hM_9 ⟨v_10, rfl, hv_10⟩ S E
      replace h0 := h0.le hM_9
      replace h1 := h1.le hM_9
      replace hz_6 := hz_6.le hM_9
      replace hz_8 := hz_8.le hM_9
      refine S_v E rfl (R_move E rfl) rfl ?_
      clear E a; intro a E
      refine S_v E rfl (R_extract E rfl rfl) rfl ?_
      clear E a; intro a E
      refine S_v E rfl (R_extract E rfl rfl) rfl ?_
      clear E a; intro a E
      refine S_v E rfl (R_assign E rfl) rfl ?_
      clear E a; intro a E
      refine S_v E rfl (R_assign E rfl) rfl ?_
      clear E a; intro a E
      refine WL_nil ?_
      refine T_n ?_
      refine WP_seq ?_
      refine WP_region ?_
      refine S_v E rfl (R_move E rfl) rfl ?_
      clear E a; intro a E
      refine S_v E rfl (R_not E rfl) rfl ?_
      clear E a; intro a E
      refine S_v E rfl (R_move E rfl) rfl ?_
      clear E a; intro a E
      have hc_11 : (!(hasP [1, 2] [1])) = false := by (clear S E; first | (simp; done) | decide | (rw [beg_hasP]; simp; done) | (rw [cutP_back (by first | assumption | (simpa using (show (!hasP l0 l1) = false by assumption)))]; simp; done) | (rw [cutS_back (by first | assumption | (simpa using (show (!hasS l0 l1) = false by assumption)))]; simp; done) | (rw [cutP_no (by first | assumption | (simpa using (show (!hasP l0 l1) = true by assumption)))]; simp; done) | (rw [cutS_no (by first | assumption | (simpa using (show (!hasS l0 l1) = true by assumption)))]; simp; done) | (simp [cutPl, hasP]; done) | (exact absurd ((congrArg Bool.not (show hasP l0 l1 = true by assumption)).symm.trans (show (!hasP l0 l1) = true by assumption)) (by decide)) | (exact absurd ((congrArg Bool.not (show hasP l0 l1 = false by assumption)).symm.trans (show (!hasP l0 l1) = false by assumption)) (by decide)) | (exact absurd ((congrArg Bool.not (show hasS l0 l1 = true by assumption)).symm.trans (show (!hasS l0 l1) = true by assumption)) (by decide)) | (exact absurd ((congrArg Bool.not (show hasS l0 l1 = false by assumption)).symm.trans (show (!hasS l0 l1) = false by assumption)) (by decide)))
      replace E := E.val (t := 32) rfl hc_11
      replace E := E.val (t := 33) rfl hc_11
      refine WL_guard_yes E rfl rfl ?_
      refine S_v E rfl (R_move E rfl) rfl ?_
      clear E a; intro a E
      refine WL_guard_yes E rfl rfl ?_
      refine S_v E rfl (R_lenV E rfl T22 hv_10.len) rfl ?_
      clear E a; intro a E
      refine WL_guard_yes E rfl rfl ?_
      refine S_v E rfl (R_neq E rfl rfl) rfl ?_
      clear E a; intro a E
      refine S_v E rfl (R_pickF E rfl rfl) rfl ?_
      clear E a; intro a E
      refine WL_nil ?_
      refine T_n ?_
      have hc_12 : (decide ((((cutPl [1, 2] [1]).length : Nat) : Int) ≠ 1)) = false := by (clear S E; first | (simp; done) | decide | (rw [beg_hasP]; simp; done) | (rw [cutP_back (by first | assumption | (simpa using (show (!hasP l0 l1) = false by assumption)))]; simp; done) | (rw [cutS_back (by first | assumption | (simpa using (show (!hasS l0 l1) = false by assumption)))]; simp; done) | (rw [cutP_no (by first | assumption | (simpa using (show (!hasP l0 l1) = true by assumption)))]; simp; done) | (rw [cutS_no (by first | assumption | (simpa using (show (!hasS l0 l1) = true by assumption)))]; simp; done) | (simp [cutPl, hasP]; done) | (exact absurd ((congrArg Bool.not (show hasP l0 l1 = true by assumption)).symm.trans (show (!hasP l0 l1) = true by assumption)) (by decide)) | (exact absurd ((congrArg Bool.not (show hasP l0 l1 = false by assumption)).symm.trans (show (!hasP l0 l1) = false by assumption)) (by decide)) | (exact absurd ((congrArg Bool.not (show hasS l0 l1 = true by assumption)).symm.trans (show (!hasS l0 l1) = true by assumption)) (by decide)) | (exact absurd ((congrArg Bool.not (show hasS l0 l1 = false by assumption)).symm.trans (show (!hasS l0 l1) = false by assumption)) (by decide)))
      refine WP_condF E rfl hc_12 ?_
      refine WP_skip ?_
      refine T_n ?_
      refine WP_seq ?_
      refine WP_seq ?_
      refine WP_region ?_
      refine S_v E rfl (R_move E rfl) rfl ?_
      clear E a; intro a E
      refine S_v E rfl (R_move E rfl) rfl ?_
      clear E a; intro a E
      refine S_x (X_buildM (R := RSl 1 RInt) (vs := [v0, v1]) (xs := [l0, l1]) (RSl_mono RInt_mono) E S rfl T95 rfl rfl rfl (by intro u hu; simp only [List.mem_cons, List.not_mem_nil, or_false] at hu; rcases hu with rfl | rfl <;> first | exact RdI.one h0 | exact RdI.one h1 | rfl) rfl (rowsC (R := RSl 1 RInt) (RdI.row h0) (rowsC (R := RSl 1 RInt) (RdI.row h1) rowsN)) ?_)
      clear E a S; rintro a v_13 w M_14 hM_14 hv_13 S E
      replace hv_13 : RdII M_14 v_13 [l0, l1] := hv_13
      replace h0 := h0.le hM_14
      replace h1 := h1.le hM_14
      replace hz_6 := hz_6.le hM_14
      replace hz_8 := hz_8.le hM_14
      replace hv_10 := hv_10.le hM_14
      refine S_x (X_pu E S rfl rfl rfl (laws_few hv_13) (Hp.le.refl _) ?_)
      clear E a S; rintro a _ w M_15 hM_15 rfl S E
      replace h0 := h0.le hM_15
      replace h1 := h1.le hM_15
      replace hz_6 := hz_6.le hM_15
      replace hz_8 := hz_8.le hM_15
      replace hv_10 := hv_10.le hM_15
      replace hv_13 := hv_13.le hM_15
      refine S_v E rfl (R_not E rfl) rfl ?_
      clear E a; intro a E
      refine WL_nil ?_
      refine T_n ?_
      refine WP_cond E rfl (fun hc_16 => ?_) (fun hc_16 => ?_)
      · refine WP_seq ?_
        refine WP_region ?_
        refine S_v E rfl (R_assign E rfl) rfl ?_
        clear E a; intro a E
        refine WL_nil ?_
        refine T_n ?_
        refine WP_ret ?_
        refine T_r ?_
        exact F_ret1 E Try.results8 rfl ⟨_, rfl, M_15, (hM_5.trans (hM_7.trans (hM_9.trans (hM_14.trans hM_15)))), rfl, S⟩
      · refine WP_skip ?_
        refine T_n ?_
        refine WP_seq ?_
        refine WP_region ?_
        refine S_v E rfl (R_move E rfl) rfl ?_
        clear E a; intro a E
        refine S_v E rfl (R_move E rfl) rfl ?_
        clear E a; intro a E
        refine S_x (X_pu E S rfl rfl rfl (impl_CutPrefix h0 h1 (by (first | omega | (simp; omega) | (simp; done) | (simp_all; omega) | grind))) (Hp.le.refl _) ?_)
        clear E a S; rintro a _ w M_17 hM_17 ⟨v_18, rfl, hv_18⟩ S E
        replace h0 := h0.le hM_17
        replace h1 := h1.le hM_17
        replace hz_6 := hz_6.le hM_17
        replace hz_8 := hz_8.le hM_17
        replace hv_10 := hv_10.le hM_17
        replace hv_13 := hv_13.le hM_17
        refine S_v E rfl (R_move E rfl) rfl ?_
        clear E a; intro a E
        refine S_v E rfl (R_extract E rfl rfl) rfl ?_
        clear E a; intro a E
        refine S_v E rfl (R_extract E rfl rfl) rfl ?_
        clear E a; intro a E
        refine S_v E rfl (R_assign E rfl) rfl ?_
        clear E a; intro a E
        refine S_v E rfl (R_assign E rfl) rfl ?_
        clear E a; intro a E
        refine WL_nil ?_
        refine T_n ?_
        refine WP_seq ?_
        refine WP_region ?_
        refine S_v E rfl (R_move E rfl) rfl ?_
        clear E a; intro a E
        refine S_v E rfl (R_move E rfl) rfl ?_
        clear E a; intro a E
        refine S_x (X_pu E S rfl rfl rfl (impl_CutSuffix h0 h1 (by (first | omega | (simp; omega) | (simp; done) | (simp_all; omega) | grind))) (Hp.le.refl _) ?_)
        clear E a S; rintro a _ w M_19 hM_19 ⟨v_20, rfl, hv_20⟩ S E
        replace h0 := h0.le hM_19
        replace h1 := h1.le hM_19
        replace hz_6 := hz_6.le hM_19
        replace hz_8 := hz_8.le hM_19
        replace hv_10 := hv_10.le hM_19
        replace hv_13 := hv_13.le hM_19
        replace hv_18 := hv_18.le hM_19
        refine S_v E rfl (R_move E rfl) rfl ?_
        clear E a; intro a E
        refine S_v E rfl (R_extract E rfl rfl) rfl ?_
        clear E a; intro a E
        refine S_v E rfl (R_extract E rfl rfl) rfl ?_
        clear E a; intro a E
        refine S_v E rfl (R_assign E rfl) rfl ?_
        clear E a; intro a E
        refine S_v E rfl (R_assign E rfl) rfl ?_
        clear E a; intro a E
        refine WL_nil ?_
        refine T_n ?_
        refine WP_seq ?_
        refine WP_region ?_
        refine S_v E rfl (R_move E rfl) rfl ?_
        clear E a; intro a E
        refine S_v E rfl (R_move E rfl) rfl ?_
        clear E a; intro a E
        refine S_x (X_pu E S rfl rfl rfl (impl_CutSuffixSeq h0 h1 (by (first | omega | (simp; omega) | (simp; done) | (simp_all; omega) | grind))) (Hp.le.refl _) ?_)
        clear E a S; rintro a _ w M_21 hM_21 ⟨v_22, rfl, hv_22⟩ S E
        replace h0 := h0.le hM_21
        replace h1 := h1.le hM_21
        replace hz_6 := hz_6.le hM_21
        replace hz_8 := hz_8.le hM_21
        replace hv_10 := hv_10.le hM_21
        replace hv_13 := hv_13.le hM_21
        replace hv_18 := hv_18.le hM_21
        replace hv_20 := hv_20.le hM_21
        refine S_v E rfl (R_move E rfl) rfl ?_
        clear E a; intro a E
        refine S_v E rfl (R_extract E rfl rfl) rfl ?_
        clear E a; intro a E
        refine S_v E rfl (R_extract E rfl rfl) rfl ?_
        clear E a; intro a E
        refine S_v E rfl (R_assign E rfl) rfl ?_
        clear E a; intro a E
        refine S_v E rfl (R_assign E rfl) rfl ?_
        clear E a; intro a E
        refine WL_nil ?_
        refine T_n ?_
        refine WP_seq ?_
        refine WP_seq ?_
        refine WP_region ?_
        refine S_v E rfl (R_move E rfl) rfl ?_
        clear E a; intro a E
        refine S_v E rfl (R_move E rfl) rfl ?_
        clear E a; intro a E
        refine S_v E rfl (R_move E rfl) rfl ?_
        clear E a; intro a E
        refine S_x (X_pu E S rfl rfl rfl (laws_beginning h0 h1) (Hp.le.refl _) ?_)
        clear E a S; rintro a _ w M_23 hM_23 rfl S E
        replace h0 := h0.le hM_23
        replace h1 := h1.le hM_23
        replace hz_6 := hz_6.le hM_23
        replace hz_8 := hz_8.le hM_23
        replace hv_10 := hv_10.le hM_23
        replace hv_13 := hv_13.le hM_23
        replace hv_18 := hv_18.le hM_23
        replace hv_20 := hv_20.le hM_23
        replace hv_22 := hv_22.le hM_23
        refine S_v E rfl (R_neqB E rfl rfl Try.underlying4) rfl ?_
        clear E a; intro a E
        refine S_v E rfl (R_move E rfl) rfl ?_
        clear E a; intro a E
        have hc_24 : (!((hasP l0 l1) == (decide ((l0).take l1.length = l1)))) = false := by (clear S E; first | (simp; done) | decide | (rw [beg_hasP]; simp; done) | (rw [cutP_back (by first | assumption | (simpa using (show (!hasP l0 l1) = false by assumption)))]; simp; done) | (rw [cutS_back (by first | assumption | (simpa using (show (!hasS l0 l1) = false by assumption)))]; simp; done) | (rw [cutP_no (by first | assumption | (simpa using (show (!hasP l0 l1) = true by assumption)))]; simp; done) | (rw [cutS_no (by first | assumption | (simpa using (show (!hasS l0 l1) = true by assumption)))]; simp; done) | (simp [cutPl, hasP]; done) | (exact absurd ((congrArg Bool.not (show hasP l0 l1 = true by assumption)).symm.trans (show (!hasP l0 l1) = true by assumption)) (by decide)) | (exact absurd ((congrArg Bool.not (show hasP l0 l1 = false by assumption)).symm.trans (show (!hasP l0 l1) = false by assumption)) (by decide)) | (exact absurd ((congrArg Bool.not (show hasS l0 l1 = true by assumption)).symm.trans (show (!hasS l0 l1) = true by assumption)) (by decide)) | (exact absurd ((congrArg Bool.not (show hasS l0 l1 = false by assumption)).symm.trans (show (!hasS l0 l1) = false by assumption)) (by decide)))
        replace E := E.val (t := 65) rfl hc_24
        replace E := E.val (t := 66) rfl hc_24
        refine WL_guard_yes E rfl rfl ?_
        refine S_v E rfl (R_move E rfl) rfl ?_
        clear E a; intro a E
        refine WL_guard_yes E rfl rfl ?_
        refine S_v E rfl (R_move E rfl) rfl ?_
        clear E a; intro a E
        refine WL_guard_yes E rfl rfl ?_
        refine S_v E rfl (R_move E rfl) rfl ?_
        clear E a; intro a E
        refine WL_guard_yes E rfl rfl ?_
        refine S_x (X_pu E S rfl rfl rfl (laws_ending h0 h1) (Hp.le.refl _) ?_)
        clear E a S; rintro a _ w M_25 hM_25 rfl S E
        replace h0 := h0.le hM_25
        replace h1 := h1.le hM_25
        replace hz_6 := hz_6.le hM_25
        replace hz_8 := hz_8.le hM_25
        replace hv_10 := hv_10.le hM_25
        replace hv_13 := hv_13.le hM_25
        replace hv_18 := hv_18.le hM_25
        replace hv_20 := hv_20.le hM_25
        replace hv_22 := hv_22.le hM_25
        refine WL_guard_yes E rfl rfl ?_
        refine S_v E rfl (R_neqB E rfl rfl Try.underlying4) rfl ?_
        clear E a; intro a E
        refine S_v E rfl (R_pickF E rfl rfl) rfl ?_
        clear E a; intro a E
        refine S_v E rfl (R_move E rfl) rfl ?_
        clear E a; intro a E
        have hc_26 : (!((hasS l0 l1) == (hasS l0 l1))) = false := by (clear S E; first | (simp; done) | decide | (rw [beg_hasP]; simp; done) | (rw [cutP_back (by first | assumption | (simpa using (show (!hasP l0 l1) = false by assumption)))]; simp; done) | (rw [cutS_back (by first | assumption | (simpa using (show (!hasS l0 l1) = false by assumption)))]; simp; done) | (rw [cutP_no (by first | assumption | (simpa using (show (!hasP l0 l1) = true by assumption)))]; simp; done) | (rw [cutS_no (by first | assumption | (simpa using (show (!hasS l0 l1) = true by assumption)))]; simp; done) | (simp [cutPl, hasP]; done) | (exact absurd ((congrArg Bool.not (show hasP l0 l1 = true by assumption)).symm.trans (show (!hasP l0 l1) = true by assumption)) (by decide)) | (exact absurd ((congrArg Bool.not (show hasP l0 l1 = false by assumption)).symm.trans (show (!hasP l0 l1) = false by assumption)) (by decide)) | (exact absurd ((congrArg Bool.not (show hasS l0 l1 = true by assumption)).symm.trans (show (!hasS l0 l1) = true by assumption)) (by decide)) | (exact absurd ((congrArg Bool.not (show hasS l0 l1 = false by assumption)).symm.trans (show (!hasS l0 l1) = false by assumption)) (by decide)))
        replace E := E.val (t := 71) rfl hc_26
        replace E := E.val (t := 72) rfl hc_26
        replace E := E.val (t := 73) rfl hc_26
        refine WL_guard_yes E rfl rfl ?_
        refine S_v E rfl (R_move E rfl) rfl ?_
        clear E a; intro a E
        refine WL_guard_yes E rfl rfl ?_
        refine S_v E rfl (R_move E rfl) rfl ?_
        clear E a; intro a E
        refine WL_guard_yes E rfl rfl ?_
        refine S_v E rfl (R_neqB E rfl rfl Try.underlying4) rfl ?_
        clear E a; intro a E
        refine S_v E rfl (R_pickF E rfl rfl) rfl ?_
        clear E a; intro a E
        refine S_v E rfl (R_move E rfl) rfl ?_
        clear E a; intro a E
        have hc_27 : (!((hasS l0 l1) == (hasS l0 l1))) = false := by (clear S E; first | (simp; done) | decide | (rw [beg_hasP]; simp; done) | (rw [cutP_back (by first | assumption | (simpa using (show (!hasP l0 l1) = false by assumption)))]; simp; done) | (rw [cutS_back (by first | assumption | (simpa using (show (!hasS l0 l1) = false by assumption)))]; simp; done) | (rw [cutP_no (by first | assumption | (simpa using (show (!hasP l0 l1) = true by assumption)))]; simp; done) | (rw [cutS_no (by first | assumption | (simpa using (show (!hasS l0 l1) = true by assumption)))]; simp; done) | (simp [cutPl, hasP]; done) | (exact absurd ((congrArg Bool.not (show hasP l0 l1 = true by assumption)).symm.trans (show (!hasP l0 l1) = true by assumption)) (by decide)) | (exact absurd ((congrArg Bool.not (show hasP l0 l1 = false by assumption)).symm.trans (show (!hasP l0 l1) = false by assumption)) (by decide)) | (exact absurd ((congrArg Bool.not (show hasS l0 l1 = true by assumption)).symm.trans (show (!hasS l0 l1) = true by assumption)) (by decide)) | (exact absurd ((congrArg Bool.not (show hasS l0 l1 = false by assumption)).symm.trans (show (!hasS l0 l1) = false by assumption)) (by decide)))
        replace E := E.val (t := 76) rfl hc_27
        replace E := E.val (t := 77) rfl hc_27
        replace E := E.val (t := 78) rfl hc_27
        refine WL_guard_yes E rfl rfl ?_
        refine S_v E rfl (R_move E rfl) rfl ?_
        clear E a; intro a E
        refine WL_guard_yes E rfl rfl ?_
        refine S_v E rfl (R_move E rfl) rfl ?_
        clear E a; intro a E
        refine WL_guard_yes E rfl rfl ?_
        refine S_x (X_pu E S rfl rfl rfl (laws_eq hv_20 hv_22) (Hp.le.refl _) ?_)
        clear E a S; rintro a _ w M_28 hM_28 rfl S E
        replace h0 := h0.le hM_28
        replace h1 := h1.le hM_28
        replace hz_6 := hz_6.le hM_28
        replace hz_8 := hz_8.le hM_28
        replace hv_10 := hv_10.le hM_28
        replace hv_13 := hv_13.le hM_28
        replace hv_18 := hv_18.le hM_28
        replace hv_20 := hv_20.le hM_28
        replace hv_22 := hv_22.le hM_28
        refine WL_guard_yes E rfl rfl ?_
        refine S_v E rfl (R_not E rfl) rfl ?_
        clear E a; intro a E
        refine S_v E rfl (R_pickF E rfl rfl) rfl ?_
        clear E a; intro a E
        refine S_v E rfl (R_move E rfl) rfl ?_
        clear E a; intro a E
        have hc_29 : (!(decide (cutSl l0 l1 = cutSl l0 l1))) = false := by (clear S E; first | (simp; done) | decide | (rw [beg_hasP]; simp; done) | (rw [cutP_back (by first | assumption | (simpa using (show (!hasP l0 l1) = false by assumption)))]; simp; done) | (rw [cutS_back (by first | assumption | (simpa using (show (!hasS l0 l1) = false by assumption)))]; simp; done) | (rw [cutP_no (by first | assumption | (simpa using (show (!hasP l0 l1) = true by assumption)))]; simp; done) | (rw [cutS_no (by first | assumption | (simpa using (show (!hasS l0 l1) = true by assumption)))]; simp; done) | (simp [cutPl, hasP]; done) | (exact absurd ((congrArg Bool.not (show hasP l0 l1 = true by assumption)).symm.trans (show (!hasP l0 l1) = true by assumption)) (by decide)) | (exact absurd ((congrArg Bool.not (show hasP l0 l1 = false by assumption)).symm.trans (show (!hasP l0 l1) = false by assumption)) (by decide)) | (exact absurd ((congrArg Bool.not (show hasS l0 l1 = true by assumption)).symm.trans (show (!hasS l0 l1) = true by assumption)) (by decide)) | (exact absurd ((congrArg Bool.not (show hasS l0 l1 = false by assumption)).symm.trans (show (!hasS l0 l1) = false by assumption)) (by decide)))
        replace E := E.val (t := 82) rfl hc_29
        replace E := E.val (t := 83) rfl hc_29
        replace E := E.val (t := 84) rfl hc_29
        refine WL_guard_yes E rfl rfl ?_
        refine S_v E rfl (R_move E rfl) rfl ?_
        clear E a; intro a E
        refine WL_guard_yes E rfl rfl ?_
        refine S_v E rfl (R_move E rfl) rfl ?_
        clear E a; intro a E
        refine WL_guard_yes E rfl rfl ?_
        refine S_x (X_pu E S rfl rfl rfl (impl_HasPrefix h0 h1) (Hp.le.refl _) ?_)
        clear E a S; rintro a _ w M_30 hM_30 rfl S E
        replace h0 := h0.le hM_30
        replace h1 := h1.le hM_30
        replace hz_6 := hz_6.le hM_30
        replace hz_8 := hz_8.le hM_30
        replace hv_10 := hv_10.le hM_30
        replace hv_13 := hv_13.le hM_30
        replace hv_18 := hv_18.le hM_30
        replace hv_20 := hv_20.le hM_30
        replace hv_22 := hv_22.le hM_30
        refine WL_guard_yes E rfl rfl ?_
        refine S_v E rfl (R_move E rfl) rfl ?_
        clear E a; intro a E
        refine WL_guard_yes E rfl rfl ?_
        refine S_v E rfl (R_neqB E rfl rfl Try.underlying4) rfl ?_
        clear E a; intro a E
        refine WL_guard_yes E rfl rfl ?_
        refine S_v E rfl (R_move E rfl) rfl ?_
        clear E a; intro a E
        have hc_31 : (!((hasP l0 l1) == (hasP l0 l1))) = false := by (clear S E; first | (simp; done) | decide | (rw [beg_hasP]; simp; done) | (rw [cutP_back (by first | assumption | (simpa using (show (!hasP l0 l1) = false by assumption)))]; simp; done) | (rw [cutS_back (by first | assumption | (simpa using (show (!hasS l0 l1) = false by assumption)))]; simp; done) | (rw [cutP_no (by first | assumption | (simpa using (show (!hasP l0 l1) = true by assumption)))]; simp; done) | (rw [cutS_no (by first | assumption | (simpa using (show (!hasS l0 l1) = true by assumption)))]; simp; done) | (simp [cutPl, hasP]; done) | (exact absurd ((congrArg Bool.not (show hasP l0 l1 = true by assumption)).symm.trans (show (!hasP l0 l1) = true by assumption)) (by decide)) | (exact absurd ((congrArg Bool.not (show hasP l0 l1 = false by assumption)).symm.trans (show (!hasP l0 l1) = false by assumption)) (by decide)) | (exact absurd ((congrArg Bool.not (show hasS l0 l1 = true by assumption)).symm.trans (show (!hasS l0 l1) = true by assumption)) (by decide)) | (exact absurd ((congrArg Bool.not (show hasS l0 l1 = false by assumption)).symm.trans (show (!hasS l0 l1) = false by assumption)) (by decide)))
        replace E := E.val (t := 89) rfl hc_31
        replace E := E.val (t := 90) rfl hc_31
        refine WL_guard_no E rfl rfl rfl rfl fun a E => ?_
        refine WL_guard_no E rfl rfl rfl rfl fun a E => ?_
        refine WL_guard_no E rfl rfl rfl rfl fun a E => ?_
        refine WL_guard_yes E rfl rfl ?_
        refine S_v E rfl (R_pickF E rfl rfl) rfl ?_
        clear E a; intro a E
        refine S_v E rfl (R_pickF E rfl rfl) rfl ?_
        clear E a; intro a E
        refine S_v E rfl (R_move E rfl) rfl ?_
        clear E a; intro a E
        refine WL_guard_yes E rfl rfl ?_
        refine S_v E rfl (R_move E rfl) rfl ?_
        clear E a; intro a E
        refine WL_guard_yes E rfl rfl ?_
        refine S_v E rfl (R_move E rfl) rfl ?_
        clear E a; intro a E
        refine WL_guard_yes E rfl rfl ?_
        refine S_x (X_pu E S rfl rfl rfl (impl_HasSuffix h0 h1) (Hp.le.refl _) ?_)
        clear E a S; rintro a _ w M_32 hM_32 rfl S E
        replace h0 := h0.le hM_32
        replace h1 := h1.le hM_32
        replace hz_6 := hz_6.le hM_32
        replace hz_8 := hz_8.le hM_32
        replace hv_10 := hv_10.le hM_32
        replace hv_13 := hv_13.le hM_32
        replace hv_18 := hv_18.le hM_32
        replace hv_20 := hv_20.le hM_32
        replace hv_22 := hv_22.le hM_32
        refine WL_guard_yes E rfl rfl ?_
        refine S_v E rfl (R_move E rfl) rfl ?_
        clear E a; intro a E
        refine WL_guard_yes E rfl rfl ?_
        refine S_v E rfl (R_neqB E rfl rfl Try.underlying4) rfl ?_
        clear E a; intro a E
        refine WL_guard_yes E rfl rfl ?_
        refine S_v E rfl (R_move E rfl) rfl ?_
        clear E a; intro a E
        have hc_33 : (!((hasS l0 l1) == (hasS l0 l1))) = false := by (clear S E; first | (simp; done) | decide | (rw [beg_hasP]; simp; done) | (rw [cutP_back (by first | assumption | (simpa using (show (!hasP l0 l1) = false by assumption)))]; simp; done) | (rw [cutS_back (by first | assumption | (simpa using (show (!hasS l0 l1) = false by assumption)))]; simp; done) | (rw [cutP_no (by first | assumption | (simpa using (show (!hasP l0 l1) = true by assumption)))]; simp; done) | (rw [cutS_no (by first | assumption | (simpa using (show (!hasS l0 l1) = true by assumption)))]; simp; done) | (simp [cutPl, hasP]; done) | (exact absurd ((congrArg Bool.not (show hasP l0 l1 = true by assumption)).symm.trans (show (!hasP l0 l1) = true by assumption)) (by decide)) | (exact absurd ((congrArg Bool.not (show hasP l0 l1 = false by assumption)).symm.trans (show (!hasP l0 l1) = false by assumption)) (by decide)) | (exact absurd ((congrArg Bool.not (show hasS l0 l1 = true by assumption)).symm.trans (show (!hasS l0 l1) = true by assumption)) (by decide)) | (exact absurd ((congrArg Bool.not (show hasS l0 l1 = false by assumption)).symm.trans (show (!hasS l0 l1) = false by assumption)) (by decide)))
        replace E := E.val (t := 101) rfl hc_33
        replace E := E.val (t := 102) rfl hc_33
        refine WL_guard_no E rfl rfl rfl rfl fun a E => ?_
        refine WL_guard_no E rfl rfl rfl rfl fun a E => ?_
        refine WL_guard_no E rfl rfl rfl rfl fun a E => ?_
        refine WL_guard_yes E rfl rfl ?_
        refine S_v E rfl (R_pickF E rfl rfl) rfl ?_
        clear E a; intro a E
        refine S_v E rfl (R_pickF E rfl rfl) rfl ?_
        clear E a; intro a E
        refine S_v E rfl (R_move E rfl) rfl ?_
        clear E a; intro a E
        refine WL_guard_yes E rfl rfl ?_
        refine S_v E rfl (R_move E rfl) rfl ?_
        clear E a; intro a E
        refine WL_guard_yes E rfl rfl ?_
        refine S_v E rfl (R_move E rfl) rfl ?_
        clear E a; intro a E
        refine WL_guard_yes E rfl rfl ?_
        refine S_x (X_pu E S rfl rfl rfl (impl_HasPrefixSeq h0 h1) (Hp.le.refl _) ?_)
        clear E a S; rintro a _ w M_34 hM_34 rfl S E
        replace h0 := h0.le hM_34
        replace h1 := h1.le hM_34
        replace hz_6 := hz_6.le hM_34
        replace hz_8 := hz_8.le hM_34
        replace hv_10 := hv_10.le hM_34
        replace hv_13 := hv_13.le hM_34
        replace hv_18 := hv_18.le hM_34
        replace hv_20 := hv_20.le hM_34
        replace hv_22 := hv_22.le hM_34
        refine WL_guard_yes E rfl rfl ?_
        refine S_v E rfl (R_move E rfl) rfl ?_
        clear E a; intro a E
        refine WL_guard_yes E rfl rfl ?_
        refine S_v E rfl (R_move E rfl) rfl ?_
        clear E a; intro a E
        refine WL_guard_yes E rfl rfl ?_
        refine S_x (X_pu E S rfl rfl rfl (impl_HasPrefix h0 h1) (Hp.le.refl _) ?_)
        clear E a S; rintro a _ w M_35 hM_35 rfl S E
        replace h0 := h0.le hM_35
        replace h1 := h1.le hM_35
        replace hz_6 := hz_6.le hM_35
        replace hz_8 := hz_8.le hM_35
        replace hv_10 := hv_10.le hM_35
        replace hv_13 := hv_13.le hM_35
        replace hv_18 := hv_18.le hM_35
        replace hv_20 := hv_20.le hM_35
        replace hv_22 := hv_22.le hM_35
        refine WL_guard_yes E rfl rfl ?_
        refine S_v E rfl (R_neqB E rfl rfl Try.underlying4) rfl ?_
        clear E a; intro a E
        refine S_v E rfl (R_pickF E rfl rfl) rfl ?_
        clear E a; intro a E
        refine S_v E rfl (R_move E rfl) rfl ?_
        clear E a; intro a E
        have hc_36 : (!((hasP l0 l1) == (hasP l0 l1))) = false := by (clear S E; first | (simp; done) | decide | (rw [beg_hasP]; simp; done) | (rw [cutP_back (by first | assumption | (simpa using (show (!hasP l0 l1) = false by assumption)))]; simp; done) | (rw [cutS_back (by first | assumption | (simpa using (show (!hasS l0 l1) = false by assumption)))]; simp; done) | (rw [cutP_no (by first | assumption | (simpa using (show (!hasP l0 l1) = true by assumption)))]; simp; done) | (rw [cutS_no (by first | assumption | (simpa using (show (!hasS l0 l1) = true by assumption)))]; simp; done) | (simp [cutPl, hasP]; done) | (exact absurd ((congrArg Bool.not (show hasP l0 l1 = true by assumption)).symm.trans (show (!hasP l0 l1) = true by assumption)) (by decide)) | (exact absurd ((congrArg Bool.not (show hasP l0 l1 = false by assumption)).symm.trans (show (!hasP l0 l1) = false by assumption)) (by decide)) | (exact absurd ((congrArg Bool.not (show hasS l0 l1 = true by assumption)).symm.trans (show (!hasS l0 l1) = true by assumption)) (by decide)) | (exact absurd ((congrArg Bool.not (show hasS l0 l1 = false by assumption)).symm.trans (show (!hasS l0 l1) = false by assumption)) (by decide)))
        replace E := E.val (t := 115) rfl hc_36
        replace E := E.val (t := 116) rfl hc_36
        replace E := E.val (t := 117) rfl hc_36
        refine WL_guard_yes E rfl rfl ?_
        refine S_v E rfl (R_move E rfl) rfl ?_
        clear E a; intro a E
        refine WL_guard_yes E rfl rfl ?_
        refine S_v E rfl (R_move E rfl) rfl ?_
        clear E a; intro a E
        refine WL_guard_yes E rfl rfl ?_
        refine S_x (X_pu E S rfl rfl rfl (impl_HasSuffixSeq h0 h1 (by (first | omega | (simp; omega) | (simp; done) | (simp_all; omega) | grind))) (Hp.le.refl _) ?_)
        clear E a S; rintro a _ w M_37 hM_37 rfl S E
        replace h0 := h0.le hM_37
        replace h1 := h1.le hM_37
        replace hz_6 := hz_6.le hM_37
        replace hz_8 := hz_8.le hM_37
        replace hv_10 := hv_10.le hM_37
        replace hv_13 := hv_13.le hM_37
        replace hv_18 := hv_18.le hM_37
        replace hv_20 := hv_20.le hM_37
        replace hv_22 := hv_22.le hM_37
        refine WL_guard_yes E rfl rfl ?_
        refine S_v E rfl (R_move E rfl) rfl ?_
        clear E a; intro a E
        refine WL_guard_yes E rfl rfl ?_
        refine S_v E rfl (R_move E rfl) rfl ?_
        clear E a; intro a E
        refine WL_guard_yes E rfl rfl ?_
        refine S_x (X_pu E S rfl rfl rfl (impl_HasSuffix h0 h1) (Hp.le.refl _) ?_)
        clear E a S; rintro a _ w M_38 hM_38 rfl S E
        replace h0 := h0.le hM_38
        replace h1 := h1.le hM_38
        replace hz_6 := hz_6.le hM_38
        replace hz_8 := hz_8.le hM_38
        replace hv_10 := hv_10.le hM_38
        replace hv_13 := hv_13.le hM_38
        replace hv_18 := hv_18.le hM_38
        replace hv_20 := hv_20.le hM_38
        replace hv_22 := hv_22.le hM_38
        refine WL_guard_yes E rfl rfl ?_
        refine S_v E rfl (R_neqB E rfl rfl Try.underlying4) rfl ?_
        clear E a; intro a E
        refine S_v E rfl (R_pickF E rfl rfl) rfl ?_
        clear E a; intro a E
        refine WL_nil ?_
        refine T_n ?_
        have hc_39 : (!((hasS l0 l1) == (hasS l0 l1))) = false := by (clear S E; first | (simp; done) | decide | (rw [beg_hasP]; simp; done) | (rw [cutP_back (by first | assumption | (simpa using (show (!hasP l0 l1) = false by assumption)))]; simp; done) | (rw [cutS_back (by first | assumption | (simpa using (show (!hasS l0 l1) = false by assumption)))]; simp; done) | (rw [cutP_no (by first | assumption | (simpa using (show (!hasP l0 l1) = true by assumption)))]; simp; done) | (rw [cutS_no (by first | assumption | (simpa using (show (!hasS l0 l1) = true by assumption)))]; simp; done) | (simp [cutPl, hasP]; done) | (exact absurd ((congrArg Bool.not (show hasP l0 l1 = true by assumption)).symm.trans (show (!hasP l0 l1) = true by assumption)) (by decide)) | (exact absurd ((congrArg Bool.not (show hasP l0 l1 = false by assumption)).symm.trans (show (!hasP l0 l1) = false by assumption)) (by decide)) | (exact absurd ((congrArg Bool.not (show hasS l0 l1 = true by assumption)).symm.trans (show (!hasS l0 l1) = true by assumption)) (by decide)) | (exact absurd ((congrArg Bool.not (show hasS l0 l1 = false by assumption)).symm.trans (show (!hasS l0 l1) = false by assumption)) (by decide)))
        refine WP_condF E rfl hc_39 ?_
        refine WP_skip ?_
        refine T_n ?_
        refine WP_seq ?_
        refine WP_region ?_
        refine S_v E rfl (R_move E rfl) rfl ?_
        clear E a; intro a E
        refine S_v E rfl (R_move E rfl) rfl ?_
        clear E a; intro a E
        refine S_x (X_pu E S rfl rfl rfl (spec_CutPrefix h0 h1 (by (first | omega | (simp; omega) | (simp; done) | (simp_all; omega) | grind))) (Hp.le.refl _) ?_)
        clear E a S; rintro a _ w M_40 hM_40 ⟨v_41, rfl, hv_41⟩ S E
        replace h0 := h0.le hM_40
        replace h1 := h1.le hM_40
        replace hz_6 := hz_6.le hM_40
        replace hz_8 := hz_8.le hM_40
        replace hv_10 := hv_10.le hM_40
        replace hv_13 := hv_13.le hM_40
        replace hv_18 := hv_18.le hM_40
        replace hv_20 := hv_20.le hM_40
        replace hv_22 := hv_22.le hM_40
        refine S_v E rfl (R_move E rfl) rfl ?_
        clear E a; intro a E
        refine S_v E rfl (R_extract E rfl rfl) rfl ?_
        clear E a; intro a E
        refine S_v E rfl (R_extract E rfl rfl) rfl ?_
        clear E a; intro a E
        refine S_v E rfl (R_assign E rfl) rfl ?_
        clear E a; intro a E
        refine S_v E rfl (R_assign E rfl) rfl ?_
        clear E a; intro a E
        refine WL_nil ?_
        refine T_n ?_
        refine WP_seq ?_
        refine WP_region ?_
        refine S_v E rfl (R_move E rfl) rfl ?_
        clear E a; intro a E
        refine S_v E rfl (R_move E rfl) rfl ?_
        clear E a; intro a E
        refine S_x (X_pu E S rfl rfl rfl (spec_CutSuffix h0 h1 (by (first | omega | (simp; omega) | (simp; done) | (simp_all; omega) | grind))) (Hp.le.refl _) ?_)
        clear E a S; rintro a _ w M_42 hM_42 ⟨v_43, rfl, hv_43⟩ S E
        replace h0 := h0.le hM_42
        replace h1 := h1.le hM_42
        replace hz_6 := hz_6.le hM_42
        replace hz_8 := hz_8.le hM_42
        replace hv_10 := hv_10.le hM_42
        replace hv_13 := hv_13.le hM_42
        replace hv_18 := hv_18.le hM_42
        replace hv_20 := hv_20.le hM_42
        replace hv_22 := hv_22.le hM_42
        replace hv_41 := hv_41.le hM_42
        refine S_v E rfl (R_move E rfl) rfl ?_
        clear E a; intro a E
        refine S_v E rfl (R_extract E rfl rfl) rfl ?_
        clear E a; intro a E
        refine S_v E rfl (R_extract E rfl rfl) rfl ?_
        clear E a; intro a E
        refine S_v E rfl (R_assign E rfl) rfl ?_
        clear E a; intro a E
        refine S_v E rfl (R_assign E rfl) rfl ?_
        clear E a; intro a E
        refine WL_nil ?_
        refine T_n ?_
        refine WP_seq ?_
        refine WP_seq ?_
        refine WP_region ?_
        refine S_v E rfl (R_move E rfl) rfl ?_
        clear E a; intro a E
        refine S_v E rfl (R_move E rfl) rfl ?_
        clear E a; intro a E
        refine S_v E rfl (R_neqB E rfl rfl Try.underlying4) rfl ?_
        clear E a; intro a E
        refine S_v E rfl (R_move E rfl) rfl ?_
        clear E a; intro a E
        have hc_44 : (!((hasP l0 l1) == (hasP l0 l1))) = false := by (clear S E; first | (simp; done) | decide | (rw [beg_hasP]; simp; done) | (rw [cutP_back (by first | assumption | (simpa using (show (!hasP l0 l1) = false by assumption)))]; simp; done) | (rw [cutS_back (by first | assumption | (simpa using (show (!hasS l0 l1) = false by assumption)))]; simp; done) | (rw [cutP_no (by first | assumption | (simpa using (show (!hasP l0 l1) = true by assumption)))]; simp; done) | (rw [cutS_no (by first | assumption | (simpa using (show (!hasS l0 l1) = true by assumption)))]; simp; done) | (simp [cutPl, hasP]; done) | (exact absurd ((congrArg Bool.not (show hasP l0 l1 = true by assumption)).symm.trans (show (!hasP l0 l1) = true by assumption)) (by decide)) | (exact absurd ((congrArg Bool.not (show hasP l0 l1 = false by assumption)).symm.trans (show (!hasP l0 l1) = false by assumption)) (by decide)) | (exact absurd ((congrArg Bool.not (show hasS l0 l1 = true by assumption)).symm.trans (show (!hasS l0 l1) = true by assumption)) (by decide)) | (exact absurd ((congrArg Bool.not (show hasS l0 l1 = false by assumption)).symm.trans (show (!hasS l0 l1) = false by assumption)) (by decide)))
        replace E := E.val (t := 140) rfl hc_44
        replace E := E.val (t := 141) rfl hc_44
        refine WL_guard_yes E rfl rfl ?_
        refine S_v E rfl (R_move E rfl) rfl ?_
        clear E a; intro a E
        refine WL_guard_yes E rfl rfl ?_
        refine S_v E rfl (R_move E rfl) rfl ?_
        clear E a; intro a E
        refine WL_guard_yes E rfl rfl ?_
        refine S_v E rfl (R_neqB E rfl rfl Try.underlying4) rfl ?_
        clear E a; intro a E
        refine S_v E rfl (R_pickF E rfl rfl) rfl ?_
        clear E a; intro a E
        refine S_v E rfl (R_move E rfl) rfl ?_
        clear E a; intro a E
        have hc_45 : (!((hasS l0 l1) == (hasS l0 l1))) = false := by (clear S E; first | (simp; done) | decide | (rw [beg_hasP]; simp; done) | (rw [cutP_back (by first | assumption | (simpa using (show (!hasP l0 l1) = false by assumption)))]; simp; done) | (rw [cutS_back (by first | assumption | (simpa using (show (!hasS l0 l1) = false by assumption)))]; simp; done) | (rw [cutP_no (by first | assumption | (simpa using (show (!hasP l0 l1) = true by assumption)))]; simp; done) | (rw [cutS_no (by first | assumption | (simpa using (show (!hasS l0 l1) = true by assumption)))]; simp; done) | (simp [cutPl, hasP]; done) | (exact absurd ((congrArg Bool.not (show hasP l0 l1 = true by assumption)).symm.trans (show (!hasP l0 l1) = true by assumption)) (by decide)) | (exact absurd ((congrArg Bool.not (show hasP l0 l1 = false by assumption)).symm.trans (show (!hasP l0 l1) = false by assumption)) (by decide)) | (exact absurd ((congrArg Bool.not (show hasS l0 l1 = true by assumption)).symm.trans (show (!hasS l0 l1) = true by assumption)) (by decide)) | (exact absurd ((congrArg Bool.not (show hasS l0 l1 = false by assumption)).symm.trans (show (!hasS l0 l1) = false by assumption)) (by decide)))
        replace E := E.val (t := 124) rfl hc_45
        replace E := E.val (t := 125) rfl hc_45
        replace E := E.val (t := 144) rfl hc_45
        replace E := E.val (t := 145) rfl hc_45
        replace E := E.val (t := 146) rfl hc_45
        refine WL_guard_yes E rfl rfl ?_
        refine S_v E rfl (R_move E rfl) rfl ?_
        clear E a; intro a E
        refine WL_guard_yes E rfl rfl ?_
        refine S_v E rfl (R_move E rfl) rfl ?_
        clear E a; intro a E
        refine WL_guard_yes E rfl rfl ?_
        refine S_x (X_pu E S rfl rfl rfl (laws_eq hv_41 hv_18) (Hp.le.refl _) ?_)
        clear E a S; rintro a _ w M_46 hM_46 rfl S E
        replace h0 := h0.le hM_46
        replace h1 := h1.le hM_46
        replace hz_6 := hz_6.le hM_46
        replace hz_8 := hz_8.le hM_46
        replace hv_10 := hv_10.le hM_46
        replace hv_13 := hv_13.le hM_46
        replace hv_18 := hv_18.le hM_46
        replace hv_20 := hv_20.le hM_46
        replace hv_22 := hv_22.le hM_46
        replace hv_41 := hv_41.le hM_46
        replace hv_43 := hv_43.le hM_46
        refine WL_guard_yes E rfl rfl ?_
        refine S_v E rfl (R_not E rfl) rfl ?_
        clear E a; intro a E
        refine S_v E rfl (R_pickF E rfl rfl) rfl ?_
        clear E a; intro a E
        refine S_v E rfl (R_move E rfl) rfl ?_
        clear E a; intro a E
        have hc_47 : (!(decide (cutPl l0 l1 = cutPl l0 l1))) = false := by (clear S E; first | (simp; done) | decide | (rw [beg_hasP]; simp; done) | (rw [cutP_back (by first | assumption | (simpa using (show (!hasP l0 l1) = false by assumption)))]; simp; done) | (rw [cutS_back (by first | assumption | (simpa using (show (!hasS l0 l1) = false by assumption)))]; simp; done) | (rw [cutP_no (by first | assumption | (simpa using (show (!hasP l0 l1) = true by assumption)))]; simp; done) | (rw [cutS_no (by first | assumption | (simpa using (show (!hasS l0 l1) = true by assumption)))]; simp; done) | (simp [cutPl, hasP]; done) | (exact absurd ((congrArg Bool.not (show hasP l0 l1 = true by assumption)).symm.trans (show (!hasP l0 l1) = true by assumption)) (by decide)) | (exact absurd ((congrArg Bool.not (show hasP l0 l1 = false by assumption)).symm.trans (show (!hasP l0 l1) = false by assumption)) (by decide)) | (exact absurd ((congrArg Bool.not (show hasS l0 l1 = true by assumption)).symm.trans (show (!hasS l0 l1) = true by assumption)) (by decide)) | (exact absurd ((congrArg Bool.not (show hasS l0 l1 = false by assumption)).symm.trans (show (!hasS l0 l1) = false by assumption)) (by decide)))
        replace E := E.val (t := 150) rfl hc_47
        replace E := E.val (t := 151) rfl hc_47
        replace E := E.val (t := 152) rfl hc_47
        refine WL_guard_yes E rfl rfl ?_
        refine S_v E rfl (R_move E rfl) rfl ?_
        clear E a; intro a E
        refine WL_guard_yes E rfl rfl ?_
        refine S_v E rfl (R_move E rfl) rfl ?_
        clear E a; intro a E
        refine WL_guard_yes E rfl rfl ?_
        refine S_x (X_pu E S rfl rfl rfl (laws_eq hv_43 hv_20) (Hp.le.refl _) ?_)
        clear E a S; rintro a _ w M_48 hM_48 rfl S E
        replace h0 := h0.le hM_48
        replace h1 := h1.le hM_48
        replace hz_6 := hz_6.le hM_48
        replace hz_8 := hz_8.le hM_48
        replace hv_10 := hv_10.le hM_48
        replace hv_13 := hv_13.le hM_48
        replace hv_18 := hv_18.le hM_48
        replace hv_20 := hv_20.le hM_48
        replace hv_22 := hv_22.le hM_48
        replace hv_41 := hv_41.le hM_48
        replace hv_43 := hv_43.le hM_48
        refine WL_guard_yes E rfl rfl ?_
        refine S_v E rfl (R_not E rfl) rfl ?_
        clear E a; intro a E
        refine S_v E rfl (R_pickF E rfl rfl) rfl ?_
        clear E a; intro a E
        refine S_v E rfl (R_move E rfl) rfl ?_
        clear E a; intro a E
        have hc_49 : (!(decide (cutSl l0 l1 = cutSl l0 l1))) = false := by (clear S E; first | (simp; done) | decide | (rw [beg_hasP]; simp; done) | (rw [cutP_back (by first | assumption | (simpa using (show (!hasP l0 l1) = false by assumption)))]; simp; done) | (rw [cutS_back (by first | assumption | (simpa using (show (!hasS l0 l1) = false by assumption)))]; simp; done) | (rw [cutP_no (by first | assumption | (simpa using (show (!hasP l0 l1) = true by assumption)))]; simp; done) | (rw [cutS_no (by first | assumption | (simpa using (show (!hasS l0 l1) = true by assumption)))]; simp; done) | (simp [cutPl, hasP]; done) | (exact absurd ((congrArg Bool.not (show hasP l0 l1 = true by assumption)).symm.trans (show (!hasP l0 l1) = true by assumption)) (by decide)) | (exact absurd ((congrArg Bool.not (show hasP l0 l1 = false by assumption)).symm.trans (show (!hasP l0 l1) = false by assumption)) (by decide)) | (exact absurd ((congrArg Bool.not (show hasS l0 l1 = true by assumption)).symm.trans (show (!hasS l0 l1) = true by assumption)) (by decide)) | (exact absurd ((congrArg Bool.not (show hasS l0 l1 = false by assumption)).symm.trans (show (!hasS l0 l1) = false by assumption)) (by decide)))
        replace E := E.val (t := 156) rfl hc_49
        replace E := E.val (t := 157) rfl hc_49
        replace E := E.val (t := 158) rfl hc_49
        refine WL_guard_yes E rfl rfl ?_
        refine S_v E rfl (R_move E rfl) rfl ?_
        clear E a; intro a E
        refine WL_guard_yes E rfl rfl ?_
        refine S_v E rfl (R_lenV E rfl T22 h1.len) rfl ?_
        clear E a; intro a E
        refine WL_guard_yes E rfl rfl ?_
        refine S_v E rfl (R_gtr E rfl rfl) rfl ?_
        clear E a; intro a E
        refine WL_guard_yes E rfl rfl ?_
        refine S_v E rfl (R_move E rfl) rfl ?_
        clear E a; intro a E
        refine split_bool (decide (0 < (((l1).length : Nat) : Int))) (fun hc_50 => ?_) (fun hc_50 => ?_)
        · replace E := E.val (t := 161) rfl hc_50
          replace E := E.val (t := 162) rfl hc_50
          replace hc_50 := of_decide_eq_true hc_50
          refine WL_guard_yes E rfl rfl ?_
          refine S_v E rfl (R_move E rfl) rfl ?_
          clear E a; intro a E
          refine WL_guard_yes E rfl rfl ?_
          refine S_v E rfl (R_move E rfl) rfl ?_
          clear E a; intro a E
          refine WL_guard_yes E rfl rfl ?_
          refine S_x (X_pu E S rfl rfl rfl (spec_HasPrefix h0 h1) (Hp.le.refl _) ?_)
          clear E a S; rintro a _ w M_51 hM_51 rfl S E
          replace h0 := h0.le hM_51
          replace h1 := h1.le hM_51
          replace hz_6 := hz_6.le hM_51
          replace hz_8 := hz_8.le hM_51
          replace hv_10 := hv_10.le hM_51
          replace hv_13 := hv_13.le hM_51
          replace hv_18 := hv_18.le hM_51
          replace hv_20 := hv_20.le hM_51
          replace hv_22 := hv_22.le hM_51
          replace hv_41 := hv_41.le hM_51
          replace hv_43 := hv_43.le hM_51
          refine WL_guard_yes E rfl rfl ?_
          refine S_v E rfl (R_move E rfl) rfl ?_
          clear E a; intro a E
          refine WL_guard_yes E rfl rfl ?_
          refine S_v E rfl (R_neqB E rfl rfl Try.underlying4) rfl ?_
          clear E a; intro a E
          refine WL_guard_yes E rfl rfl ?_
          refine S_v E rfl (R_move E rfl) rfl ?_
          clear E a; intro a E
          have hc_52 : (!((hasP l0 l1) == (hasP l0 l1))) = false := by (clear S E; first | (simp; done) | decide | (rw [beg_hasP]; simp; done) | (rw [cutP_back (by first | assumption | (simpa using (show (!hasP l0 l1) = false by assumption)))]; simp; done) | (rw [cutS_back (by first | assumption | (simpa using (show (!hasS l0 l1) = false by assumption)))]; simp; done) | (rw [cutP_no (by first | assumption | (simpa using (show (!hasP l0 l1) = true by assumption)))]; simp; done) | (rw [cutS_no (by first | assumption | (simpa using (show (!hasS l0 l1) = true by assumption)))]; simp; done) | (simp [cutPl, hasP]; done) | (exact absurd ((congrArg Bool.not (show hasP l0 l1 = true by assumption)).symm.trans (show (!hasP l0 l1) = true by assumption)) (by decide)) | (exact absurd ((congrArg Bool.not (show hasP l0 l1 = false by assumption)).symm.trans (show (!hasP l0 l1) = false by assumption)) (by decide)) | (exact absurd ((congrArg Bool.not (show hasS l0 l1 = true by assumption)).symm.trans (show (!hasS l0 l1) = true by assumption)) (by decide)) | (exact absurd ((congrArg Bool.not (show hasS l0 l1 = false by assumption)).symm.trans (show (!hasS l0 l1) = false by assumption)) (by decide)))
          replace E := E.val (t := 167) rfl hc_52
          replace E := E.val (t := 168) rfl hc_52
          refine WL_guard_yes E rfl rfl ?_
          refine S_v E rfl (R_move E rfl) rfl ?_
          clear E a; intro a E
          refine WL_guard_yes E rfl rfl ?_
          refine S_v E rfl (R_move E rfl) rfl ?_
          clear E a; intro a E
          refine WL_guard_yes E rfl rfl ?_
          refine S_x (X_pu E S rfl rfl rfl (spec_HasSuffix h0 h1) (Hp.le.refl _) ?_)
          clear E a S; rintro a _ w M_53 hM_53 rfl S E
          replace h0 := h0.le hM_53
          replace h1 := h1.le hM_53
          replace hz_6 := hz_6.le hM_53
          replace hz_8 := hz_8.le hM_53
          replace hv_10 := hv_10.le hM_53
          replace hv_13 := hv_13.le hM_53
          replace hv_18 := hv_18.le hM_53
          replace hv_20 := hv_20.le hM_53
          replace hv_22 := hv_22.le hM_53
          replace hv_41 := hv_41.le hM_53
          replace hv_43 := hv_43.le hM_53
          refine WL_guard_yes E rfl rfl ?_
          refine S_v E rfl (R_move E rfl) rfl ?_
          clear E a; intro a E
          refine WL_guard_yes E rfl rfl ?_
          refine S_v E rfl (R_neqB E rfl rfl Try.underlying4) rfl ?_
          clear E a; intro a E
          refine WL_guard_yes E rfl rfl ?_
          refine S_v E rfl (R_pickF E rfl rfl) rfl ?_
          clear E a; intro a E
          refine WL_guard_yes E rfl rfl ?_
          refine S_v E rfl (R_pickT E rfl rfl) rfl ?_
          clear E a; intro a E
          refine S_v E rfl (R_pickF E rfl rfl) rfl ?_
          clear E a; intro a E
          refine WL_nil ?_
          refine T_n ?_
          have hc_54 : (!((hasS l0 l1) == (hasS l0 l1))) = false := by (clear S E; first | (simp; done) | decide | (rw [beg_hasP]; simp; done) | (rw [cutP_back (by first | assumption | (simpa using (show (!hasP l0 l1) = false by assumption)))]; simp; done) | (rw [cutS_back (by first | assumption | (simpa using (show (!hasS l0 l1) = false by assumption)))]; simp; done) | (rw [cutP_no (by first | assumption | (simpa using (show (!hasP l0 l1) = true by assumption)))]; simp; done) | (rw [cutS_no (by first | assumption | (simpa using (show (!hasS l0 l1) = true by assumption)))]; simp; done) | (simp [cutPl, hasP]; done) | (exact absurd ((congrArg Bool.not (show hasP l0 l1 = true by assumption)).symm.trans (show (!hasP l0 l1) = true by assumption)) (by decide)) | (exact absurd ((congrArg Bool.not (show hasP l0 l1 = false by assumption)).symm.trans (show (!hasP l0 l1) = false by assumption)) (by decide)) | (exact absurd ((congrArg Bool.not (show hasS l0 l1 = true by assumption)).symm.trans (show (!hasS l0 l1) = true by assumption)) (by decide)) | (exact absurd ((congrArg Bool.not (show hasS l0 l1 = false by assumption)).symm.trans (show (!hasS l0 l1) = false by assumption)) (by decide)))
          refine WP_condF E rfl hc_54 ?_
          refine WP_skip ?_
          refine T_n ?_
          refine WP_seq ?_
          refine WP_region ?_
          refine S_v E rfl (R_move E rfl) rfl ?_
          clear E a; intro a E
          refine S_v E rfl (R_not E rfl) rfl ?_
          clear E a; intro a E
          refine S_v E rfl (R_move E rfl) rfl ?_
          clear E a; intro a E
          refine split_bool (!(hasP l0 l1)) (fun hc_55 => ?_) (fun hc_55 => ?_)
          · replace E := E.val (t := 178) rfl hc_55
            replace E := E.val (t := 179) rfl hc_55
            refine WL_guard_yes E rfl rfl ?_
            refine S_v E rfl (R_move E rfl) rfl ?_
            clear E a; intro a E
            refine WL_guard_yes E rfl rfl ?_
            refine S_v E rfl (R_move E rfl) rfl ?_
            clear E a; intro a E
            refine WL_guard_yes E rfl rfl ?_
            refine S_x (X_pu E S rfl rfl rfl (laws_eq hv_18 h0) (Hp.le.refl _) ?_)
            clear E a S; rintro a _ w M_56 hM_56 rfl S E
            replace h0 := h0.le hM_56
            replace h1 := h1.le hM_56
            replace hz_6 := hz_6.le hM_56
            replace hz_8 := hz_8.le hM_56
            replace hv_10 := hv_10.le hM_56
            replace hv_13 := hv_13.le hM_56
            replace hv_18 := hv_18.le hM_56
            replace hv_20 := hv_20.le hM_56
            replace hv_22 := hv_22.le hM_56
            replace hv_41 := hv_41.le hM_56
            replace hv_43 := hv_43.le hM_56
            refine S_v E rfl (R_pickT E rfl rfl) rfl ?_
            clear E a; intro a E
            refine S_v E rfl (R_move E rfl) rfl ?_
            clear E a; intro a E
            have hc_57 : (decide (cutPl l0 l1 = l0)) = true := by (clear S E; first | (simp; done) | decide | (rw [beg_hasP]; simp; done) | (rw [cutP_back (by first | assumption | (simpa using (show (!hasP l0 l1) = false by assumption)))]; simp; done) | (rw [cutS_back (by first | assumption | (simpa using (show (!hasS l0 l1) = false by assumption)))]; simp; done) | (rw [cutP_no (by first | assumption | (simpa using (show (!hasP l0 l1) = true by assumption)))]; simp; done) | (rw [cutS_no (by first | assumption | (simpa using (show (!hasS l0 l1) = true by assumption)))]; simp; done) | (simp [cutPl, hasP]; done) | (exact absurd ((congrArg Bool.not (show hasP l0 l1 = true by assumption)).symm.trans (show (!hasP l0 l1) = true by assumption)) (by decide)) | (exact absurd ((congrArg Bool.not (show hasP l0 l1 = false by assumption)).symm.trans (show (!hasP l0 l1) = false by assumption)) (by decide)) | (exact absurd ((congrArg Bool.not (show hasS l0 l1 = true by assumption)).symm.trans (show (!hasS l0 l1) = true by assumption)) (by decide)) | (exact absurd ((congrArg Bool.not (show hasS l0 l1 = false by assumption)).symm.trans (show (!hasS l0 l1) = false by assumption)) (by decide)))
            replace E := E.val (t := 182) rfl hc_57
            replace E := E.val (t := 183) rfl hc_57
            replace E := E.val (t := 184) rfl hc_57
            refine WL_guard_no E rfl rfl rfl rfl fun a E => ?_
            refine WL_guard_no E rfl rfl rfl rfl fun a E => ?_
            refine WL_guard_un E rfl rfl rfl fun a E => ?_
            refine WL_guard_un E rfl rfl rfl fun a E => ?_
            refine WL_guard_un E rfl rfl rfl fun a E => ?_
            refine WL_guard_un E rfl rfl rfl fun a E => ?_
            refine WL_guard_un E rfl rfl rfl fun a E => ?_
            refine WL_guard_no E rfl rfl rfl rfl fun a E => ?_
            refine S_v E rfl (R_pickT E rfl rfl) rfl ?_
            clear E a; intro a E
            refine S_v E rfl (R_move E rfl) rfl ?_
            clear E a; intro a E
            refine WL_guard_yes E rfl rfl ?_
            refine S_v E rfl (R_move E rfl) rfl ?_
            clear E a; intro a E
            refine WL_guard_yes E rfl rfl ?_
            refine S_v E rfl (R_not E rfl) rfl ?_
            clear E a; intro a E
            refine WL_guard_yes E rfl rfl ?_
            refine S_v E rfl (R_move E rfl) rfl ?_
            clear E a; intro a E
            refine split_bool (!(hasS l0 l1)) (fun hc_58 => ?_) (fun hc_58 => ?_)
            · replace E := E.val (t := 196) rfl hc_58
              replace E := E.val (t := 197) rfl hc_58
              refine WL_guard_yes E rfl rfl ?_
              refine S_v E rfl (R_move E rfl) rfl ?_
              clear E a; intro a E
              refine WL_guard_yes E rfl rfl ?_
              refine S_v E rfl (R_move E rfl) rfl ?_
              clear E a; intro a E
              refine WL_guard_yes E rfl rfl ?_
              refine S_x (X_pu E S rfl rfl rfl (laws_eq hv_20 h0) (Hp.le.refl _) ?_)
              clear E a S; rintro a _ w M_59 hM_59 rfl S E
              replace h0 := h0.le hM_59
              replace h1 := h1.le hM_59
              replace hz_6 := hz_6.le hM_59
              replace hz_8 := hz_8.le hM_59
              replace hv_10 := hv_10.le hM_59
              replace hv_13 := hv_13.le hM_59
              replace hv_18 := hv_18.le hM_59
              replace hv_20 := hv_20.le hM_59
              replace hv_22 := hv_22.le hM_59
              replace hv_41 := hv_41.le hM_59
              replace hv_43 := hv_43.le hM_59
              refine WL_guard_yes E rfl rfl ?_
              refine S_v E rfl (R_pickT E rfl rfl) rfl ?_
              clear E a; intro a E
              refine WL_guard_yes E rfl rfl ?_
              refine S_v E rfl (R_move E rfl) rfl ?_
              clear E a; intro a E
              have hc_60 : (decide (cutSl l0 l1 = l0)) = true := by (clear S E; first | (simp; done) | decide | (rw [beg_hasP]; simp; done) | (rw [cutP_back (by first | assumption | (simpa using (show (!hasP l0 l1) = false by assumption)))]; simp; done) | (rw [cutS_back (by first | assumption | (simpa using (show (!hasS l0 l1) = false by assumption)))]; simp; done) | (rw [cutP_no (by first | assumption | (simpa using (show (!hasP l0 l1) = true by assumption)))]; simp; done) | (rw [cutS_no (by first | assumption | (simpa using (show (!hasS l0 l1) = true by assumption)))]; simp; done) | (simp [cutPl, hasP]; done) | (exact absurd ((congrArg Bool.not (show hasP l0 l1 = true by assumption)).symm.trans (show (!hasP l0 l1) = true by assumption)) (by decide)) | (exact absurd ((congrArg Bool.not (show hasP l0 l1 = false by assumption)).symm.trans (show (!hasP l0 l1) = false by assumption)) (by decide)) | (exact absurd ((congrArg Bool.not (show hasS l0 l1 = true by assumption)).symm.trans (show (!hasS l0 l1) = true by assumption)) (by decide)) | (exact absurd ((congrArg Bool.not (show hasS l0 l1 = false by assumption)).symm.trans (show (!hasS l0 l1) = false by assumption)) (by decide)))
              replace E := E.val (t := 200) rfl hc_60
              replace E := E.val (t := 201) rfl hc_60
              replace E := E.val (t := 202) rfl hc_60
              refine WL_guard_no E rfl rfl rfl rfl fun a E => ?_
              refine WL_guard_no E rfl rfl rfl rfl fun a E => ?_
              refine WL_guard_un E rfl rfl rfl fun a E => ?_
              refine WL_guard_un E rfl rfl rfl fun a E => ?_
              refine WL_guard_un E rfl rfl rfl fun a E => ?_
              refine WL_guard_un E rfl rfl rfl fun a E => ?_
              refine WL_guard_un E rfl rfl rfl fun a E => ?_
              refine WL_guard_no E rfl rfl rfl rfl fun a E => ?_
              refine WL_guard_yes E rfl rfl ?_
              refine S_v E rfl (R_pickT E rfl rfl) rfl ?_
              clear E a; intro a E
              refine S_v E rfl (R_pickT E rfl rfl) rfl ?_
              clear E a; intro a E
              refine S_v E rfl (R_assign E rfl) rfl ?_
              clear E a; intro a E
              refine WL_nil ?_
              refine T_n ?_
              refine WP_ret ?_
              exact F_ret1 E Try.results8 rfl ⟨_, rfl, M_59, (hM_5.trans (hM_7.trans (hM_9.trans (hM_14.trans (hM_15.trans (hM_17.trans (hM_19.trans (hM_21.trans (hM_23.trans (hM_25.trans (hM_28.trans (hM_30.trans (hM_32.trans (hM_34.trans (hM_35.trans (hM_37.trans (hM_38.trans (hM_40.trans (hM_42.trans (hM_46.trans (hM_48.trans (hM_51.trans (hM_53.trans (hM_56.trans hM_59)))))))))))))))))))))))), rfl, S⟩
            · replace E := E.val (t := 196) rfl hc_58
              replace E := E.val (t := 197) rfl hc_58
              refine WL_guard_no E rfl rfl rfl rfl fun a E => ?_
              refine WL_guard_no E rfl rfl rfl rfl fun a E => ?_
              refine WL_guard_no E rfl rfl rfl rfl fun a E => ?_
              refine WL_guard_yes E rfl rfl ?_
              refine S_v E rfl (R_pickF E rfl rfl) rfl ?_
              clear E a; intro a E
              refine WL_guard_yes E rfl rfl ?_
              refine S_v E rfl (R_move E rfl) rfl ?_
              clear E a; intro a E
              refine WL_guard_yes E rfl rfl ?_
              refine S_v E rfl (R_move E rfl) rfl ?_
              clear E a; intro a E
              refine WL_guard_yes E rfl rfl ?_
              refine S_v E rfl (R_move E rfl) rfl ?_
              clear E a; intro a E
              refine split_bool (hasS l0 l1) (fun hc_61 => ?_) (fun hc_61 => ?_)
              · replace E := E.val (t := 54) rfl hc_61
                replace E := E.val (t := 10) rfl hc_61
                replace E := E.val (t := 60) rfl hc_61
                replace E := E.val (t := 12) rfl hc_61
                replace E := E.val (t := 67) rfl hc_61
                replace E := E.val (t := 70) rfl hc_61
                replace E := E.val (t := 74) rfl hc_61
                replace E := E.val (t := 75) rfl hc_61
                replace E := E.val (t := 99) rfl hc_61
                replace E := E.val (t := 100) rfl hc_61
                replace E := E.val (t := 120) rfl hc_61
                replace E := E.val (t := 123) rfl hc_61
                replace E := E.val (t := 137) rfl hc_61
                replace E := E.val (t := 16) rfl hc_61
                replace E := E.val (t := 142) rfl hc_61
                replace E := E.val (t := 143) rfl hc_61
                replace E := E.val (t := 171) rfl hc_61
                replace E := E.val (t := 172) rfl hc_61
                replace E := E.val (t := 195) rfl hc_61
                replace E := E.val (t := 203) rfl hc_61
                replace E := E.val (t := 204) rfl hc_61
                refine WL_guard_yes E rfl rfl ?_
                refine S_v E rfl (R_move E rfl) rfl ?_
                clear E a; intro a E
                refine WL_guard_yes E rfl rfl ?_
                refine S_v E rfl (R_move E rfl) rfl ?_
                clear E a; intro a E
                refine WL_guard_yes E rfl rfl ?_
                refine S_x (X_pu E S rfl rfl rfl (laws_both hv_20 h1 (by first | omega | (simp; omega) | (simp_all; omega))) (Hp.le.refl _) ?_)
                clear E a S; rintro a v_63 w M_62 hM_62 hv_63 S E
                replace h0 := h0.le hM_62
                replace h1 := h1.le hM_62
                replace hz_6 := hz_6.le hM_62
                replace hz_8 := hz_8.le hM_62
                replace hv_10 := hv_10.le hM_62
                replace hv_13 := hv_13.le hM_62
                replace hv_18 := hv_18.le hM_62
                replace hv_20 := hv_20.le hM_62
                replace hv_22 := hv_22.le hM_62
                replace hv_41 := hv_41.le hM_62
                replace hv_43 := hv_43.le hM_62
                refine WL_guard_yes E rfl rfl ?_
                refine S_v E rfl (R_move E rfl) rfl ?_
                clear E a; intro a E
                refine WL_guard_yes E rfl rfl ?_
                refine S_x (X_pu E S rfl rfl rfl (laws_eq hv_63 h0) (Hp.le.refl _) ?_)
                clear E a S; rintro a _ w M_64 hM_64 rfl S E
                replace h0 := h0.le hM_64
                replace h1 := h1.le hM_64
                replace hz_6 := hz_6.le hM_64
                replace hz_8 := hz_8.le hM_64
                replace hv_10 := hv_10.le hM_64
                replace hv_13 := hv_13.le hM_64
                replace hv_18 := hv_18.le hM_64
                replace hv_20 := hv_20.le hM_64
                replace hv_22 := hv_22.le hM_64
                replace hv_41 := hv_41.le hM_64
                replace hv_43 := hv_43.le hM_64
                replace hv_63 := hv_63.le hM_64
                refine WL_guard_yes E rfl rfl ?_
                refine S_v E rfl (R_pickT E rfl rfl) rfl ?_
                clear E a; intro a E
                refine WL_guard_yes E rfl rfl ?_
                refine S_v E rfl (R_pickF E rfl rfl) rfl ?_
                clear E a; intro a E
                refine S_v E rfl (R_pickT E rfl rfl) rfl ?_
                clear E a; intro a E
                refine S_v E rfl (R_assign E rfl) rfl ?_
                clear E a; intro a E
                refine WL_nil ?_
                refine T_n ?_
                refine WP_ret ?_
                exact F_ret1 E Try.results8 rfl ⟨_, rfl, M_64, (hM_5.trans (hM_7.trans (hM_9.trans (hM_14.trans (hM_15.trans (hM_17.trans (hM_19.trans (hM_21.trans (hM_23.trans (hM_25.trans (hM_28.trans (hM_30.trans (hM_32.trans (hM_34.trans (hM_35.trans (hM_37.trans (hM_38.trans (hM_40.trans (hM_42.trans (hM_46.trans (hM_48.trans (hM_51.trans (hM_53.trans (hM_56.trans (hM_62.trans hM_64))))))))))))))))))))))))), (congrArg Value.bool (by (clear S E; first | (simp; done) | decide | (rw [beg_hasP]; simp; done) | (rw [cutP_back (by first | assumption | (simpa using (show (!hasP l0 l1) = false by assumption)))]; simp; done) | (rw [cutS_back (by first | assumption | (simpa using (show (!hasS l0 l1) = false by assumption)))]; simp; done) | (rw [cutP_no (by first | assumption | (simpa using (show (!hasP l0 l1) = true by assumption)))]; simp; done) | (rw [cutS_no (by first | assumption | (simpa using (show (!hasS l0 l1) = true by assumption)))]; simp; done) | (simp [cutPl, hasP]; done) | (exact absurd ((congrArg Bool.not (show hasP l0 l1 = true by assumption)).symm.trans (show (!hasP l0 l1) = true by assumption)) (by decide)) | (exact absurd ((congrArg Bool.not (show hasP l0 l1 = false by assumption)).symm.trans (show (!hasP l0 l1) = false by assumption)) (by decide)) | (exact absurd ((congrArg Bool.not (show hasS l0 l1 = true by assumption)).symm.trans (show (!hasS l0 l1) = true by assumption)) (by decide)) | (exact absurd ((congrArg Bool.not (show hasS l0 l1 = false by assumption)).symm.trans (show (!hasS l0 l1) = false by assumption)) (by decide))))), S⟩
              · replace E := E.val (t := 54) rfl hc_61
                replace E := E.val (t := 10) rfl hc_61
                replace E := E.val (t := 60) rfl hc_61
                replace E := E.val (t := 12) rfl hc_61
                replace E := E.val (t := 67) rfl hc_61
                replace E := E.val (t := 70) rfl hc_61
                replace E := E.val (t := 74) rfl hc_61
                replace E := E.val (t := 75) rfl hc_61
                replace E := E.val (t := 99) rfl hc_61
                replace E := E.val (t := 100) rfl hc_61
                replace E := E.val (t := 120) rfl hc_61
                replace E := E.val (t := 123) rfl hc_61
                replace E := E.val (t := 137) rfl hc_61
                replace E := E.val (t := 16) rfl hc_61
                replace E := E.val (t := 142) rfl hc_61
                replace E := E.val (t := 143) rfl hc_61
                replace E := E.val (t := 171) rfl hc_61
                replace E := E.val (t := 172) rfl hc_61
                replace E := E.val (t := 195) rfl hc_61
                replace E := E.val (t := 203) rfl hc_61
                replace E := E.val (t := 204) rfl hc_61
                refine WL_guard_no E rfl rfl rfl rfl fun a E => ?_
                refine WL_guard_no E rfl rfl rfl rfl fun a E => ?_
                refine WL_guard_no E rfl rfl rfl rfl fun a E => ?_
                refine WL_guard_no E rfl rfl rfl rfl fun a E => ?_
                refine WL_guard_no E rfl rfl rfl rfl fun a E => ?_
                refine WL_guard_yes E rfl rfl ?_
                refine S_v E rfl (R_pickF E rfl rfl) rfl ?_
                clear E a; intro a E
                refine WL_guard_yes E rfl rfl ?_
                refine S_v E rfl (R_pickF E rfl rfl) rfl ?_
                clear E a; intro a E
                refine S_v E rfl (R_pickT E rfl rfl) rfl ?_
                clear E a; intro a E
                refine S_v E rfl (R_assign E rfl) rfl ?_
                clear E a; intro a E
                refine WL_nil ?_
                refine T_n ?_
                refine WP_ret ?_
                exact F_ret1 E Try.results8 rfl ⟨_, rfl, M_56, (hM_5.trans (hM_7.trans (hM_9.trans (hM_14.trans (hM_15.trans (hM_17.trans (hM_19.trans (hM_21.trans (hM_23.trans (hM_25.trans (hM_28.trans (hM_30.trans (hM_32.trans (hM_34.trans (hM_35.trans (hM_37.trans (hM_38.trans (hM_40.trans (hM_42.trans (hM_46.trans (hM_48.trans (hM_51.trans (hM_53.trans hM_56))))))))))))))))))))))), (congrArg Value.bool (by (clear S E; first | (simp; done) | decide | (rw [beg_hasP]; simp; done) | (rw [cutP_back (by first | assumption | (simpa using (show (!hasP l0 l1) = false by assumption)))]; simp; done) | (rw [cutS_back (by first | assumption | (simpa using (show (!hasS l0 l1) = false by assumption)))]; simp; done) | (rw [cutP_no (by first | assumption | (simpa using (show (!hasP l0 l1) = true by assumption)))]; simp; done) | (rw [cutS_no (by first | assumption | (simpa using (show (!hasS l0 l1) = true by assumption)))]; simp; done) | (simp [cutPl, hasP]; done) | (exact absurd ((congrArg Bool.not (show hasP l0 l1 = true by assumption)).symm.trans (show (!hasP l0 l1) = true by assumption)) (by decide)) | (exact absurd ((congrArg Bool.not (show hasP l0 l1 = false by assumption)).symm.trans (show (!hasP l0 l1) = false by assumption)) (by decide)) | (exact absurd ((congrArg Bool.not (show hasS l0 l1 = true by assumption)).symm.trans (show (!hasS l0 l1) = true by assumption)) (by decide)) | (exact absurd ((congrArg Bool.not (show hasS l0 l1 = false by assumption)).symm.trans (show (!hasS l0 l1) = false by assumption)) (by decide))))), S⟩
          · replace E := E.val (t := 178) rfl hc_55
            replace E := E.val (t := 179) rfl hc_55
            refine WL_guard_no E rfl rfl rfl rfl fun a E => ?_
            refine WL_guard_no E rfl rfl rfl rfl fun a E => ?_
            refine WL_guard_no E rfl rfl rfl rfl fun a E => ?_
            refine S_v E rfl (R_pickF E rfl rfl) rfl ?_
            clear E a; intro a E
            refine S_v E rfl (R_move E rfl) rfl ?_
            clear E a; intro a E
            refine WL_guard_yes E rfl rfl ?_
            refine S_v E rfl (R_move E rfl) rfl ?_
            clear E a; intro a E
            refine WL_guard_yes E rfl rfl ?_
            refine S_v E rfl (R_move E rfl) rfl ?_
            clear E a; intro a E
            refine split_bool (hasP l0 l1) (fun hc_65 => ?_) (fun hc_65 => ?_)
            · replace E := E.val (t := 48) rfl hc_65
              replace E := E.val (t := 8) rfl hc_65
              replace E := E.val (t := 61) rfl hc_65
              replace E := E.val (t := 87) rfl hc_65
              replace E := E.val (t := 88) rfl hc_65
              replace E := E.val (t := 111) rfl hc_65
              replace E := E.val (t := 114) rfl hc_65
              replace E := E.val (t := 131) rfl hc_65
              replace E := E.val (t := 14) rfl hc_65
              replace E := E.val (t := 138) rfl hc_65
              replace E := E.val (t := 139) rfl hc_65
              replace E := E.val (t := 165) rfl hc_65
              replace E := E.val (t := 166) rfl hc_65
              replace E := E.val (t := 177) rfl hc_65
              replace E := E.val (t := 185) rfl hc_65
              replace E := E.val (t := 186) rfl hc_65
              refine WL_guard_yes E rfl rfl ?_
              refine S_v E rfl (R_move E rfl) rfl ?_
              clear E a; intro a E
              refine WL_guard_yes E rfl rfl ?_
              refine S_v E rfl (R_move E rfl) rfl ?_
              clear E a; intro a E
              refine WL_guard_yes E rfl rfl ?_
              refine S_x (X_pu E S rfl rfl rfl (laws_both h1 hv_18 (by first | omega | (simp; omega) | (simp_all; omega))) (Hp.le.refl _) ?_)
              clear E a S; rintro a v_67 w M_66 hM_66 hv_67 S E
              replace h0 := h0.le hM_66
              replace h1 := h1.le hM_66
              replace hz_6 := hz_6.le hM_66
              replace hz_8 := hz_8.le hM_66
              replace hv_10 := hv_10.le hM_66
              replace hv_13 := hv_13.le hM_66
              replace hv_18 := hv_18.le hM_66
              replace hv_20 := hv_20.le hM_66
              replace hv_22 := hv_22.le hM_66
              replace hv_41 := hv_41.le hM_66
              replace hv_43 := hv_43.le hM_66
              refine WL_guard_yes E rfl rfl ?_
              refine S_v E rfl (R_move E rfl) rfl ?_
              clear E a; intro a E
              refine WL_guard_yes E rfl rfl ?_
              refine S_x (X_pu E S rfl rfl rfl (laws_eq hv_67 h0) (Hp.le.refl _) ?_)
              clear E a S; rintro a _ w M_68 hM_68 rfl S E
              replace h0 := h0.le hM_68
              replace h1 := h1.le hM_68
              replace hz_6 := hz_6.le hM_68
              replace hz_8 := hz_8.le hM_68
              replace hv_10 := hv_10.le hM_68
              replace hv_13 := hv_13.le hM_68
              replace hv_18 := hv_18.le hM_68
              replace hv_20 := hv_20.le hM_68
              replace hv_22 := hv_22.le hM_68
              replace hv_41 := hv_41.le hM_68
              replace hv_43 := hv_43.le hM_68
              replace hv_67 := hv_67.le hM_68
              refine WL_guard_yes E rfl rfl ?_
              refine S_v E rfl (R_pickT E rfl rfl) rfl ?_
              clear E a; intro a E
              refine S_v E rfl (R_pickF E rfl rfl) rfl ?_
              clear E a; intro a E
              refine S_v E rfl (R_move E rfl) rfl ?_
              clear E a; intro a E
              have hc_69 : (decide (l1 ++ (cutPl l0 l1) = l0)) = true := by (clear S E; first | (simp; done) | decide | (rw [beg_hasP]; simp; done) | (rw [cutP_back (by first | assumption | (simpa using (show (!hasP l0 l1) = false by assumption)))]; simp; done) | (rw [cutS_back (by first | assumption | (simpa using (show (!hasS l0 l1) = false by assumption)))]; simp; done) | (rw [cutP_no (by first | assumption | (simpa using (show (!hasP l0 l1) = true by assumption)))]; simp; done) | (rw [cutS_no (by first | assumption | (simpa using (show (!hasS l0 l1) = true by assumption)))]; simp; done) | (simp [cutPl, hasP]; done) | (exact absurd ((congrArg Bool.not (show hasP l0 l1 = true by assumption)).symm.trans (show (!hasP l0 l1) = true by assumption)) (by decide)) | (exact absurd ((congrArg Bool.not (show hasP l0 l1 = false by assumption)).symm.trans (show (!hasP l0 l1) = false by assumption)) (by decide)) | (exact absurd ((congrArg Bool.not (show hasS l0 l1 = true by assumption)).symm.trans (show (!hasS l0 l1) = true by assumption)) (by decide)) | (exact absurd ((congrArg Bool.not (show hasS l0 l1 = false by assumption)).symm.trans (show (!hasS l0 l1) = false by assumption)) (by decide)))
              replace E := E.val (t := 191) rfl hc_69
              replace E := E.val (t := 192) rfl hc_69
              replace E := E.val (t := 193) rfl hc_69
              replace E := E.val (t := 194) rfl hc_69
              refine WL_guard_yes E rfl rfl ?_
              refine S_v E rfl (R_move E rfl) rfl ?_
              clear E a; intro a E
              refine WL_guard_yes E rfl rfl ?_
              refine S_v E rfl (R_not E rfl) rfl ?_
              clear E a; intro a E
              refine WL_guard_yes E rfl rfl ?_
              refine S_v E rfl (R_move E rfl) rfl ?_
              clear E a; intro a E
              refine split_bool (!(hasS l0 l1)) (fun hc_70 => ?_) (fun hc_70 => ?_)
              · replace E := E.val (t := 196) rfl hc_70
                replace E := E.val (t := 197) rfl hc_70
                refine WL_guard_yes E rfl rfl ?_
                refine S_v E rfl (R_move E rfl) rfl ?_
                clear E a; intro a E
                refine WL_guard_yes E rfl rfl ?_
                refine S_v E rfl (R_move E rfl) rfl ?_
                clear E a; intro a E
                refine WL_guard_yes E rfl rfl ?_
                refine S_x (X_pu E S rfl rfl rfl (laws_eq hv_20 h0) (Hp.le.refl _) ?_)
                clear E a S; rintro a _ w M_71 hM_71 rfl S E
                replace h0 := h0.le hM_71
                replace h1 := h1.le hM_71
                replace hz_6 := hz_6.le hM_71
                replace hz_8 := hz_8.le hM_71
                replace hv_10 := hv_10.le hM_71
                replace hv_13 := hv_13.le hM_71
                replace hv_18 := hv_18.le hM_71
                replace hv_20 := hv_20.le hM_71
                replace hv_22 := hv_22.le hM_71
                replace hv_41 := hv_41.le hM_71
                replace hv_43 := hv_43.le hM_71
                replace hv_67 := hv_67.le hM_71
                refine WL_guard_yes E rfl rfl ?_
                refine S_v E rfl (R_pickT E rfl rfl) rfl ?_
                clear E a; intro a E
                refine WL_guard_yes E rfl rfl ?_
                refine S_v E rfl (R_move E rfl) rfl ?_
                clear E a; intro a E
                have hc_72 : (decide (cutSl l0 l1 = l0)) = true := by (clear S E; first | (simp; done) | decide | (rw [beg_hasP]; simp; done) | (rw [cutP_back (by first | assumption | (simpa using (show (!hasP l0 l1) = false by assumption)))]; simp; done) | (rw [cutS_back (by first | assumption | (simpa using (show (!hasS l0 l1) = false by assumption)))]; simp; done) | (rw [cutP_no (by first | assumption | (simpa using (show (!hasP l0 l1) = true by assumption)))]; simp; done) | (rw [cutS_no (by first | assumption | (simpa using (show (!hasS l0 l1) = true by assumption)))]; simp; done) | (simp [cutPl, hasP]; done) | (exact absurd ((congrArg Bool.not (show hasP l0 l1 = true by assumption)).symm.trans (show (!hasP l0 l1) = true by assumption)) (by decide)) | (exact absurd ((congrArg Bool.not (show hasP l0 l1 = false by assumption)).symm.trans (show (!hasP l0 l1) = false by assumption)) (by decide)) | (exact absurd ((congrArg Bool.not (show hasS l0 l1 = true by assumption)).symm.trans (show (!hasS l0 l1) = true by assumption)) (by decide)) | (exact absurd ((congrArg Bool.not (show hasS l0 l1 = false by assumption)).symm.trans (show (!hasS l0 l1) = false by assumption)) (by decide)))
                replace E := E.val (t := 200) rfl hc_72
                replace E := E.val (t := 201) rfl hc_72
                replace E := E.val (t := 202) rfl hc_72
                refine WL_guard_no E rfl rfl rfl rfl fun a E => ?_
                refine WL_guard_no E rfl rfl rfl rfl fun a E => ?_
                refine WL_guard_un E rfl rfl rfl fun a E => ?_
                refine WL_guard_un E rfl rfl rfl fun a E => ?_
                refine WL_guard_un E rfl rfl rfl fun a E => ?_
                refine WL_guard_un E rfl rfl rfl fun a E => ?_
                refine WL_guard_un E rfl rfl rfl fun a E => ?_
                refine WL_guard_no E rfl rfl rfl rfl fun a E => ?_
                refine WL_guard_yes E rfl rfl ?_
                refine S_v E rfl (R_pickT E rfl rfl) rfl ?_
                clear E a; intro a E
                refine S_v E rfl (R_pickT E rfl rfl) rfl ?_
                clear E a; intro a E
                refine S_v E rfl (R_assign E rfl) rfl ?_
                clear E a; intro a E
                refine WL_nil ?_
                refine T_n ?_
                refine WP_ret ?_
                exact F_ret1 E Try.results8 rfl ⟨_, rfl, M_71, (hM_5.trans (hM_7.trans (hM_9.trans (hM_14.trans (hM_15.trans (hM_17.trans (hM_19.trans (hM_21.trans (hM_23.trans (hM_25.trans (hM_28.trans (hM_30.trans (hM_32.trans (hM_34.trans (hM_35.trans (hM_37.trans (hM_38.trans (hM_40.trans (hM_42.trans (hM_46.trans (hM_48.trans (hM_51.trans (hM_53.trans (hM_66.trans (hM_68.trans hM_71))))))))))))))))))))))))), rfl, S⟩
              · replace E := E.val (t := 196) rfl hc_70
                replace E := E.val (t := 197) rfl hc_70
                refine WL_guard_no E rfl rfl rfl rfl fun a E => ?_
                refine WL_guard_no E rfl rfl rfl rfl fun a E => ?_
                refine WL_guard_no E rfl rfl rfl rfl fun a E => ?_
                refine WL_guard_yes E rfl rfl ?_
                refine S_v E rfl (R_pickF E rfl rfl) rfl ?_
                clear E a; intro a E
                refine WL_guard_yes E rfl rfl ?_
                refine S_v E rfl (R_move E rfl) rfl ?_
                clear E a; intro a E
                refine WL_guard_yes E rfl rfl ?_
                refine S_v E rfl (R_move E rfl) rfl ?_
                clear E a; intro a E
                refine WL_guard_yes E rfl rfl ?_
                refine S_v E rfl (R_move E rfl) rfl ?_
                clear E a; intro a E
                refine split_bool (hasS l0 l1) (fun hc_73 => ?_) (fun hc_73 => ?_)
                · replace E := E.val (t := 54) rfl hc_73
                  replace E := E.val (t := 10) rfl hc_73
                  replace E := E.val (t := 60) rfl hc_73
                  replace E := E.val (t := 12) rfl hc_73
                  replace E := E.val (t := 67) rfl hc_73
                  replace E := E.val (t := 70) rfl hc_73
                  replace E := E.val (t := 74) rfl hc_73
                  replace E := E.val (t := 75) rfl hc_73
                  replace E := E.val (t := 99) rfl hc_73
                  replace E := E.val (t := 100) rfl hc_73
                  replace E := E.val (t := 120) rfl hc_73
                  replace E := E.val (t := 123) rfl hc_73
                  replace E := E.val (t := 137) rfl hc_73
                  replace E := E.val (t := 16) rfl hc_73
                  replace E := E.val (t := 142) rfl hc_73
                  replace E := E.val (t := 143) rfl hc_73
                  replace E := E.val (t := 171) rfl hc_73
                  replace E := E.val (t := 172) rfl hc_73
                  replace E := E.val (t := 195) rfl hc_73
                  replace E := E.val (t := 203) rfl hc_73
                  replace E := E.val (t := 204) rfl hc_73
                  refine WL_guard_yes E rfl rfl ?_
                  refine S_v E rfl (R_move E rfl) rfl ?_
                  clear E a; intro a E
                  refine WL_guard_yes E rfl rfl ?_
                  refine S_v E rfl (R_move E rfl) rfl ?_
                  clear E a; intro a E
                  refine WL_guard_yes E rfl rfl ?_
                  refine S_x (X_pu E S rfl rfl rfl (laws_both hv_20 h1 (by first | omega | (simp; omega) | (simp_all; omega))) (Hp.le.refl _) ?_)
                  clear E a S; rintro a v_75 w M_74 hM_74 hv_75 S E
                  replace h0 := h0.le hM_74
                  replace h1 := h1.le hM_74
                  replace hz_6 := hz_6.le hM_74
                  replace hz_8 := hz_8.le hM_74
                  replace hv_10 := hv_10.le hM_74
                  replace hv_13 := hv_13.le hM_74
                  replace hv_18 := hv_18.le hM_74
                  replace hv_20 := hv_20.le hM_74
                  replace hv_22 := hv_22.le hM_74
                  replace hv_41 := hv_41.le hM_74
                  replace hv_43 := hv_43.le hM_74
                  replace hv_67 := hv_67.le hM_74
                  refine WL_guard_yes E rfl rfl ?_
                  refine S_v E rfl (R_move E rfl) rfl ?_
                  clear E a; intro a E
                  refine WL_guard_yes E rfl rfl ?_
                  refine S_x (X_pu E S rfl rfl rfl (laws_eq hv_75 h0) (Hp.le.refl _) ?_)
                  clear E a S; rintro a _ w M_76 hM_76 rfl S E
                  replace h0 := h0.le hM_76
                  replace h1 := h1.le hM_76
                  replace hz_6 := hz_6.le hM_76
                  replace hz_8 := hz_8.le hM_76
                  replace hv_10 := hv_10.le hM_76
                  replace hv_13 := hv_13.le hM_76
                  replace hv_18 := hv_18.le hM_76
                  replace hv_20 := hv_20.le hM_76
                  replace hv_22 := hv_22.le hM_76
                  replace hv_41 := hv_41.le hM_76
                  replace hv_43 := hv_43.le hM_76
                  replace hv_67 := hv_67.le hM_76
                  replace hv_75 := hv_75.le hM_76
                  refine WL_guard_yes E rfl rfl ?_
                  refine S_v E rfl (R_pickT E rfl rfl) rfl ?_
                  clear E a; intro a E
                  refine WL_guard_yes E rfl rfl ?_
                  refine S_v E rfl (R_pickF E rfl rfl) rfl ?_
                  clear E a; intro a E
                  refine S_v E rfl (R_pickT E rfl rfl) rfl ?_
                  clear E a; intro a E
                  refine S_v E rfl (R_assign E rfl) rfl ?_
                  clear E a; intro a E
                  refine WL_nil ?_
                  refine T_n ?_
                  refine WP_ret ?_
                  exact F_ret1 E Try.results8 rfl ⟨_, rfl, M_76, (hM_5.trans (hM_7.trans (hM_9.trans (hM_14.trans (hM_15.trans (hM_17.trans (hM_19.trans (hM_21.trans (hM_23.trans (hM_25.trans (hM_28.trans (hM_30.trans (hM_32.trans (hM_34.trans (hM_35.trans (hM_37.trans (hM_38.trans (hM_40.trans (hM_42.trans (hM_46.trans (hM_48.trans (hM_51.trans (hM_53.trans (hM_66.trans (hM_68.trans (hM_74.trans hM_76)))))))))))))))))))))))))), (congrArg Value.bool (by (clear S E; first | (simp; done) | decide | (rw [beg_hasP]; simp; done) | (rw [cutP_back (by first | assumption | (simpa using (show (!hasP l0 l1) = false by assumption)))]; simp; done) | (rw [cutS_back (by first | assumption | (simpa using (show (!hasS l0 l1) = false by assumption)))]; simp; done) | (rw [cutP_no (by first | assumption | (simpa using (show (!hasP l0 l1) = true by assumption)))]; simp; done) | (rw [cutS_no (by first | assumption | (simpa using (show (!hasS l0 l1) = true by assumption)))]; simp; done) | (simp [cutPl, hasP]; done) | (exact absurd ((congrArg Bool.not (show hasP l0 l1 = true by assumption)).symm.trans (show (!hasP l0 l1) = true by assumption)) (by decide)) | (exact absurd ((congrArg Bool.not (show hasP l0 l1 = false by assumption)).symm.trans (show (!hasP l0 l1) = false by assumption)) (by decide)) | (exact absurd ((congrArg Bool.not (show hasS l0 l1 = true by assumption)).symm.trans (show (!hasS l0 l1) = true by assumption)) (by decide)) | (exact absurd ((congrArg Bool.not (show hasS l0 l1 = false by assumption)).symm.trans (show (!hasS l0 l1) = false by assumption)) (by decide))))), S⟩
                · replace E := E.val (t := 54) rfl hc_73
                  replace E := E.val (t := 10) rfl hc_73
                  replace E := E.val (t := 60) rfl hc_73
                  replace E := E.val (t := 12) rfl hc_73
                  replace E := E.val (t := 67) rfl hc_73
                  replace E := E.val (t := 70) rfl hc_73
                  replace E := E.val (t := 74) rfl hc_73
                  replace E := E.val (t := 75) rfl hc_73
                  replace E := E.val (t := 99) rfl hc_73
                  replace E := E.val (t := 100) rfl hc_73
                  replace E := E.val (t := 120) rfl hc_73
                  replace E := E.val (t := 123) rfl hc_73
                  replace E := E.val (t := 137) rfl hc_73
                  replace E := E.val (t := 16) rfl hc_73
                  replace E := E.val (t := 142) rfl hc_73
                  replace E := E.val (t := 143) rfl hc_73
                  replace E := E.val (t := 171) rfl hc_73
                  replace E := E.val (t := 172) rfl hc_73
                  replace E := E.val (t := 195) rfl hc_73
                  replace E := E.val (t := 203) rfl hc_73
                  replace E := E.val (t := 204) rfl hc_73
                  refine WL_guard_no E rfl rfl rfl rfl fun a E => ?_
                  refine WL_guard_no E rfl rfl rfl rfl fun a E => ?_
                  refine WL_guard_no E rfl rfl rfl rfl fun a E => ?_
                  refine WL_guard_no E rfl rfl rfl rfl fun a E => ?_
                  refine WL_guard_no E rfl rfl rfl rfl fun a E => ?_
                  refine WL_guard_yes E rfl rfl ?_
                  refine S_v E rfl (R_pickF E rfl rfl) rfl ?_
                  clear E a; intro a E
                  refine WL_guard_yes E rfl rfl ?_
                  refine S_v E rfl (R_pickF E rfl rfl) rfl ?_
                  clear E a; intro a E
                  refine S_v E rfl (R_pickT E rfl rfl) rfl ?_
                  clear E a; intro a E
                  refine S_v E rfl (R_assign E rfl) rfl ?_
                  clear E a; intro a E
                  refine WL_nil ?_
                  refine T_n ?_
                  refine WP_ret ?_
                  exact F_ret1 E Try.results8 rfl ⟨_, rfl, M_68, (hM_5.trans (hM_7.trans (hM_9.trans (hM_14.trans (hM_15.trans (hM_17.trans (hM_19.trans (hM_21.trans (hM_23.trans (hM_25.trans (hM_28.trans (hM_30.trans (hM_32.trans (hM_34.trans (hM_35.trans (hM_37.trans (hM_38.trans (hM_40.trans (hM_42.trans (hM_46.trans (hM_48.trans (hM_51.trans (hM_53.trans (hM_66.trans hM_68)))))))))))))))))))))))), (congrArg Value.bool (by (clear S E; first | (simp; done) | decide | (rw [beg_hasP]; simp; done) | (rw [cutP_back (by first | assumption | (simpa using (show (!hasP l0 l1) = false by assumption)))]; simp; done) | (rw [cutS_back (by first | assumption | (simpa using (show (!hasS l0 l1) = false by assumption)))]; simp; done) | (rw [cutP_no (by first | assumption | (simpa using (show (!hasP l0 l1) = true by assumption)))]; simp; done) | (rw [cutS_no (by first | assumption | (simpa using (show (!hasS l0 l1) = true by assumption)))]; simp; done) | (simp [cutPl, hasP]; done) | (exact absurd ((congrArg Bool.not (show hasP l0 l1 = true by assumption)).symm.trans (show (!hasP l0 l1) = true by assumption)) (by decide)) | (exact absurd ((congrArg Bool.not (show hasP l0 l1 = false by assumption)).symm.trans (show (!hasP l0 l1) = false by assumption)) (by decide)) | (exact absurd ((congrArg Bool.not (show hasS l0 l1 = true by assumption)).symm.trans (show (!hasS l0 l1) = true by assumption)) (by decide)) | (exact absurd ((congrArg Bool.not (show hasS l0 l1 = false by assumption)).symm.trans (show (!hasS l0 l1) = false by assumption)) (by decide))))), S⟩
            · replace E := E.val (t := 48) rfl hc_65
              replace E := E.val (t := 8) rfl hc_65
              replace E := E.val (t := 61) rfl hc_65
              replace E := E.val (t := 87) rfl hc_65
              replace E := E.val (t := 88) rfl hc_65
              replace E := E.val (t := 111) rfl hc_65
              replace E := E.val (t := 114) rfl hc_65
              replace E := E.val (t := 131) rfl hc_65
              replace E := E.val (t := 14) rfl hc_65
              replace E := E.val (t := 138) rfl hc_65
              replace E := E.val (t := 139) rfl hc_65
              replace E := E.val (t := 165) rfl hc_65
              replace E := E.val (t := 166) rfl hc_65
              replace E := E.val (t := 177) rfl hc_65
              replace E := E.val (t := 185) rfl hc_65
              replace E := E.val (t := 186) rfl hc_65
              refine WL_guard_no E rfl rfl rfl rfl fun a E => ?_
              refine WL_guard_no E rfl rfl rfl rfl fun a E => ?_
              refine WL_guard_no E rfl rfl rfl rfl fun a E => ?_
              refine WL_guard_no E rfl rfl rfl rfl fun a E => ?_
              refine WL_guard_no E rfl rfl rfl rfl fun a E => ?_
              refine WL_guard_yes E rfl rfl ?_
              refine S_v E rfl (R_pickF E rfl rfl) rfl ?_
              clear E a; intro a E
              refine S_v E rfl (R_pickF E rfl rfl) rfl ?_
              clear E a; intro a E
              refine S_v E rfl (R_move E rfl) rfl ?_
              clear E a; intro a E
              refine WL_guard_no E rfl rfl rfl rfl fun a E => ?_
              refine WL_guard_no E rfl rfl rfl rfl fun a E => ?_
              refine WL_guard_no E rfl rfl rfl rfl fun a E => ?_
              refine WL_guard_un E rfl rfl rfl fun a E => ?_
              refine WL_guard_un E rfl rfl rfl fun a E => ?_
              refine WL_guard_un E rfl rfl rfl fun a E => ?_
              refine WL_guard_no E rfl rfl rfl rfl fun a E => ?_
              refine WL_guard_no E rfl rfl rfl rfl fun a E => ?_
              refine WL_guard_un E rfl rfl rfl fun a E => ?_
              refine WL_guard_un E rfl rfl rfl fun a E => ?_
              refine WL_guard_un E rfl rfl rfl fun a E => ?_
              refine WL_guard_un E rfl rfl rfl fun a E => ?_
              refine WL_guard_un E rfl rfl rfl fun a E => ?_
              refine WL_guard_un E rfl rfl rfl fun a E => ?_
              refine WL_guard_un E rfl rfl rfl fun a E => ?_
              refine WL_guard_un E rfl rfl rfl fun a E => ?_
              refine WL_guard_no E rfl rfl rfl rfl fun a E => ?_
              refine S_v E rfl (R_pickF E rfl rfl) rfl ?_
              clear E a; intro a E
              refine S_v E rfl (R_assign E rfl) rfl ?_
              clear E a; intro a E
              refine WL_nil ?_
              refine T_n ?_
              refine WP_ret ?_
              exact F_ret1 E Try.results8 rfl ⟨_, rfl, M_53, (hM_5.trans (hM_7.trans (hM_9.trans (hM_14.trans (hM_15.trans (hM_17.trans (hM_19.trans (hM_21.trans (hM_23.trans (hM_25.trans (hM_28.trans (hM_30.trans (hM_32.trans (hM_34.trans (hM_35.trans (hM_37.trans (hM_38.trans (hM_40.trans (hM_42.trans (hM_46.trans (hM_48.trans (hM_51.trans hM_53)))))))))))))))))))))), (congrArg Value.bool (by (clear S E; first | (simp; done) | decide | (rw [beg_hasP]; simp; done) | (rw [cutP_back (by first | assumption | (simpa using (show (!hasP l0 l1) = false by assumption)))]; simp; done) | (rw [cutS_back (by first | assumption | (simpa using (show (!hasS l0 l1) = false by assumption)))]; simp; done) | (rw [cutP_no (by first | assumption | (simpa using (show (!hasP l0 l1) = true by assumption)))]; simp; done) | (rw [cutS_no (by first | assumption | (simpa using (show (!hasS l0 l1) = true by assumption)))]; simp; done) | (simp [cutPl, hasP]; done) | (exact absurd ((congrArg Bool.not (show hasP l0 l1 = true by assumption)).symm.trans (show (!hasP l0 l1) = true by assumption)) (by decide)) | (exact absurd ((congrArg Bool.not (show hasP l0 l1 = false by assumption)).symm.trans (show (!hasP l0 l1) = false by assumption)) (by decide)) | (exact absurd ((congrArg Bool.not (show hasS l0 l1 = true by assumption)).symm.trans (show (!hasS l0 l1) = true by assumption)) (by decide)) | (exact absurd ((congrArg Bool.not (show hasS l0 l1 = false by assumption)).symm.trans (show (!hasS l0 l1) = false by assumption)) (by decide))))), S⟩
        · replace E := E.val (t := 161) rfl hc_50
          replace E := E.val (t := 162) rfl hc_50
          replace hc_50 := of_decide_eq_false hc_50
          refine WL_guard_no E rfl rfl rfl rfl fun a E => ?_
          refine WL_guard_no E rfl rfl rfl rfl fun a E => ?_
          refine WL_guard_no E rfl rfl rfl rfl fun a E => ?_
          refine WL_guard_no E rfl rfl rfl rfl fun a E => ?_
          refine WL_guard_no E rfl rfl rfl rfl fun a E => ?_
          refine WL_guard_no E rfl rfl rfl rfl fun a E => ?_
          refine WL_guard_un E rfl rfl rfl fun a E => ?_
          refine WL_guard_un E rfl rfl rfl fun a E => ?_
          refine WL_guard_un E rfl rfl rfl fun a E => ?_
          refine WL_guard_un E rfl rfl rfl fun a E => ?_
          refine WL_guard_un E rfl rfl rfl fun a E => ?_
          refine WL_guard_no E rfl rfl rfl rfl fun a E => ?_
          refine WL_guard_yes E rfl rfl ?_
          refine S_v E rfl (R_pickF E rfl rfl) rfl ?_
          clear E a; intro a E
          refine S_v E rfl (R_pickF E rfl rfl) rfl ?_
          clear E a; intro a E
          refine WL_nil ?_
          refine T_n ?_
          refine WP_condF E rfl rfl ?_
          refine WP_skip ?_
          refine T_n ?_
          refine WP_seq ?_
          refine WP_region ?_
          refine S_v E rfl (R_move E rfl) rfl ?_
          clear E a; intro a E
          refine S_v E rfl (R_not E rfl) rfl ?_
          clear E a; intro a E
          refine S_v E rfl (R_move E rfl) rfl ?_
          clear E a; intro a E
          refine split_bool (!(hasP l0 l1)) (fun hc_77 => ?_) (fun hc_77 => ?_)
          · replace E := E.val (t := 178) rfl hc_77
            replace E := E.val (t := 179) rfl hc_77
            refine WL_guard_yes E rfl rfl ?_
            refine S_v E rfl (R_move E rfl) rfl ?_
            clear E a; intro a E
            refine WL_guard_yes E rfl rfl ?_
            refine S_v E rfl (R_move E rfl) rfl ?_
            clear E a; intro a E
            refine WL_guard_yes E rfl rfl ?_
            refine S_x (X_pu E S rfl rfl rfl (laws_eq hv_18 h0) (Hp.le.refl _) ?_)
            clear E a S; rintro a _ w M_78 hM_78 rfl S E
            replace h0 := h0.le hM_78
            replace h1 := h1.le hM_78
            replace hz_6 := hz_6.le hM_78
            replace hz_8 := hz_8.le hM_78
            replace hv_10 := hv_10.le hM_78
            replace hv_13 := hv_13.le hM_78
            replace hv_18 := hv_18.le hM_78
            replace hv_20 := hv_20.le hM_78
            replace hv_22 := hv_22.le hM_78
            replace hv_41 := hv_41.le hM_78
            replace hv_43 := hv_43.le hM_78
            refine S_v E rfl (R_pickT E rfl rfl) rfl ?_
            clear E a; intro a E
            refine S_v E rfl (R_move E rfl) rfl ?_
            clear E a; intro a E
            have hc_79 : (decide (cutPl l0 l1 = l0)) = true := by (clear S E; first | (simp; done) | decide | (rw [beg_hasP]; simp; done) | (rw [cutP_back (by first | assumption | (simpa using (show (!hasP l0 l1) = false by assumption)))]; simp; done) | (rw [cutS_back (by first | assumption | (simpa using (show (!hasS l0 l1) = false by assumption)))]; simp; done) | (rw [cutP_no (by first | assumption | (simpa using (show (!hasP l0 l1) = true by assumption)))]; simp; done) | (rw [cutS_no (by first | assumption | (simpa using (show (!hasS l0 l1) = true by assumption)))]; simp; done) | (simp [cutPl, hasP]; done) | (exact absurd ((congrArg Bool.not (show hasP l0 l1 = true by assumption)).symm.trans (show (!hasP l0 l1) = true by assumption)) (by decide)) | (exact absurd ((congrArg Bool.not (show hasP l0 l1 = false by assumption)).symm.trans (show (!hasP l0 l1) = false by assumption)) (by decide)) | (exact absurd ((congrArg Bool.not (show hasS l0 l1 = true by assumption)).symm.trans (show (!hasS l0 l1) = true by assumption)) (by decide)) | (exact absurd ((congrArg Bool.not (show hasS l0 l1 = false by assumption)).symm.trans (show (!hasS l0 l1) = false by assumption)) (by decide)))
            replace E := E.val (t := 182) rfl hc_79
            replace E := E.val (t := 183) rfl hc_79
            replace E := E.val (t := 184) rfl hc_79
            refine WL_guard_no E rfl rfl rfl rfl fun a E => ?_
            refine WL_guard_no E rfl rfl rfl rfl fun a E => ?_
            refine WL_guard_un E rfl rfl rfl fun a E => ?_
            refine WL_guard_un E rfl rfl rfl fun a E => ?_
            refine WL_guard_un E rfl rfl rfl fun a E => ?_
            refine WL_guard_un E rfl rfl rfl fun a E => ?_
            refine WL_guard_un E rfl rfl rfl fun a E => ?_
            refine WL_guard_no E rfl rfl rfl rfl fun a E => ?_
            refine S_v E rfl (R_pickT E rfl rfl) rfl ?_
            clear E a; intro a E
            refine S_v E rfl (R_move E rfl) rfl ?_
            clear E a; intro a E
            refine WL_guard_yes E rfl rfl ?_
            refine S_v E rfl (R_move E rfl) rfl ?_
            clear E a; intro a E
            refine WL_guard_yes E rfl rfl ?_
            refine S_v E rfl (R_not E rfl) rfl ?_
            clear E a; intro a E
            refine WL_guard_yes E rfl rfl ?_
            refine S_v E rfl (R_move E rfl) rfl ?_
            clear E a; intro a E
            refine split_bool (!(hasS l0 l1)) (fun hc_80 => ?_) (fun hc_80 => ?_)
            · replace E := E.val (t := 196) rfl hc_80
              replace E := E.val (t := 197) rfl hc_80
              refine WL_guard_yes E rfl rfl ?_
              refine S_v E rfl (R_move E rfl) rfl ?_
              clear E a; intro a E
              refine WL_guard_yes E rfl rfl ?_
              refine S_v E rfl (R_move E rfl) rfl ?_
              clear E a; intro a E
              refine WL_guard_yes E rfl rfl ?_
              refine S_x (X_pu E S rfl rfl rfl (laws_eq hv_20 h0) (Hp.le.refl _) ?_)
              clear E a S; rintro a _ w M_81 hM_81 rfl S E
              replace h0 := h0.le hM_81
              replace h1 := h1.le hM_81
              replace hz_6 := hz_6.le hM_81
              replace hz_8 := hz_8.le hM_81
              replace hv_10 := hv_10.le hM_81
              replace hv_13 := hv_13.le hM_81
              replace hv_18 := hv_18.le hM_81
              replace hv_20 := hv_20.le hM_81
              replace hv_22 := hv_22.le hM_81
              replace hv_41 := hv_41.le hM_81
              replace hv_43 := hv_43.le hM_81
              refine WL_guard_yes E rfl rfl ?_
              refine S_v E rfl (R_pickT E rfl rfl) rfl ?_
              clear E a; intro a E
              refine WL_guard_yes E rfl rfl ?_
              refine S_v E rfl (R_move E rfl) rfl ?_
              clear E a; intro a E
              have hc_82 : (decide (cutSl l0 l1 = l0)) = true := by (clear S E; first | (simp; done) | decide | (rw [beg_hasP]; simp; done) | (rw [cutP_back (by first | assumption | (simpa using (show (!hasP l0 l1) = false by assumption)))]; simp; done) | (rw [cutS_back (by first | assumption | (simpa using (show (!hasS l0 l1) = false by assumption)))]; simp; done) | (rw [cutP_no (by first | assumption | (simpa using (show (!hasP l0 l1) = true by assumption)))]; simp; done) | (rw [cutS_no (by first | assumption | (simpa using (show (!hasS l0 l1) = true by assumption)))]; simp; done) | (simp [cutPl, hasP]; done) | (exact absurd ((congrArg Bool.not (show hasP l0 l1 = true by assumption)).symm.trans (show (!hasP l0 l1) = true by assumption)) (by decide)) | (exact absurd ((congrArg Bool.not (show hasP l0 l1 = false by assumption)).symm.trans (show (!hasP l0 l1) = false by assumption)) (by decide)) | (exact absurd ((congrArg Bool.not (show hasS l0 l1 = true by assumption)).symm.trans (show (!hasS l0 l1) = true by assumption)) (by decide)) | (exact absurd ((congrArg Bool.not (show hasS l0 l1 = false by assumption)).symm.trans (show (!hasS l0 l1) = false by assumption)) (by decide)))
              replace E := E.val (t := 200) rfl hc_82
              replace E := E.val (t := 201) rfl hc_82
              replace E := E.val (t := 202) rfl hc_82
              refine WL_guard_no E rfl rfl rfl rfl fun a E => ?_
              refine WL_guard_no E rfl rfl rfl rfl fun a E => ?_
              refine WL_guard_un E rfl rfl rfl fun a E => ?_
              refine WL_guard_un E rfl rfl rfl fun a E => ?_
              refine WL_guard_un E rfl rfl rfl fun a E => ?_
              refine WL_guard_un E rfl rfl rfl fun a E => ?_
              refine WL_guard_un E rfl rfl rfl fun a E => ?_
              refine WL_guard_no E rfl rfl rfl rfl fun a E => ?_
              refine WL_guard_yes E rfl rfl ?_
              refine S_v E rfl (R_pickT E rfl rfl) rfl ?_
              clear E a; intro a E
              refine S_v E rfl (R_pickT E rfl rfl) rfl ?_
              clear E a; intro a E
              refine S_v E rfl (R_assign E rfl) rfl ?_
              clear E a; intro a E
              refine WL_nil ?_
              refine T_n ?_
              refine WP_ret ?_
              exact F_ret1 E Try.results8 rfl ⟨_, rfl, M_81, (hM_5.trans (hM_7.trans (hM_9.trans (hM_14.trans (hM_15.trans (hM_17.trans (hM_19.trans (hM_21.trans (hM_23.trans (hM_25.trans (hM_28.trans (hM_30.trans (hM_32.trans (hM_34.trans (hM_35.trans (hM_37.trans (hM_38.trans (hM_40.trans (hM_42.trans (hM_46.trans (hM_48.trans (hM_78.trans hM_81)))))))))))))))))))))), rfl, S⟩
            · replace E := E.val (t := 196) rfl hc_80
              replace E := E.val (t := 197) rfl hc_80
              refine WL_guard_no E rfl rfl rfl rfl fun a E => ?_
              refine WL_guard_no E rfl rfl rfl rfl fun a E => ?_
              refine WL_guard_no E rfl rfl rfl rfl fun a E => ?_
              refine WL_guard_yes E rfl rfl ?_
              refine S_v E rfl (R_pickF E rfl rfl) rfl ?_
              clear E a; intro a E
              refine WL_guard_yes E rfl rfl ?_
              refine S_v E rfl (R_move E rfl) rfl ?_
              clear E a; intro a E
              refine WL_guard_yes E rfl rfl ?_
              refine S_v E rfl (R_move E rfl) rfl ?_
              clear E a; intro a E
              refine WL_guard_yes E rfl rfl ?_
              refine S_v E rfl (R_move E rfl) rfl ?_
              clear E a; intro a E
              refine split_bool (hasS l0 l1) (fun hc_83 => ?_) (fun hc_83 => ?_)
              · replace E := E.val (t := 54) rfl hc_83
                replace E := E.val (t := 10) rfl hc_83
                replace E := E.val (t := 60) rfl hc_83
                replace E := E.val (t := 12) rfl hc_83
                replace E := E.val (t := 67) rfl hc_83
                replace E := E.val (t := 70) rfl hc_83
                replace E := E.val (t := 74) rfl hc_83
                replace E := E.val (t := 75) rfl hc_83
                replace E := E.val (t := 99) rfl hc_83
                replace E := E.val (t := 100) rfl hc_83
                replace E := E.val (t := 120) rfl hc_83
                replace E := E.val (t := 123) rfl hc_83
                replace E := E.val (t := 137) rfl hc_83
                replace E := E.val (t := 16) rfl hc_83
                replace E := E.val (t := 142) rfl hc_83
                replace E := E.val (t := 143) rfl hc_83
                replace E := E.val (t := 195) rfl hc_83
                replace E := E.val (t := 203) rfl hc_83
                replace E := E.val (t := 204) rfl hc_83
                refine WL_guard_yes E rfl rfl ?_
                refine S_v E rfl (R_move E rfl) rfl ?_
                clear E a; intro a E
                refine WL_guard_yes E rfl rfl ?_
                refine S_v E rfl (R_move E rfl) rfl ?_
                clear E a; intro a E
                refine WL_guard_yes E rfl rfl ?_
                refine S_x (X_pu E S rfl rfl rfl (laws_both hv_20 h1 (by first | omega | (simp; omega) | (simp_all; omega))) (Hp.le.refl _) ?_)
                clear E a S; rintro a v_85 w M_84 hM_84 hv_85 S E
                replace h0 := h0.le hM_84
                replace h1 := h1.le hM_84
                replace hz_6 := hz_6.le hM_84
                replace hz_8 := hz_8.le hM_84
                replace hv_10 := hv_10.le hM_84
                replace hv_13 := hv_13.le hM_84
                replace hv_18 := hv_18.le hM_84
                replace hv_20 := hv_20.le hM_84
                replace hv_22 := hv_22.le hM_84
                replace hv_41 := hv_41.le hM_84
                replace hv_43 := hv_43.le hM_84
                refine WL_guard_yes E rfl rfl ?_
                refine S_v E rfl (R_move E rfl) rfl ?_
                clear E a; intro a E
                refine WL_guard_yes E rfl rfl ?_
                refine S_x (X_pu E S rfl rfl rfl (laws_eq hv_85 h0) (Hp.le.refl _) ?_)
                clear E a S; rintro a _ w M_86 hM_86 rfl S E
                replace h0 := h0.le hM_86
                replace h1 := h1.le hM_86
                replace hz_6 := hz_6.le hM_86
                replace hz_8 := hz_8.le hM_86
                replace hv_10 := hv_10.le hM_86
                replace hv_13 := hv_13.le hM_86
                replace hv_18 := hv_18.le hM_86
                replace hv_20 := hv_20.le hM_86
                replace hv_22 := hv_22.le hM_86
                replace hv_41 := hv_41.le hM_86
                replace hv_43 := hv_43.le hM_86
                replace hv_85 := hv_85.le hM_86
                refine WL_guard_yes E rfl rfl ?_
                refine S_v E rfl (R_pickT E rfl rfl) rfl ?_
                clear E a; intro a E
                refine WL_guard_yes E rfl rfl ?_
                refine S_v E rfl (R_pickF E rfl rfl) rfl ?_
                clear E a; intro a E
                refine S_v E rfl (R_pickT E rfl rfl) rfl ?_
                clear E a; intro a E
                refine S_v E rfl (R_assign E rfl) rfl ?_
                clear E a; intro a E
                refine WL_nil ?_
                refine T_n ?_
                refine WP_ret ?_
                exact F_ret1 E Try.results8 rfl ⟨_, rfl, M_86, (hM_5.trans (hM_7.trans (hM_9.trans (hM_14.trans (hM_15.trans (hM_17.trans (hM_19.trans (hM_21.trans (hM_23.trans (hM_25.trans (hM_28.trans (hM_30.trans (hM_32.trans (hM_34.trans (hM_35.trans (hM_37.trans (hM_38.trans (hM_40.trans (hM_42.trans (hM_46.trans (hM_48.trans (hM_78.trans (hM_84.trans hM_86))))))))))))))))))))))), (congrArg Value.bool (by (clear S E; first | (simp; done) | decide | (rw [beg_hasP]; simp; done) | (rw [cutP_back (by first | assumption | (simpa using (show (!hasP l0 l1) = false by assumption)))]; simp; done) | (rw [cutS_back (by first | assumption | (simpa using (show (!hasS l0 l1) = false by assumption)))]; simp; done) | (rw [cutP_no (by first | assumption | (simpa using (show (!hasP l0 l1) = true by assumption)))]; simp; done) | (rw [cutS_no (by first | assumption | (simpa using (show (!hasS l0 l1) = true by assumption)))]; simp; done) | (simp [cutPl, hasP]; done) | (exact absurd ((congrArg Bool.not (show hasP l0 l1 = true by assumption)).symm.trans (show (!hasP l0 l1) = true by assumption)) (by decide)) | (exact absurd ((congrArg Bool.not (show hasP l0 l1 = false by assumption)).symm.trans (show (!hasP l0 l1) = false by assumption)) (by decide)) | (exact absurd ((congrArg Bool.not (show hasS l0 l1 = true by assumption)).symm.trans (show (!hasS l0 l1) = true by assumption)) (by decide)) | (exact absurd ((congrArg Bool.not (show hasS l0 l1 = false by assumption)).symm.trans (show (!hasS l0 l1) = false by assumption)) (by decide))))), S⟩
              · replace E := E.val (t := 54) rfl hc_83
                replace E := E.val (t := 10) rfl hc_83
                replace E := E.val (t := 60) rfl hc_83
                replace E := E.val (t := 12) rfl hc_83
                replace E := E.val (t := 67) rfl hc_83
                replace E := E.val (t := 70) rfl hc_83
                replace E := E.val (t := 74) rfl hc_83
                replace E := E.val (t := 75) rfl hc_83
                replace E := E.val (t := 99) rfl hc_83
                replace E := E.val (t := 100) rfl hc_83
                replace E := E.val (t := 120) rfl hc_83
                replace E := E.val (t := 123) rfl hc_83
                replace E := E.val (t := 137) rfl hc_83
                replace E := E.val (t := 16) rfl hc_83
                replace E := E.val (t := 142) rfl hc_83
                replace E := E.val (t := 143) rfl hc_83
                replace E := E.val (t := 195) rfl hc_83
                replace E := E.val (t := 203) rfl hc_83
                replace E := E.val (t := 204) rfl hc_83
                refine WL_guard_no E rfl rfl rfl rfl fun a E => ?_
                refine WL_guard_no E rfl rfl rfl rfl fun a E => ?_
                refine WL_guard_no E rfl rfl rfl rfl fun a E => ?_
                refine WL_guard_no E rfl rfl rfl rfl fun a E => ?_
                refine WL_guard_no E rfl rfl rfl rfl fun a E => ?_
                refine WL_guard_yes E rfl rfl ?_
                refine S_v E rfl (R_pickF E rfl rfl) rfl ?_
                clear E a; intro a E
                refine WL_guard_yes E rfl rfl ?_
                refine S_v E rfl (R_pickF E rfl rfl) rfl ?_
                clear E a; intro a E
                refine S_v E rfl (R_pickT E rfl rfl) rfl ?_
                clear E a; intro a E
                refine S_v E rfl (R_assign E rfl) rfl ?_
                clear E a; intro a E
                refine WL_nil ?_
                refine T_n ?_
                refine WP_ret ?_
                exact F_ret1 E Try.results8 rfl ⟨_, rfl, M_78, (hM_5.trans (hM_7.trans (hM_9.trans (hM_14.trans (hM_15.trans (hM_17.trans (hM_19.trans (hM_21.trans (hM_23.trans (hM_25.trans (hM_28.trans (hM_30.trans (hM_32.trans (hM_34.trans (hM_35.trans (hM_37.trans (hM_38.trans (hM_40.trans (hM_42.trans (hM_46.trans (hM_48.trans hM_78))))))))))))))))))))), (congrArg Value.bool (by (clear S E; first | (simp; done) | decide | (rw [beg_hasP]; simp; done) | (rw [cutP_back (by first | assumption | (simpa using (show (!hasP l0 l1) = false by assumption)))]; simp; done) | (rw [cutS_back (by first | assumption | (simpa using (show (!hasS l0 l1) = false by assumption)))]; simp; done) | (rw [cutP_no (by first | assumption | (simpa using (show (!hasP l0 l1) = true by assumption)))]; simp; done) | (rw [cutS_no (by first | assumption | (simpa using (show (!hasS l0 l1) = true by assumption)))]; simp; done) | (simp [cutPl, hasP]; done) | (exact absurd ((congrArg Bool.not (show hasP l0 l1 = true by assumption)).symm.trans (show (!hasP l0 l1) = true by assumption)) (by decide)) | (exact absurd ((congrArg Bool.not (show hasP l0 l1 = false by assumption)).symm.trans (show (!hasP l0 l1) = false by assumption)) (by decide)) | (exact absurd ((congrArg Bool.not (show hasS l0 l1 = true by assumption)).symm.trans (show (!hasS l0 l1) = true by assumption)) (by decide)) | (exact absurd ((congrArg Bool.not (show hasS l0 l1 = false by assumption)).symm.trans (show (!hasS l0 l1) = false by assumption)) (by decide))))), S⟩
          · replace E := E.val (t := 178) rfl hc_77
            replace E := E.val (t := 179) rfl hc_77
            refine WL_guard_no E rfl rfl rfl rfl fun a E => ?_
            refine WL_guard_no E rfl rfl rfl rfl fun a E => ?_
            refine WL_guard_no E rfl rfl rfl rfl fun a E => ?_
            refine S_v E rfl (R_pickF E rfl rfl) rfl ?_
            clear E a; intro a E
            refine S_v E rfl (R_move E rfl) rfl ?_
            clear E a; intro a E
            refine WL_guard_yes E rfl rfl ?_
            refine S_v E rfl (R_move E rfl) rfl ?_
            clear E a; intro a E
            refine WL_guard_yes E rfl rfl ?_
            refine S_v E rfl (R_move E rfl) rfl ?_
            clear E a; intro a E
            refine split_bool (hasP l0 l1) (fun hc_87 => ?_) (fun hc_87 => ?_)
            · replace E := E.val (t := 48) rfl hc_87
              replace E := E.val (t := 8) rfl hc_87
              replace E := E.val (t := 61) rfl hc_87
              replace E := E.val (t := 87) rfl hc_87
              replace E := E.val (t := 88) rfl hc_87
              replace E := E.val (t := 111) rfl hc_87
              replace E := E.val (t := 114) rfl hc_87
              replace E := E.val (t := 131) rfl hc_87
              replace E := E.val (t := 14) rfl hc_87
              replace E := E.val (t := 138) rfl hc_87
              replace E := E.val (t := 139) rfl hc_87
              replace E := E.val (t := 177) rfl hc_87
              replace E := E.val (t := 185) rfl hc_87
              replace E := E.val (t := 186) rfl hc_87
              refine WL_guard_yes E rfl rfl ?_
              refine S_v E rfl (R_move E rfl) rfl ?_
              clear E a; intro a E
              refine WL_guard_yes E rfl rfl ?_
              refine S_v E rfl (R_move E rfl) rfl ?_
              clear E a; intro a E
              refine WL_guard_yes E rfl rfl ?_
              refine S_x (X_pu E S rfl rfl rfl (laws_both h1 hv_18 (by first | omega | (simp; omega) | (simp_all; omega))) (Hp.le.refl _) ?_)
              clear E a S; rintro a v_89 w M_88 hM_88 hv_89 S E
              replace h0 := h0.le hM_88
              replace h1 := h1.le hM_88
              replace hz_6 := hz_6.le hM_88
              replace hz_8 := hz_8.le hM_88
              replace hv_10 := hv_10.le hM_88
              replace hv_13 := hv_13.le hM_88
              replace hv_18 := hv_18.le hM_88
              replace hv_20 := hv_20.le hM_88
              replace hv_22 := hv_22.le hM_88
              replace hv_41 := hv_41.le hM_88
              replace hv_43 := hv_43.le hM_88
              refine WL_guard_yes E rfl rfl ?_
              refine S_v E rfl (R_move E rfl) rfl ?_
              clear E a; intro a E
              refine WL_guard_yes E rfl rfl ?_
              refine S_x (X_pu E S rfl rfl rfl (laws_eq hv_89 h0) (Hp.le.refl _) ?_)
              clear E a S; rintro a _ w M_90 hM_90 rfl S E
              replace h0 := h0.le hM_90
              replace h1 := h1.le hM_90
              replace hz_6 := hz_6.le hM_90
              replace hz_8 := hz_8.le hM_90
              replace hv_10 := hv_10.le hM_90
              replace hv_13 := hv_13.le hM_90
              replace hv_18 := hv_18.le hM_90
              replace hv_20 := hv_20.le hM_90
              replace hv_22 := hv_22.le hM_90
              replace hv_41 := hv_41.le hM_90
              replace hv_43 := hv_43.le hM_90
              replace hv_89 := hv_89.le hM_90
              refine WL_guard_yes E rfl rfl ?_
              refine S_v E rfl (R_pickT E rfl rfl) rfl ?_
              clear E a; intro a E
              refine S_v E rfl (R_pickF E rfl rfl) rfl ?_
              clear E a; intro a E
              refine S_v E rfl (R_move E rfl) rfl ?_
              clear E a; intro a E
              have hc_91 : (decide (l1 ++ (cutPl l0 l1) = l0)) = true := by (clear S E; first | (simp; done) | decide | (rw [beg_hasP]; simp; done) | (rw [cutP_back (by first | assumption | (simpa using (show (!hasP l0 l1) = false by assumption)))]; simp; done) | (rw [cutS_back (by first | assumption | (simpa using (show (!hasS l0 l1) = false by assumption)))]; simp; done) | (rw [cutP_no (by first | assumption | (simpa using (show (!hasP l0 l1) = true by assumption)))]; simp; done) | (rw [cutS_no (by first | assumption | (simpa using (show (!hasS l0 l1) = true by assumption)))]; simp; done) | (simp [cutPl, hasP]; done) | (exact absurd ((congrArg Bool.not (show hasP l0 l1 = true by assumption)).symm.trans (show (!hasP l0 l1) = true by assumption)) (by decide)) | (exact absurd ((congrArg Bool.not (show hasP l0 l1 = false by assumption)).symm.trans (show (!hasP l0 l1) = false by assumption)) (by decide)) | (exact absurd ((congrArg Bool.not (show hasS l0 l1 = true by assumption)).symm.trans (show (!hasS l0 l1) = true by assumption)) (by decide)) | (exact absurd ((congrArg Bool.not (show hasS l0 l1 = false by assumption)).symm.trans (show (!hasS l0 l1) = false by assumption)) (by decide)))
              replace E := E.val (t := 191) rfl hc_91
              replace E := E.val (t := 192) rfl hc_91
              replace E := E.val (t := 193) rfl hc_91
              replace E := E.val (t := 194) rfl hc_91
              refine WL_guard_yes E rfl rfl ?_
              refine S_v E rfl (R_move E rfl) rfl ?_
              clear E a; intro a E
              refine WL_guard_yes E rfl rfl ?_
              refine S_v E rfl (R_not E rfl) rfl ?_
              clear E a; intro a E
              refine WL_guard_yes E rfl rfl ?_
              refine S_v E rfl (R_move E rfl) rfl ?_
              clear E a; intro a E
              refine split_bool (!(hasS l0 l1)) (fun hc_92 => ?_) (fun hc_92 => ?_)
              · replace E := E.val (t := 196) rfl hc_92
                replace E := E.val (t := 197) rfl hc_92
                refine WL_guard_yes E rfl rfl ?_
                refine S_v E rfl (R_move E rfl) rfl ?_
                clear E a; intro a E
                refine WL_guard_yes E rfl rfl ?_
                refine S_v E rfl (R_move E rfl) rfl ?_
                clear E a; intro a E
                refine WL_guard_yes E rfl rfl ?_
                refine S_x (X_pu E S rfl rfl rfl (laws_eq hv_20 h0) (Hp.le.refl _) ?_)
                clear E a S; rintro a _ w M_93 hM_93 rfl S E
                replace h0 := h0.le hM_93
                replace h1 := h1.le hM_93
                replace hz_6 := hz_6.le hM_93
                replace hz_8 := hz_8.le hM_93
                replace hv_10 := hv_10.le hM_93
                replace hv_13 := hv_13.le hM_93
                replace hv_18 := hv_18.le hM_93
                replace hv_20 := hv_20.le hM_93
                replace hv_22 := hv_22.le hM_93
                replace hv_41 := hv_41.le hM_93
                replace hv_43 := hv_43.le hM_93
                replace hv_89 := hv_89.le hM_93
                refine WL_guard_yes E rfl rfl ?_
                refine S_v E rfl (R_pickT E rfl rfl) rfl ?_
                clear E a; intro a E
                refine WL_guard_yes E rfl rfl ?_
                refine S_v E rfl (R_move E rfl) rfl ?_
                clear E a; intro a E
                have hc_94 : (decide (cutSl l0 l1 = l0)) = true := by (clear S E; first | (simp; done) | decide | (rw [beg_hasP]; simp; done) | (rw [cutP_back (by first | assumption | (simpa using (show (!hasP l0 l1) = false by assumption)))]; simp; done) | (rw [cutS_back (by first | assumption | (simpa using (show (!hasS l0 l1) = false by assumption)))]; simp; done) | (rw [cutP_no (by first | assumption | (simpa using (show (!hasP l0 l1) = true by assumption)))]; simp; done) | (rw [cutS_no (by first | assumption | (simpa using (show (!hasS l0 l1) = true by assumption)))]; simp; done) | (simp [cutPl, hasP]; done) | (exact absurd ((congrArg Bool.not (show hasP l0 l1 = true by assumption)).symm.trans (show (!hasP l0 l1) = true by assumption)) (by decide)) | (exact absurd ((congrArg Bool.not (show hasP l0 l1 = false by assumption)).symm.trans (show (!hasP l0 l1) = false by assumption)) (by decide)) | (exact absurd ((congrArg Bool.not (show hasS l0 l1 = true by assumption)).symm.trans (show (!hasS l0 l1) = true by assumption)) (by decide)) | (exact absurd ((congrArg Bool.not (show hasS l0 l1 = false by assumption)).symm.trans (show (!hasS l0 l1) = false by assumption)) (by decide)))
                replace E := E.val (t := 200) rfl hc_94
                replace E := E.val (t := 201) rfl hc_94
                replace E := E.val (t := 202) rfl hc_94
                refine WL_guard_no E rfl rfl rfl rfl fun a E => ?_
                refine WL_guard_no E rfl rfl rfl rfl fun a E => ?_
                refine WL_guard_un E rfl rfl rfl fun a E => ?_
                refine WL_guard_un E rfl rfl rfl fun a E => ?_
                refine WL_guard_un E rfl rfl rfl fun a E => ?_
                refine WL_guard_un E rfl rfl rfl fun a E => ?_
                refine WL_guard_un E rfl rfl rfl fun a E => ?_
                refine WL_guard_no E rfl rfl rfl rfl fun a E => ?_
                refine WL_guard_yes E rfl rfl ?_
                refine S_v E rfl (R_pickT E rfl rfl) rfl ?_
                clear E a; intro a E
                refine S_v E rfl (R_pickT E rfl rfl) rfl ?_
                clear E a; intro a E
                refine S_v E rfl (R_assign E rfl) rfl ?_
                clear E a; intro a E
                refine WL_nil ?_
                refine T_n ?_
                refine WP_ret ?_
                exact F_ret1 E Try.results8 rfl ⟨_, rfl, M_93, (hM_5.trans (hM_7.trans (hM_9.trans (hM_14.trans (hM_15.trans (hM_17.trans (hM_19.trans (hM_21.trans (hM_23.trans (hM_25.trans (hM_28.trans (hM_30.trans (hM_32.trans (hM_34.trans (hM_35.trans (hM_37.trans (hM_38.trans (hM_40.trans (hM_42.trans (hM_46.trans (hM_48.trans (hM_88.trans (hM_90.trans hM_93))))))))))))))))))))))), rfl, S⟩
              · replace E := E.val (t := 196) rfl hc_92
                replace E := E.val (t := 197) rfl hc_92
                refine WL_guard_no E rfl rfl rfl rfl fun a E => ?_
                refine WL_guard_no E rfl rfl rfl rfl fun a E => ?_
                refine WL_guard_no E rfl rfl rfl rfl fun a E => ?_
                refine WL_guard_yes E rfl rfl ?_
                refine S_v E rfl (R_pickF E rfl rfl) rfl ?_
                clear E a; intro a E
                refine WL_guard_yes E rfl rfl ?_
                refine S_v E rfl (R_move E rfl) rfl ?_
                clear E a; intro a E
                refine WL_guard_yes E rfl rfl ?_
                refine S_v E rfl (R_move E rfl) rfl ?_
                clear E a; intro a E
                refine WL_guard_yes E rfl rfl ?_
                refine S_v E rfl (R_move E rfl) rfl ?_
                clear E a; intro a E
                refine split_bool (hasS l0 l1) (fun hc_95 => ?_) (fun hc_95 => ?_)
                · replace E := E.val (t := 54) rfl hc_95
                  replace E := E.val (t := 10) rfl hc_95
                  replace E := E.val (t := 60) rfl hc_95
                  replace E := E.val (t := 12) rfl hc_95
                  replace E := E.val (t := 67) rfl hc_95
                  replace E := E.val (t := 70) rfl hc_95
                  replace E := E.val (t := 74) rfl hc_95
                  replace E := E.val (t := 75) rfl hc_95
                  replace E := E.val (t := 99) rfl hc_95
                  replace E := E.val (t := 100) rfl hc_95
                  replace E := E.val (t := 120) rfl hc_95
                  replace E := E.val (t := 123) rfl hc_95
                  replace E := E.val (t := 137) rfl hc_95
                  replace E := E.val (t := 16) rfl hc_95
                  replace E := E.val (t := 142) rfl hc_95
                  replace E := E.val (t := 143) rfl hc_95
                  replace E := E.val (t := 195) rfl hc_95
                  replace E := E.val (t := 203) rfl hc_95
                  replace E := E.val (t := 204) rfl hc_95
                  refine WL_guard_yes E rfl rfl ?_
                  refine S_v E rfl (R_move E rfl) rfl ?_
                  clear E a; intro a E
                  refine WL_guard_yes E rfl rfl ?_
                  refine S_v E rfl (R_move E rfl) rfl ?_
                  clear E a; intro a E
                  refine WL_guard_yes E rfl rfl ?_
                  refine S_x (X_pu E S rfl rfl rfl (laws_both hv_20 h1 (by first | omega | (simp; omega) | (simp_all; omega))) (Hp.le.refl _) ?_)
                  clear E a S; rintro a v_97 w M_96 hM_96 hv_97 S E
                  replace h0 := h0.le hM_96
                  replace h1 := h1.le hM_96
                  replace hz_6 := hz_6.le hM_96
                  replace hz_8 := hz_8.le hM_96
                  replace hv_10 := hv_10.le hM_96
                  replace hv_13 := hv_13.le hM_96
                  replace hv_18 := hv_18.le hM_96
                  replace hv_20 := hv_20.le hM_96
                  replace hv_22 := hv_22.le hM_96
                  replace hv_41 := hv_41.le hM_96
                  replace hv_43 := hv_43.le hM_96
                  replace hv_89 := hv_89.le hM_96
                  refine WL_guard_yes E rfl rfl ?_
                  refine S_v E rfl (R_move E rfl) rfl ?_
                  clear E a; intro a E
                  refine WL_guard_yes E rfl rfl ?_
                  refine S_x (X_pu E S rfl rfl rfl (laws_eq hv_97 h0) (Hp.le.refl _) ?_)
                  clear E a S; rintro a _ w M_98 hM_98 rfl S E
                  replace h0 := h0.le hM_98
                  replace h1 := h1.le hM_98
                  replace hz_6 := hz_6.le hM_98
                  replace hz_8 := hz_8.le hM_98
                  replace hv_10 := hv_10.le hM_98
                  replace hv_13 := hv_13.le hM_98
                  replace hv_18 := hv_18.le hM_98
                  replace hv_20 := hv_20.le hM_98
                  replace hv_22 := hv_22.le hM_98
                  replace hv_41 := hv_41.le hM_98
                  replace hv_43 := hv_43.le hM_98
                  replace hv_89 := hv_89.le hM_98
                  replace hv_97 := hv_97.le hM_98
                  refine WL_guard_yes E rfl rfl ?_
                  refine S_v E rfl (R_pickT E rfl rfl) rfl ?_
                  clear E a; intro a E
                  refine WL_guard_yes E rfl rfl ?_
                  refine S_v E rfl (R_pickF E rfl rfl) rfl ?_
                  clear E a; intro a E
                  refine S_v E rfl (R_pickT E rfl rfl) rfl ?_
                  clear E a; intro a E
                  refine S_v E rfl (R_assign E rfl) rfl ?_
                  clear E a; intro a E
                  refine WL_nil ?_
                  refine T_n ?_
                  refine WP_ret ?_
                  exact F_ret1 E Try.results8 rfl ⟨_, rfl, M_98, (hM_5.trans (hM_7.trans (hM_9.trans (hM_14.trans (hM_15.trans (hM_17.trans (hM_19.trans (hM_21.trans (hM_23.trans (hM_25.trans (hM_28.trans (hM_30.trans (hM_32.trans (hM_34.trans (hM_35.trans (hM_37.trans (hM_38.trans (hM_40.trans (hM_42.trans (hM_46.trans (hM_48.trans (hM_88.trans (hM_90.trans (hM_96.trans hM_98)))))))))))))))))))))))), (congrArg Value.bool (by (clear S E; first | (simp; done) | decide | (rw [beg_hasP]; simp; done) | (rw [cutP_back (by first | assumption | (simpa using (show (!hasP l0 l1) = false by assumption)))]; simp; done) | (rw [cutS_back (by first | assumption | (simpa using (show (!hasS l0 l1) = false by assumption)))]; simp; done) | (rw [cutP_no (by first | assumption | (simpa using (show (!hasP l0 l1) = true by assumption)))]; simp; done) | (rw [cutS_no (by first | assumption | (simpa using (show (!hasS l0 l1) = true by assumption)))]; simp; done) | (simp [cutPl, hasP]; done) | (exact absurd ((congrArg Bool.not (show hasP l0 l1 = true by assumption)).symm.trans (show (!hasP l0 l1) = true by assumption)) (by decide)) | (exact absurd ((congrArg Bool.not (show hasP l0 l1 = false by assumption)).symm.trans (show (!hasP l0 l1) = false by assumption)) (by decide)) | (exact absurd ((congrArg Bool.not (show hasS l0 l1 = true by assumption)).symm.trans (show (!hasS l0 l1) = true by assumption)) (by decide)) | (exact absurd ((congrArg Bool.not (show hasS l0 l1 = false by assumption)).symm.trans (show (!hasS l0 l1) = false by assumption)) (by decide))))), S⟩
                · replace E := E.val (t := 54) rfl hc_95
                  replace E := E.val (t := 10) rfl hc_95
                  replace E := E.val (t := 60) rfl hc_95
                  replace E := E.val (t := 12) rfl hc_95
                  replace E := E.val (t := 67) rfl hc_95
                  replace E := E.val (t := 70) rfl hc_95
                  replace E := E.val (t := 74) rfl hc_95
                  replace E := E.val (t := 75) rfl hc_95
                  replace E := E.val (t := 99) rfl hc_95
                  replace E := E.val (t := 100) rfl hc_95
                  replace E := E.val (t := 120) rfl hc_95
                  replace E := E.val (t := 123) rfl hc_95
                  replace E := E.val (t := 137) rfl hc_95
                  replace E := E.val (t := 16) rfl hc_95
                  replace E := E.val (t := 142) rfl hc_95
                  replace E := E.val (t := 143) rfl hc_95
                  replace E := E.val (t := 195) rfl hc_95
                  replace E := E.val (t := 203) rfl hc_95
                  replace E := E.val (t := 204) rfl hc_95
                  refine WL_guard_no E rfl rfl rfl rfl fun a E => ?_
                  refine WL_guard_no E rfl rfl rfl rfl fun a E => ?_
                  refine WL_guard_no E rfl rfl rfl rfl fun a E => ?_
                  refine WL_guard_no E rfl rfl rfl rfl fun a E => ?_
                  refine WL_guard_no E rfl rfl rfl rfl fun a E => ?_
                  refine WL_guard_yes E rfl rfl ?_
                  refine S_v E rfl (R_pickF E rfl rfl) rfl ?_
                  clear E a; intro a E
                  refine WL_guard_yes E rfl rfl ?_
                  refine S_v E rfl (R_pickF E rfl rfl) rfl ?_
                  clear E a; intro a E
                  refine S_v E rfl (R_pickT E rfl rfl) rfl ?_
                  clear E a; intro a E
                  refine S_v E rfl (R_assign E rfl) rfl ?_
                  clear E a; intro a E
                  refine WL_nil ?_
                  refine T_n ?_
                  refine WP_ret ?_
                  exact F_ret1 E Try.results8 rfl ⟨_, rfl, M_90, (hM_5.trans (hM_7.trans (hM_9.trans (hM_14.trans (hM_15.trans (hM_17.trans (hM_19.trans (hM_21.trans (hM_23.trans (hM_25.trans (hM_28.trans (hM_30.trans (hM_32.trans (hM_34.trans (hM_35.trans (hM_37.trans (hM_38.trans (hM_40.trans (hM_42.trans (hM_46.trans (hM_48.trans (hM_88.trans hM_90)))))))))))))))))))))), (congrArg Value.bool (by (clear S E; first | (simp; done) | decide | (rw [beg_hasP]; simp; done) | (rw [cutP_back (by first | assumption | (simpa using (show (!hasP l0 l1) = false by assumption)))]; simp; done) | (rw [cutS_back (by first | assumption | (simpa using (show (!hasS l0 l1) = false by assumption)))]; simp; done) | (rw [cutP_no (by first | assumption | (simpa using (show (!hasP l0 l1) = true by assumption)))]; simp; done) | (rw [cutS_no (by first | assumption | (simpa using (show (!hasS l0 l1) = true by assumption)))]; simp; done) | (simp [cutPl, hasP]; done) | (exact absurd ((congrArg Bool.not (show hasP l0 l1 = true by assumption)).symm.trans (show (!hasP l0 l1) = true by assumption)) (by decide)) | (exact absurd ((congrArg Bool.not (show hasP l0 l1 = false by assumption)).symm.trans (show (!hasP l0 l1) = false by assumption)) (by decide)) | (exact absurd ((congrArg Bool.not (show hasS l0 l1 = true by assumption)).symm.trans (show (!hasS l0 l1) = true by assumption)) (by decide)) | (exact absurd ((congrArg Bool.not (show hasS l0 l1 = false by assumption)).symm.trans (show (!hasS l0 l1) = false by assumption)) (by decide))))), S⟩
            · replace E := E.val (t := 48) rfl hc_87
              replace E := E.val (t := 8) rfl hc_87
              replace E := E.val (t := 61) rfl hc_87
              replace E := E.val (t := 87) rfl hc_87
              replace E := E.val (t := 88) rfl hc_87
              replace E := E.val (t := 111) rfl hc_87
              replace E := E.val (t := 114) rfl hc_87
              replace E := E.val (t := 131) rfl hc_87
              replace E := E.val (t := 14) rfl hc_87
              replace E := E.val (t := 138) rfl hc_87
              replace E := E.val (t := 139) rfl hc_87
              replace E := E.val (t := 177) rfl hc_87
              replace E := E.val (t := 185) rfl hc_87
              replace E := E.val (t := 186) rfl hc_87
              refine WL_guard_no E rfl rfl rfl rfl fun a E => ?_
              refine WL_guard_no E rfl rfl rfl rfl fun a E => ?_
              refine WL_guard_no E rfl rfl rfl rfl fun a E => ?_
              refine WL_guard_no E rfl rfl rfl rfl fun a E => ?_
              refine WL_guard_no E rfl rfl rfl rfl fun a E => ?_
              refine WL_guard_yes E rfl rfl ?_
              refine S_v E rfl (R_pickF E rfl rfl) rfl ?_
              clear E a; intro a E
              refine S_v E rfl (R_pickF E rfl rfl) rfl ?_
              clear E a; intro a E
              refine S_v E rfl (R_move E rfl) rfl ?_
              clear E a; intro a E
              refine WL_guard_no E rfl rfl rfl rfl fun a E => ?_
              refine WL_guard_no E rfl rfl rfl rfl fun a E => ?_
              refine WL_guard_no E rfl rfl rfl rfl fun a E => ?_
              refine WL_guard_un E rfl rfl rfl fun a E => ?_
              refine WL_guard_un E rfl rfl rfl fun a E => ?_
              refine WL_guard_un E rfl rfl rfl fun a E => ?_
              refine WL_guard_no E rfl rfl rfl rfl fun a E => ?_
              refine WL_guard_no E rfl rfl rfl rfl fun a E => ?_
              refine WL_guard_un E rfl rfl rfl fun a E => ?_
              refine WL_guard_un E rfl rfl rfl fun a E => ?_
              refine WL_guard_un E rfl rfl rfl fun a E => ?_
              refine WL_guard_un E rfl rfl rfl fun a E => ?_
              refine WL_guard_un E rfl rfl rfl fun a E => ?_
              refine WL_guard_un E rfl rfl rfl fun a E => ?_
              refine WL_guard_un E rfl rfl rfl fun a E => ?_
              refine WL_guard_un E rfl rfl rfl fun a E => ?_
              refine WL_guard_no E rfl rfl rfl rfl fun a E => ?_
              refine S_v E rfl (R_pickF E rfl rfl) rfl ?_
              clear E a; intro a E
              refine S_v E rfl (R_assign E rfl) rfl ?_
              clear E a; intro a E
              refine WL_nil ?_
              refine T_n ?_
              refine WP_ret ?_
              exact F_ret1 E Try.results8 rfl ⟨_, rfl, M_48, (hM_5.trans (hM_7.trans (hM_9.trans (hM_14.trans (hM_15.trans (hM_17.trans (hM_19.trans (hM_21.trans (hM_23.trans (hM_25.trans (hM_28.trans (hM_30.trans (hM_32.trans (hM_34.trans (hM_35.trans (hM_37.trans (hM_38.trans (hM_40.trans (hM_42.trans (hM_46.trans hM_48)))))))))))))))))))), (congrArg Value.bool (by (clear S E; first | (simp; done) | decide | (rw [beg_hasP]; simp; done) | (rw [cutP_back (by first | assumption | (simpa using (show (!hasP l0 l1) = false by assumption)))]; simp; done) | (rw [cutS_back (by first | assumption | (simpa using (show (!hasS l0 l1) = false by assumption)))]; simp; done) | (rw [cutP_no (by first | assumption | (simpa using (show (!hasP l0 l1) = true by assumption)))]; simp; done) | (rw [cutS_no (by first | assumption | (simpa using (show (!hasS l0 l1) = true by assumption)))]; simp; done) | (simp [cutPl, hasP]; done) | (exact absurd ((congrArg Bool.not (show hasP l0 l1 = true by assumption)).symm.trans (show (!hasP l0 l1) = true by assumption)) (by decide)) | (exact absurd ((congrArg Bool.not (show hasP l0 l1 = false by assumption)).symm.trans (show (!hasP l0 l1) = false by assumption)) (by decide)) | (exact absurd ((congrArg Bool.not (show hasS l0 l1 = true by assumption)).symm.trans (show (!hasS l0 l1) = true by assumption)) (by decide)) | (exact absurd ((congrArg Bool.not (show hasS l0 l1 = false by assumption)).symm.trans (show (!hasS l0 l1) = false by assumption)) (by decide))))), S⟩

end Go.Proofs.Ytllmbopajlfneaa.wFnCutEnds
