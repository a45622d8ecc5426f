/- Walks through the functions that laws.FnSetGrows reaches: what each computes; no conditions beyond what each theorem states. -/
import Derived.Test.YtlmpgefhnmfhpaaGreatWFnSetGrowsd
set_option linter.unusedVariables false
set_option linter.unusedSimpArgs false
namespace Go.Proofs.YtlmpgefhnmfhpaaGreat.wFnSetGrows
open Go Go.Sl
set_option maxRecDepth 100000 in
set_option maxHeartbeats 4000000 in
theorem laws_FnSetGrows {M : Hp} {x0 : Bool} {v1 v2 : Value} {l1 l2 : List Int} (h1 : RdI M v1 l1) (h2 : RdI M v2 l2) :
    PuC Tryz.prog 8 M [.bool x0, v1, v2] (fun r M' => r = .bool true) := by
  refine PuC_enter Tryz.func8 rfl Tryz.ntmps8 rfl ?_
  intro a w M1 H hM1 S E
  replace h1 := h1.le hM1
  replace h2 := h2.le hM1
  have b1 := h1.bound
  have b2 := h2.bound
  refine WP_seq ?_
  refine WP_region ?_
  refine S_v E rfl (R_assign E rfl) rfl ?_
  clear E a; intro a E
  refine WL_nil ?_
  refine T_n ?_
  refine WP_seq ?_
  refine WP_seq ?_
  refine WP_region ?_
  refine S_v E rfl (R_move E rfl) rfl ?_
  clear E a; intro a E
  refine S_v E rfl (R_lenV E rfl T22 h1.len) rfl ?_
  clear E a; intro a E
  refine S_v E rfl (R_gtr E rfl rfl) rfl ?_
  clear E a; intro a E
  refine S_v E rfl (R_move E rfl) rfl ?_
  clear E a; intro a E
  refine split_bool (decide (2147483647 < (((l1).length : Nat) : Int))) (fun hc_1 => ?_) (fun hc_1 => ?_)
  · replace E := E.val (t := 15) rfl hc_1
    replace E := E.val (t := 16) rfl hc_1
    replace hc_1 := of_decide_eq_true hc_1
    refine WL_guard_no E rfl rfl rfl rfl fun a E => ?_
    refine WL_guard_no E rfl rfl rfl rfl fun a E => ?_
    refine WL_guard_no E rfl rfl rfl rfl fun a E => ?_
    refine S_v E rfl (R_pickT E rfl rfl) rfl ?_
    clear E a; intro a E
    refine WL_nil ?_
    refine T_n ?_
    refine WP_condT E rfl rfl ?_
    refine WP_seq ?_
    refine WP_region ?_
    refine S_v E rfl (R_assign E rfl) rfl ?_
    clear E a; intro a E
    refine WL_nil ?_
    refine T_n ?_
    refine WP_ret ?_
    refine T_r ?_
    exact F_ret1 E Tryz.results8 rfl ⟨_, rfl, M1, (Hp.le.refl _), rfl, S⟩
  · replace E := E.val (t := 15) rfl hc_1
    replace E := E.val (t := 16) rfl hc_1
    replace hc_1 := of_decide_eq_false hc_1
    refine WL_guard_yes E rfl rfl ?_
    refine S_v E rfl (R_move E rfl) rfl ?_
    clear E a; intro a E
    refine WL_guard_yes E rfl rfl ?_
    refine S_v E rfl (R_lenV E rfl T22 h2.len) rfl ?_
    clear E a; intro a E
    refine WL_guard_yes E rfl rfl ?_
    refine S_v E rfl (R_gtr E rfl rfl) rfl ?_
    clear E a; intro a E
    refine S_v E rfl (R_pickF E rfl rfl) rfl ?_
    clear E a; intro a E
    refine WL_nil ?_
    refine T_n ?_
    refine WP_cond E rfl (fun hc_2 => ?_) (fun hc_2 => ?_)
    · replace hc_2 := of_decide_eq_true hc_2
      refine WP_seq ?_
      refine WP_region ?_
      refine S_v E rfl (R_assign E rfl) rfl ?_
      clear E a; intro a E
      refine WL_nil ?_
      refine T_n ?_
      refine WP_ret ?_
      refine T_r ?_
      exact F_ret1 E Tryz.results8 rfl ⟨_, rfl, M1, (Hp.le.refl _), rfl, S⟩
    · replace hc_2 := of_decide_eq_false hc_2
      refine WP_skip ?_
      refine T_n ?_
      refine WP_seq ?_
      refine WP_seq ?_
      refine WP_region ?_
      refine S_v E rfl (R_move E rfl) rfl ?_
      clear E a; intro a E
      refine S_v E rfl (R_build (u := .agg #[.int .i64 1, .int .i64 0, .int .i64 0, .int .i64 0, .int .i64 5, .slice none 0 0]) (vs := [.int .i64 1, .int .i64 5]) E rfl (fun w => FB40_0_4_ii 1 5 w)) rfl ?_
      clear E a; intro a E
      refine S_x (X_buildA1 (R := RSS) (cs := [.int .i64 1, .int .i64 0, .int .i64 0, .int .i64 0, .int .i64 5, (.slice none 0 0)]) (x0 := (1, 0, 0, 0, 5, ([] : List Int))) RSS_mono E S rfl T33 rfl rfl rfl ⟨_, rfl, (RdS.nil _)⟩ ?_)
      clear E a S; rintro a v_3 w M_4 hM_4 hv_3 S E
      replace h1 := h1.le hM_4
      replace h2 := h2.le hM_4
      refine S_x (X_sp (p := []) E S rfl rfl rfl (impl_SetScript hv_3 (by first | assumption | (simp; done) | omega) (by first | assumption | (intro s hs; simp only [List.mem_cons, List.not_mem_nil, or_false] at hs; subst hs; simp; done) | (intro s hs; simp only [List.mem_cons, List.not_mem_nil, or_false] at hs; rcases hs with rfl | rfl | rfl | rfl | rfl | rfl | rfl | rfl | rfl <;> simp <;> omega) | (intro s hs; have h9 := (by assumption : ∀ s ∈ _, List.length (Prod.snd (Prod.snd (Prod.snd (Prod.snd (Prod.snd s))))) ≤ 100) s hs; omega) | exact apart_len (by omega) (by omega))) (Hp.le.refl _) ?_)
      clear E a S; rintro a _ w M_5 _ hM_5 ⟨u_6, w_7, an_8, ls_9, rfl, rfl, hx_10, hx_11, hp1⟩ S E
      replace S : St w M_5 (H) := S
      replace h1 := h1.le hM_5
      replace h2 := h2.le hM_5
      replace hv_3 := hv_3.le RSS_mono hM_5
      refine S_v E rfl (R_move E rfl) rfl ?_
      clear E a; intro a E
      refine S_v E rfl (R_extract E rfl rfl) rfl ?_
      clear E a; intro a E
      refine S_v E rfl (R_extract E rfl rfl) rfl ?_
      clear E a; intro a E
      refine S_v E rfl (R_assign E rfl) rfl ?_
      clear E a; intro a E
      refine S_v E rfl (R_assign E rfl) rfl ?_
      clear E a; intro a E
      refine WL_nil ?_
      refine T_n ?_
      refine WP_seq ?_
      refine WP_region ?_
      refine S_v E rfl (R_move E rfl) rfl ?_
      clear E a; intro a E
      refine S_v E rfl (R_lenV E rfl T36 hx_11.len) rfl ?_
      clear E a; intro a E
      have hp1l := play_one hp1
      refine S_v E rfl (R_neq E rfl rfl) rfl ?_
      clear E a; intro a E
      refine S_v E rfl (R_move E rfl) rfl ?_
      clear E a; intro a E
      have hc_12 : (decide ((((ls_9).length : Nat) : Int) ≠ 8)) = false := by (clear S E; first | exact one_ln hp1l.2 (by assumption) | (simp [hp1l.2]; done) | (simp [hG, scrG]; done) | ((try (have e0 := Option.some.inj (at_of (i := 0) hG (by assumption)); subst e0)); (try (have e1 := Option.some.inj (at_of (i := 1) hG (by assumption)); subst e1)); (try (have e2 := Option.some.inj (at_of (i := 2) hG (by assumption)); subst e2)); (try (have e3 := Option.some.inj (at_of (i := 3) hG (by assumption)); subst e3)); (try (have e4 := Option.some.inj (at_of (i := 4) hG (by assumption)); subst e4)); (try (have e5 := Option.some.inj (at_of (i := 5) hG (by assumption)); subst e5)); (try (have e6 := Option.some.inj (at_of (i := 6) hG (by assumption)); subst e6)); (try (have e7 := Option.some.inj (at_of (i := 7) hG (by assumption)); subst e7)); (try (have e8 := Option.some.inj (at_of (i := 8) hG (by assumption)); subst e8)); first | rfl | (simp; done)))
      replace E := E.val (t := 30) rfl hc_12
      replace E := E.val (t := 31) rfl hc_12
      refine WL_guard_yes E rfl rfl ?_
      refine S_v E rfl (R_move E rfl) rfl ?_
      clear E a; intro a E
      obtain ⟨x_13, hx_13⟩ : ∃ x, (ls_9)[0]? = some x := ⟨_, List.getElem?_eq_getElem (by (first | omega | (rw [hp1l.2]; decide) | (rw [hG]; simp; done)))⟩
      obtain ⟨p_14, u_15, hp_14, qp_14, hu_15⟩ := hx_11.at hx_13
      have bu_15 := hu_15.bound
      refine WL_guard_yes E rfl rfl ?_
      refine S_v E rfl (R_idx E rfl rfl T36 hp_14 (by omega)) rfl ?_
      clear E a; intro a E
      refine WL_guard_yes E rfl rfl ?_
      refine S_v E rfl (R_loadM E rfl Tryz.isAgg22 S.imm qp_14) rfl ?_
      clear E a; intro a E
      refine WL_guard_yes E rfl rfl ?_
      refine S_v E rfl (R_lenV E rfl T22 hu_15.len) rfl ?_
      clear E a; intro a E
      have hp1l := play_one hp1
      refine WL_guard_yes E rfl rfl ?_
      refine S_v E rfl (R_neq E rfl rfl) rfl ?_
      clear E a; intro a E
      refine S_v E rfl (R_pickF E rfl rfl) rfl ?_
      clear E a; intro a E
      refine WL_nil ?_
      refine T_n ?_
      have hc_16 : (decide ((((x_13).length : Nat) : Int) ≠ 1)) = false := by (clear S E; first | exact one_ln hp1l.2 (by assumption) | (simp [hp1l.2]; done) | (simp [hG, scrG]; done) | ((try (have e0 := Option.some.inj (at_of (i := 0) hG (by assumption)); subst e0)); (try (have e1 := Option.some.inj (at_of (i := 1) hG (by assumption)); subst e1)); (try (have e2 := Option.some.inj (at_of (i := 2) hG (by assumption)); subst e2)); (try (have e3 := Option.some.inj (at_of (i := 3) hG (by assumption)); subst e3)); (try (have e4 := Option.some.inj (at_of (i := 4) hG (by assumption)); subst e4)); (try (have e5 := Option.some.inj (at_of (i := 5) hG (by assumption)); subst e5)); (try (have e6 := Option.some.inj (at_of (i := 6) hG (by assumption)); subst e6)); (try (have e7 := Option.some.inj (at_of (i := 7) hG (by assumption)); subst e7)); (try (have e8 := Option.some.inj (at_of (i := 8) hG (by assumption)); subst e8)); first | rfl | (simp; done)))
      refine WP_condF E rfl hc_16 ?_
      refine WP_skip ?_
      refine T_n ?_
      refine WP_seq ?_
      refine WP_seq ?_
      refine WP_region ?_
      refine S_v E rfl (R_move E rfl) rfl ?_
      clear E a; intro a E
      refine S_v E rfl (R_move E rfl) rfl ?_
      clear E a; intro a E
      refine S_x (X_buildM (R := RSl 1 RInt) (vs := [v1, v2]) (xs := [l1, l2]) (RSl_mono RInt_mono) E S rfl T36 rfl rfl rfl (by intro u hu; simp only [List.mem_cons, List.not_mem_nil, or_false] at hu; rcases hu with rfl | rfl <;> first | exact RdI.one h1 | exact RdI.one h2 | rfl) rfl (rowsC (R := RSl 1 RInt) (RdI.row h1) (rowsC (R := RSl 1 RInt) (RdI.row h2) rowsN)) ?_)
      clear E a S; rintro a v_17 w M_18 hM_18 hv_17 S E
      replace hv_17 : RdII M_18 v_17 [l1, l2] := hv_17
      replace h1 := h1.le hM_18
      replace h2 := h2.le hM_18
      replace hv_3 := hv_3.le RSS_mono hM_18
      replace hx_10 := hx_10.le RAN_mono hM_18
      replace hx_11 := hx_11.le hM_18
      replace hu_15 := hu_15.le hM_18
      refine S_x (X_pu E S rfl rfl rfl (laws_few hv_17) (Hp.le.refl _) ?_)
      clear E a S; rintro a _ w M_19 hM_19 rfl S E
      replace h1 := h1.le hM_19
      replace h2 := h2.le hM_19
      replace hv_3 := hv_3.le RSS_mono hM_19
      replace hx_10 := hx_10.le RAN_mono hM_19
      replace hx_11 := hx_11.le hM_19
      replace hu_15 := hu_15.le hM_19
      replace hv_17 := hv_17.le hM_19
      refine S_v E rfl (R_not E rfl) rfl ?_
      clear E a; intro a E
      refine S_v E rfl (R_move E rfl) rfl ?_
      clear E a; intro a E
      refine split_bool (!(decide (∀ x ∈ [l1, l2], x.length ≤ 300))) (fun hc_20 => ?_) (fun hc_20 => ?_)
      · replace E := E.val (t := 42) rfl hc_20
        replace E := E.val (t := 43) rfl hc_20
        refine WL_guard_no E rfl rfl rfl rfl fun a E => ?_
        refine WL_guard_no E rfl rfl rfl rfl fun a E => ?_
        refine WL_guard_no E rfl rfl rfl rfl fun a E => ?_
        refine S_v E rfl (R_pickT E rfl rfl) rfl ?_
        clear E a; intro a E
        refine S_v E rfl (R_move E rfl) rfl ?_
        clear E a; intro a E
        refine WL_guard_no E rfl rfl rfl rfl fun a E => ?_
        refine WL_guard_no E rfl rfl rfl rfl fun a E => ?_
        refine WL_guard_no E rfl rfl rfl rfl fun a E => ?_
        refine S_v E rfl (R_pickT E rfl rfl) rfl ?_
        clear E a; intro a E
        refine WL_nil ?_
        refine T_n ?_
        refine WP_condT E rfl rfl ?_
        refine WP_seq ?_
        refine WP_region ?_
        refine S_v E rfl (R_assign E rfl) rfl ?_
        clear E a; intro a E
        refine WL_nil ?_
        refine T_n ?_
        refine WP_ret ?_
        refine T_r ?_
        exact F_ret1 E Tryz.results8 rfl ⟨_, rfl, M_19, (hM_4.trans (hM_5.trans (hM_18.trans hM_19))), rfl, S⟩
      · replace E := E.val (t := 42) rfl hc_20
        replace E := E.val (t := 43) rfl hc_20
        refine WL_guard_yes E rfl rfl ?_
        refine S_v E rfl (R_move E rfl) rfl ?_
        clear E a; intro a E
        refine WL_guard_yes E rfl rfl ?_
        refine S_v E rfl (R_lenV E rfl T22 h1.len) rfl ?_
        clear E a; intro a E
        refine WL_guard_yes E rfl rfl ?_
        refine S_v E rfl (R_gtr E rfl rfl) rfl ?_
        clear E a; intro a E
        refine S_v E rfl (R_pickF E rfl rfl) rfl ?_
        clear E a; intro a E
        refine S_v E rfl (R_move E rfl) rfl ?_
        clear E a; intro a E
        refine split_bool (decide (60 < (((l1).length : Nat) : Int))) (fun hc_21 => ?_) (fun hc_21 => ?_)
        · replace E := E.val (t := 46) rfl hc_21
          replace E := E.val (t := 47) rfl hc_21
          replace E := E.val (t := 48) rfl hc_21
          replace hc_21 := of_decide_eq_true hc_21
          refine WL_guard_no E rfl rfl rfl rfl fun a E => ?_
          refine WL_guard_no E rfl rfl rfl rfl fun a E => ?_
          refine WL_guard_no E rfl rfl rfl rfl fun a E => ?_
          refine S_v E rfl (R_pickT E rfl rfl) rfl ?_
          clear E a; intro a E
          refine WL_nil ?_
          refine T_n ?_
          refine WP_condT E rfl rfl ?_
          refine WP_seq ?_
          refine WP_region ?_
          refine S_v E rfl (R_assign E rfl) rfl ?_
          clear E a; intro a E
          refine WL_nil ?_
          refine T_n ?_
          refine WP_ret ?_
          refine T_r ?_
          exact F_ret1 E Tryz.results8 rfl ⟨_, rfl, M_19, (hM_4.trans (hM_5.trans (hM_18.trans hM_19))), rfl, S⟩
        · replace E := E.val (t := 46) rfl hc_21
          replace E := E.val (t := 47) rfl hc_21
          replace E := E.val (t := 48) rfl hc_21
          replace hc_21 := of_decide_eq_false hc_21
          refine WL_guard_yes E rfl rfl ?_
          refine S_v E rfl (R_move E rfl) rfl ?_
          clear E a; intro a E
          refine WL_guard_yes E rfl rfl ?_
          refine S_v E rfl (R_lenV E rfl T22 h2.len) rfl ?_
          clear E a; intro a E
          refine WL_guard_yes E rfl rfl ?_
          refine S_v E rfl (R_gtr E rfl rfl) rfl ?_
          clear E a; intro a E
          refine S_v E rfl (R_pickF E rfl rfl) rfl ?_
          clear E a; intro a E
          refine WL_nil ?_
          refine T_n ?_
          refine WP_cond E rfl (fun hc_22 => ?_) (fun hc_22 => ?_)
          · replace hc_22 := of_decide_eq_true hc_22
            refine WP_seq ?_
            refine WP_region ?_
            refine S_v E rfl (R_assign E rfl) rfl ?_
            clear E a; intro a E
            refine WL_nil ?_
            refine T_n ?_
            refine WP_ret ?_
            refine T_r ?_
            exact F_ret1 E Tryz.results8 rfl ⟨_, rfl, M_19, (hM_4.trans (hM_5.trans (hM_18.trans hM_19))), rfl, S⟩
          · replace hc_22 := of_decide_eq_false hc_22
            refine WP_skip ?_
            refine T_n ?_
            refine WP_seq ?_
            refine WP_region ?_
            refine S_v E rfl (R_move E rfl) rfl ?_
            clear E a; intro a E
            refine S_v E rfl (R_build (u := .agg #[.int .i64 2, .int .i64 0, .int .i64 0, .int .i64 0, .int .i64 0, v1]) (vs := [.int .i64 2, v1]) E rfl (fun w => by obtain ⟨A0, c0, e0, _⟩ := RdS.len h1; rw [e0]; exact FB40_0_5_is 2 _ _ _ w)) rfl ?_
            clear E a; intro a E
            refine S_v E rfl (R_build (u := .agg #[.int .i64 20, .int .i64 0, .int .i64 0, .int .i64 0, .int .i64 0, .slice none 0 0]) (vs := [.int .i64 20]) E rfl (fun w => FB40_0_i 20 w)) rfl ?_
            clear E a; intro a E
            refine S_v E rfl (R_move E rfl) rfl ?_
            clear E a; intro a E
            refine S_v E rfl (R_build (u := .agg #[.int .i64 2, .int .i64 0, .int .i64 0, .int .i64 0, .int .i64 0, v2]) (vs := [.int .i64 2, v2]) E rfl (fun w => by obtain ⟨A0, c0, e0, _⟩ := RdS.len h2; rw [e0]; exact FB40_0_5_is 2 _ _ _ w)) rfl ?_
            clear E a; intro a E
            refine S_v E rfl (R_build (u := .agg #[.int .i64 20, .int .i64 0, .int .i64 0, .int .i64 0, .int .i64 0, .slice none 0 0]) (vs := [.int .i64 20]) E rfl (fun w => FB40_0_i 20 w)) rfl ?_
            clear E a; intro a E
            refine S_v E rfl (R_move E rfl) rfl ?_
            clear E a; intro a E
            refine S_v E rfl (R_move E rfl) rfl ?_
            clear E a; intro a E
            refine S_x (X_pu E S rfl rfl rfl (laws_both h1 h2 (by first | omega | (simp; omega) | (simp_all; omega))) (Hp.le.refl _) ?_)
            clear E a S; rintro a v_24 w M_23 hM_23 hv_24 S E
            replace h1 := h1.le hM_23
            replace h2 := h2.le hM_23
            replace hv_3 := hv_3.le RSS_mono hM_23
            replace hx_10 := hx_10.le RAN_mono hM_23
            replace hx_11 := hx_11.le hM_23
            replace hu_15 := hu_15.le hM_23
            replace hv_17 := hv_17.le hM_23
            refine S_v E rfl (R_build (u := .agg #[.int .i64 17, .int .i64 0, .int .i64 0, .int .i64 0, .int .i64 0, v_24]) (vs := [.int .i64 17, v_24]) E rfl (fun w => by obtain ⟨A0, c0, e0, _⟩ := RdS.len hv_24; rw [e0]; exact FB40_0_5_is 17 _ _ _ w)) rfl ?_
            clear E a; intro a E
            refine S_v E rfl (R_move E rfl) rfl ?_
            clear E a; intro a E
            refine S_v E rfl (R_build (u := .agg #[.int .i64 4, .int .i64 0, .int .i64 0, .int .i64 0, .int .i64 0, v2]) (vs := [.int .i64 4, v2]) E rfl (fun w => by obtain ⟨A0, c0, e0, _⟩ := RdS.len h2; rw [e0]; exact FB40_0_5_is 4 _ _ _ w)) rfl ?_
            clear E a; intro a E
            refine S_v E rfl (R_build (u := .agg #[.int .i64 22, .int .i64 0, .int .i64 0, .int .i64 0, .int .i64 0, .slice none 0 0]) (vs := [.int .i64 22]) E rfl (fun w => FB40_0_i 22 w)) rfl ?_
            clear E a; intro a E
            refine S_v E rfl (R_move E rfl) rfl ?_
            clear E a; intro a E
            refine S_v E rfl (R_build (u := .agg #[.int .i64 18, .int .i64 0, .int .i64 0, .int .i64 0, .int .i64 0, v2]) (vs := [.int .i64 18, v2]) E rfl (fun w => by obtain ⟨A0, c0, e0, _⟩ := RdS.len h2; rw [e0]; exact FB40_0_5_is 18 _ _ _ w)) rfl ?_
            clear E a; intro a E
            refine S_v E rfl (R_build (u := .agg #[.int .i64 21, .int .i64 0, .int .i64 0, .int .i64 0, .int .i64 0, .slice none 0 0]) (vs := [.int .i64 21]) E rfl (fun w => FB40_0_i 21 w)) rfl ?_
            clear E a; intro a E
            refine S_x (X_buildAF (R := RSS) (vss := [[.int .i64 2, .int .i64 0, .int .i64 0, .int .i64 0, .int .i64 0, v1], [.int .i64 20, .int .i64 0, .int .i64 0, .int .i64 0, .int .i64 0, (.slice none 0 0)], [.int .i64 2, .int .i64 0, .int .i64 0, .int .i64 0, .int .i64 0, v2], [.int .i64 20, .int .i64 0, .int .i64 0, .int .i64 0, .int .i64 0, (.slice none 0 0)], [.int .i64 17, .int .i64 0, .int .i64 0, .int .i64 0, .int .i64 0, v_24], [.int .i64 4, .int .i64 0, .int .i64 0, .int .i64 0, .int .i64 0, v2], [.int .i64 22, .int .i64 0, .int .i64 0, .int .i64 0, .int .i64 0, (.slice none 0 0)], [.int .i64 18, .int .i64 0, .int .i64 0, .int .i64 0, .int .i64 0, v2], [.int .i64 21, .int .i64 0, .int .i64 0, .int .i64 0, .int .i64 0, (.slice none 0 0)]]) (xs := [(2, 0, 0, 0, 0, l1), (20, 0, 0, 0, 0, ([] : List Int)), (2, 0, 0, 0, 0, l2), (20, 0, 0, 0, 0, ([] : List Int)), (17, 0, 0, 0, 0, l1 ++ l2), (4, 0, 0, 0, 0, l2), (22, 0, 0, 0, 0, ([] : List Int)), (18, 0, 0, 0, 0, l2), (21, 0, 0, 0, 0, ([] : List Int))]) RSS_mono E S rfl T33 rfl rfl rfl rfl rfl rfl rfl (by intro c hc; simp only [List.mem_cons, List.not_mem_nil, or_false] at hc; rcases hc with rfl | rfl | rfl | rfl | rfl | rfl | rfl | rfl | rfl <;> rfl) (rP_cons ⟨_, rfl, h1⟩ (rP_cons ⟨_, rfl, (RdS.nil _)⟩ (rP_cons ⟨_, rfl, h2⟩ (rP_cons ⟨_, rfl, (RdS.nil _)⟩ (rP_cons ⟨_, rfl, hv_24⟩ (rP_cons ⟨_, rfl, h2⟩ (rP_cons ⟨_, rfl, (RdS.nil _)⟩ (rP_cons ⟨_, rfl, h2⟩ (rP_cons ⟨_, rfl, (RdS.nil _)⟩ rP_nil))))))))) ?_)
            clear E a S; rintro a v_25 w M_26 hM_26 hv_25 S E
            replace h1 := h1.le hM_26
            replace h2 := h2.le hM_26
            replace hv_3 := hv_3.le RSS_mono hM_26
            replace hx_10 := hx_10.le RAN_mono hM_26
            replace hx_11 := hx_11.le hM_26
            replace hu_15 := hu_15.le hM_26
            replace hv_17 := hv_17.le hM_26
            replace hv_24 := hv_24.le hM_26
            refine S_v E rfl (R_assign E rfl) rfl ?_
            clear E a; intro a E
            refine WL_nil ?_
            refine T_n ?_
            refine WP_seq ?_
            refine WP_region ?_
            refine S_v E rfl (R_move E rfl) rfl ?_
            clear E a; intro a E
            refine S_v E rfl (R_move E rfl) rfl ?_
            clear E a; intro a E
            refine S_x (X_sp (p := []) E S rfl rfl rfl (impl_SetScript hv_25 (by first | assumption | (simp; done) | omega) (by first | assumption | (intro s hs; simp only [List.mem_cons, List.not_mem_nil, or_false] at hs; subst hs; simp; done) | (intro s hs; simp only [List.mem_cons, List.not_mem_nil, or_false] at hs; rcases hs with rfl | rfl | rfl | rfl | rfl | rfl | rfl | rfl | rfl <;> simp <;> omega) | (intro s hs; have h9 := (by assumption : ∀ s ∈ _, List.length (Prod.snd (Prod.snd (Prod.snd (Prod.snd (Prod.snd s))))) ≤ 100) s hs; omega) | exact apart_len (by omega) (by omega))) (Hp.le.refl _) ?_)
            clear E a S; rintro a _ w M_27 _ hM_27 ⟨u_28, w_29, an_30, ls_31, rfl, rfl, hx_32, hx_33, hpG⟩ S E
            replace S : St w M_27 (H) := S
            replace h1 := h1.le hM_27
            replace h2 := h2.le hM_27
            replace hv_3 := hv_3.le RSS_mono hM_27
            replace hx_10 := hx_10.le RAN_mono hM_27
            replace hx_11 := hx_11.le hM_27
            replace hu_15 := hu_15.le hM_27
            replace hv_17 := hv_17.le hM_27
            replace hv_24 := hv_24.le hM_27
            replace hv_25 := hv_25.le RSS_mono hM_27
            refine S_v E rfl (R_move E rfl) rfl ?_
            clear E a; intro a E
            refine S_v E rfl (R_extract E rfl rfl) rfl ?_
            clear E a; intro a E
            refine S_v E rfl (R_extract E rfl rfl) rfl ?_
            clear E a; intro a E
            refine S_v E rfl (R_assign E rfl) rfl ?_
            clear E a; intro a E
            refine S_v E rfl (R_assign E rfl) rfl ?_
            clear E a; intro a E
            refine WL_nil ?_
            refine T_n ?_
            refine WP_seq ?_
            refine WP_seq ?_
            refine WP_region ?_
            refine S_v E rfl (R_move E rfl) rfl ?_
            clear E a; intro a E
            refine S_v E rfl (R_lenV E rfl T35 hx_32.len) rfl ?_
            clear E a; intro a E
            refine S_v E rfl (R_move E rfl) rfl ?_
            clear E a; intro a E
            refine S_v E rfl (R_lenV E rfl T33 hv_25.len) rfl ?_
            clear E a; intro a E
            have hG := grows hpG
            have hsl1 := (setI_spec l1).2.2
            have hsl2 := (setI_spec (l1 ++ l2)).2.2
            rw [List.length_append] at hsl2
            refine S_v E rfl (R_neq E rfl rfl) rfl ?_
            clear E a; intro a E
            refine WL_nil ?_
            refine T_n ?_
            have hc_34 : (decide ((((an_30).length : Nat) : Int) ≠ ((([(2, 0, 0, 0, 0, l1), (20, 0, 0, 0, 0, ([] : List Int)), (2, 0, 0, 0, 0, l2), (20, 0, 0, 0, 0, ([] : List Int)), (17, 0, 0, 0, 0, l1 ++ l2), (4, 0, 0, 0, 0, l2), (22, 0, 0, 0, 0, ([] : List Int)), (18, 0, 0, 0, 0, l2), (21, 0, 0, 0, 0, ([] : List Int))]).length : Nat) : Int))) = false := by (clear S E; first | exact one_ln hp1l.2 (by assumption) | (simp [hp1l.2]; done) | (simp [hG, scrG]; done) | ((try (have e0 := Option.some.inj (at_of (i := 0) hG (by assumption)); subst e0)); (try (have e1 := Option.some.inj (at_of (i := 1) hG (by assumption)); subst e1)); (try (have e2 := Option.some.inj (at_of (i := 2) hG (by assumption)); subst e2)); (try (have e3 := Option.some.inj (at_of (i := 3) hG (by assumption)); subst e3)); (try (have e4 := Option.some.inj (at_of (i := 4) hG (by assumption)); subst e4)); (try (have e5 := Option.some.inj (at_of (i := 5) hG (by assumption)); subst e5)); (try (have e6 := Option.some.inj (at_of (i := 6) hG (by assumption)); subst e6)); (try (have e7 := Option.some.inj (at_of (i := 7) hG (by assumption)); subst e7)); (try (have e8 := Option.some.inj (at_of (i := 8) hG (by assumption)); subst e8)); first | rfl | (simp; done)))
            refine WP_condF E rfl hc_34 ?_
            refine WP_skip ?_
            refine T_n ?_
            refine WP_seq ?_
            refine WP_region ?_
            refine S_v E rfl (R_move E rfl) rfl ?_
            clear E a; intro a E
            refine S_v E rfl (R_move E rfl) rfl ?_
            clear E a; intro a E
            refine S_v E rfl (R_move E rfl) rfl ?_
            clear E a; intro a E
            refine S_x (X_pu E S rfl rfl rfl (impl_SetDifference h1 h2 (by first | assumption | omega | (simp; done)) (by first | assumption | omega | (simp; done))) (Hp.le.refl _) ?_)
            clear E a S; rintro a v_36 w M_35 hM_35 hv_36 S E
            replace h1 := h1.le hM_35
            replace h2 := h2.le hM_35
            replace hv_3 := hv_3.le RSS_mono hM_35
            replace hx_10 := hx_10.le RAN_mono hM_35
            replace hx_11 := hx_11.le hM_35
            replace hu_15 := hu_15.le hM_35
            replace hv_17 := hv_17.le hM_35
            replace hv_24 := hv_24.le hM_35
            replace hv_25 := hv_25.le RSS_mono hM_35
            replace hx_32 := hx_32.le RAN_mono hM_35
            replace hx_33 := hx_33.le hM_35
            have hzl := Nat.le_trans (suL_len ((l1).filter (fun z => decide (z ∉ l2)))) (List.length_filter_le _ _)
            refine S_v E rfl (R_assign E rfl) rfl ?_
            clear E a; intro a E
            refine WL_nil ?_
            refine T_n ?_
            refine WP_seq ?_
            have qp_14k36 := qp_14
            have h1k36 := h1
            have h2k36 := h2
            have hx_32k36 := hx_32
            have hv_36k36 := hv_36
            replace S := S.mono_heap (w' := World.drew _) rfl
            refine WP_drawn (C := fun x w => agree M_35 w) (bf := (fun i => [])) [0, 1, 2, 3, 4, 6, 7, 8, 9, 10, 11, 12, 13, 14, 15, 16, 17, 18, 19, 20, 21, 22, 23, 24, 25, 28, 29, 30, 31, 32, 33, 34, 35, 36, 37, 38, 39, 40, 41, 42, 43, 44, 45, 46, 47, 48, 49, 50, 51, 52, 53, 54, 55, 56, 57, 58, 60, 61, 62, 63, 64, 65, 66, 67, 68, 69, 70, 71, 72, 73, 74, 75, 76, 77, 78] [0, 1, 2, 3, 4, 5, 6, 7, 8, 9, 10, 11, 12, 13, 14, 15, 16, 17, 18, 19, 20, 21, 22, 23, 24, 25, 26, 27, 28, 29, 30, 31, 32, 33, 34, 35, 36, 37, 38, 39, 40, 41, 42, 43, 44, 45, 46, 47, 48, 49, 50, 51, 52, 53, 54, 55, 56, 57, 58, 59, 60, 61, 62, 63, 64, 65, 66, 67, 68, 69, 70, 71, 72, 73, 74, 75, 76, 77, 78] Tryz.mixed (by kernel_rfl) (fun x hq => S.imm) ?_
            refine D_v E rfl rfl rfl (fun w hC => (R_move E rfl)) ?_
            clear E a; intro a E
            obtain ⟨x_37, hx_37⟩ : ∃ x, (an_30)[0]? = some x := ⟨_, List.getElem?_eq_getElem (by (first | omega | (rw [hp1l.2]; decide) | (rw [hG]; simp; done)))⟩
            obtain ⟨p_38, u_39, hp_38, qp_38, hu_39⟩ := RdAN.at hx_32 hx_37
            have bu_39 := hu_39.bound
            refine D_v E rfl rfl rfl (fun w hC => (R_idx E rfl rfl T35 hp_38 (by omega))) ?_
            clear E a; intro a E
            have qf_40 := qp_38 1 _ rfl
            refine D_v E rfl rfl rfl (fun w hC => (R_fieldAddr E rfl (FA42_1 _))) ?_
            clear E a; intro a E
            refine D_v E rfl rfl rfl (fun w hC => (R_loadM E rfl Tryz.isAgg3 hC qf_40)) ?_
            clear E a; intro a E
            refine D_v E rfl rfl rfl (fun w hC => (R_move E rfl)) ?_
            clear E a; intro a E
            refine D_x rfl rfl rfl (X_pu E S rfl rfl rfl (laws_sorted h1 (by (first | omega | (simp; omega) | (simp; done) | (simp_all; omega) | grind))) (Hp.le.refl _) ?_)
            clear E a S; rintro a v_42 w M_41 hM_41 hv_42 S E
            replace h1 := h1.le hM_41
            replace h2 := h2.le hM_41
            replace hv_3 := hv_3.le RSS_mono hM_41
            replace hx_10 := hx_10.le RAN_mono hM_41
            replace hx_11 := hx_11.le hM_41
            replace hu_15 := hu_15.le hM_41
            replace hv_17 := hv_17.le hM_41
            replace hv_24 := hv_24.le hM_41
            replace hv_25 := hv_25.le RSS_mono hM_41
            replace hx_32 := hx_32.le RAN_mono hM_41
            replace hx_33 := hx_33.le hM_41
            replace hv_36 := hv_36.le hM_41
            replace hu_39 := hu_39.le hM_41
            replace qp_38 := cellsM_le hM_41 qp_38
            refine ⟨fun x hq hb => (agree_le hM_41 S.imm), ?_⟩
            refine D_v E rfl rfl rfl (fun w hC => (R_lenV E rfl T22 hv_42.len)) ?_
            clear E a; intro a E
            refine D_v E rfl rfl rfl (fun w hC => (R_eql E rfl rfl)) ?_
            clear E a; intro a E
            refine D_v E rfl rfl rfl (fun w hC => (R_move E rfl)) ?_
            clear E a; intro a E
            have hc_43 : (decide (x_37.2.1 = (((setI l1).length : Nat) : Int))) = true := by (clear S E; first | exact one_ln hp1l.2 (by assumption) | (simp [hp1l.2]; done) | (simp [hG, scrG]; done) | ((try (have e0 := Option.some.inj (at_of (i := 0) hG (by assumption)); subst e0)); (try (have e1 := Option.some.inj (at_of (i := 1) hG (by assumption)); subst e1)); (try (have e2 := Option.some.inj (at_of (i := 2) hG (by assumption)); subst e2)); (try (have e3 := Option.some.inj (at_of (i := 3) hG (by assumption)); subst e3)); (try (have e4 := Option.some.inj (at_of (i := 4) hG (by assumption)); subst e4)); (try (have e5 := Option.some.inj (at_of (i := 5) hG (by assumption)); subst e5)); (try (have e6 := Option.some.inj (at_of (i := 6) hG (by assumption)); subst e6)); (try (have e7 := Option.some.inj (at_of (i := 7) hG (by assumption)); subst e7)); (try (have e8 := Option.some.inj (at_of (i := 8) hG (by assumption)); subst e8)); first | rfl | (simp; done)))
            replace E := E.val (t := 92) rfl hc_43
            replace E := E.val (t := 93) rfl hc_43
            refine D_vyes E rfl rfl rfl rfl rfl (fun w hC => (R_move E rfl)) ?_
            clear E a; intro a E
            obtain ⟨x_44, hx_44⟩ : ∃ x, (an_30)[1]? = some x := ⟨_, List.getElem?_eq_getElem (by (first | omega | (rw [hp1l.2]; decide) | (rw [hG]; simp; done)))⟩
            obtain ⟨p_45, u_46, hp_45, qp_45, hu_46⟩ := RdAN.at hx_32k36 hx_44
            have bu_46 := hu_46.bound
            replace hu_46 := hu_46.le hM_41
            refine D_vyes E rfl rfl rfl rfl rfl (fun w hC => (R_idx E rfl rfl T35 hp_45 (by omega))) ?_
            clear E a; intro a E
            have qf_47 := qp_45 1 _ rfl
            refine D_vyes E rfl rfl rfl rfl rfl (fun w hC => (R_fieldAddr E rfl (FA42_1 _))) ?_
            clear E a; intro a E
            refine D_vyes E rfl rfl rfl rfl rfl (fun w hC => (R_loadM E rfl Tryz.isAgg3 hC qf_47)) ?_
            clear E a; intro a E
            refine D_vyes E rfl rfl rfl rfl rfl (fun w hC => (R_move E rfl)) ?_
            clear E a; intro a E
            obtain ⟨p_48, u_49, hp_48, qp_48, hu_49⟩ := RdAN.at hx_32k36 hx_37
            have bu_49 := hu_49.bound
            replace hu_49 := hu_49.le hM_41
            refine D_vyes E rfl rfl rfl rfl rfl (fun w hC => (R_idx E rfl rfl T35 hp_48 (by omega))) ?_
            clear E a; intro a E
            have qf_50 := qp_48 1 _ rfl
            refine D_vyes E rfl rfl rfl rfl rfl (fun w hC => (R_fieldAddr E rfl (FA42_1 _))) ?_
            clear E a; intro a E
            refine D_vyes E rfl rfl rfl rfl rfl (fun w hC => (R_loadM E rfl Tryz.isAgg3 hC qf_50)) ?_
            clear E a; intro a E
            refine D_vyes E rfl rfl rfl rfl rfl (fun w hC => (R_eql E rfl rfl)) ?_
            clear E a; intro a E
            refine D_v E rfl rfl rfl (fun w hC => (R_pickT E rfl rfl)) ?_
            clear E a; intro a E
            refine D_v E rfl rfl rfl (fun w hC => (R_move E rfl)) ?_
            clear E a; intro a E
            have hc_51 : (decide (x_44.2.1 = x_37.2.1)) = true := by (clear S E; first | exact one_ln hp1l.2 (by assumption) | (simp [hp1l.2]; done) | (simp [hG, scrG]; done) | ((try (have e0 := Option.some.inj (at_of (i := 0) hG (by assumption)); subst e0)); (try (have e1 := Option.some.inj (at_of (i := 1) hG (by assumption)); subst e1)); (try (have e2 := Option.some.inj (at_of (i := 2) hG (by assumption)); subst e2)); (try (have e3 := Option.some.inj (at_of (i := 3) hG (by assumption)); subst e3)); (try (have e4 := Option.some.inj (at_of (i := 4) hG (by assumption)); subst e4)); (try (have e5 := Option.some.inj (at_of (i := 5) hG (by assumption)); subst e5)); (try (have e6 := Option.some.inj (at_of (i := 6) hG (by assumption)); subst e6)); (try (have e7 := Option.some.inj (at_of (i := 7) hG (by assumption)); subst e7)); (try (have e8 := Option.some.inj (at_of (i := 8) hG (by assumption)); subst e8)); first | rfl | (simp; done)))
            replace E := E.val (t := 102) rfl hc_51
            replace E := E.val (t := 103) rfl hc_51
            replace E := E.val (t := 104) rfl hc_51
            refine D_vyes E rfl rfl rfl rfl rfl (fun w hC => (R_move E rfl)) ?_
            clear E a; intro a E
            obtain ⟨x_52, hx_52⟩ : ∃ x, (an_30)[3]? = some x := ⟨_, List.getElem?_eq_getElem (by (first | omega | (rw [hp1l.2]; decide) | (rw [hG]; simp; done)))⟩
            obtain ⟨p_53, u_54, hp_53, qp_53, hu_54⟩ := RdAN.at hx_32k36 hx_52
            have bu_54 := hu_54.bound
            replace hu_54 := hu_54.le hM_41
            refine D_vyes E rfl rfl rfl rfl rfl (fun w hC => (R_idx E rfl rfl T35 hp_53 (by omega))) ?_
            clear E a; intro a E
            have qf_55 := qp_53 1 _ rfl
            refine D_vyes E rfl rfl rfl rfl rfl (fun w hC => (R_fieldAddr E rfl (FA42_1 _))) ?_
            clear E a; intro a E
            refine D_vyes E rfl rfl rfl rfl rfl (fun w hC => (R_loadM E rfl Tryz.isAgg3 hC qf_55)) ?_
            clear E a; intro a E
            refine D_vyes E rfl rfl rfl rfl rfl (fun w hC => (R_move E rfl)) ?_
            clear E a; intro a E
            refine D_vyes E rfl rfl rfl rfl rfl (fun w hC => (R_move E rfl)) ?_
            clear E a; intro a E
            refine D_yes E rfl rfl rfl rfl (X_pu E S rfl rfl rfl (laws_both h1 h2 (by first | omega | (simp; omega) | (simp_all; omega))) (Hp.le.refl _) ?_)
            clear E a S; rintro a v_57 w M_56 hM_56 hv_57 S E
            replace h1 := h1.le hM_56
            replace h2 := h2.le hM_56
            replace hv_3 := hv_3.le RSS_mono hM_56
            replace hx_10 := hx_10.le RAN_mono hM_56
            replace hx_11 := hx_11.le hM_56
            replace hu_15 := hu_15.le hM_56
            replace hv_17 := hv_17.le hM_56
            replace hv_24 := hv_24.le hM_56
            replace hv_25 := hv_25.le RSS_mono hM_56
            replace hx_32 := hx_32.le RAN_mono hM_56
            replace hx_33 := hx_33.le hM_56
            replace hv_36 := hv_36.le hM_56
            replace hu_39 := hu_39.le hM_56
            replace qp_38 := cellsM_le hM_56 qp_38
            replace hv_42 := hv_42.le hM_56
            replace hu_46 := hu_46.le hM_56
            replace hu_49 := hu_49.le hM_56
            replace hu_54 := hu_54.le hM_56
            refine ⟨fun x hq hb => (agree_le (hM_41.trans hM_56) S.imm), ?_⟩
            refine D_yes E rfl rfl rfl rfl (X_pu E S rfl rfl rfl (laws_sorted hv_57 (by (first | omega | (simp; omega) | (simp; done) | (simp_all; omega) | grind))) (Hp.le.refl _) ?_)
            clear E a S; rintro a v_59 w M_58 hM_58 hv_59 S E
            replace h1 := h1.le hM_58
            replace h2 := h2.le hM_58
            replace hv_3 := hv_3.le RSS_mono hM_58
            replace hx_10 := hx_10.le RAN_mono hM_58
            replace hx_11 := hx_11.le hM_58
            replace hu_15 := hu_15.le hM_58
            replace hv_17 := hv_17.le hM_58
            replace hv_24 := hv_24.le hM_58
            replace hv_25 := hv_25.le RSS_mono hM_58
            replace hx_32 := hx_32.le RAN_mono hM_58
            replace hx_33 := hx_33.le hM_58
            replace hv_36 := hv_36.le hM_58
            replace hu_39 := hu_39.le hM_58
            replace qp_38 := cellsM_le hM_58 qp_38
            replace hv_42 := hv_42.le hM_58
            replace hu_46 := hu_46.le hM_58
            replace hu_49 := hu_49.le hM_58
            replace hu_54 := hu_54.le hM_58
            replace hv_57 := hv_57.le hM_58
            refine ⟨fun x hq hb => (agree_le (hM_41.trans (hM_56.trans hM_58)) S.imm), ?_⟩
            refine D_vyes E rfl rfl rfl rfl rfl (fun w hC => (R_lenV E rfl T22 hv_59.len)) ?_
            clear E a; intro a E
            refine D_vyes E rfl rfl rfl rfl rfl (fun w hC => (R_eql E rfl rfl)) ?_
            clear E a; intro a E
            refine D_v E rfl rfl rfl (fun w hC => (R_pickT E rfl rfl)) ?_
            clear E a; intro a E
            refine D_v E rfl rfl rfl (fun w hC => (R_move E rfl)) ?_
            clear E a; intro a E
            have hc_60 : (decide (x_52.2.1 = (((setI (l1 ++ l2)).length : Nat) : Int))) = true := by (clear S E; first | exact one_ln hp1l.2 (by assumption) | (simp [hp1l.2]; done) | (simp [hG, scrG]; done) | ((try (have e0 := Option.some.inj (at_of (i := 0) hG (by assumption)); subst e0)); (try (have e1 := Option.some.inj (at_of (i := 1) hG (by assumption)); subst e1)); (try (have e2 := Option.some.inj (at_of (i := 2) hG (by assumption)); subst e2)); (try (have e3 := Option.some.inj (at_of (i := 3) hG (by assumption)); subst e3)); (try (have e4 := Option.some.inj (at_of (i := 4) hG (by assumption)); subst e4)); (try (have e5 := Option.some.inj (at_of (i := 5) hG (by assumption)); subst e5)); (try (have e6 := Option.some.inj (at_of (i := 6) hG (by assumption)); subst e6)); (try (have e7 := Option.some.inj (at_of (i := 7) hG (by assumption)); subst e7)); (try (have e8 := Option.some.inj (at_of (i := 8) hG (by assumption)); subst e8)); first | rfl | (simp; done)))
            replace E := E.val (t := 114) rfl hc_60
            replace E := E.val (t := 115) rfl hc_60
            replace E := E.val (t := 116) rfl hc_60
            refine D_vyes E rfl rfl rfl rfl rfl (fun w hC => (R_move E rfl)) ?_
            clear E a; intro a E
            obtain ⟨x_61, hx_61⟩ : ∃ x, (an_30)[2]? = some x := ⟨_, List.getElem?_eq_getElem (by (first | omega | (rw [hp1l.2]; decide) | (rw [hG]; simp; done)))⟩
            obtain ⟨p_62, u_63, hp_62, qp_62, hu_63⟩ := RdAN.at hx_32k36 hx_61
            have bu_63 := hu_63.bound
            replace hu_63 := hu_63.le (hM_41.trans (hM_56.trans hM_58))
            refine D_vyes E rfl rfl rfl rfl rfl (fun w hC => (R_idx E rfl rfl T35 hp_62 (by omega))) ?_
            clear E a; intro a E
            have qf_64 := qp_62 1 _ rfl
            refine D_vyes E rfl rfl rfl rfl rfl (fun w hC => (R_fieldAddr E rfl (FA42_1 _))) ?_
            clear E a; intro a E
            refine D_vyes E rfl rfl rfl rfl rfl (fun w hC => (R_loadM E rfl Tryz.isAgg3 hC qf_64)) ?_
            clear E a; intro a E
            refine D_vyes E rfl rfl rfl rfl rfl (fun w hC => (R_move E rfl)) ?_
            clear E a; intro a E
            obtain ⟨p_65, u_66, hp_65, qp_65, hu_66⟩ := RdAN.at hx_32k36 hx_52
            have bu_66 := hu_66.bound
            replace hu_66 := hu_66.le (hM_41.trans (hM_56.trans hM_58))
            refine D_vyes E rfl rfl rfl rfl rfl (fun w hC => (R_idx E rfl rfl T35 hp_65 (by omega))) ?_
            clear E a; intro a E
            have qf_67 := qp_65 1 _ rfl
            refine D_vyes E rfl rfl rfl rfl rfl (fun w hC => (R_fieldAddr E rfl (FA42_1 _))) ?_
            clear E a; intro a E
            refine D_vyes E rfl rfl rfl rfl rfl (fun w hC => (R_loadM E rfl Tryz.isAgg3 hC qf_67)) ?_
            clear E a; intro a E
            refine D_vyes E rfl rfl rfl rfl rfl (fun w hC => (R_move E rfl)) ?_
            clear E a; intro a E
            obtain ⟨p_68, u_69, hp_68, qp_68, hu_69⟩ := RdAN.at hx_32k36 hx_44
            have bu_69 := hu_69.bound
            replace hu_69 := hu_69.le (hM_41.trans (hM_56.trans hM_58))
            refine D_vyes E rfl rfl rfl rfl rfl (fun w hC => (R_idx E rfl rfl T35 hp_68 (by omega))) ?_
            clear E a; intro a E
            have qf_70 := qp_68 1 _ rfl
            refine D_vyes E rfl rfl rfl rfl rfl (fun w hC => (R_fieldAddr E rfl (FA42_1 _))) ?_
            clear E a; intro a E
            refine D_vyes E rfl rfl rfl rfl rfl (fun w hC => (R_loadM E rfl Tryz.isAgg3 hC qf_70)) ?_
            clear E a; intro a E
            refine D_vyes E rfl rfl rfl rfl rfl (fun w hC => (R_subx (m := x_52.2.1 - x_44.2.1) E rfl rfl (by ((try (have e0 := Option.some.inj (at_of (i := 0) hG (by assumption)); subst e0)); (try (have e1 := Option.some.inj (at_of (i := 1) hG (by assumption)); subst e1)); (try (have e2 := Option.some.inj (at_of (i := 2) hG (by assumption)); subst e2)); (try (have e3 := Option.some.inj (at_of (i := 3) hG (by assumption)); subst e3)); (try (have e4 := Option.some.inj (at_of (i := 4) hG (by assumption)); subst e4)); (try (have e5 := Option.some.inj (at_of (i := 5) hG (by assumption)); subst e5)); (try (have e6 := Option.some.inj (at_of (i := 6) hG (by assumption)); subst e6)); (try (have e7 := Option.some.inj (at_of (i := 7) hG (by assumption)); subst e7)); (try (have e8 := Option.some.inj (at_of (i := 8) hG (by assumption)); subst e8)); first | omega | (simp only; omega))) (by ((try (have e0 := Option.some.inj (at_of (i := 0) hG (by assumption)); subst e0)); (try (have e1 := Option.some.inj (at_of (i := 1) hG (by assumption)); subst e1)); (try (have e2 := Option.some.inj (at_of (i := 2) hG (by assumption)); subst e2)); (try (have e3 := Option.some.inj (at_of (i := 3) hG (by assumption)); subst e3)); (try (have e4 := Option.some.inj (at_of (i := 4) hG (by assumption)); subst e4)); (try (have e5 := Option.some.inj (at_of (i := 5) hG (by assumption)); subst e5)); (try (have e6 := Option.some.inj (at_of (i := 6) hG (by assumption)); subst e6)); (try (have e7 := Option.some.inj (at_of (i := 7) hG (by assumption)); subst e7)); (try (have e8 := Option.some.inj (at_of (i := 8) hG (by assumption)); subst e8)); first | omega | (simp only; omega))))) ?_
            clear E a; intro a E
            refine D_vyes E rfl rfl rfl rfl rfl (fun w hC => (R_eql E rfl rfl)) ?_
            clear E a; intro a E
            refine D_v E rfl rfl rfl (fun w hC => (R_pickT E rfl rfl)) ?_
            clear E a; intro a E
            refine D_v E rfl rfl rfl (fun w hC => (R_move E rfl)) ?_
            clear E a; intro a E
            have hc_71 : (decide (x_61.2.1 = x_52.2.1 - x_44.2.1)) = true := by (clear S E; first | exact one_ln hp1l.2 (by assumption) | (simp [hp1l.2]; done) | (simp [hG, scrG]; done) | ((try (have e0 := Option.some.inj (at_of (i := 0) hG (by assumption)); subst e0)); (try (have e1 := Option.some.inj (at_of (i := 1) hG (by assumption)); subst e1)); (try (have e2 := Option.some.inj (at_of (i := 2) hG (by assumption)); subst e2)); (try (have e3 := Option.some.inj (at_of (i := 3) hG (by assumption)); subst e3)); (try (have e4 := Option.some.inj (at_of (i := 4) hG (by assumption)); subst e4)); (try (have e5 := Option.some.inj (at_of (i := 5) hG (by assumption)); subst e5)); (try (have e6 := Option.some.inj (at_of (i := 6) hG (by assumption)); subst e6)); (try (have e7 := Option.some.inj (at_of (i := 7) hG (by assumption)); subst e7)); (try (have e8 := Option.some.inj (at_of (i := 8) hG (by assumption)); subst e8)); first | rfl | (simp; done)))
            replace E := E.val (t := 130) rfl hc_71
            replace E := E.val (t := 131) rfl hc_71
            replace E := E.val (t := 132) rfl hc_71
            refine D_vyes E rfl rfl rfl rfl rfl (fun w hC => (R_move E rfl)) ?_
            clear E a; intro a E
            obtain ⟨x_72, hx_72⟩ : ∃ x, (an_30)[4]? = some x := ⟨_, List.getElem?_eq_getElem (by (first | omega | (rw [hp1l.2]; decide) | (rw [hG]; simp; done)))⟩
            obtain ⟨p_73, u_74, hp_73, qp_73, hu_74⟩ := RdAN.at hx_32k36 hx_72
            have bu_74 := hu_74.bound
            replace hu_74 := hu_74.le (hM_41.trans (hM_56.trans hM_58))
            refine D_vyes E rfl rfl rfl rfl rfl (fun w hC => (R_idx E rfl rfl T35 hp_73 (by omega))) ?_
            clear E a; intro a E
            have qf_75 := qp_73 0 _ rfl
            refine D_vyes E rfl rfl rfl rfl rfl (fun w hC => (R_fieldAddr E rfl (FA42_0 _))) ?_
            clear E a; intro a E
            refine D_vyes E rfl rfl rfl rfl rfl (fun w hC => (R_loadM E rfl Tryz.isAgg4 hC qf_75)) ?_
            clear E a; intro a E
            refine D_v E rfl rfl rfl (fun w hC => (R_pickT E rfl rfl)) ?_
            clear E a; intro a E
            refine D_v E rfl rfl rfl (fun w hC => (R_move E rfl)) ?_
            clear E a; intro a E
            have hc_76 : (x_72.1) = true := by (clear S E; first | exact one_ln hp1l.2 (by assumption) | (simp [hp1l.2]; done) | (simp [hG, scrG]; done) | ((try (have e0 := Option.some.inj (at_of (i := 0) hG (by assumption)); subst e0)); (try (have e1 := Option.some.inj (at_of (i := 1) hG (by assumption)); subst e1)); (try (have e2 := Option.some.inj (at_of (i := 2) hG (by assumption)); subst e2)); (try (have e3 := Option.some.inj (at_of (i := 3) hG (by assumption)); subst e3)); (try (have e4 := Option.some.inj (at_of (i := 4) hG (by assumption)); subst e4)); (try (have e5 := Option.some.inj (at_of (i := 5) hG (by assumption)); subst e5)); (try (have e6 := Option.some.inj (at_of (i := 6) hG (by assumption)); subst e6)); (try (have e7 := Option.some.inj (at_of (i := 7) hG (by assumption)); subst e7)); (try (have e8 := Option.some.inj (at_of (i := 8) hG (by assumption)); subst e8)); first | rfl | (simp; done)))
            replace E := E.val (t := 136) rfl hc_76
            replace E := E.val (t := 137) rfl hc_76
            replace E := E.val (t := 138) rfl hc_76
            refine D_vyes E rfl rfl rfl rfl rfl (fun w hC => (R_move E rfl)) ?_
            clear E a; intro a E
            obtain ⟨x_77, hx_77⟩ : ∃ x, (an_30)[6]? = some x := ⟨_, List.getElem?_eq_getElem (by (first | omega | (rw [hp1l.2]; decide) | (rw [hG]; simp; done)))⟩
            obtain ⟨p_78, u_79, hp_78, qp_78, hu_79⟩ := RdAN.at hx_32k36 hx_77
            have bu_79 := hu_79.bound
            replace hu_79 := hu_79.le (hM_41.trans (hM_56.trans hM_58))
            refine D_vyes E rfl rfl rfl rfl rfl (fun w hC => (R_idx E rfl rfl T35 hp_78 (by omega))) ?_
            clear E a; intro a E
            have qf_80 := qp_78 2 _ rfl
            refine D_vyes E rfl rfl rfl rfl rfl (fun w hC => (R_fieldAddr E rfl (FA42_2 _))) ?_
            clear E a; intro a E
            refine D_vyes E rfl rfl rfl rfl rfl (fun w hC => (R_loadM E rfl Tryz.isAgg22 hC qf_80)) ?_
            clear E a; intro a E
            refine D_vyes E rfl rfl rfl rfl rfl (fun w hC => (R_move E rfl)) ?_
            clear E a; intro a E
            refine D_yes E rfl rfl rfl rfl (X_pu E S rfl rfl rfl (laws_eq hu_79 hv_36) (Hp.le.refl _) ?_)
            clear E a S; rintro a _ w M_81 hM_81 rfl S E
            replace h1 := h1.le hM_81
            replace h2 := h2.le hM_81
            replace hv_3 := hv_3.le RSS_mono hM_81
            replace hx_10 := hx_10.le RAN_mono hM_81
            replace hx_11 := hx_11.le hM_81
            replace hu_15 := hu_15.le hM_81
            replace hv_17 := hv_17.le hM_81
            replace hv_24 := hv_24.le hM_81
            replace hv_25 := hv_25.le RSS_mono hM_81
            replace hx_32 := hx_32.le RAN_mono hM_81
            replace hx_33 := hx_33.le hM_81
            replace hv_36 := hv_36.le hM_81
            replace hu_39 := hu_39.le hM_81
            replace qp_38 := cellsM_le hM_81 qp_38
            replace hv_42 := hv_42.le hM_81
            replace hu_46 := hu_46.le hM_81
            replace hu_49 := hu_49.le hM_81
            replace hu_54 := hu_54.le hM_81
            replace hv_57 := hv_57.le hM_81
            replace hv_59 := hv_59.le hM_81
            replace hu_63 := hu_63.le hM_81
            replace hu_66 := hu_66.le hM_81
            replace hu_69 := hu_69.le hM_81
            replace hu_74 := hu_74.le hM_81
            replace hu_79 := hu_79.le hM_81
            refine ⟨fun x hq hb => (agree_le (hM_41.trans (hM_56.trans (hM_58.trans hM_81))) S.imm), ?_⟩
            refine D_v E rfl rfl rfl (fun w hC => (R_pickT E rfl rfl)) ?_
            clear E a; intro a E
            refine D_v E rfl rfl rfl (fun w hC => (R_move E rfl)) ?_
            clear E a; intro a E
            have hc_82 : (decide (x_77.2.2 = suL ((l1).filter (fun z => decide (z ∉ l2))))) = true := by (clear S E; first | exact one_ln hp1l.2 (by assumption) | (simp [hp1l.2]; done) | (simp [hG, scrG]; done) | ((try (have e0 := Option.some.inj (at_of (i := 0) hG (by assumption)); subst e0)); (try (have e1 := Option.some.inj (at_of (i := 1) hG (by assumption)); subst e1)); (try (have e2 := Option.some.inj (at_of (i := 2) hG (by assumption)); subst e2)); (try (have e3 := Option.some.inj (at_of (i := 3) hG (by assumption)); subst e3)); (try (have e4 := Option.some.inj (at_of (i := 4) hG (by assumption)); subst e4)); (try (have e5 := Option.some.inj (at_of (i := 5) hG (by assumption)); subst e5)); (try (have e6 := Option.some.inj (at_of (i := 6) hG (by assumption)); subst e6)); (try (have e7 := Option.some.inj (at_of (i := 7) hG (by assumption)); subst e7)); (try (have e8 := Option.some.inj (at_of (i := 8) hG (by assumption)); subst e8)); first | rfl | (simp; done)))
            replace E := E.val (t := 144) rfl hc_82
            replace E := E.val (t := 145) rfl hc_82
            replace E := E.val (t := 146) rfl hc_82
            refine D_vyes E rfl rfl rfl rfl rfl (fun w hC => (R_move E rfl)) ?_
            clear E a; intro a E
            obtain ⟨x_83, hx_83⟩ : ∃ x, (an_30)[7]? = some x := ⟨_, List.getElem?_eq_getElem (by (first | omega | (rw [hp1l.2]; decide) | (rw [hG]; simp; done)))⟩
            obtain ⟨p_84, u_85, hp_84, qp_84, hu_85⟩ := RdAN.at hx_32k36 hx_83
            have bu_85 := hu_85.bound
            replace hu_85 := hu_85.le (hM_41.trans (hM_56.trans (hM_58.trans hM_81)))
            refine D_vyes E rfl rfl rfl rfl rfl (fun w hC => (R_idx E rfl rfl T35 hp_84 (by omega))) ?_
            clear E a; intro a E
            have qf_86 := qp_84 0 _ rfl
            refine D_vyes E rfl rfl rfl rfl rfl (fun w hC => (R_fieldAddr E rfl (FA42_0 _))) ?_
            clear E a; intro a E
            refine D_vyes E rfl rfl rfl rfl rfl (fun w hC => (R_loadM E rfl Tryz.isAgg4 hC qf_86)) ?_
            clear E a; intro a E
            refine D_vyes E rfl rfl rfl rfl rfl (fun w hC => (R_not E rfl)) ?_
            clear E a; intro a E
            refine D_v E rfl rfl rfl (fun w hC => (R_pickT E rfl rfl)) ?_
            clear E a; intro a E
            refine D_v E rfl rfl rfl (fun w hC => (R_move E rfl)) ?_
            clear E a; intro a E
            have hc_87 : (!x_83.1) = true := by (clear S E; first | exact one_ln hp1l.2 (by assumption) | (simp [hp1l.2]; done) | (simp [hG, scrG]; done) | ((try (have e0 := Option.some.inj (at_of (i := 0) hG (by assumption)); subst e0)); (try (have e1 := Option.some.inj (at_of (i := 1) hG (by assumption)); subst e1)); (try (have e2 := Option.some.inj (at_of (i := 2) hG (by assumption)); subst e2)); (try (have e3 := Option.some.inj (at_of (i := 3) hG (by assumption)); subst e3)); (try (have e4 := Option.some.inj (at_of (i := 4) hG (by assumption)); subst e4)); (try (have e5 := Option.some.inj (at_of (i := 5) hG (by assumption)); subst e5)); (try (have e6 := Option.some.inj (at_of (i := 6) hG (by assumption)); subst e6)); (try (have e7 := Option.some.inj (at_of (i := 7) hG (by assumption)); subst e7)); (try (have e8 := Option.some.inj (at_of (i := 8) hG (by assumption)); subst e8)); first | rfl | (simp; done)))
            replace E := E.val (t := 151) rfl hc_87
            replace E := E.val (t := 152) rfl hc_87
            replace E := E.val (t := 153) rfl hc_87
            refine D_vyes E rfl rfl rfl rfl rfl (fun w hC => (R_move E rfl)) ?_
            clear E a; intro a E
            obtain ⟨x_88, hx_88⟩ : ∃ x, (an_30)[8]? = some x := ⟨_, List.getElem?_eq_getElem (by (first | omega | (rw [hp1l.2]; decide) | (rw [hG]; simp; done)))⟩
            obtain ⟨p_89, u_90, hp_89, qp_89, hu_90⟩ := RdAN.at hx_32k36 hx_88
            have bu_90 := hu_90.bound
            replace hu_90 := hu_90.le (hM_41.trans (hM_56.trans (hM_58.trans hM_81)))
            refine D_vyes E rfl rfl rfl rfl rfl (fun w hC => (R_idx E rfl rfl T35 hp_89 (by omega))) ?_
            clear E a; intro a E
            have qf_91 := qp_89 0 _ rfl
            refine D_vyes E rfl rfl rfl rfl rfl (fun w hC => (R_fieldAddr E rfl (FA42_0 _))) ?_
            clear E a; intro a E
            refine D_vyes E rfl rfl rfl rfl rfl (fun w hC => (R_loadM E rfl Tryz.isAgg4 hC qf_91)) ?_
            clear E a; intro a E
            refine D_vyes E rfl rfl rfl rfl rfl (fun w hC => (R_move E rfl)) ?_
            clear E a; intro a E
            refine D_vyes E rfl rfl rfl rfl rfl (fun w hC => (R_lenV E rfl T22 hv_36.len)) ?_
            clear E a; intro a E
            refine D_vyes E rfl rfl rfl rfl rfl (fun w hC => (R_eql E rfl rfl)) ?_
            clear E a; intro a E
            refine D_vyes E rfl rfl rfl rfl rfl (fun w hC => (R_eqlB E rfl rfl Tryz.underlying4)) ?_
            clear E a; intro a E
            refine D_v E rfl rfl rfl (fun w hC => (R_pickT E rfl rfl)) ?_
            clear E a; intro a E
            refine D_v E rfl rfl rfl (fun w hC => (R_assign E rfl)) ?_
            clear E a; intro a E
            refine D_end (NoP_n ?_)
            refine T_n ?_
            refine WP_ret ?_
            exact F_ret1 E Tryz.results8 rfl ⟨_, rfl, M_81, (hM_4.trans (hM_5.trans (hM_18.trans (hM_19.trans (hM_23.trans (hM_26.trans (hM_27.trans (hM_35.trans (hM_41.trans (hM_56.trans (hM_58.trans hM_81))))))))))), (congrArg Value.bool (by (clear S E; first | exact one_ln hp1l.2 (by assumption) | (simp [hp1l.2]; done) | (simp [hG, scrG]; done) | ((try (have e0 := Option.some.inj (at_of (i := 0) hG (by assumption)); subst e0)); (try (have e1 := Option.some.inj (at_of (i := 1) hG (by assumption)); subst e1)); (try (have e2 := Option.some.inj (at_of (i := 2) hG (by assumption)); subst e2)); (try (have e3 := Option.some.inj (at_of (i := 3) hG (by assumption)); subst e3)); (try (have e4 := Option.some.inj (at_of (i := 4) hG (by assumption)); subst e4)); (try (have e5 := Option.some.inj (at_of (i := 5) hG (by assumption)); subst e5)); (try (have e6 := Option.some.inj (at_of (i := 6) hG (by assumption)); subst e6)); (try (have e7 := Option.some.inj (at_of (i := 7) hG (by assumption)); subst e7)); (try (have e8 := Option.some.inj (at_of (i := 8) hG (by assumption)); subst e8)); first | rfl | (simp; done))))), S⟩

end Go.Proofs.YtlmpgefhnmfhpaaGreat.wFnSetGrows
