/- Walks through the functions that laws.FnPicked reaches: what each computes; no conditions beyond what each theorem states. -/
import Derived.Test.YtahbobhbookehaaWFnPickedc
set_option linter.unusedVariables false
set_option linter.unusedSimpArgs false
namespace Go.Proofs.Ytahbobhbookehaa.wFnPicked
open Go Go.Sl
set_option maxRecDepth 100000 in
set_option maxHeartbeats 4000000 in
theorem SPred_Holds_c {M : Hp} {pk0 pn0 : Int} {w0 : Value} {pl0 : List Int} (hw0 : RdI M w0 pl0) (gn0 : -9223372036854775808 ≤ pn0 ∧ pn0 ≤ 9223372036854775807){x1 x2 : Int} (gx : -9223372036854775808 ≤ x1 ∧ x1 ≤ 9223372036854775807) :
    PuC Try.prog 121 M [.agg #[.int .i64 pk0, .int .i64 pn0, w0], .int .i64 x1, .int .i64 x2] (fun r M' => r = .bool (predAt pk0 pn0 pl0 x1 x2)) := by
  refine PuC_enter Try.func121 rfl Try.ntmps121 rfl ?_
  intro a w M1 H hM1 S E
  replace hw0 := hw0.le hM1
  have bw0 := hw0.bound
  refine WP_seq ?_
  refine WP_region ?_
  refine S_x (X_box (cs := #[.int .i64 pk0, .int .i64 pn0, w0]) E S rfl rfl rfl ?_)
  clear E a S; rintro a w b_1 E S
  obtain ⟨M_2, hM_2, hb_1, S⟩ := S.freezeB
  replace hw0 := hw0.le hM_2
  refine S_v E rfl (R_assign E rfl) rfl ?_
  clear E a; intro a E
  refine WL_nil ?_
  refine T_n ?_
  refine WP_seq ?_
  refine WP_seq ?_
  refine WP_region ?_
  refine S_v E rfl (R_fieldAddr E rfl (FA64_0 _)) rfl ?_
  clear E a; intro a E
  refine S_v E rfl (R_loadM E rfl Try.isAgg3 S.imm (cellM_boxo hb_1 rfl)) rfl ?_
  clear E a; intro a E
  refine WL_nil ?_
  refine T_n ?_
  refine WP_block ?_
  refine WP_seq ?_
  refine WP_region ?_
  refine S_v E rfl (R_eql E rfl rfl) rfl ?_
  clear E a; intro a E
  refine S_v E rfl (R_assign E rfl) rfl ?_
  clear E a; intro a E
  refine WL_nil ?_
  refine T_n ?_
  refine WP_cond E rfl (fun hc_3 => ?_) (fun hc_3 => ?_)
  · replace hc_3 := of_decide_eq_true hc_3
    refine WP_seq ?_
    refine WP_region ?_
    refine S_v E rfl (R_move E rfl) rfl ?_
    clear E a; intro a E
    refine S_v E rfl (R_fieldAddr E rfl (FA64_1 _)) rfl ?_
    clear E a; intro a E
    refine S_v E rfl (R_loadM E rfl Try.isAgg3 S.imm (cellM_boxo hb_1 rfl)) rfl ?_
    clear E a; intro a E
    refine S_v E rfl (R_lss E rfl rfl) rfl ?_
    clear E a; intro a E
    refine S_v E rfl (R_assign E rfl) rfl ?_
    clear E a; intro a E
    refine WL_nil ?_
    refine T_n ?_
    refine WP_ret ?_
    refine B_r ?_
    refine T_r ?_
    exact F_ret1 E Try.results121 rfl ⟨_, rfl, M_2, hM_2, (congrArg Value.bool (by (clear E S; unfold predAt; first | (have e := (first_eq (l := pl0) (by assumption)).1; simp_all; done) | (have e : pl0 = [] := List.eq_nil_of_length_eq_zero (by omega); simp_all; done) | (simp_all; done)))), S⟩
  · replace hc_3 := of_decide_eq_false hc_3
    refine WP_seq ?_
    refine WP_region ?_
    refine S_v E rfl (R_eql E rfl rfl) rfl ?_
    clear E a; intro a E
    refine S_v E rfl (R_assign E rfl) rfl ?_
    clear E a; intro a E
    refine WL_nil ?_
    refine T_n ?_
    refine WP_cond E rfl (fun hc_4 => ?_) (fun hc_4 => ?_)
    · replace hc_4 := of_decide_eq_true hc_4
      refine WP_seq ?_
      refine WP_region ?_
      refine S_v E rfl (R_assign E rfl) rfl ?_
      clear E a; intro a E
      refine WL_nil ?_
      refine T_n ?_
      refine WP_seq ?_
      refine WP_seq ?_
      refine WP_region ?_
      refine S_v E rfl (R_fieldAddr E rfl (FA64_2 _)) rfl ?_
      clear E a; intro a E
      refine S_v E rfl (R_loadM E rfl Try.isAgg22 S.imm (cellM_boxo hb_1 rfl)) rfl ?_
      clear E a; intro a E
      refine S_v E rfl (R_lenV E rfl T22 hw0.len) rfl ?_
      clear E a; intro a E
      refine S_v E rfl (R_gtr E rfl rfl) rfl ?_
      clear E a; intro a E
      refine WL_nil ?_
      refine T_n ?_
      refine WP_cond E rfl (fun hc_5 => ?_) (fun hc_5 => ?_)
      · replace hc_5 := of_decide_eq_true hc_5
        refine WP_region ?_
        refine S_v E rfl (R_fieldAddr E rfl (FA64_2 _)) rfl ?_
        clear E a; intro a E
        refine S_v E rfl (R_loadM E rfl Try.isAgg22 S.imm (cellM_boxo hb_1 rfl)) rfl ?_
        clear E a; intro a E
        obtain ⟨x_6, hx_6⟩ : ∃ x, (pl0)[0]? = some x := ⟨_, List.getElem?_eq_getElem (by first | omega | (simp; done) | (simp; omega) | (simp_all; omega))⟩
        obtain ⟨p_7, hp_7, qp_7⟩ := hw0.at hx_6
        refine S_v E rfl (R_idx E rfl rfl T22 hp_7 (by omega)) rfl ?_
        clear E a; intro a E
        refine S_v E rfl (R_loadM E rfl Try.isAgg3 S.imm qp_7) rfl ?_
        clear E a; intro a E
        refine S_v E rfl (R_assign E rfl) rfl ?_
        clear E a; intro a E
        refine WL_nil ?_
        refine T_n ?_
        refine WP_seq ?_
        refine WP_region ?_
        refine S_v E rfl (R_fieldAddr E rfl (FA64_1 _)) rfl ?_
        clear E a; intro a E
        refine S_v E rfl (R_loadM E rfl Try.isAgg3 S.imm (cellM_boxo hb_1 rfl)) rfl ?_
        clear E a; intro a E
        refine S_v E rfl (R_neq E rfl rfl) rfl ?_
        clear E a; intro a E
        refine S_v E rfl (R_move E rfl) rfl ?_
        clear E a; intro a E
        refine split_bool (decide (pn0 ≠ 0)) (fun hc_8 => ?_) (fun hc_8 => ?_)
        · replace E := E.val (t := 28) rfl hc_8
          replace E := E.val (t := 29) rfl hc_8
          replace hc_8 := of_decide_eq_true hc_8
          refine WL_guard_yes E rfl rfl ?_
          refine S_v E rfl (R_move E rfl) rfl ?_
          clear E a; intro a E
          refine WL_guard_yes E rfl rfl ?_
          refine S_v E rfl (R_fieldAddr E rfl (FA64_1 _)) rfl ?_
          clear E a; intro a E
          refine WL_guard_yes E rfl rfl ?_
          refine S_v E rfl (R_loadM E rfl Try.isAgg3 S.imm (cellM_boxo hb_1 rfl)) rfl ?_
          clear E a; intro a E
          refine WL_guard_yes E rfl rfl ?_
          refine S_x (X_pu E S rfl rfl rfl (spec_mod (by first | omega | assumption) (by omega) (by omega)) (Hp.le.refl _) ?_)
          clear E a S; rintro a _ w M_9 hM_9 rfl S E
          replace hw0 := hw0.le hM_9
          replace hb_1 := hM_9.2 _ _ hb_1
          refine WL_guard_yes E rfl rfl ?_
          refine S_v E rfl (R_move E rfl) rfl ?_
          clear E a; intro a E
          refine WL_guard_yes E rfl rfl ?_
          refine S_v E rfl (R_eql E rfl rfl) rfl ?_
          clear E a; intro a E
          refine S_v E rfl (R_pickT E rfl rfl) rfl ?_
          clear E a; intro a E
          refine S_v E rfl (R_assign E rfl) rfl ?_
          clear E a; intro a E
          refine WL_nil ?_
          refine T_n ?_
          refine WP_ret ?_
          refine B_r ?_
          refine T_r ?_
          exact F_ret1 E Try.results121 rfl ⟨_, rfl, M_9, (hM_2.trans hM_9), (congrArg Value.bool (by (clear E S; unfold predAt; first | (have e := (first_eq (l := pl0) (by assumption)).1; simp_all; done) | (have e : pl0 = [] := List.eq_nil_of_length_eq_zero (by omega); simp_all; done) | (simp_all; done)))), S⟩
        · replace E := E.val (t := 28) rfl hc_8
          replace E := E.val (t := 29) rfl hc_8
          replace hc_8 := of_decide_eq_false hc_8
          refine WL_guard_no E rfl rfl rfl rfl fun a E => ?_
          refine WL_guard_no E rfl rfl rfl rfl fun a E => ?_
          refine WL_guard_no E rfl rfl rfl rfl fun a E => ?_
          refine WL_guard_no E rfl rfl rfl rfl fun a E => ?_
          refine WL_guard_no E rfl rfl rfl rfl fun a E => ?_
          refine WL_guard_no E rfl rfl rfl rfl fun a E => ?_
          refine S_v E rfl (R_pickF E rfl rfl) rfl ?_
          clear E a; intro a E
          refine S_v E rfl (R_assign E rfl) rfl ?_
          clear E a; intro a E
          refine WL_nil ?_
          refine T_n ?_
          refine WP_ret ?_
          refine B_r ?_
          refine T_r ?_
          exact F_ret1 E Try.results121 rfl ⟨_, rfl, M_2, hM_2, (congrArg Value.bool (by (clear E S; unfold predAt; first | (have e := (first_eq (l := pl0) (by assumption)).1; simp_all; done) | (have e : pl0 = [] := List.eq_nil_of_length_eq_zero (by omega); simp_all; done) | (simp_all; done)))), S⟩
      · replace hc_5 := of_decide_eq_false hc_5
        refine WP_skip ?_
        refine T_n ?_
        refine WP_seq ?_
        refine WP_region ?_
        refine S_v E rfl (R_fieldAddr E rfl (FA64_1 _)) rfl ?_
        clear E a; intro a E
        refine S_v E rfl (R_loadM E rfl Try.isAgg3 S.imm (cellM_boxo hb_1 rfl)) rfl ?_
        clear E a; intro a E
        refine S_v E rfl (R_neq E rfl rfl) rfl ?_
        clear E a; intro a E
        refine S_v E rfl (R_move E rfl) rfl ?_
        clear E a; intro a E
        refine split_bool (decide (pn0 ≠ 0)) (fun hc_10 => ?_) (fun hc_10 => ?_)
        · replace E := E.val (t := 28) rfl hc_10
          replace E := E.val (t := 29) rfl hc_10
          replace hc_10 := of_decide_eq_true hc_10
          refine WL_guard_yes E rfl rfl ?_
          refine S_v E rfl (R_move E rfl) rfl ?_
          clear E a; intro a E
          refine WL_guard_yes E rfl rfl ?_
          refine S_v E rfl (R_fieldAddr E rfl (FA64_1 _)) rfl ?_
          clear E a; intro a E
          refine WL_guard_yes E rfl rfl ?_
          refine S_v E rfl (R_loadM E rfl Try.isAgg3 S.imm (cellM_boxo hb_1 rfl)) rfl ?_
          clear E a; intro a E
          refine WL_guard_yes E rfl rfl ?_
          refine S_x (X_pu E S rfl rfl rfl (spec_mod (by first | omega | assumption) (by omega) (by omega)) (Hp.le.refl _) ?_)
          clear E a S; rintro a _ w M_11 hM_11 rfl S E
          replace hw0 := hw0.le hM_11
          replace hb_1 := hM_11.2 _ _ hb_1
          refine WL_guard_yes E rfl rfl ?_
          refine S_v E rfl (R_move E rfl) rfl ?_
          clear E a; intro a E
          refine WL_guard_yes E rfl rfl ?_
          refine S_v E rfl (R_eql E rfl rfl) rfl ?_
          clear E a; intro a E
          refine S_v E rfl (R_pickT E rfl rfl) rfl ?_
          clear E a; intro a E
          refine S_v E rfl (R_assign E rfl) rfl ?_
          clear E a; intro a E
          refine WL_nil ?_
          refine T_n ?_
          refine WP_ret ?_
          refine B_r ?_
          refine T_r ?_
          exact F_ret1 E Try.results121 rfl ⟨_, rfl, M_11, (hM_2.trans hM_11), (congrArg Value.bool (by (clear E S; unfold predAt; first | (have e := (first_eq (l := pl0) (by assumption)).1; simp_all; done) | (have e : pl0 = [] := List.eq_nil_of_length_eq_zero (by omega); simp_all; done) | (simp_all; done)))), S⟩
        · replace E := E.val (t := 28) rfl hc_10
          replace E := E.val (t := 29) rfl hc_10
          replace hc_10 := of_decide_eq_false hc_10
          refine WL_guard_no E rfl rfl rfl rfl fun a E => ?_
          refine WL_guard_no E rfl rfl rfl rfl fun a E => ?_
          refine WL_guard_no E rfl rfl rfl rfl fun a E => ?_
          refine WL_guard_no E rfl rfl rfl rfl fun a E => ?_
          refine WL_guard_no E rfl rfl rfl rfl fun a E => ?_
          refine WL_guard_no E rfl rfl rfl rfl fun a E => ?_
          refine S_v E rfl (R_pickF E rfl rfl) rfl ?_
          clear E a; intro a E
          refine S_v E rfl (R_assign E rfl) rfl ?_
          clear E a; intro a E
          refine WL_nil ?_
          refine T_n ?_
          refine WP_ret ?_
          refine B_r ?_
          refine T_r ?_
          exact F_ret1 E Try.results121 rfl ⟨_, rfl, M_2, hM_2, (congrArg Value.bool (by (clear E S; unfold predAt; first | (have e := (first_eq (l := pl0) (by assumption)).1; simp_all; done) | (have e : pl0 = [] := List.eq_nil_of_length_eq_zero (by omega); simp_all; done) | (simp_all; done)))), S⟩
    · replace hc_4 := of_decide_eq_false hc_4
      refine WP_seq ?_
      refine WP_region ?_
      refine S_v E rfl (R_eql E rfl rfl) rfl ?_
      clear E a; intro a E
      refine S_v E rfl (R_assign E rfl) rfl ?_
      clear E a; intro a E
      refine WL_nil ?_
      refine T_n ?_
      refine WP_cond E rfl (fun hc_12 => ?_) (fun hc_12 => ?_)
      · replace hc_12 := of_decide_eq_true hc_12
        refine WP_seq ?_
        refine WP_region ?_
        refine S_v E rfl (R_fieldAddr E rfl (FA64_2 _)) rfl ?_
        clear E a; intro a E
        refine S_v E rfl (R_loadM E rfl Try.isAgg22 S.imm (cellM_boxo hb_1 rfl)) rfl ?_
        clear E a; intro a E
        refine S_v E rfl (R_move E rfl) rfl ?_
        clear E a; intro a E
        refine S_x (X_pu E S rfl rfl rfl (spec_Contains hw0) (Hp.le.refl _) ?_)
        clear E a S; rintro a _ w M_13 hM_13 rfl S E
        replace hw0 := hw0.le hM_13
        replace hb_1 := hM_13.2 _ _ hb_1
        refine S_v E rfl (R_assign E rfl) rfl ?_
        clear E a; intro a E
        refine WL_nil ?_
        refine T_n ?_
        refine WP_ret ?_
        refine B_r ?_
        refine T_r ?_
        exact F_ret1 E Try.results121 rfl ⟨_, rfl, M_13, (hM_2.trans hM_13), (congrArg Value.bool (by (clear E S; unfold predAt; first | (have e := (first_eq (l := pl0) (by assumption)).1; simp_all; done) | (have e : pl0 = [] := List.eq_nil_of_length_eq_zero (by omega); simp_all; done) | (simp_all; done)))), S⟩
      · replace hc_12 := of_decide_eq_false hc_12
        refine WP_seq ?_
        refine WP_region ?_
        refine S_v E rfl (R_eql E rfl rfl) rfl ?_
        clear E a; intro a E
        refine S_v E rfl (R_assign E rfl) rfl ?_
        clear E a; intro a E
        refine WL_nil ?_
        refine T_n ?_
        refine WP_cond E rfl (fun hc_14 => ?_) (fun hc_14 => ?_)
        · replace hc_14 := of_decide_eq_true hc_14
          refine WP_seq ?_
          refine WP_region ?_
          refine S_v E rfl (R_move E rfl) rfl ?_
          clear E a; intro a E
          refine S_v E rfl (R_rem E rfl rfl (by first | decide | omega)) rfl ?_
          clear E a; intro a E
          refine S_v E rfl (R_eql E rfl rfl) rfl ?_
          clear E a; intro a E
          refine S_v E rfl (R_assign E rfl) rfl ?_
          clear E a; intro a E
          refine WL_nil ?_
          refine T_n ?_
          refine WP_ret ?_
          refine B_r ?_
          refine T_r ?_
          exact F_ret1 E Try.results121 rfl ⟨_, rfl, M_2, hM_2, (congrArg Value.bool (by (clear E S; unfold predAt; first | (have e := (first_eq (l := pl0) (by assumption)).1; simp_all; done) | (have e : pl0 = [] := List.eq_nil_of_length_eq_zero (by omega); simp_all; done) | (simp_all; done)))), S⟩
        · replace hc_14 := of_decide_eq_false hc_14
          refine WP_skip ?_
          refine B_n ?_
          refine T_n ?_
          refine WP_seq ?_
          refine WP_region ?_
          refine S_v E rfl (R_fieldAddr E rfl (FA64_0 _)) rfl ?_
          clear E a; intro a E
          refine S_v E rfl (R_loadM E rfl Try.isAgg3 S.imm (cellM_boxo hb_1 rfl)) rfl ?_
          clear E a; intro a E
          refine S_v E rfl (R_eql E rfl rfl) rfl ?_
          clear E a; intro a E
          refine S_v E rfl (R_assign E rfl) rfl ?_
          clear E a; intro a E
          refine WL_nil ?_
          refine T_n ?_
          refine WP_ret ?_
          exact F_ret1 E Try.results121 rfl ⟨_, rfl, M_2, hM_2, (congrArg Value.bool (by (clear E S; unfold predAt; first | (have e := (first_eq (l := pl0) (by assumption)).1; simp_all; done) | (have e : pl0 = [] := List.eq_nil_of_length_eq_zero (by omega); simp_all; done) | (simp_all; done)))), S⟩
theorem SPred_Holds {M : Hp} {pk0 pn0 : Int} {w0 : Value} {pl0 : List Int} (hw0 : RdI M w0 pl0) (gn0 : -9223372036854775808 ≤ pn0 ∧ pn0 ≤ 9223372036854775807){x1 x2 : Int} (gx : -9223372036854775808 ≤ x1 ∧ x1 ≤ 9223372036854775807) :
    Pu Try.prog (.func (.func 121) #[.agg #[.int .i64 pk0, .int .i64 pn0, w0]] #[]) M [.int .i64 x1, .int .i64 x2] (fun r M' => r = .bool (predAt pk0 pn0 pl0 x1 x2)) := PuC.pu Try.call121 rfl (SPred_Holds_c hw0 gn0 gx)
theorem SPred_Holds_d {M : Hp} {pk0 pn0 : Int} {w0 : Value} {pl0 : List Int} (hw0 : RdI M w0 pl0) (gn0 : -9223372036854775808 ≤ pn0 ∧ pn0 ≤ 9223372036854775807){x1 x2 : Int} (gx : -9223372036854775808 ≤ x1 ∧ x1 ≤ 9223372036854775807) :
    Pu Try.prog (.func (.func 121) #[] #[]) M [.agg #[.int .i64 pk0, .int .i64 pn0, w0], .int .i64 x1, .int .i64 x2] (fun r M' => r = .bool (predAt pk0 pn0 pl0 x1 x2)) := PuC.pu Try.call121 rfl (SPred_Holds_c hw0 gn0 gx)

set_option maxRecDepth 100000 in
set_option maxHeartbeats 4000000 in
theorem spec_PickBy1 {M : Hp} {pk9 pn9 : Int} {w9 : Value} {pl9 : List Int} (hw9 : RdI M w9 pl9) (gn9 : -9223372036854775808 ≤ pn9 ∧ pn9 ≤ 9223372036854775807) {bx9 : Nat} (hbx9 : M bx9 = some (.cells #[.int .i64 pk9, .int .i64 pn9, w9] 64)) {x0 y0 : Int} (gx : (-9223372036854775808 ≤ x0 ∧ x0 ≤ 9223372036854775807) ∧ (-9223372036854775808 ≤ y0 ∧ y0 ≤ 9223372036854775807)) :
    Pu Try.prog (.func (.func 143) #[] #[.pointer (some ⟨bx9, 0, none⟩)]) M [.agg #[.int .i64 x0, .int .i64 y0]] (fun r M' => r = .bool (predAt pk9 pn9 pl9 x0 y0)) := by
  refine Pu_enter Try.func143 rfl Try.ntmps143 rfl Try.call143 ?_
  intro a w M1 H hM1 S E
  replace hbx9 := hM1.2 _ _ hbx9
  replace hw9 := hw9.le hM1
  refine WP_seq ?_
  refine WP_region ?_
  refine S_x (X_box (cs := #[.int .i64 x0, .int .i64 y0]) E S rfl rfl rfl ?_)
  clear E a S; rintro a w b_1 E S
  obtain ⟨M_2, hM_2, hb_1, S⟩ := S.freezeB
  replace hbx9 := hM_2.2 _ _ hbx9
  replace hw9 := hw9.le hM_2
  refine S_v E rfl (R_assign E rfl) rfl ?_
  clear E a; intro a E
  refine WL_nil ?_
  refine T_n ?_
  refine WP_seq ?_
  refine WP_region ?_
  refine S_v E rfl (R_loadGM E rfl (Try.isAgg64 _) (Try.sizeOf64 _) S.imm hbx9) rfl ?_
  clear E a; intro a E
  refine S_v E rfl (R_fieldAddr E rfl (FA119_0 _)) rfl ?_
  clear E a; intro a E
  refine S_v E rfl (R_loadM E rfl Try.isAgg3 S.imm (cellM_boxo hb_1 rfl)) rfl ?_
  clear E a; intro a E
  refine S_v E rfl (R_fieldAddr E rfl (FA119_1 _)) rfl ?_
  clear E a; intro a E
  refine S_v E rfl (R_loadM E rfl Try.isAgg3 S.imm (cellM_boxo hb_1 rfl)) rfl ?_
  clear E a; intro a E
  refine S_x (X_pu E S rfl rfl rfl (SPred_Holds_d hw9 (by omega) (by first | omega | assumption | exact hr0 _ (List.mem_of_getElem? (by assumption)))) (Hp.le.refl _) ?_)
  clear E a S; rintro a _ w M_3 hM_3 rfl S E
  replace hbx9 := hM_3.2 _ _ hbx9
  replace hw9 := hw9.le hM_3
  replace hb_1 := hM_3.2 _ _ hb_1
  refine S_v E rfl (R_assign E rfl) rfl ?_
  clear E a; intro a E
  refine WL_nil ?_
  refine T_n ?_
  refine WP_ret ?_
  exact F_ret1 E Try.results143 rfl ⟨_, rfl, M_3, (hM_2.trans hM_3), rfl, S⟩

set_option maxRecDepth 100000 in
set_option maxHeartbeats 4000000 in
theorem spec_PickBy {M : Hp} {v0 : Value} {l0 : List (Int × Int)} (h0 : RdS 2 RP2 M v0 l0){pk1 pn1 : Int} {w1 : Value} {pl1 : List Int} (hw1 : RdI M w1 pl1) (gn1 : -9223372036854775808 ≤ pn1 ∧ pn1 ≤ 9223372036854775807) (hb : l0.length ≤ 1000000000000) (hr0 : ∀ x ∈ l0, (-9223372036854775808 ≤ x.1 ∧ x.1 ≤ 9223372036854775807) ∧ (-9223372036854775808 ≤ x.2 ∧ x.2 ≤ 9223372036854775807)) :
    Pu Try.prog (.func (.func 72) #[] #[]) M [v0, .agg #[.int .i64 pk1, .int .i64 pn1, w1]] (fun r M' => RdS 2 RP2 M' r (entE ((mkE l0).filter (fun e : Int × Int => predAt pk1 pn1 pl1 e.1 e.2)))) := by
  refine Pu_enter Try.func72 rfl Try.ntmps72 rfl Try.call72 ?_
  intro a w M1 H hM1 S E
  replace h0 := h0.le RP2_mono hM1
  replace hw1 := hw1.le hM1
  have b0 := h0.bound
  refine WP_seq ?_
  refine WP_region ?_
  refine S_x (X_box (cs := #[.int .i64 pk1, .int .i64 pn1, w1]) E S rfl rfl rfl ?_)
  clear E a S; rintro a w b_1 E S
  obtain ⟨M_2, hM_2, hb_1, S⟩ := S.freezeB
  replace h0 := h0.le RP2_mono hM_2
  replace hw1 := hw1.le hM_2
  refine S_v E rfl (R_assign E rfl) rfl ?_
  clear E a; intro a E
  refine WL_nil ?_
  refine T_n ?_
  refine WP_seq ?_
  refine WP_region ?_
  refine S_v E rfl (R_move E rfl) rfl ?_
  clear E a; intro a E
  refine S_v E rfl (R_makeFunc E rfl rfl) rfl ?_
  clear E a; intro a E
  refine S_x (X_pu E S rfl rfl rfl (spec_picked h0 (f1 := (fun e : Int × Int => predAt pk1 pn1 pl1 e.1 e.2)) ⟨rfl, fun zx0 zy0 zg => spec_PickBy1 (x0 := zx0) (y0 := zy0) hw1 (by omega) hb_1 zg⟩ (by first | omega | (simp [ixm_len]; done) | (simp [ixm_len]; omega) | (have h9 := kpix_len _ _ _; exact Nat.le_trans h9 (by omega)) | exact Nat.le_trans (kpix_len _ _ _) (by first | omega | (simp; omega))) (by assumption)) (Hp.le.refl _) ?_)
  clear E a S; rintro a v_4 w M_3 hM_3 hv_4 S E
  replace h0 := h0.le RP2_mono hM_3
  replace hw1 := hw1.le hM_3
  replace hb_1 := hM_3.2 _ _ hb_1
  refine S_v E rfl (R_assign E rfl) rfl ?_
  clear E a; intro a E
  refine WL_nil ?_
  refine T_n ?_
  refine WP_ret ?_
  exact F_ret1 E Try.results72 rfl ⟨_, rfl, M_3, (hM_2.trans hM_3), (by rw [show (entE ((mkE l0).filter (fun e : Int × Int => predAt pk1 pn1 pl1 e.1 e.2))) = (entE ((mkE l0).filter (fun e : Int × Int => (fun e : Int × Int => predAt pk1 pn1 pl1 e.1 e.2) e == true))) from by (first | exact flt_eq (fun e => by simp) | exact (flt_eq (fun e => by simp)).symm)]; exact hv_4), S⟩

set_option maxRecDepth 100000 in
set_option maxHeartbeats 4000000 in
theorem laws_eqRef {M : Hp} {v0 : Value} {l0 : List (Int × Int)} (h0 : RdS 2 RP2 M v0 l0) {v1 : Value} {l1 : List (Int × Int)} (h1 : RdS 2 RP2 M v1 l1) :
    Pu Try.prog (.func (.func 48) #[] #[]) M [v0, v1] (fun r M' => r = .bool (decide (l0 = l1))) := by
  refine Pu_enter Try.func48 rfl Try.ntmps48 rfl Try.call48 ?_
  intro a w M1 H hM1 S E
  replace h0 := h0.le RP2_mono hM1
  replace h1 := h1.le RP2_mono hM1
  have b0 := h0.bound
  have b1 := h1.bound
  refine WP_seq ?_
  refine WP_region ?_
  refine S_v E rfl (R_assign E rfl) rfl ?_
  clear E a; intro a E
  refine WL_nil ?_
  refine T_n ?_
  refine WP_seq ?_
  refine WP_seq ?_
  refine WP_region ?_
  refine S_v E rfl (R_move E rfl) rfl ?_
  clear E a; intro a E
  refine S_v E rfl (R_lenV E rfl T33 h0.len) rfl ?_
  clear E a; intro a E
  refine S_v E rfl (R_move E rfl) rfl ?_
  clear E a; intro a E
  refine S_v E rfl (R_lenV E rfl T61 h1.len) rfl ?_
  clear E a; intro a E
  refine S_v E rfl (R_neq E rfl rfl) rfl ?_
  clear E a; intro a E
  refine WL_nil ?_
  refine T_n ?_
  refine WP_cond E rfl (fun hc_1 => ?_) (fun hc_1 => ?_)
  · replace hc_1 := of_decide_eq_true hc_1
    refine WP_seq ?_
    refine WP_region ?_
    refine S_v E rfl (R_assign E rfl) rfl ?_
    clear E a; intro a E
    refine WL_nil ?_
    refine T_n ?_
    refine WP_ret ?_
    refine T_r ?_
    exact F_ret1 E Try.results48 rfl ⟨_, rfl, M1, (Hp.le.refl _), (bF (by (first | (simp; done) | exact eqp_no (by assumption) (by assumption) (p2_ne (by assumption)) | (have h9 : l0.take k = l1.take k := (by assumption); rwa [List.take_of_length_le (by omega), List.take_of_length_le (by omega)] at h9) | (intro h9; subst h9; omega) | (intro h9; subst h9; simp_all; done)))), S⟩
  · replace hc_1 := of_decide_eq_false hc_1
    refine WP_skip ?_
    refine T_n ?_
    refine WP_seq ?_
    refine WP_seq ?_
    refine WP_region ?_
    refine S_v E rfl (R_move E rfl) rfl ?_
    clear E a; intro a E
    refine S_v E rfl (R_lenV E rfl T33 h0.len) rfl ?_
    clear E a; intro a E
    refine S_v E rfl (R_move E rfl) rfl ?_
    clear E a; intro a E
    refine WL_nil ?_
    refine T_n ?_
    refine WP_block ?_
    refine WP_loop (γ := Nat) (fun (k : Nat) a w => ∃ (M_2 : Hp), Hp.le M1 M_2 ∧ St w M_2 (H) ∧ Env a 26 [] [(0, v0), (1, v1), (12, .int .i64 (((l0).length : Nat) : Int)), (13, .int .i64 ((k : Nat) : Int))] ∧ (k ≤ (l0).length) ∧ (l0.length = l1.length) ∧ (l0.take k = l1.take k)) (fun k => ((l0).length) - k) 0 ⟨M1, Hp.le.refl _, S, E.keep ⟨rfl, rfl, rfl, rfl, trivial⟩, by ((try clear S); (try clear E); first | assumption | omega | rfl | (simp; done) | (simp_all; done) | (simp [List.take_add_one, *]; done) | grind [List.take_add_one]), by ((try clear S); (try clear E); first | assumption | omega | rfl | (simp; done) | (simp_all; done) | (simp [List.take_add_one, *]; done) | grind [List.take_add_one]), by ((try clear S); (try clear E); first | assumption | omega | rfl | (simp; done) | (simp_all; done) | (simp [List.take_add_one, *]; done) | grind [List.take_add_one])⟩ ?_
    try clear E
    try clear S
    try clear a
    try clear w
    rintro k a w ⟨M_2, hM_2, S, E, hL0_0, hL0_1, hL0_2⟩
    replace h0 := h0.le RP2_mono hM_2
    replace h1 := h1.le RP2_mono hM_2
    refine WP_seq ?_
    refine WP_region ?_
    refine S_v E rfl (R_lss E rfl rfl) rfl ?_
    clear E a; intro a E
    refine WL_nil ?_
    refine T_n ?_
    refine WP_seq ?_
    refine WP_cond E rfl (fun hc_3 => ?_) (fun hc_3 => ?_)
    · replace hc_3 := of_decide_eq_true hc_3
      refine WP_skip ?_
      refine T_n ?_
      refine WP_seq ?_
      refine WP_block ?_
      refine WP_seq ?_
      refine WP_region ?_
      refine S_v E rfl (R_move E rfl) rfl ?_
      clear E a; intro a E
      refine S_v E rfl (R_assign E rfl) rfl ?_
      clear E a; intro a E
      refine WL_nil ?_
      refine T_n ?_
      refine WP_seq ?_
      replace S := S.mono_heap (w' := World.drew _) rfl
      refine WP_drawn (C := fun x w => agree M_2 w) (bf := (fun i => [])) [0, 1, 2, 3, 4, 5, 6, 7, 8] [0, 1, 2, 3, 4, 5, 6, 7, 8] Try.mixed (by kernel_rfl) (fun x hq => S.imm) ?_
      refine D_v E rfl rfl rfl (fun w hC => (R_move E rfl)) ?_
      clear E a; intro a E
      refine D_v E rfl rfl rfl (fun w hC => (R_move E rfl)) ?_
      clear E a; intro a E
      obtain ⟨x_4, hx_4⟩ : ∃ x, (l0)[k]? = some x := ⟨_, List.getElem?_eq_getElem (by first | omega | (simp; done) | (simp; omega) | (simp_all; omega))⟩
      obtain ⟨p_5, hp_5, qp_5⟩ := RdP2.at h0 hx_4
      refine D_v E rfl rfl rfl (fun w hC => (R_idx E rfl rfl T33 hp_5 rfl)) ?_
      clear E a; intro a E
      refine D_v E rfl rfl rfl (fun w hC => (R_loadA (cs := [.int .i64 x_4.1, .int .i64 x_4.2]) E rfl (Try.isAgg59 _) (Try.sizeOf59 _) hC qp_5)) ?_
      clear E a; intro a E
      refine D_v E rfl rfl rfl (fun w hC => (R_move E rfl)) ?_
      clear E a; intro a E
      refine D_v E rfl rfl rfl (fun w hC => (R_move E rfl)) ?_
      clear E a; intro a E
      obtain ⟨x_6, hx_6⟩ : ∃ x, (l1)[k]? = some x := ⟨_, List.getElem?_eq_getElem (by first | omega | (simp; done) | (simp; omega) | (simp_all; omega))⟩
      obtain ⟨p_7, hp_7, qp_7⟩ := RdP2.at h1 hx_6
      refine D_v E rfl rfl rfl (fun w hC => (R_idx E rfl rfl T61 hp_7 rfl)) ?_
      clear E a; intro a E
      refine D_v E rfl rfl rfl (fun w hC => (R_loadA (cs := [.int .i64 x_6.1, .int .i64 x_6.2]) E rfl (Try.isAgg119 _) (Try.sizeOf119 _) hC qp_7)) ?_
      clear E a; intro a E
      refine D_v E rfl rfl rfl (fun w hC => (R_neqA E rfl rfl (by kernel_rfl) (EQ119 x_4.1 x_4.2 x_6.1 x_6.2 _))) ?_
      clear E a; intro a E
      refine D_end (NoP_n ?_)
      refine T_n ?_
      refine WP_cond E rfl (fun hc_8 => ?_) (fun hc_8 => ?_)
      · replace hc_8 := of_decide_eq_true hc_8
        refine WP_seq ?_
        refine WP_region ?_
        refine S_v E rfl (R_assign E rfl) rfl ?_
        clear E a; intro a E
        refine WL_nil ?_
        refine T_n ?_
        refine WP_ret ?_
        refine B_r ?_
        refine T_r ?_
        refine T_r ?_
        refine B_r ?_
        refine T_r ?_
        exact F_ret1 E Try.results48 rfl ⟨_, rfl, M_2, hM_2, (bF (by (first | (simp; done) | exact eqp_no (by assumption) (by assumption) (p2_ne (by assumption)) | (have h9 : l0.take k = l1.take k := (by assumption); rwa [List.take_of_length_le (by omega), List.take_of_length_le (by omega)] at h9) | (intro h9; subst h9; omega) | (intro h9; subst h9; simp_all; done)))), S⟩
      · replace hc_8 := of_decide_eq_false hc_8
        refine WP_skip ?_
        refine B_n ?_
        refine T_n ?_
        refine WP_region ?_
        refine S_v E rfl (R_addx (m := ((k + 1 : Nat) : Int)) E rfl rfl (by omega) (by omega)) rfl ?_
        clear E a; intro a E
        refine S_v E rfl (R_move E rfl) rfl ?_
        clear E a; intro a E
        refine WL_nil ?_
        refine T_n ?_
        exact ⟨k + 1, ⟨M_2, hM_2, S, E.keep ⟨rfl, rfl, rfl, rfl, trivial⟩, by ((try clear S); (try clear E); first | assumption | omega | rfl | (simp; done) | (simp_all; done) | (simp [List.take_add_one, *]; done) | grind [List.take_add_one]), by ((try clear S); (try clear E); first | assumption | omega | rfl | (simp; done) | (simp_all; done) | (simp [List.take_add_one, *]; done) | grind [List.take_add_one]), (by exact eqp_step (by assumption) (by assumption) (by assumption) (p2_eq (by first | assumption | exact Decidable.not_not.1 (by assumption))))⟩, by omega⟩
    · replace hc_3 := of_decide_eq_false hc_3
      refine WP_exit ?_
      refine T_x ?_
      refine T_x ?_
      refine B_x ?_
      refine T_n ?_
      refine WP_seq ?_
      refine WP_region ?_
      refine S_v E rfl (R_assign E rfl) rfl ?_
      clear E a; intro a E
      refine WL_nil ?_
      refine T_n ?_
      refine WP_ret ?_
      exact F_ret1 E Try.results48 rfl ⟨_, rfl, M_2, hM_2, (bT (by (first | (simp; done) | exact eqp_no (by assumption) (by assumption) (p2_ne (by assumption)) | (have h9 : l0.take k = l1.take k := (by assumption); rwa [List.take_of_length_le (by omega), List.take_of_length_le (by omega)] at h9) | (intro h9; subst h9; omega) | (intro h9; subst h9; simp_all; done)))), S⟩

set_option maxRecDepth 100000 in
set_option maxHeartbeats 4000000 in
theorem spec_OmitBy1 {M : Hp} {pk9 pn9 : Int} {w9 : Value} {pl9 : List Int} (hw9 : RdI M w9 pl9) (gn9 : -9223372036854775808 ≤ pn9 ∧ pn9 ≤ 9223372036854775807) {bx9 : Nat} (hbx9 : M bx9 = some (.cells #[.int .i64 pk9, .int .i64 pn9, w9] 64)) {x0 y0 : Int} (gx : (-9223372036854775808 ≤ x0 ∧ x0 ≤ 9223372036854775807) ∧ (-9223372036854775808 ≤ y0 ∧ y0 ≤ 9223372036854775807)) :
    Pu Try.prog (.func (.func 144) #[] #[.pointer (some ⟨bx9, 0, none⟩)]) M [.agg #[.int .i64 x0, .int .i64 y0]] (fun r M' => r = .bool (predAt pk9 pn9 pl9 x0 y0)) := by
  refine Pu_enter Try.func144 rfl Try.ntmps144 rfl Try.call144 ?_
  intro a w M1 H hM1 S E
  replace hbx9 := hM1.2 _ _ hbx9
  replace hw9 := hw9.le hM1
  refine WP_seq ?_
  refine WP_region ?_
  refine S_x (X_box (cs := #[.int .i64 x0, .int .i64 y0]) E S rfl rfl rfl ?_)
  clear E a S; rintro a w b_1 E S
  obtain ⟨M_2, hM_2, hb_1, S⟩ := S.freezeB
  replace hbx9 := hM_2.2 _ _ hbx9
  replace hw9 := hw9.le hM_2
  refine S_v E rfl (R_assign E rfl) rfl ?_
  clear E a; intro a E
  refine WL_nil ?_
  refine T_n ?_
  refine WP_seq ?_
  refine WP_region ?_
  refine S_v E rfl (R_loadGM E rfl (Try.isAgg64 _) (Try.sizeOf64 _) S.imm hbx9) rfl ?_
  clear E a; intro a E
  refine S_v E rfl (R_fieldAddr E rfl (FA119_0 _)) rfl ?_
  clear E a; intro a E
  refine S_v E rfl (R_loadM E rfl Try.isAgg3 S.imm (cellM_boxo hb_1 rfl)) rfl ?_
  clear E a; intro a E
  refine S_v E rfl (R_fieldAddr E rfl (FA119_1 _)) rfl ?_
  clear E a; intro a E
  refine S_v E rfl (R_loadM E rfl Try.isAgg3 S.imm (cellM_boxo hb_1 rfl)) rfl ?_
  clear E a; intro a E
  refine S_x (X_pu E S rfl rfl rfl (SPred_Holds_d hw9 (by omega) (by first | omega | assumption | exact hr0 _ (List.mem_of_getElem? (by assumption)))) (Hp.le.refl _) ?_)
  clear E a S; rintro a _ w M_3 hM_3 rfl S E
  replace hbx9 := hM_3.2 _ _ hbx9
  replace hw9 := hw9.le hM_3
  replace hb_1 := hM_3.2 _ _ hb_1
  refine S_v E rfl (R_assign E rfl) rfl ?_
  clear E a; intro a E
  refine WL_nil ?_
  refine T_n ?_
  refine WP_ret ?_
  exact F_ret1 E Try.results144 rfl ⟨_, rfl, M_3, (hM_2.trans hM_3), rfl, S⟩

set_option maxRecDepth 100000 in
set_option maxHeartbeats 4000000 in
theorem spec_OmitBy {M : Hp} {v0 : Value} {l0 : List (Int × Int)} (h0 : RdS 2 RP2 M v0 l0){pk1 pn1 : Int} {w1 : Value} {pl1 : List Int} (hw1 : RdI M w1 pl1) (gn1 : -9223372036854775808 ≤ pn1 ∧ pn1 ≤ 9223372036854775807) (hb : l0.length ≤ 1000000000000) (hr0 : ∀ x ∈ l0, (-9223372036854775808 ≤ x.1 ∧ x.1 ≤ 9223372036854775807) ∧ (-9223372036854775808 ≤ x.2 ∧ x.2 ≤ 9223372036854775807)) :
    Pu Try.prog (.func (.func 73) #[] #[]) M [v0, .agg #[.int .i64 pk1, .int .i64 pn1, w1]] (fun r M' => RdS 2 RP2 M' r (entE ((mkE l0).filter (fun e : Int × Int => !predAt pk1 pn1 pl1 e.1 e.2)))) := by
  refine Pu_enter Try.func73 rfl Try.ntmps73 rfl Try.call73 ?_
  intro a w M1 H hM1 S E
  replace h0 := h0.le RP2_mono hM1
  replace hw1 := hw1.le hM1
  have b0 := h0.bound
  refine WP_seq ?_
  refine WP_region ?_
  refine S_x (X_box (cs := #[.int .i64 pk1, .int .i64 pn1, w1]) E S rfl rfl rfl ?_)
  clear E a S; rintro a w b_1 E S
  obtain ⟨M_2, hM_2, hb_1, S⟩ := S.freezeB
  replace h0 := h0.le RP2_mono hM_2
  replace hw1 := hw1.le hM_2
  refine S_v E rfl (R_assign E rfl) rfl ?_
  clear E a; intro a E
  refine WL_nil ?_
  refine T_n ?_
  refine WP_seq ?_
  refine WP_region ?_
  refine S_v E rfl (R_move E rfl) rfl ?_
  clear E a; intro a E
  refine S_v E rfl (R_makeFunc E rfl rfl) rfl ?_
  clear E a; intro a E
  refine S_x (X_pu E S rfl rfl rfl (spec_picked h0 (f1 := (fun e : Int × Int => predAt pk1 pn1 pl1 e.1 e.2)) ⟨rfl, fun zx0 zy0 zg => spec_OmitBy1 (x0 := zx0) (y0 := zy0) hw1 (by omega) hb_1 zg⟩ (by first | omega | (simp [ixm_len]; done) | (simp [ixm_len]; omega) | (have h9 := kpix_len _ _ _; exact Nat.le_trans h9 (by omega)) | exact Nat.le_trans (kpix_len _ _ _) (by first | omega | (simp; omega))) (by assumption)) (Hp.le.refl _) ?_)
  clear E a S; rintro a v_4 w M_3 hM_3 hv_4 S E
  replace h0 := h0.le RP2_mono hM_3
  replace hw1 := hw1.le hM_3
  replace hb_1 := hM_3.2 _ _ hb_1
  refine S_v E rfl (R_assign E rfl) rfl ?_
  clear E a; intro a E
  refine WL_nil ?_
  refine T_n ?_
  refine WP_ret ?_
  exact F_ret1 E Try.results73 rfl ⟨_, rfl, M_3, (hM_2.trans hM_3), (by rw [show (entE ((mkE l0).filter (fun e : Int × Int => !predAt pk1 pn1 pl1 e.1 e.2))) = (entE ((mkE l0).filter (fun e : Int × Int => (fun e : Int × Int => predAt pk1 pn1 pl1 e.1 e.2) e == false))) from by (first | exact flt_eq (fun e => by simp) | exact (flt_eq (fun e => by simp)).symm)]; exact hv_4), S⟩

set_option maxRecDepth 100000 in
set_option maxHeartbeats 4000000 in
theorem spec_PickByKeys1 {M : Hp} {v9 : Value} {l9 : List Int} (h9 : RdI M v9 l9) {bx9 : Nat} (hbx9 : M bx9 = some (.cells #[v9] 22)) {x0 y0 : Int} (gx : (-9223372036854775808 ≤ x0 ∧ x0 ≤ 9223372036854775807) ∧ (-9223372036854775808 ≤ y0 ∧ y0 ≤ 9223372036854775807)) :
    Pu Try.prog (.func (.func 145) #[] #[.pointer (some ⟨bx9, 0, none⟩)]) M [.agg #[.int .i64 x0, .int .i64 y0]] (fun r M' => r = .bool (decide (x0 ∈ l9))) := by
  refine Pu_enter Try.func145 rfl Try.ntmps145 rfl Try.call145 ?_
  intro a w M1 H hM1 S E
  replace hbx9 := hM1.2 _ _ hbx9
  replace h9 := h9.le hM1
  refine WP_seq ?_
  refine WP_region ?_
  refine S_x (X_box (cs := #[.int .i64 x0, .int .i64 y0]) E S rfl rfl rfl ?_)
  clear E a S; rintro a w b_1 E S
  obtain ⟨M_2, hM_2, hb_1, S⟩ := S.freezeB
  replace hbx9 := hM_2.2 _ _ hbx9
  replace h9 := h9.le hM_2
  refine S_v E rfl (R_assign E rfl) rfl ?_
  clear E a; intro a E
  refine WL_nil ?_
  refine T_n ?_
  refine WP_seq ?_
  refine WP_region ?_
  refine S_v E rfl (R_loadM E rfl Try.isAgg22 S.imm (cellM_box hbx9)) rfl ?_
  clear E a; intro a E
  refine S_v E rfl (R_fieldAddr E rfl (FA119_0 _)) rfl ?_
  clear E a; intro a E
  refine S_v E rfl (R_loadM E rfl Try.isAgg3 S.imm (cellM_boxo hb_1 rfl)) rfl ?_
  clear E a; intro a E
  refine S_x (X_pu E S rfl rfl rfl (spec_Contains h9) (Hp.le.refl _) ?_)
  clear E a S; rintro a _ w M_3 hM_3 rfl S E
  replace hbx9 := hM_3.2 _ _ hbx9
  replace h9 := h9.le hM_3
  replace hb_1 := hM_3.2 _ _ hb_1
  refine S_v E rfl (R_assign E rfl) rfl ?_
  clear E a; intro a E
  refine WL_nil ?_
  refine T_n ?_
  refine WP_ret ?_
  exact F_ret1 E Try.results145 rfl ⟨_, rfl, M_3, (hM_2.trans hM_3), rfl, S⟩

set_option maxRecDepth 100000 in
set_option maxHeartbeats 4000000 in
theorem spec_PickByKeys {M : Hp} {v0 : Value} {l0 : List (Int × Int)} (h0 : RdS 2 RP2 M v0 l0) {v1 : Value} {l1 : List Int} (h1 : RdI M v1 l1) (hb : l0.length ≤ 1000000000000) (hr0 : ∀ x ∈ l0, (-9223372036854775808 ≤ x.1 ∧ x.1 ≤ 9223372036854775807) ∧ (-9223372036854775808 ≤ x.2 ∧ x.2 ≤ 9223372036854775807)) :
    Pu Try.prog (.func (.func 74) #[] #[]) M [v0, v1] (fun r M' => RdS 2 RP2 M' r (entE ((mkE l0).filter (fun e : Int × Int => decide (e.1 ∈ l1))))) := by
  refine Pu_enter Try.func74 rfl Try.ntmps74 rfl Try.call74 ?_
  intro a w M1 H hM1 S E
  replace h0 := h0.le RP2_mono hM1
  replace h1 := h1.le hM1
  have b0 := h0.bound
  have b1 := h1.bound
  refine WP_seq ?_
  refine WP_region ?_
  refine S_x (X_box (cs := #[v1]) E S rfl rfl (cells_one (RdS.one' h1)) ?_)
  clear E a S; rintro a w b_1 E S
  obtain ⟨M_2, hM_2, hb_1, S⟩ := S.freezeB
  replace h0 := h0.le RP2_mono hM_2
  replace h1 := h1.le hM_2
  refine S_v E rfl (R_assign E rfl) rfl ?_
  clear E a; intro a E
  refine WL_nil ?_
  refine T_n ?_
  refine WP_seq ?_
  refine WP_region ?_
  refine S_v E rfl (R_move E rfl) rfl ?_
  clear E a; intro a E
  refine S_v E rfl (R_makeFunc E rfl rfl) rfl ?_
  clear E a; intro a E
  refine S_x (X_pu E S rfl rfl rfl (spec_picked h0 (f1 := (fun t : Int × Int => decide (t.1 ∈ l1))) ⟨rfl, fun zx0 zy0 zg => spec_PickByKeys1 (x0 := zx0) (y0 := zy0) h1 hb_1 zg⟩ (by first | omega | (simp [ixm_len]; done) | (simp [ixm_len]; omega) | (have h9 := kpix_len _ _ _; exact Nat.le_trans h9 (by omega)) | exact Nat.le_trans (kpix_len _ _ _) (by first | omega | (simp; omega))) (by assumption)) (Hp.le.refl _) ?_)
  clear E a S; rintro a v_4 w M_3 hM_3 hv_4 S E
  replace h0 := h0.le RP2_mono hM_3
  replace h1 := h1.le hM_3
  replace hb_1 := hM_3.2 _ _ hb_1
  refine S_v E rfl (R_assign E rfl) rfl ?_
  clear E a; intro a E
  refine WL_nil ?_
  refine T_n ?_
  refine WP_ret ?_
  exact F_ret1 E Try.results74 rfl ⟨_, rfl, M_3, (hM_2.trans hM_3), (by rw [show (entE ((mkE l0).filter (fun e : Int × Int => decide (e.1 ∈ l1)))) = (entE ((mkE l0).filter (fun e : Int × Int => (fun t : Int × Int => decide (t.1 ∈ l1)) e == true))) from by (first | exact flt_eq (fun e => by simp) | exact (flt_eq (fun e => by simp)).symm)]; exact hv_4), S⟩

set_option maxRecDepth 100000 in
set_option maxHeartbeats 4000000 in
theorem spec_OmitByKeys1 {M : Hp} {v9 : Value} {l9 : List Int} (h9 : RdI M v9 l9) {bx9 : Nat} (hbx9 : M bx9 = some (.cells #[v9] 22)) {x0 y0 : Int} (gx : (-9223372036854775808 ≤ x0 ∧ x0 ≤ 9223372036854775807) ∧ (-9223372036854775808 ≤ y0 ∧ y0 ≤ 9223372036854775807)) :
    Pu Try.prog (.func (.func 147) #[] #[.pointer (some ⟨bx9, 0, none⟩)]) M [.agg #[.int .i64 x0, .int .i64 y0]] (fun r M' => r = .bool (decide (x0 ∈ l9))) := by
  refine Pu_enter Try.func147 rfl Try.ntmps147 rfl Try.call147 ?_
  intro a w M1 H hM1 S E
  replace hbx9 := hM1.2 _ _ hbx9
  replace h9 := h9.le hM1
  refine WP_seq ?_
  refine WP_region ?_
  refine S_x (X_box (cs := #[.int .i64 x0, .int .i64 y0]) E S rfl rfl rfl ?_)
  clear E a S; rintro a w b_1 E S
  obtain ⟨M_2, hM_2, hb_1, S⟩ := S.freezeB
  replace hbx9 := hM_2.2 _ _ hbx9
  replace h9 := h9.le hM_2
  refine S_v E rfl (R_assign E rfl) rfl ?_
  clear E a; intro a E
  refine WL_nil ?_
  refine T_n ?_
  refine WP_seq ?_
  refine WP_region ?_
  refine S_v E rfl (R_loadM E rfl Try.isAgg22 S.imm (cellM_box hbx9)) rfl ?_
  clear E a; intro a E
  refine S_v E rfl (R_fieldAddr E rfl (FA119_0 _)) rfl ?_
  clear E a; intro a E
  refine S_v E rfl (R_loadM E rfl Try.isAgg3 S.imm (cellM_boxo hb_1 rfl)) rfl ?_
  clear E a; intro a E
  refine S_x (X_pu E S rfl rfl rfl (spec_Contains h9) (Hp.le.refl _) ?_)
  clear E a S; rintro a _ w M_3 hM_3 rfl S E
  replace hbx9 := hM_3.2 _ _ hbx9
  replace h9 := h9.le hM_3
  replace hb_1 := hM_3.2 _ _ hb_1
  refine S_v E rfl (R_assign E rfl) rfl ?_
  clear E a; intro a E
  refine WL_nil ?_
  refine T_n ?_
  refine WP_ret ?_
  exact F_ret1 E Try.results147 rfl ⟨_, rfl, M_3, (hM_2.trans hM_3), rfl, S⟩

set_option maxRecDepth 100000 in
set_option maxHeartbeats 4000000 in
theorem spec_OmitByKeys {M : Hp} {v0 : Value} {l0 : List (Int × Int)} (h0 : RdS 2 RP2 M v0 l0) {v1 : Value} {l1 : List Int} (h1 : RdI M v1 l1) (hb : l0.length ≤ 1000000000000) (hr0 : ∀ x ∈ l0, (-9223372036854775808 ≤ x.1 ∧ x.1 ≤ 9223372036854775807) ∧ (-9223372036854775808 ≤ x.2 ∧ x.2 ≤ 9223372036854775807)) :
    Pu Try.prog (.func (.func 75) #[] #[]) M [v0, v1] (fun r M' => RdS 2 RP2 M' r (entE ((mkE l0).filter (fun e : Int × Int => !decide (e.1 ∈ l1))))) := by
  refine Pu_enter Try.func75 rfl Try.ntmps75 rfl Try.call75 ?_
  intro a w M1 H hM1 S E
  replace h0 := h0.le RP2_mono hM1
  replace h1 := h1.le hM1
  have b0 := h0.bound
  have b1 := h1.bound
  refine WP_seq ?_
  refine WP_region ?_
  refine S_x (X_box (cs := #[v1]) E S rfl rfl (cells_one (RdS.one' h1)) ?_)
  clear E a S; rintro a w b_1 E S
  obtain ⟨M_2, hM_2, hb_1, S⟩ := S.freezeB
  replace h0 := h0.le RP2_mono hM_2
  replace h1 := h1.le hM_2
  refine S_v E rfl (R_assign E rfl) rfl ?_
  clear E a; intro a E
  refine WL_nil ?_
  refine T_n ?_
  refine WP_seq ?_
  refine WP_region ?_
  refine S_v E rfl (R_move E rfl) rfl ?_
  clear E a; intro a E
  refine S_v E rfl (R_makeFunc E rfl rfl) rfl ?_
  clear E a; intro a E
  refine S_x (X_pu E S rfl rfl rfl (spec_picked h0 (f1 := (fun t : Int × Int => decide (t.1 ∈ l1))) ⟨rfl, fun zx0 zy0 zg => spec_OmitByKeys1 (x0 := zx0) (y0 := zy0) h1 hb_1 zg⟩ (by first | omega | (simp [ixm_len]; done) | (simp [ixm_len]; omega) | (have h9 := kpix_len _ _ _; exact Nat.le_trans h9 (by omega)) | exact Nat.le_trans (kpix_len _ _ _) (by first | omega | (simp; omega))) (by assumption)) (Hp.le.refl _) ?_)
  clear E a S; rintro a v_4 w M_3 hM_3 hv_4 S E
  replace h0 := h0.le RP2_mono hM_3
  replace h1 := h1.le hM_3
  replace hb_1 := hM_3.2 _ _ hb_1
  refine S_v E rfl (R_assign E rfl) rfl ?_
  clear E a; intro a E
  refine WL_nil ?_
  refine T_n ?_
  refine WP_ret ?_
  exact F_ret1 E Try.results75 rfl ⟨_, rfl, M_3, (hM_2.trans hM_3), (by rw [show (entE ((mkE l0).filter (fun e : Int × Int => !decide (e.1 ∈ l1)))) = (entE ((mkE l0).filter (fun e : Int × Int => (fun t : Int × Int => decide (t.1 ∈ l1)) e == false))) from by (first | exact flt_eq (fun e => by simp) | exact (flt_eq (fun e => by simp)).symm)]; exact hv_4), S⟩

set_option maxRecDepth 100000 in
set_option maxHeartbeats 4000000 in
theorem spec_PickByValues1 {M : Hp} {v9 : Value} {l9 : List Int} (h9 : RdI M v9 l9) {bx9 : Nat} (hbx9 : M bx9 = some (.cells #[v9] 22)) {x0 y0 : Int} (gx : (-9223372036854775808 ≤ x0 ∧ x0 ≤ 9223372036854775807) ∧ (-9223372036854775808 ≤ y0 ∧ y0 ≤ 9223372036854775807)) :
    Pu Try.prog (.func (.func 148) #[] #[.pointer (some ⟨bx9, 0, none⟩)]) M [.agg #[.int .i64 x0, .int .i64 y0]] (fun r M' => r = .bool (decide (y0 ∈ l9))) := by
  refine Pu_enter Try.func148 rfl Try.ntmps148 rfl Try.call148 ?_
  intro a w M1 H hM1 S E
  replace hbx9 := hM1.2 _ _ hbx9
  replace h9 := h9.le hM1
  refine WP_seq ?_
  refine WP_region ?_
  refine S_x (X_box (cs := #[.int .i64 x0, .int .i64 y0]) E S rfl rfl rfl ?_)
  clear E a S; rintro a w b_1 E S
  obtain ⟨M_2, hM_2, hb_1, S⟩ := S.freezeB
  replace hbx9 := hM_2.2 _ _ hbx9
  replace h9 := h9.le hM_2
  refine S_v E rfl (R_assign E rfl) rfl ?_
  clear E a; intro a E
  refine WL_nil ?_
  refine T_n ?_
  refine WP_seq ?_
  refine WP_region ?_
  refine S_v E rfl (R_loadM E rfl Try.isAgg22 S.imm (cellM_box hbx9)) rfl ?_
  clear E a; intro a E
  refine S_v E rfl (R_fieldAddr E rfl (FA119_1 _)) rfl ?_
  clear E a; intro a E
  refine S_v E rfl (R_loadM E rfl Try.isAgg3 S.imm (cellM_boxo hb_1 rfl)) rfl ?_
  clear E a; intro a E
  refine S_x (X_pu E S rfl rfl rfl (spec_Contains h9) (Hp.le.refl _) ?_)
  clear E a S; rintro a _ w M_3 hM_3 rfl S E
  replace hbx9 := hM_3.2 _ _ hbx9
  replace h9 := h9.le hM_3
  replace hb_1 := hM_3.2 _ _ hb_1
  refine S_v E rfl (R_assign E rfl) rfl ?_
  clear E a; intro a E
  refine WL_nil ?_
  refine T_n ?_
  refine WP_ret ?_
  exact F_ret1 E Try.results148 rfl ⟨_, rfl, M_3, (hM_2.trans hM_3), rfl, S⟩

set_option maxRecDepth 100000 in
set_option maxHeartbeats 4000000 in
theorem spec_PickByValues {M : Hp} {v0 : Value} {l0 : List (Int × Int)} (h0 : RdS 2 RP2 M v0 l0) {v1 : Value} {l1 : List Int} (h1 : RdI M v1 l1) (hb : l0.length ≤ 1000000000000) (hr0 : ∀ x ∈ l0, (-9223372036854775808 ≤ x.1 ∧ x.1 ≤ 9223372036854775807) ∧ (-9223372036854775808 ≤ x.2 ∧ x.2 ≤ 9223372036854775807)) :
    Pu Try.prog (.func (.func 76) #[] #[]) M [v0, v1] (fun r M' => RdS 2 RP2 M' r (entE ((mkE l0).filter (fun e : Int × Int => decide (e.2 ∈ l1))))) := by
  refine Pu_enter Try.func76 rfl Try.ntmps76 rfl Try.call76 ?_
  intro a w M1 H hM1 S E
  replace h0 := h0.le RP2_mono hM1
  replace h1 := h1.le hM1
  have b0 := h0.bound
  have b1 := h1.bound
  refine WP_seq ?_
  refine WP_region ?_
  refine S_x (X_box (cs := #[v1]) E S rfl rfl (cells_one (RdS.one' h1)) ?_)
  clear E a S; rintro a w b_1 E S
  obtain ⟨M_2, hM_2, hb_1, S⟩ := S.freezeB
  replace h0 := h0.le RP2_mono hM_2
  replace h1 := h1.le hM_2
  refine S_v E rfl (R_assign E rfl) rfl ?_
  clear E a; intro a E
  refine WL_nil ?_
  refine T_n ?_
  refine WP_seq ?_
  refine WP_region ?_
  refine S_v E rfl (R_move E rfl) rfl ?_
  clear E a; intro a E
  refine S_v E rfl (R_makeFunc E rfl rfl) rfl ?_
  clear E a; intro a E
  refine S_x (X_pu E S rfl rfl rfl (spec_picked h0 (f1 := (fun t : Int × Int => decide (t.2 ∈ l1))) ⟨rfl, fun zx0 zy0 zg => spec_PickByValues1 (x0 := zx0) (y0 := zy0) h1 hb_1 zg⟩ (by first | omega | (simp [ixm_len]; done) | (simp [ixm_len]; omega) | (have h9 := kpix_len _ _ _; exact Nat.le_trans h9 (by omega)) | exact Nat.le_trans (kpix_len _ _ _) (by first | omega | (simp; omega))) (by assumption)) (Hp.le.refl _) ?_)
  clear E a S; rintro a v_4 w M_3 hM_3 hv_4 S E
  replace h0 := h0.le RP2_mono hM_3
  replace h1 := h1.le hM_3
  replace hb_1 := hM_3.2 _ _ hb_1
  refine S_v E rfl (R_assign E rfl) rfl ?_
  clear E a; intro a E
  refine WL_nil ?_
  refine T_n ?_
  refine WP_ret ?_
  exact F_ret1 E Try.results76 rfl ⟨_, rfl, M_3, (hM_2.trans hM_3), (by rw [show (entE ((mkE l0).filter (fun e : Int × Int => decide (e.2 ∈ l1)))) = (entE ((mkE l0).filter (fun e : Int × Int => (fun t : Int × Int => decide (t.2 ∈ l1)) e == true))) from by (first | exact flt_eq (fun e => by simp) | exact (flt_eq (fun e => by simp)).symm)]; exact hv_4), S⟩

set_option maxRecDepth 100000 in
set_option maxHeartbeats 4000000 in
theorem spec_OmitByValues1 {M : Hp} {v9 : Value} {l9 : List Int} (h9 : RdI M v9 l9) {bx9 : Nat} (hbx9 : M bx9 = some (.cells #[v9] 22)) {x0 y0 : Int} (gx : (-9223372036854775808 ≤ x0 ∧ x0 ≤ 9223372036854775807) ∧ (-9223372036854775808 ≤ y0 ∧ y0 ≤ 9223372036854775807)) :
    Pu Try.prog (.func (.func 149) #[] #[.pointer (some ⟨bx9, 0, none⟩)]) M [.agg #[.int .i64 x0, .int .i64 y0]] (fun r M' => r = .bool (decide (y0 ∈ l9))) := by
  refine Pu_enter Try.func149 rfl Try.ntmps149 rfl Try.call149 ?_
  intro a w M1 H hM1 S E
  replace hbx9 := hM1.2 _ _ hbx9
  replace h9 := h9.le hM1
  refine WP_seq ?_
  refine WP_region ?_
  refine S_x (X_box (cs := #[.int .i64 x0, .int .i64 y0]) E S rfl rfl rfl ?_)
  clear E a S; rintro a w b_1 E S
  obtain ⟨M_2, hM_2, hb_1, S⟩ := S.freezeB
  replace hbx9 := hM_2.2 _ _ hbx9
  replace h9 := h9.le hM_2
  refine S_v E rfl (R_assign E rfl) rfl ?_
  clear E a; intro a E
  refine WL_nil ?_
  refine T_n ?_
  refine WP_seq ?_
  refine WP_region ?_
  refine S_v E rfl (R_loadM E rfl Try.isAgg22 S.imm (cellM_box hbx9)) rfl ?_
  clear E a; intro a E
  refine S_v E rfl (R_fieldAddr E rfl (FA119_1 _)) rfl ?_
  clear E a; intro a E
  refine S_v E rfl (R_loadM E rfl Try.isAgg3 S.imm (cellM_boxo hb_1 rfl)) rfl ?_
  clear E a; intro a E
  refine S_x (X_pu E S rfl rfl rfl (spec_Contains h9) (Hp.le.refl _) ?_)
  clear E a S; rintro a _ w M_3 hM_3 rfl S E
  replace hbx9 := hM_3.2 _ _ hbx9
  replace h9 := h9.le hM_3
  replace hb_1 := hM_3.2 _ _ hb_1
  refine S_v E rfl (R_assign E rfl) rfl ?_
  clear E a; intro a E
  refine WL_nil ?_
  refine T_n ?_
  refine WP_ret ?_
  exact F_ret1 E Try.results149 rfl ⟨_, rfl, M_3, (hM_2.trans hM_3), rfl, S⟩

set_option maxRecDepth 100000 in
set_option maxHeartbeats 4000000 in
theorem spec_OmitByValues {M : Hp} {v0 : Value} {l0 : List (Int × Int)} (h0 : RdS 2 RP2 M v0 l0) {v1 : Value} {l1 : List Int} (h1 : RdI M v1 l1) (hb : l0.length ≤ 1000000000000) (hr0 : ∀ x ∈ l0, (-9223372036854775808 ≤ x.1 ∧ x.1 ≤ 9223372036854775807) ∧ (-9223372036854775808 ≤ x.2 ∧ x.2 ≤ 9223372036854775807)) :
    Pu Try.prog (.func (.func 77) #[] #[]) M [v0, v1] (fun r M' => RdS 2 RP2 M' r (entE ((mkE l0).filter (fun e : Int × Int => !decide (e.2 ∈ l1))))) := by
  refine Pu_enter Try.func77 rfl Try.ntmps77 rfl Try.call77 ?_
  intro a w M1 H hM1 S E
  replace h0 := h0.le RP2_mono hM1
  replace h1 := h1.le hM1
  have b0 := h0.bound
  have b1 := h1.bound
  refine WP_seq ?_
  refine WP_region ?_
  refine S_x (X_box (cs := #[v1]) E S rfl rfl (cells_one (RdS.one' h1)) ?_)
  clear E a S; rintro a w b_1 E S
  obtain ⟨M_2, hM_2, hb_1, S⟩ := S.freezeB
  replace h0 := h0.le RP2_mono hM_2
  replace h1 := h1.le hM_2
  refine S_v E rfl (R_assign E rfl) rfl ?_
  clear E a; intro a E
  refine WL_nil ?_
  refine T_n ?_
  refine WP_seq ?_
  refine WP_region ?_
  refine S_v E rfl (R_move E rfl) rfl ?_
  clear E a; intro a E
  refine S_v E rfl (R_makeFunc E rfl rfl) rfl ?_
  clear E a; intro a E
  refine S_x (X_pu E S rfl rfl rfl (spec_picked h0 (f1 := (fun t : Int × Int => decide (t.2 ∈ l1))) ⟨rfl, fun zx0 zy0 zg => spec_OmitByValues1 (x0 := zx0) (y0 := zy0) h1 hb_1 zg⟩ (by first | omega | (simp [ixm_len]; done) | (simp [ixm_len]; omega) | (have h9 := kpix_len _ _ _; exact Nat.le_trans h9 (by omega)) | exact Nat.le_trans (kpix_len _ _ _) (by first | omega | (simp; omega))) (by assumption)) (Hp.le.refl _) ?_)
  clear E a S; rintro a v_4 w M_3 hM_3 hv_4 S E
  replace h0 := h0.le RP2_mono hM_3
  replace h1 := h1.le hM_3
  replace hb_1 := hM_3.2 _ _ hb_1
  refine S_v E rfl (R_assign E rfl) rfl ?_
  clear E a; intro a E
  refine WL_nil ?_
  refine T_n ?_
  refine WP_ret ?_
  exact F_ret1 E Try.results77 rfl ⟨_, rfl, M_3, (hM_2.trans hM_3), (by rw [show (entE ((mkE l0).filter (fun e : Int × Int => !decide (e.2 ∈ l1)))) = (entE ((mkE l0).filter (fun e : Int × Int => (fun t : Int × Int => decide (t.2 ∈ l1)) e == false))) from by (first | exact flt_eq (fun e => by simp) | exact (flt_eq (fun e => by simp)).symm)]; exact hv_4), S⟩

set_option maxRecDepth 100000 in
set_option maxHeartbeats 4000000 in
theorem laws_FnPicked {M : Hp} {v0 : Value} {l0 : List (Int × Int)} (h0 : RdS 2 RP2 M v0 l0) {v1 : Value} {l1 : List Int} (h1 : RdI M v1 l1) {pk2 pn2 : Int} {w2 : Value} {pl2 : List Int} (hw2 : RdI M w2 pl2) (gn2 : -9223372036854775808 ≤ pn2 ∧ pn2 ≤ 9223372036854775807) (hr0 : ∀ x ∈ l0, (-9223372036854775808 ≤ x.1 ∧ x.1 ≤ 9223372036854775807) ∧ (-9223372036854775808 ≤ x.2 ∧ x.2 ≤ 9223372036854775807)) :
    PuC Try.prog 9 M [v0, v1, .agg #[.int .i64 pk2, .int .i64 pn2, w2]] (fun r M' => r = .bool true) := by
  refine PuC_enter Try.func9 rfl Try.ntmps9 rfl ?_
  intro a w M1 H hM1 S E
  replace h0 := h0.le RP2_mono hM1
  replace h1 := h1.le hM1
  replace hw2 := hw2.le hM1
  have b0 := h0.bound
  have b1 := h1.bound
  refine WP_seq ?_
  refine WP_region ?_
  refine S_x (X_box (cs := #[.int .i64 pk2, .int .i64 pn2, w2]) E S rfl rfl rfl ?_)
  clear E a S; rintro a w b_1 E S
  obtain ⟨M_2, hM_2, hb_1, S⟩ := S.freezeB
  replace h0 := h0.le RP2_mono hM_2
  replace h1 := h1.le hM_2
  replace hw2 := hw2.le hM_2
  refine S_v E rfl (R_assign E rfl) rfl ?_
  clear E a; intro a E
  refine WL_nil ?_
  refine T_n ?_
  refine WP_seq ?_
  refine WP_seq ?_
  refine WP_region ?_
  refine S_v E rfl (R_move E rfl) rfl ?_
  clear E a; intro a E
  refine S_v E rfl (R_lenV E rfl T33 h0.len) rfl ?_
  clear E a; intro a E
  refine S_v E rfl (R_gtr E rfl rfl) rfl ?_
  clear E a; intro a E
  refine S_v E rfl (R_move E rfl) rfl ?_
  clear E a; intro a E
  refine split_bool (decide (2147483647 < (((l0).length : Nat) : Int))) (fun hc_3 => ?_) (fun hc_3 => ?_)
  · replace E := E.val (t := 14) rfl hc_3
    replace E := E.val (t := 15) rfl hc_3
    replace hc_3 := of_decide_eq_true hc_3
    refine WL_guard_no E rfl rfl rfl rfl fun a E => ?_
    refine WL_guard_no E rfl rfl rfl rfl fun a E => ?_
    refine WL_guard_no E rfl rfl rfl rfl fun a E => ?_
    refine S_v E rfl (R_pickT E rfl rfl) rfl ?_
    clear E a; intro a E
    refine S_v E rfl (R_move E rfl) rfl ?_
    clear E a; intro a E
    refine WL_guard_no E rfl rfl rfl rfl fun a E => ?_
    refine WL_guard_no E rfl rfl rfl rfl fun a E => ?_
    refine WL_guard_no E rfl rfl rfl rfl fun a E => ?_
    refine S_v E rfl (R_pickT E rfl rfl) rfl ?_
    clear E a; intro a E
    refine WL_nil ?_
    refine T_n ?_
    refine WP_condT E rfl rfl ?_
    refine WP_seq ?_
    refine WP_region ?_
    refine S_v E rfl (R_assign E rfl) rfl ?_
    clear E a; intro a E
    refine WL_nil ?_
    refine T_n ?_
    refine WP_ret ?_
    refine T_r ?_
    exact F_ret1 E Try.results9 rfl ⟨_, rfl, M_2, hM_2, rfl, S⟩
  · replace E := E.val (t := 14) rfl hc_3
    replace E := E.val (t := 15) rfl hc_3
    replace hc_3 := of_decide_eq_false hc_3
    refine WL_guard_yes E rfl rfl ?_
    refine S_v E rfl (R_move E rfl) rfl ?_
    clear E a; intro a E
    refine WL_guard_yes E rfl rfl ?_
    refine S_v E rfl (R_lenV E rfl T22 h1.len) rfl ?_
    clear E a; intro a E
    refine WL_guard_yes E rfl rfl ?_
    refine S_v E rfl (R_gtr E rfl rfl) rfl ?_
    clear E a; intro a E
    refine S_v E rfl (R_pickF E rfl rfl) rfl ?_
    clear E a; intro a E
    refine S_v E rfl (R_move E rfl) rfl ?_
    clear E a; intro a E
    refine split_bool (decide (2147483647 < (((l1).length : Nat) : Int))) (fun hc_4 => ?_) (fun hc_4 => ?_)
    · replace E := E.val (t := 18) rfl hc_4
      replace E := E.val (t := 19) rfl hc_4
      replace E := E.val (t := 20) rfl hc_4
      replace hc_4 := of_decide_eq_true hc_4
      refine WL_guard_no E rfl rfl rfl rfl fun a E => ?_
      refine WL_guard_no E rfl rfl rfl rfl fun a E => ?_
      refine WL_guard_no E rfl rfl rfl rfl fun a E => ?_
      refine S_v E rfl (R_pickT E rfl rfl) rfl ?_
      clear E a; intro a E
      refine WL_nil ?_
      refine T_n ?_
      refine WP_condT E rfl rfl ?_
      refine WP_seq ?_
      refine WP_region ?_
      refine S_v E rfl (R_assign E rfl) rfl ?_
      clear E a; intro a E
      refine WL_nil ?_
      refine T_n ?_
      refine WP_ret ?_
      refine T_r ?_
      exact F_ret1 E Try.results9 rfl ⟨_, rfl, M_2, hM_2, rfl, S⟩
    · replace E := E.val (t := 18) rfl hc_4
      replace E := E.val (t := 19) rfl hc_4
      replace E := E.val (t := 20) rfl hc_4
      replace hc_4 := of_decide_eq_false hc_4
      refine WL_guard_yes E rfl rfl ?_
      refine S_v E rfl (R_loadGM E rfl (Try.isAgg54 _) (Try.sizeOf54 _) S.imm hb_1) rfl ?_
      clear E a; intro a E
      refine WL_guard_yes E rfl rfl ?_
      refine S_x (X_pu E S rfl rfl rfl (laws_zzFits1 hw2 (by omega)) (Hp.le.refl _) ?_)
      clear E a S; rintro a _ w M_5 hM_5 rfl S E
      replace h0 := h0.le RP2_mono hM_5
      replace h1 := h1.le hM_5
      replace hw2 := hw2.le hM_5
      replace hb_1 := hM_5.2 _ _ hb_1
      refine WL_guard_yes E rfl rfl ?_
      refine S_v E rfl (R_not E rfl) rfl ?_
      clear E a; intro a E
      refine S_v E rfl (R_pickF E rfl rfl) rfl ?_
      clear E a; intro a E
      refine WL_nil ?_
      refine T_n ?_
      refine WP_cond E rfl (fun hc_6 => ?_) (fun hc_6 => ?_)
      · refine WP_seq ?_
        refine WP_region ?_
        refine S_v E rfl (R_assign E rfl) rfl ?_
        clear E a; intro a E
        refine WL_nil ?_
        refine T_n ?_
        refine WP_ret ?_
        refine T_r ?_
        exact F_ret1 E Try.results9 rfl ⟨_, rfl, M_5, (hM_2.trans hM_5), rfl, S⟩
      · refine WP_skip ?_
        refine T_n ?_
        refine WP_seq ?_
        refine WP_seq ?_
        refine WP_region ?_
        refine S_v E rfl (R_build (u := .agg #[.int .i64 1, .int .i64 2]) (vs := [.int .i64 1, .int .i64 2]) E rfl (fun w => FB59_0_1_ii 1 2 w)) rfl ?_
        clear E a; intro a E
        refine S_x (X_buildA1 (R := RP2) (cs := [.int .i64 1, .int .i64 2]) (x0 := (1, 2)) RP2_mono E S rfl T33 rfl rfl rfl rfl ?_)
        clear E a S; rintro a v_7 w M_8 hM_8 hv_7 S E
        replace h0 := h0.le RP2_mono hM_8
        replace h1 := h1.le hM_8
        replace hw2 := hw2.le hM_8
        replace hb_1 := hM_8.2 _ _ hb_1
        refine S_x (X_buildI (ys := [1]) E S rfl T22 rfl rfl rfl ?_)
        clear E a S; rintro a w v_9 E S
        have S0 := S; clear S
        obtain ⟨M_10, hM_10, hz_11, S⟩ := S0.freezeI (by (first | omega | (simp; omega) | (simp; done) | (simp_all; omega) | grind))
        clear S0
        replace h0 := h0.le RP2_mono hM_10
        replace h1 := h1.le hM_10
        replace hw2 := hw2.le hM_10
        replace hb_1 := hM_10.2 _ _ hb_1
        replace hv_7 := hv_7.le RP2_mono hM_10
        refine S_x (X_pu E S rfl rfl rfl (impl_PickByKeys hv_7 hz_11 (by first | omega | (simp; done) | (simp; omega) | exact Nat.le_trans (mkE_len _) (by omega))) (Hp.le.refl _) ?_)
        clear E a S; rintro a v_13 w M_12 hM_12 hv_13 S E
        replace h0 := h0.le RP2_mono hM_12
        replace h1 := h1.le hM_12
        replace hw2 := hw2.le hM_12
        replace hb_1 := hM_12.2 _ _ hb_1
        replace hv_7 := hv_7.le RP2_mono hM_12
        replace hz_11 := hz_11.le hM_12
        refine S_v E rfl (R_lenV E rfl T33 hv_13.len) rfl ?_
        clear E a; intro a E
        refine S_v E rfl (R_neq E rfl rfl) rfl ?_
        clear E a; intro a E
        refine WL_nil ?_
        refine T_n ?_
        have hc_14 : (decide ((((entE ((mkE [(1, 2)]).filter (fun e : Int × Int => decide (e.1 ∈ [1])))).length : Nat) : Int) ≠ 1)) = false := by (clear S E; first | (simp; done) | decide | (simp [entE, mkE, putK, srtK_len]; done) | (first | refine dec_t ?_ | refine dec_f ?_ | skip); first | rfl | exact (hall _ (List.mem_of_getElem? (by assumption))).1 | (have h9 := (hall _ (List.mem_of_getElem? (by assumption))).2; omega) | (have h9 := (hall _ (List.mem_of_getElem? (by assumption))).2; simp; omega))
        refine WP_condF E rfl hc_14 ?_
        refine WP_skip ?_
        refine T_n ?_
        refine WP_seq ?_
        refine WP_seq ?_
        refine WP_region ?_
        refine S_v E rfl (R_move E rfl) rfl ?_
        clear E a; intro a E
        refine S_x (X_buildM (R := (RSl 2 RP2)) (vs := [v0]) (xs := [l0]) (RSl_mono RP2_mono) E S rfl T70 rfl rfl rfl (by intro u hu; simp only [List.mem_cons, List.not_mem_nil, or_false] at hu; rcases hu with rfl <;> first | exact RdS.one' h0) rfl (rowsC (R := (RSl 2 RP2)) ⟨_, rfl, h0⟩ rowsN) ?_)
        clear E a S; rintro a v_15 w M_16 hM_16 hv_15 S E
        replace h0 := h0.le RP2_mono hM_16
        replace h1 := h1.le hM_16
        replace hw2 := hw2.le hM_16
        replace hb_1 := hM_16.2 _ _ hb_1
        replace hv_7 := hv_7.le RP2_mono hM_16
        replace hz_11 := hz_11.le hM_16
        replace hv_13 := hv_13.le RP2_mono hM_16
        refine S_x (X_pu E S rfl rfl rfl (laws_brief hv_15) (Hp.le.refl _) ?_)
        clear E a S; rintro a _ w M_17 hM_17 rfl S E
        replace h0 := h0.le RP2_mono hM_17
        replace h1 := h1.le hM_17
        replace hw2 := hw2.le hM_17
        replace hb_1 := hM_17.2 _ _ hb_1
        replace hv_7 := hv_7.le RP2_mono hM_17
        replace hz_11 := hz_11.le hM_17
        replace hv_13 := hv_13.le RP2_mono hM_17
        replace hv_15 := hv_15.le (RSl_mono RP2_mono) hM_17
        refine S_v E rfl (R_not E rfl) rfl ?_
        clear E a; intro a E
        refine S_v E rfl (R_move E rfl) rfl ?_
        clear E a; intro a E
        refine split_bool (!(decide ((∀ x ∈ [l0], x.length ≤ 200) ∧ ([l0]).length ≤ 20))) (fun hc_18 => ?_) (fun hc_18 => ?_)
        · replace E := E.val (t := 34) rfl hc_18
          replace E := E.val (t := 35) rfl hc_18
          refine WL_guard_no E rfl rfl rfl rfl fun a E => ?_
          refine WL_guard_no E rfl rfl rfl rfl fun a E => ?_
          refine WL_guard_no E rfl rfl rfl rfl fun a E => ?_
          refine WL_guard_no E rfl rfl rfl rfl fun a E => ?_
          refine S_v E rfl (R_pickT E rfl rfl) rfl ?_
          clear E a; intro a E
          refine S_v E rfl (R_move E rfl) rfl ?_
          clear E a; intro a E
          refine WL_guard_no E rfl rfl rfl rfl fun a E => ?_
          refine WL_guard_no E rfl rfl rfl rfl fun a E => ?_
          refine WL_guard_no E rfl rfl rfl rfl fun a E => ?_
          refine S_v E rfl (R_pickT E rfl rfl) rfl ?_
          clear E a; intro a E
          refine WL_nil ?_
          refine T_n ?_
          refine WP_condT E rfl rfl ?_
          refine WP_seq ?_
          refine WP_region ?_
          refine S_v E rfl (R_assign E rfl) rfl ?_
          clear E a; intro a E
          refine WL_nil ?_
          refine T_n ?_
          refine WP_ret ?_
          refine T_r ?_
          exact F_ret1 E Try.results9 rfl ⟨_, rfl, M_17, (hM_2.trans (hM_5.trans (hM_8.trans (hM_10.trans (hM_12.trans (hM_16.trans hM_17)))))), rfl, S⟩
        · replace E := E.val (t := 34) rfl hc_18
          replace E := E.val (t := 35) rfl hc_18
          refine WL_guard_yes E rfl rfl ?_
          refine S_v E rfl (R_move E rfl) rfl ?_
          clear E a; intro a E
          refine WL_guard_yes E rfl rfl ?_
          refine S_x (X_buildM (R := RSl 1 RInt) (vs := [v1]) (xs := [l1]) (RSl_mono RInt_mono) E S rfl T39 rfl rfl rfl (by intro u hu; simp only [List.mem_cons, List.not_mem_nil, or_false] at hu; rcases hu with rfl <;> first | exact RdI.one h1 | rfl) rfl (rowsC (R := RSl 1 RInt) (RdI.row h1) rowsN) ?_)
          clear E a S; rintro a v_19 w M_20 hM_20 hv_19 S E
          replace hv_19 : RdII M_20 v_19 [l1] := hv_19
          replace h0 := h0.le RP2_mono hM_20
          replace h1 := h1.le hM_20
          replace hw2 := hw2.le hM_20
          replace hb_1 := hM_20.2 _ _ hb_1
          replace hv_7 := hv_7.le RP2_mono hM_20
          replace hz_11 := hz_11.le hM_20
          replace hv_13 := hv_13.le RP2_mono hM_20
          replace hv_15 := hv_15.le (RSl_mono RP2_mono) hM_20
          refine WL_guard_yes E rfl rfl ?_
          refine S_x (X_pu E S rfl rfl rfl (laws_few hv_19) (Hp.le.refl _) ?_)
          clear E a S; rintro a _ w M_21 hM_21 rfl S E
          replace h0 := h0.le RP2_mono hM_21
          replace h1 := h1.le hM_21
          replace hw2 := hw2.le hM_21
          replace hb_1 := hM_21.2 _ _ hb_1
          replace hv_7 := hv_7.le RP2_mono hM_21
          replace hz_11 := hz_11.le hM_21
          replace hv_13 := hv_13.le RP2_mono hM_21
          replace hv_15 := hv_15.le (RSl_mono RP2_mono) hM_21
          replace hv_19 := hv_19.le hM_21
          refine WL_guard_yes E rfl rfl ?_
          refine S_v E rfl (R_not E rfl) rfl ?_
          clear E a; intro a E
          refine S_v E rfl (R_pickF E rfl rfl) rfl ?_
          clear E a; intro a E
          refine S_v E rfl (R_move E rfl) rfl ?_
          clear E a; intro a E
          refine split_bool (!(decide (∀ x ∈ [l1], x.length ≤ 300))) (fun hc_22 => ?_) (fun hc_22 => ?_)
          · replace E := E.val (t := 39) rfl hc_22
            replace E := E.val (t := 40) rfl hc_22
            replace E := E.val (t := 41) rfl hc_22
            refine WL_guard_no E rfl rfl rfl rfl fun a E => ?_
            refine WL_guard_no E rfl rfl rfl rfl fun a E => ?_
            refine WL_guard_no E rfl rfl rfl rfl fun a E => ?_
            refine S_v E rfl (R_pickT E rfl rfl) rfl ?_
            clear E a; intro a E
            refine WL_nil ?_
            refine T_n ?_
            refine WP_condT E rfl rfl ?_
            refine WP_seq ?_
            refine WP_region ?_
            refine S_v E rfl (R_assign E rfl) rfl ?_
            clear E a; intro a E
            refine WL_nil ?_
            refine T_n ?_
            refine WP_ret ?_
            refine T_r ?_
            exact F_ret1 E Try.results9 rfl ⟨_, rfl, M_21, (hM_2.trans (hM_5.trans (hM_8.trans (hM_10.trans (hM_12.trans (hM_16.trans (hM_17.trans (hM_20.trans hM_21)))))))), rfl, S⟩
          · replace E := E.val (t := 39) rfl hc_22
            replace E := E.val (t := 40) rfl hc_22
            replace E := E.val (t := 41) rfl hc_22
            refine WL_guard_yes E rfl rfl ?_
            refine S_v E rfl (R_loadGM E rfl (Try.isAgg54 _) (Try.sizeOf54 _) S.imm hb_1) rfl ?_
            clear E a; intro a E
            refine WL_guard_yes E rfl rfl ?_
            refine S_x (X_pu E S rfl rfl rfl (laws_fair hw2 (by omega)) (Hp.le.refl _) ?_)
            clear E a S; rintro a _ w M_23 hM_23 rfl S E
            replace h0 := h0.le RP2_mono hM_23
            replace h1 := h1.le hM_23
            replace hw2 := hw2.le hM_23
            replace hb_1 := hM_23.2 _ _ hb_1
            replace hv_7 := hv_7.le RP2_mono hM_23
            replace hz_11 := hz_11.le hM_23
            replace hv_13 := hv_13.le RP2_mono hM_23
            replace hv_15 := hv_15.le (RSl_mono RP2_mono) hM_23
            replace hv_19 := hv_19.le hM_23
            refine WL_guard_yes E rfl rfl ?_
            refine S_v E rfl (R_not E rfl) rfl ?_
            clear E a; intro a E
            refine S_v E rfl (R_pickF E rfl rfl) rfl ?_
            clear E a; intro a E
            refine WL_nil ?_
            refine T_n ?_
            refine WP_cond E rfl (fun hc_24 => ?_) (fun hc_24 => ?_)
            · refine WP_seq ?_
              refine WP_region ?_
              refine S_v E rfl (R_assign E rfl) rfl ?_
              clear E a; intro a E
              refine WL_nil ?_
              refine T_n ?_
              refine WP_ret ?_
              refine T_r ?_
              exact F_ret1 E Try.results9 rfl ⟨_, rfl, M_23, (hM_2.trans (hM_5.trans (hM_8.trans (hM_10.trans (hM_12.trans (hM_16.trans (hM_17.trans (hM_20.trans (hM_21.trans hM_23))))))))), rfl, S⟩
            · have hbr : l0.length ≤ 200 := by simp_all
              have hb1 : l1.length ≤ 300 := by simp_all
              have hkp : -1099511627776 < pn2 ∧ pn2 < 1099511627776 := (by simp_all)
              have hall := pick_all l0 l1 (predAt pk2 pn2 pl2)
              refine WP_skip ?_
              refine T_n ?_
              refine WP_seq ?_
              refine WP_region ?_
              refine S_v E rfl (R_move E rfl) rfl ?_
              clear E a; intro a E
              refine S_x (X_pu E S rfl rfl rfl (impl_Entries h0 (by first | omega | (simp [ixm_len]; done) | (simp [ixm_len]; omega) | (have h9 := kpix_len _ _ _; exact Nat.le_trans h9 (by omega)) | exact Nat.le_trans (kpix_len _ _ _) (by first | omega | (simp; omega)))) (Hp.le.refl _) ?_)
              clear E a S; rintro a v_26 w M_25 hM_25 hv_26 S E
              replace h0 := h0.le RP2_mono hM_25
              replace h1 := h1.le hM_25
              replace hw2 := hw2.le hM_25
              replace hb_1 := hM_25.2 _ _ hb_1
              replace hv_7 := hv_7.le RP2_mono hM_25
              replace hz_11 := hz_11.le hM_25
              replace hv_13 := hv_13.le RP2_mono hM_25
              replace hv_15 := hv_15.le (RSl_mono RP2_mono) hM_25
              replace hv_19 := hv_19.le hM_25
              refine S_v E rfl (R_assign E rfl) rfl ?_
              clear E a; intro a E
              refine WL_nil ?_
              refine T_n ?_
              refine WP_seq ?_
              refine WP_seq ?_
              have hb_1k26 := hb_1
              replace S := S.mono_heap (w' := World.drew _) rfl
              refine WP_drawn (C := fun x w => agree M_25 w) (bf := (fun i => [])) [0, 1, 3, 4, 6, 7, 8, 10, 11, 13, 14, 15, 17, 18, 20, 22, 23] [0, 1, 3, 4, 7, 8, 10, 11, 14, 15, 17, 18, 23, 2, 5, 6, 9, 12, 13, 16, 19, 20, 21, 22] Try.mixed (by kernel_rfl) (fun x hq => S.imm) ?_
              refine D_v E rfl rfl rfl (fun w hC => (R_move E rfl)) ?_
              clear E a; intro a E
              refine D_v E rfl rfl rfl (fun w hC => (R_loadGM E rfl (Try.isAgg54 _) (Try.sizeOf54 _) hC hb_1k26)) ?_
              clear E a; intro a E
              refine D_v E rfl rfl rfl (fun w hC => (R_move E rfl)) ?_
              clear E a; intro a E
              refine D_v E rfl rfl rfl (fun w hC => (R_loadGM E rfl (Try.isAgg54 _) (Try.sizeOf54 _) hC hb_1k26)) ?_
              clear E a; intro a E
              refine D_v E rfl rfl rfl (fun w hC => (R_move E rfl)) ?_
              clear E a; intro a E
              refine D_v E rfl rfl rfl (fun w hC => (R_move E rfl)) ?_
              clear E a; intro a E
              refine D_v E rfl rfl rfl (fun w hC => (R_move E rfl)) ?_
              clear E a; intro a E
              refine D_v E rfl rfl rfl (fun w hC => (R_move E rfl)) ?_
              clear E a; intro a E
              refine D_v E rfl rfl rfl (fun w hC => (R_move E rfl)) ?_
              clear E a; intro a E
              refine D_v E rfl rfl rfl (fun w hC => (R_move E rfl)) ?_
              clear E a; intro a E
              refine D_v E rfl rfl rfl (fun w hC => (R_move E rfl)) ?_
              clear E a; intro a E
              refine D_v E rfl rfl rfl (fun w hC => (R_move E rfl)) ?_
              clear E a; intro a E
              refine D_v E rfl rfl rfl (fun w hC => (R_move E rfl)) ?_
              clear E a; intro a E
              refine D_x rfl rfl rfl (X_pu E S rfl rfl rfl (impl_PickBy h0 hw2 (by omega) (by first | omega | (simp; done) | (simp; omega) | exact Nat.le_trans (mkE_len _) (by omega))) (Hp.le.refl _) ?_)
              clear E a S; rintro a v_28 w M_27 hM_27 hv_28 S E
              replace h0 := h0.le RP2_mono hM_27
              replace h1 := h1.le hM_27
              replace hw2 := hw2.le hM_27
              replace hb_1 := hM_27.2 _ _ hb_1
              replace hv_7 := hv_7.le RP2_mono hM_27
              replace hz_11 := hz_11.le hM_27
              replace hv_13 := hv_13.le RP2_mono hM_27
              replace hv_15 := hv_15.le (RSl_mono RP2_mono) hM_27
              replace hv_19 := hv_19.le hM_27
              replace hv_26 := hv_26.le RP2_mono hM_27
              refine ⟨fun x hq hb => (agree_le hM_27 S.imm), ?_⟩
              refine D_x rfl rfl rfl (X_pu E S rfl rfl rfl (impl_OmitBy h0 hw2 (by omega) (by first | omega | (simp; done) | (simp; omega) | exact Nat.le_trans (mkE_len _) (by omega))) (Hp.le.refl _) ?_)
              clear E a S; rintro a v_30 w M_29 hM_29 hv_30 S E
              replace h0 := h0.le RP2_mono hM_29
              replace h1 := h1.le hM_29
              replace hw2 := hw2.le hM_29
              replace hb_1 := hM_29.2 _ _ hb_1
              replace hv_7 := hv_7.le RP2_mono hM_29
              replace hz_11 := hz_11.le hM_29
              replace hv_13 := hv_13.le RP2_mono hM_29
              replace hv_15 := hv_15.le (RSl_mono RP2_mono) hM_29
              replace hv_19 := hv_19.le hM_29
              replace hv_26 := hv_26.le RP2_mono hM_29
              replace hv_28 := hv_28.le RP2_mono hM_29
              refine ⟨fun x hq hb => (agree_le (hM_27.trans hM_29) S.imm), ?_⟩
              refine D_v E rfl rfl rfl (fun w hC => (R_build (u := .agg #[v_28, v_30]) (vs := [v_28, v_30]) E rfl (fun w => by obtain ⟨A0, c0, e0, _⟩ := RdS.len hv_28; rw [e0]; obtain ⟨A1, c1, e1, _⟩ := RdS.len hv_30; rw [e1]; exact FB81_0_1_ss _ _ _ _ _ _ w))) ?_
              clear E a; intro a E
              refine D_x rfl rfl rfl (X_pu E S rfl rfl rfl (impl_PickByKeys h0 h1 (by first | omega | (simp; done) | (simp; omega) | exact Nat.le_trans (mkE_len _) (by omega))) (Hp.le.refl _) ?_)
              clear E a S; rintro a v_32 w M_31 hM_31 hv_32 S E
              replace h0 := h0.le RP2_mono hM_31
              replace h1 := h1.le hM_31
              replace hw2 := hw2.le hM_31
              replace hb_1 := hM_31.2 _ _ hb_1
              replace hv_7 := hv_7.le RP2_mono hM_31
              replace hz_11 := hz_11.le hM_31
              replace hv_13 := hv_13.le RP2_mono hM_31
              replace hv_15 := hv_15.le (RSl_mono RP2_mono) hM_31
              replace hv_19 := hv_19.le hM_31
              replace hv_26 := hv_26.le RP2_mono hM_31
              replace hv_28 := hv_28.le RP2_mono hM_31
              replace hv_30 := hv_30.le RP2_mono hM_31
              refine ⟨fun x hq hb => (agree_le (hM_27.trans (hM_29.trans hM_31)) S.imm), ?_⟩
              refine D_x rfl rfl rfl (X_pu E S rfl rfl rfl (impl_OmitByKeys h0 h1 (by first | omega | (simp; done) | (simp; omega) | exact Nat.le_trans (mkE_len _) (by omega))) (Hp.le.refl _) ?_)
              clear E a S; rintro a v_34 w M_33 hM_33 hv_34 S E
              replace h0 := h0.le RP2_mono hM_33
              replace h1 := h1.le hM_33
              replace hw2 := hw2.le hM_33
              replace hb_1 := hM_33.2 _ _ hb_1
              replace hv_7 := hv_7.le RP2_mono hM_33
              replace hz_11 := hz_11.le hM_33
              replace hv_13 := hv_13.le RP2_mono hM_33
              replace hv_15 := hv_15.le (RSl_mono RP2_mono) hM_33
              replace hv_19 := hv_19.le hM_33
              replace hv_26 := hv_26.le RP2_mono hM_33
              replace hv_28 := hv_28.le RP2_mono hM_33
              replace hv_30 := hv_30.le RP2_mono hM_33
              replace hv_32 := hv_32.le RP2_mono hM_33
              refine ⟨fun x hq hb => (agree_le (hM_27.trans (hM_29.trans (hM_31.trans hM_33))) S.imm), ?_⟩
              refine D_v E rfl rfl rfl (fun w hC => (R_build (u := .agg #[v_32, v_34]) (vs := [v_32, v_34]) E rfl (fun w => by obtain ⟨A0, c0, e0, _⟩ := RdS.len hv_32; rw [e0]; obtain ⟨A1, c1, e1, _⟩ := RdS.len hv_34; rw [e1]; exact FB81_0_1_ss _ _ _ _ _ _ w))) ?_
              clear E a; intro a E
              refine D_x rfl rfl rfl (X_pu E S rfl rfl rfl (impl_PickByValues h0 h1 (by first | omega | (simp; done) | (simp; omega) | exact Nat.le_trans (mkE_len _) (by omega))) (Hp.le.refl _) ?_)
              clear E a S; rintro a v_36 w M_35 hM_35 hv_36 S E
              replace h0 := h0.le RP2_mono hM_35
              replace h1 := h1.le hM_35
              replace hw2 := hw2.le hM_35
              replace hb_1 := hM_35.2 _ _ hb_1
              replace hv_7 := hv_7.le RP2_mono hM_35
              replace hz_11 := hz_11.le hM_35
              replace hv_13 := hv_13.le RP2_mono hM_35
              replace hv_15 := hv_15.le (RSl_mono RP2_mono) hM_35
              replace hv_19 := hv_19.le hM_35
              replace hv_26 := hv_26.le RP2_mono hM_35
              replace hv_28 := hv_28.le RP2_mono hM_35
              replace hv_30 := hv_30.le RP2_mono hM_35
              replace hv_32 := hv_32.le RP2_mono hM_35
              replace hv_34 := hv_34.le RP2_mono hM_35
              refine ⟨fun x hq hb => (agree_le (hM_27.trans (hM_29.trans (hM_31.trans (hM_33.trans hM_35)))) S.imm), ?_⟩
              refine D_x rfl rfl rfl (X_pu E S rfl rfl rfl (impl_OmitByValues h0 h1 (by first | omega | (simp; done) | (simp; omega) | exact Nat.le_trans (mkE_len _) (by omega))) (Hp.le.refl _) ?_)
              clear E a S; rintro a v_38 w M_37 hM_37 hv_38 S E
              replace h0 := h0.le RP2_mono hM_37
              replace h1 := h1.le hM_37
              replace hw2 := hw2.le hM_37
              replace hb_1 := hM_37.2 _ _ hb_1
              replace hv_7 := hv_7.le RP2_mono hM_37
              replace hz_11 := hz_11.le hM_37
              replace hv_13 := hv_13.le RP2_mono hM_37
              replace hv_15 := hv_15.le (RSl_mono RP2_mono) hM_37
              replace hv_19 := hv_19.le hM_37
              replace hv_26 := hv_26.le RP2_mono hM_37
              replace hv_28 := hv_28.le RP2_mono hM_37
              replace hv_30 := hv_30.le RP2_mono hM_37
              replace hv_32 := hv_32.le RP2_mono hM_37
              replace hv_34 := hv_34.le RP2_mono hM_37
              replace hv_36 := hv_36.le RP2_mono hM_37
              refine ⟨fun x hq hb => (agree_le (hM_27.trans (hM_29.trans (hM_31.trans (hM_33.trans (hM_35.trans hM_37))))) S.imm), ?_⟩
              refine D_v E rfl rfl rfl (fun w hC => (R_build (u := .agg #[v_36, v_38]) (vs := [v_36, v_38]) E rfl (fun w => by obtain ⟨A0, c0, e0, _⟩ := RdS.len hv_36; rw [e0]; obtain ⟨A1, c1, e1, _⟩ := RdS.len hv_38; rw [e1]; exact FB81_0_1_ss _ _ _ _ _ _ w))) ?_
              clear E a; intro a E
              refine D_x rfl rfl rfl (X_build32 (p := (entE ((mkE l0).filter (fun e : Int × Int => predAt pk2 pn2 pl2 e.1 e.2)), entE ((mkE l0).filter (fun e : Int × Int => !predAt pk2 pn2 pl2 e.1 e.2)))) (q := (entE ((mkE l0).filter (fun e : Int × Int => decide (e.1 ∈ l1))), entE ((mkE l0).filter (fun e : Int × Int => !decide (e.1 ∈ l1))))) (s := (entE ((mkE l0).filter (fun e : Int × Int => decide (e.2 ∈ l1))), entE ((mkE l0).filter (fun e : Int × Int => !decide (e.2 ∈ l1))))) E S rfl T82 rfl rfl rfl hv_28 hv_30 hv_32 hv_34 hv_36 hv_38 ?_)
              clear E a S; rintro a v_39 w M_40 hM_40 hv_39 S E
              replace h0 := h0.le RP2_mono hM_40
              replace h1 := h1.le hM_40
              replace hw2 := hw2.le hM_40
              replace hb_1 := hM_40.2 _ _ hb_1
              replace hv_7 := hv_7.le RP2_mono hM_40
              replace hz_11 := hz_11.le hM_40
              replace hv_13 := hv_13.le RP2_mono hM_40
              replace hv_15 := hv_15.le (RSl_mono RP2_mono) hM_40
              replace hv_19 := hv_19.le hM_40
              replace hv_26 := hv_26.le RP2_mono hM_40
              replace hv_28 := hv_28.le RP2_mono hM_40
              replace hv_30 := hv_30.le RP2_mono hM_40
              replace hv_32 := hv_32.le RP2_mono hM_40
              replace hv_34 := hv_34.le RP2_mono hM_40
              replace hv_36 := hv_36.le RP2_mono hM_40
              replace hv_38 := hv_38.le RP2_mono hM_40
              refine ⟨fun x hq hb => (agree_le (hM_27.trans (hM_29.trans (hM_31.trans (hM_33.trans (hM_35.trans (hM_37.trans hM_40)))))) S.imm), ?_⟩
              refine D_v E rfl rfl rfl (fun w hC => (R_lenV E rfl T82 hv_39.len)) ?_
              clear E a; intro a E
              refine D_end (NoP_n ?_)
              refine T_n ?_
              refine WP_block ?_
              refine WP_loop (γ := Nat) (fun (k : Nat) a w => ∃ (M_41 : Hp), Hp.le M_40 M_41 ∧ St w M_41 (H) ∧ Env a 152 [] [(0, v0), (1, v1), (5, .pointer (some ⟨b_1, 0, none⟩)), (7, v_26), (69, v_39), (70, .int .i64 ((([(entE ((mkE l0).filter (fun e : Int × Int => predAt pk2 pn2 pl2 e.1 e.2)), entE ((mkE l0).filter (fun e : Int × Int => !predAt pk2 pn2 pl2 e.1 e.2))), (entE ((mkE l0).filter (fun e : Int × Int => decide (e.1 ∈ l1))), entE ((mkE l0).filter (fun e : Int × Int => !decide (e.1 ∈ l1)))), (entE ((mkE l0).filter (fun e : Int × Int => decide (e.2 ∈ l1))), entE ((mkE l0).filter (fun e : Int × Int => !decide (e.2 ∈ l1))))]).length : Nat) : Int)), (71, .int .i64 ((k : Nat) : Int))] ∧ (k ≤ ([(entE ((mkE l0).filter (fun e : Int × Int => predAt pk2 pn2 pl2 e.1 e.2)), entE ((mkE l0).filter (fun e : Int × Int => !predAt pk2 pn2 pl2 e.1 e.2))), (entE ((mkE l0).filter (fun e : Int × Int => decide (e.1 ∈ l1))), entE ((mkE l0).filter (fun e : Int × Int => !decide (e.1 ∈ l1)))), (entE ((mkE l0).filter (fun e : Int × Int => decide (e.2 ∈ l1))), entE ((mkE l0).filter (fun e : Int × Int => !decide (e.2 ∈ l1))))]).length)) (fun k => (([(entE ((mkE l0).filter (fun e : Int × Int => predAt pk2 pn2 pl2 e.1 e.2)), entE ((mkE l0).filter (fun e : Int × Int => !predAt pk2 pn2 pl2 e.1 e.2))), (entE ((mkE l0).filter (fun e : Int × Int => decide (e.1 ∈ l1))), entE ((mkE l0).filter (fun e : Int × Int => !decide (e.1 ∈ l1)))), (entE ((mkE l0).filter (fun e : Int × Int => decide (e.2 ∈ l1))), entE ((mkE l0).filter (fun e : Int × Int => !decide (e.2 ∈ l1))))]).length) - k) 0 ⟨M_40, Hp.le.refl _, S, E.keep ⟨rfl, rfl, rfl, rfl, rfl, rfl, rfl, trivial⟩, by ((try clear S); (try clear E); first | assumption | omega | rfl | (simp; done) | (simp_all; done) | (simp [List.take_add_one, *]; done) | grind [List.take_add_one])⟩ ?_
              try clear E
              try clear S
              try clear a
              try clear w
              rintro k a w ⟨M_41, hM_41, S, E, hL0_0⟩
              replace h0 := h0.le RP2_mono hM_41
              replace h1 := h1.le hM_41
              replace hw2 := hw2.le hM_41
              replace hb_1 := hM_41.2 _ _ hb_1
              replace hv_7 := hv_7.le RP2_mono hM_41
              replace hz_11 := hz_11.le hM_41
              replace hv_13 := hv_13.le RP2_mono hM_41
              replace hv_15 := hv_15.le (RSl_mono RP2_mono) hM_41
              replace hv_19 := hv_19.le hM_41
              replace hv_26 := hv_26.le RP2_mono hM_41
              replace hv_28 := hv_28.le RP2_mono hM_41
              replace hv_30 := hv_30.le RP2_mono hM_41
              replace hv_32 := hv_32.le RP2_mono hM_41
              replace hv_34 := hv_34.le RP2_mono hM_41
              replace hv_36 := hv_36.le RP2_mono hM_41
              replace hv_38 := hv_38.le RP2_mono hM_41
              replace hv_39 := hv_39.le RA2_mono hM_41
              have hl3 : ([(entE ((mkE l0).filter (fun e : Int × Int => predAt pk2 pn2 pl2 e.1 e.2)), entE ((mkE l0).filter (fun e : Int × Int => !predAt pk2 pn2 pl2 e.1 e.2))), (entE ((mkE l0).filter (fun e : Int × Int => decide (e.1 ∈ l1))), entE ((mkE l0).filter (fun e : Int × Int => !decide (e.1 ∈ l1)))), (entE ((mkE l0).filter (fun e : Int × Int => decide (e.2 ∈ l1))), entE ((mkE l0).filter (fun e : Int × Int => !decide (e.2 ∈ l1))))]).length = 3 := rfl
              refine WP_seq ?_
              refine WP_region ?_
              refine S_v E rfl (R_lss E rfl rfl) rfl ?_
              clear E a; intro a E
              refine WL_nil ?_
              refine T_n ?_
              refine WP_seq ?_
              refine WP_cond E rfl (fun hc_42 => ?_) (fun hc_42 => ?_)
              · replace hc_42 := of_decide_eq_true hc_42
                refine WP_skip ?_
                refine T_n ?_
                refine WP_seq ?_
                refine WP_block ?_
                refine WP_seq ?_
                refine WP_region ?_
                obtain ⟨x_43, hx_43⟩ : ∃ x, ([(entE ((mkE l0).filter (fun e : Int × Int => predAt pk2 pn2 pl2 e.1 e.2)), entE ((mkE l0).filter (fun e : Int × Int => !predAt pk2 pn2 pl2 e.1 e.2))), (entE ((mkE l0).filter (fun e : Int × Int => decide (e.1 ∈ l1))), entE ((mkE l0).filter (fun e : Int × Int => !decide (e.1 ∈ l1)))), (entE ((mkE l0).filter (fun e : Int × Int => decide (e.2 ∈ l1))), entE ((mkE l0).filter (fun e : Int × Int => !decide (e.2 ∈ l1))))])[k]? = some x := ⟨_, List.getElem?_eq_getElem (by first | omega | (simp; done) | (simp; omega) | (simp_all; omega))⟩
                obtain ⟨p_44, u_45, u_46, hp_44, qp_44, hu_45, hu_46⟩ := RdA2.at hv_39 hx_43
                refine S_v E rfl (R_idx E rfl rfl T82 hp_44 rfl) rfl ?_
                clear E a; intro a E
                refine S_v E rfl (R_loadA (cs := [u_45, u_46]) E rfl (Try.isAgg81 _) (Try.sizeOf81 _) S.imm qp_44) rfl ?_
                clear E a; intro a E
                refine S_x (X_alloc (cs := #[.slice none 0 0, .slice none 0 0]) E S rfl Try.zeroValue81 rfl ?_)
                clear E a S; rintro a w b_47 E S
                refine S_x0 (X_storeG (us := [u_45, u_46]) E S rfl rfl (Try.sizeOf81 _) rfl (by intro u hu; simp only [List.mem_cons, List.not_mem_nil, or_false] at hu; rcases hu with rfl | rfl <;> first | exact (RdS.one' hu_45) | exact (RdS.one' hu_46)) ?_)
                clear E a S; rintro a w E S
                replace S : St w M_41 (blk b_47 (.cells #[u_45, u_46] 81) :: _) := S
                have S0 := S; clear S
                obtain ⟨M_48, hM_48, hb_49, S⟩ := S0.freezeB
                clear S0
                replace h0 := h0.le RP2_mono hM_48
                replace h1 := h1.le hM_48
                replace hw2 := hw2.le hM_48
                replace hb_1 := hM_48.2 _ _ hb_1
                replace hv_7 := hv_7.le RP2_mono hM_48
                replace hz_11 := hz_11.le hM_48
                replace hv_13 := hv_13.le RP2_mono hM_48
                replace hv_15 := hv_15.le (RSl_mono RP2_mono) hM_48
                replace hv_19 := hv_19.le hM_48
                replace hv_26 := hv_26.le RP2_mono hM_48
                replace hv_28 := hv_28.le RP2_mono hM_48
                replace hv_30 := hv_30.le RP2_mono hM_48
                replace hv_32 := hv_32.le RP2_mono hM_48
                replace hv_34 := hv_34.le RP2_mono hM_48
                replace hv_36 := hv_36.le RP2_mono hM_48
                replace hv_38 := hv_38.le RP2_mono hM_48
                replace hv_39 := hv_39.le RA2_mono hM_48
                replace hu_45 := hu_45.le RP2_mono hM_48
                replace hu_46 := hu_46.le RP2_mono hM_48
                refine WL_nil ?_
                refine T_n ?_
                refine WP_seq ?_
                refine WP_region ?_
                refine S_v E rfl (R_idxA (k := 0) (m := 2) E rfl rfl Try.underlying81 (Try.sizeOf33 _) (by decide)) rfl ?_
                clear E a; intro a E
                refine S_v E rfl (R_loadM E rfl Try.isAgg33 S.imm (cellM_boxo hb_49 rfl)) rfl ?_
                clear E a; intro a E
                refine S_v E rfl (R_idxA (k := 1) (m := 2) E rfl rfl Try.underlying81 (Try.sizeOf33 _) (by decide)) rfl ?_
                clear E a; intro a E
                refine S_v E rfl (R_loadM E rfl Try.isAgg33 S.imm (cellM_boxo hb_49 rfl)) rfl ?_
                clear E a; intro a E
                refine S_x (X_buildM (R := (RSl 2 RP2)) (vs := [u_45, u_46]) (xs := [x_43.1, x_43.2]) (RSl_mono RP2_mono) E S rfl T70 rfl rfl rfl (by intro u hu; simp only [List.mem_cons, List.not_mem_nil, or_false] at hu; rcases hu with rfl | rfl <;> first | exact RdS.one' hu_45 | exact RdS.one' hu_46) rfl (rowsC (R := (RSl 2 RP2)) ⟨_, rfl, hu_45⟩ (rowsC (R := (RSl 2 RP2)) ⟨_, rfl, hu_46⟩ rowsN)) ?_)
                clear E a S; rintro a v_50 w M_51 hM_51 hv_50 S E
                replace h0 := h0.le RP2_mono hM_51
                replace h1 := h1.le hM_51
                replace hw2 := hw2.le hM_51
                replace hb_1 := hM_51.2 _ _ hb_1
                replace hv_7 := hv_7.le RP2_mono hM_51
                replace hz_11 := hz_11.le hM_51
                replace hv_13 := hv_13.le RP2_mono hM_51
                replace hv_15 := hv_15.le (RSl_mono RP2_mono) hM_51
                replace hv_19 := hv_19.le hM_51
                replace hv_26 := hv_26.le RP2_mono hM_51
                replace hv_28 := hv_28.le RP2_mono hM_51
                replace hv_30 := hv_30.le RP2_mono hM_51
                replace hv_32 := hv_32.le RP2_mono hM_51
                replace hv_34 := hv_34.le RP2_mono hM_51
                replace hv_36 := hv_36.le RP2_mono hM_51
                replace hv_38 := hv_38.le RP2_mono hM_51
                replace hv_39 := hv_39.le RA2_mono hM_51
                replace hu_45 := hu_45.le RP2_mono hM_51
                replace hu_46 := hu_46.le RP2_mono hM_51
                replace hb_49 := hM_51.2 _ _ hb_49
                refine S_x (X_pu E S rfl rfl rfl (impl_Assign hv_50 (by first | omega | (simp; done) | (simp; omega) | (have h9 := (hall _ (List.mem_of_getElem? (by assumption))).2; have h8 := entE_len l0; simp; omega)) (by first | omega | (simp; done) | (simp; omega))) (Hp.le.refl _) ?_)
                clear E a S; rintro a v_53 w M_52 hM_52 hv_53 S E
                replace h0 := h0.le RP2_mono hM_52
                replace h1 := h1.le hM_52
                replace hw2 := hw2.le hM_52
                replace hb_1 := hM_52.2 _ _ hb_1
                replace hv_7 := hv_7.le RP2_mono hM_52
                replace hz_11 := hz_11.le hM_52
                replace hv_13 := hv_13.le RP2_mono hM_52
                replace hv_15 := hv_15.le (RSl_mono RP2_mono) hM_52
                replace hv_19 := hv_19.le hM_52
                replace hv_26 := hv_26.le RP2_mono hM_52
                replace hv_28 := hv_28.le RP2_mono hM_52
                replace hv_30 := hv_30.le RP2_mono hM_52
                replace hv_32 := hv_32.le RP2_mono hM_52
                replace hv_34 := hv_34.le RP2_mono hM_52
                replace hv_36 := hv_36.le RP2_mono hM_52
                replace hv_38 := hv_38.le RP2_mono hM_52
                replace hv_39 := hv_39.le RA2_mono hM_52
                replace hu_45 := hu_45.le RP2_mono hM_52
                replace hu_46 := hu_46.le RP2_mono hM_52
                replace hb_49 := hM_52.2 _ _ hb_49
                replace hv_50 := hv_50.le (RSl_mono RP2_mono) hM_52
                refine S_v E rfl (R_move E rfl) rfl ?_
                clear E a; intro a E
                refine S_x (X_pu E S rfl rfl rfl (laws_eqPairs hv_53 hv_26) (Hp.le.refl _) ?_)
                clear E a S; rintro a _ w M_54 hM_54 rfl S E
                replace h0 := h0.le RP2_mono hM_54
                replace h1 := h1.le hM_54
                replace hw2 := hw2.le hM_54
                replace hb_1 := hM_54.2 _ _ hb_1
                replace hv_7 := hv_7.le RP2_mono hM_54
                replace hz_11 := hz_11.le hM_54
                replace hv_13 := hv_13.le RP2_mono hM_54
                replace hv_15 := hv_15.le (RSl_mono RP2_mono) hM_54
                replace hv_19 := hv_19.le hM_54
                replace hv_26 := hv_26.le RP2_mono hM_54
                replace hv_28 := hv_28.le RP2_mono hM_54
                replace hv_30 := hv_30.le RP2_mono hM_54
                replace hv_32 := hv_32.le RP2_mono hM_54
                replace hv_34 := hv_34.le RP2_mono hM_54
                replace hv_36 := hv_36.le RP2_mono hM_54
                replace hv_38 := hv_38.le RP2_mono hM_54
                replace hv_39 := hv_39.le RA2_mono hM_54
                replace hu_45 := hu_45.le RP2_mono hM_54
                replace hu_46 := hu_46.le RP2_mono hM_54
                replace hb_49 := hM_54.2 _ _ hb_49
                replace hv_50 := hv_50.le (RSl_mono RP2_mono) hM_54
                replace hv_53 := hv_53.le RP2_mono hM_54
                refine S_v E rfl (R_not E rfl) rfl ?_
                clear E a; intro a E
                refine S_v E rfl (R_move E rfl) rfl ?_
                clear E a; intro a E
                have hc_55 : (!(decide (entE ([x_43.1, x_43.2]).flatten = entE l0))) = false := by (clear S E; first | (simp; done) | decide | (simp [entE, mkE, putK, srtK_len]; done) | (first | refine dec_t ?_ | refine dec_f ?_ | skip); first | rfl | exact (hall _ (List.mem_of_getElem? (by assumption))).1 | (have h9 := (hall _ (List.mem_of_getElem? (by assumption))).2; omega) | (have h9 := (hall _ (List.mem_of_getElem? (by assumption))).2; simp; omega))
                replace E := E.val (t := 83) rfl hc_55
                replace E := E.val (t := 84) rfl hc_55
                refine WL_guard_yes E rfl rfl ?_
                refine S_v E rfl (R_idxA (k := 0) (m := 2) E rfl rfl Try.underlying81 (Try.sizeOf33 _) (by decide)) rfl ?_
                clear E a; intro a E
                refine WL_guard_yes E rfl rfl ?_
                refine S_v E rfl (R_loadM E rfl Try.isAgg33 S.imm (cellM_boxo hb_49 rfl)) rfl ?_
                clear E a; intro a E
                refine WL_guard_yes E rfl rfl ?_
                refine S_v E rfl (R_lenV E rfl T33 hu_45.len) rfl ?_
                clear E a; intro a E
                refine WL_guard_yes E rfl rfl ?_
                refine S_v E rfl (R_idxA (k := 1) (m := 2) E rfl rfl Try.underlying81 (Try.sizeOf33 _) (by decide)) rfl ?_
                clear E a; intro a E
                refine WL_guard_yes E rfl rfl ?_
                refine S_v E rfl (R_loadM E rfl Try.isAgg33 S.imm (cellM_boxo hb_49 rfl)) rfl ?_
                clear E a; intro a E
                refine WL_guard_yes E rfl rfl ?_
                refine S_v E rfl (R_lenV E rfl T33 hu_46.len) rfl ?_
                clear E a; intro a E
                refine WL_guard_yes E rfl rfl ?_
                refine S_v E rfl (R_addx (m := (((x_43.1).length + (x_43.2).length : Nat) : Int)) E rfl rfl (by (have h9 := (hall _ (List.mem_of_getElem? (by assumption))).2; have h8 := entE_len l0; omega)) (by (have h9 := (hall _ (List.mem_of_getElem? (by assumption))).2; have h8 := entE_len l0; omega))) rfl ?_
                clear E a; intro a E
                refine WL_guard_yes E rfl rfl ?_
                refine S_v E rfl (R_move E rfl) rfl ?_
                clear E a; intro a E
                refine WL_guard_yes E rfl rfl ?_
                refine S_v E rfl (R_lenV E rfl T33 hv_26.len) rfl ?_
                clear E a; intro a E
                refine WL_guard_yes E rfl rfl ?_
                refine S_v E rfl (R_neq E rfl rfl) rfl ?_
                clear E a; intro a E
                refine S_v E rfl (R_pickF E rfl rfl) rfl ?_
                clear E a; intro a E
                refine WL_nil ?_
                refine T_n ?_
                have hc_56 : (decide ((((x_43.1).length + (x_43.2).length : Nat) : Int) ≠ (((entE l0).length : Nat) : Int))) = false := by (clear S E; first | (simp; done) | decide | (simp [entE, mkE, putK, srtK_len]; done) | (first | refine dec_t ?_ | refine dec_f ?_ | skip); first | rfl | exact (hall _ (List.mem_of_getElem? (by assumption))).1 | (have h9 := (hall _ (List.mem_of_getElem? (by assumption))).2; omega) | (have h9 := (hall _ (List.mem_of_getElem? (by assumption))).2; simp; omega))
                refine WP_condF E rfl hc_56 ?_
                refine WP_skip ?_
                refine B_n ?_
                refine T_n ?_
                refine WP_region ?_
                refine S_v E rfl (R_addx (m := ((k + 1 : Nat) : Int)) E rfl rfl (by omega) (by omega)) rfl ?_
                clear E a; intro a E
                refine S_v E rfl (R_move E rfl) rfl ?_
                clear E a; intro a E
                refine WL_nil ?_
                refine T_n ?_
                exact ⟨k + 1, ⟨M_54, (hM_41.trans (hM_48.trans (hM_51.trans (hM_52.trans hM_54)))), S, E.keep ⟨rfl, rfl, rfl, rfl, rfl, rfl, rfl, trivial⟩, by ((try clear S); (try clear E); first | assumption | omega | rfl | (simp; done) | (simp_all; done) | (simp [List.take_add_one, *]; done) | grind [List.take_add_one])⟩, by omega⟩
              · replace hc_42 := of_decide_eq_false hc_42
                refine WP_exit ?_
                refine T_x ?_
                refine T_x ?_
                refine B_x ?_
                refine T_n ?_
                refine WP_seq ?_
                refine DG_start Try.mixed ?_
                refine DG_split2 1 3 (by decide) (by kernel_rfl) ?_ ?_
                · have hb_1k56 := hb_1
                  replace S := S.mono_heap (w' := World.drew _) rfl
                  refine DG_end (C := fun x w => agree M_41 w) (bf := (fun i => [])) [0, 2, 4] [0, 2, 1, 3, 4, 5] (by kernel_rfl) (fun x hq => S.imm) ?_
                  refine D_v E rfl rfl rfl (fun w hC => (R_move E rfl)) ?_
                  clear E a; intro a E
                  refine D_v E rfl rfl rfl (fun w hC => (R_loadGM E rfl (Try.isAgg54 _) (Try.sizeOf54 _) hC hb_1k56)) ?_
                  clear E a; intro a E
                  refine D_x rfl rfl rfl (X_pu E S rfl rfl rfl (laws_pairs h0 (by first | omega | (simp [ixm_len]; done) | (simp [ixm_len]; omega) | (have h9 := kpix_len _ _ _; exact Nat.le_trans h9 (by omega)) | exact Nat.le_trans (kpix_len _ _ _) (by first | omega | (simp; omega)))) (Hp.le.refl _) ?_)
                  clear E a S; rintro a v_58 w M_57 hM_57 hv_58 S E
                  replace h0 := h0.le RP2_mono hM_57
                  replace h1 := h1.le hM_57
                  replace hw2 := hw2.le hM_57
                  replace hb_1 := hM_57.2 _ _ hb_1
                  replace hv_7 := hv_7.le RP2_mono hM_57
                  replace hz_11 := hz_11.le hM_57
                  replace hv_13 := hv_13.le RP2_mono hM_57
                  replace hv_15 := hv_15.le (RSl_mono RP2_mono) hM_57
                  replace hv_19 := hv_19.le hM_57
                  replace hv_26 := hv_26.le RP2_mono hM_57
                  replace hv_28 := hv_28.le RP2_mono hM_57
                  replace hv_30 := hv_30.le RP2_mono hM_57
                  replace hv_32 := hv_32.le RP2_mono hM_57
                  replace hv_34 := hv_34.le RP2_mono hM_57
                  replace hv_36 := hv_36.le RP2_mono hM_57
                  replace hv_38 := hv_38.le RP2_mono hM_57
                  replace hv_39 := hv_39.le RA2_mono hM_57
                  refine ⟨fun x hq hb => (agree_le hM_57 S.imm), ?_⟩
                  refine D_x rfl rfl rfl (X_alloc (cs := #[.int .i64 0, .int .i64 0, .slice none 0 0]) E S rfl Try.zeroValue64 rfl ?_)
                  clear E a S; rintro a w b_59 E S
                  refine ⟨fun x hq hb => (agree_le hM_57 S.imm), ?_⟩
                  refine D_v E rfl rfl rfl (fun w hC => (R_assign E rfl)) ?_
                  clear E a; intro a E
                  refine D_x rfl rfl rfl (X_storeG (us := [.int .i64 pk2, .int .i64 pn2, w2]) E S rfl rfl (Try.sizeOf64 _) rfl (by intro u hu; simp only [List.mem_cons, List.not_mem_nil, or_false] at hu; rcases hu with rfl | rfl | rfl <;> first | exact rfl | exact rfl | exact (RdS.one' hw2)) ?_)
                  clear E a S; rintro a w E S
                  replace S : St w M_57 (blk b_59 (.cells #[.int .i64 pk2, .int .i64 pn2, w2] 64) :: _) := S
                  have S0 := S; clear S
                  obtain ⟨M_60, hM_60, hb_61, S⟩ := S0.freezeB
                  clear S0
                  replace h0 := h0.le RP2_mono hM_60
                  replace h1 := h1.le hM_60
                  replace hw2 := hw2.le hM_60
                  replace hb_1 := hM_60.2 _ _ hb_1
                  replace hv_7 := hv_7.le RP2_mono hM_60
                  replace hz_11 := hz_11.le hM_60
                  replace hv_13 := hv_13.le RP2_mono hM_60
                  replace hv_15 := hv_15.le (RSl_mono RP2_mono) hM_60
                  replace hv_19 := hv_19.le hM_60
                  replace hv_26 := hv_26.le RP2_mono hM_60
                  replace hv_28 := hv_28.le RP2_mono hM_60
                  replace hv_30 := hv_30.le RP2_mono hM_60
                  replace hv_32 := hv_32.le RP2_mono hM_60
                  replace hv_34 := hv_34.le RP2_mono hM_60
                  replace hv_36 := hv_36.le RP2_mono hM_60
                  replace hv_38 := hv_38.le RP2_mono hM_60
                  replace hv_39 := hv_39.le RA2_mono hM_60
                  replace hv_58 := hv_58.le RP2_mono hM_60
                  refine ⟨fun x hq hb => (agree_le (hM_57.trans hM_60) S.imm), ?_⟩
                  refine D_end (NoP_n ?_)
                  refine T_n ?_
                  refine WP_seq ?_
                  have hb_1k61 := hb_1
                  have hb_61k61 := hb_61
                  replace S := S.mono_heap (w' := World.drew _) rfl
                  refine WP_drawn (C := fun x w => agree M_60 w) (bf := (fun i => [])) [0, 1, 3, 4, 7, 8, 9, 11, 12, 15, 16, 17, 18, 20, 21, 24, 25, 26, 27, 29, 30, 33, 34, 35, 36, 38, 39, 42, 43, 44, 45, 47, 48, 51, 52] [0, 1, 3, 4, 2, 5, 6, 7, 8, 9, 11, 12, 10, 13, 14, 15, 16, 17, 18, 20, 21, 19, 22, 23, 24, 25, 26, 27, 29, 30, 28, 31, 32, 33, 34, 35, 36, 38, 39, 37, 40, 41, 42, 43, 44, 45, 47, 48, 46, 49, 50, 51, 52] Try.mixed (by kernel_rfl) (fun x hq => S.imm) ?_
                  refine D_v E rfl rfl rfl (fun w hC => (R_move E rfl)) ?_
                  clear E a; intro a E
                  refine D_v E rfl rfl rfl (fun w hC => (R_loadGM E rfl (Try.isAgg54 _) (Try.sizeOf54 _) hC hb_1k61)) ?_
                  clear E a; intro a E
                  refine D_v E rfl rfl rfl (fun w hC => (R_move E rfl)) ?_
                  clear E a; intro a E
                  refine D_v E rfl rfl rfl (fun w hC => (R_loadGM E rfl (Try.isAgg64 _) (Try.sizeOf64 _) hC hb_61k61)) ?_
                  clear E a; intro a E
                  refine D_x rfl rfl rfl (X_pu E S rfl rfl rfl (impl_PickBy h0 hw2 (by omega) (by first | omega | (simp; done) | (simp; omega) | exact Nat.le_trans (mkE_len _) (by omega))) (Hp.le.refl _) ?_)
                  clear E a S; rintro a v_63 w M_62 hM_62 hv_63 S E
                  replace h0 := h0.le RP2_mono hM_62
                  replace h1 := h1.le hM_62
                  replace hw2 := hw2.le hM_62
                  replace hb_1 := hM_62.2 _ _ hb_1
                  replace hv_7 := hv_7.le RP2_mono hM_62
                  replace hz_11 := hz_11.le hM_62
                  replace hv_13 := hv_13.le RP2_mono hM_62
                  replace hv_15 := hv_15.le (RSl_mono RP2_mono) hM_62
                  replace hv_19 := hv_19.le hM_62
                  replace hv_26 := hv_26.le RP2_mono hM_62
                  replace hv_28 := hv_28.le RP2_mono hM_62
                  replace hv_30 := hv_30.le RP2_mono hM_62
                  replace hv_32 := hv_32.le RP2_mono hM_62
                  replace hv_34 := hv_34.le RP2_mono hM_62
                  replace hv_36 := hv_36.le RP2_mono hM_62
                  replace hv_38 := hv_38.le RP2_mono hM_62
                  replace hv_39 := hv_39.le RA2_mono hM_62
                  replace hv_58 := hv_58.le RP2_mono hM_62
                  replace hb_61 := hM_62.2 _ _ hb_61
                  refine ⟨fun x hq hb => (agree_le hM_62 S.imm), ?_⟩
                  refine D_x rfl rfl rfl (X_pu E S rfl rfl rfl (spec_PickBy hv_58 hw2 (by omega) (by (first | omega | (simp; omega) | (simp; done) | (simp_all; omega) | grind)) (by assumption)) (Hp.le.refl _) ?_)
                  clear E a S; rintro a v_65 w M_64 hM_64 hv_65 S E
                  replace h0 := h0.le RP2_mono hM_64
                  replace h1 := h1.le hM_64
                  replace hw2 := hw2.le hM_64
                  replace hb_1 := hM_64.2 _ _ hb_1
                  replace hv_7 := hv_7.le RP2_mono hM_64
                  replace hz_11 := hz_11.le hM_64
                  replace hv_13 := hv_13.le RP2_mono hM_64
                  replace hv_15 := hv_15.le (RSl_mono RP2_mono) hM_64
                  replace hv_19 := hv_19.le hM_64
                  replace hv_26 := hv_26.le RP2_mono hM_64
                  replace hv_28 := hv_28.le RP2_mono hM_64
                  replace hv_30 := hv_30.le RP2_mono hM_64
                  replace hv_32 := hv_32.le RP2_mono hM_64
                  replace hv_34 := hv_34.le RP2_mono hM_64
                  replace hv_36 := hv_36.le RP2_mono hM_64
                  replace hv_38 := hv_38.le RP2_mono hM_64
                  replace hv_39 := hv_39.le RA2_mono hM_64
                  replace hv_58 := hv_58.le RP2_mono hM_64
                  replace hb_61 := hM_64.2 _ _ hb_61
                  replace hv_63 := hv_63.le RP2_mono hM_64
                  refine ⟨fun x hq hb => (agree_le (hM_62.trans hM_64) S.imm), ?_⟩
                  refine D_x rfl rfl rfl (X_pu E S rfl rfl rfl (laws_eqRef hv_63 hv_65) (Hp.le.refl _) ?_)
                  clear E a S; rintro a _ w M_66 hM_66 rfl S E
                  replace h0 := h0.le RP2_mono hM_66
                  replace h1 := h1.le hM_66
                  replace hw2 := hw2.le hM_66
                  replace hb_1 := hM_66.2 _ _ hb_1
                  replace hv_7 := hv_7.le RP2_mono hM_66
                  replace hz_11 := hz_11.le hM_66
                  replace hv_13 := hv_13.le RP2_mono hM_66
                  replace hv_15 := hv_15.le (RSl_mono RP2_mono) hM_66
                  replace hv_19 := hv_19.le hM_66
                  replace hv_26 := hv_26.le RP2_mono hM_66
                  replace hv_28 := hv_28.le RP2_mono hM_66
                  replace hv_30 := hv_30.le RP2_mono hM_66
                  replace hv_32 := hv_32.le RP2_mono hM_66
                  replace hv_34 := hv_34.le RP2_mono hM_66
                  replace hv_36 := hv_36.le RP2_mono hM_66
                  replace hv_38 := hv_38.le RP2_mono hM_66
                  replace hv_39 := hv_39.le RA2_mono hM_66
                  replace hv_58 := hv_58.le RP2_mono hM_66
                  replace hb_61 := hM_66.2 _ _ hb_61
                  replace hv_63 := hv_63.le RP2_mono hM_66
                  replace hv_65 := hv_65.le RP2_mono hM_66
                  refine ⟨fun x hq hb => (agree_le (hM_62.trans (hM_64.trans hM_66)) S.imm), ?_⟩
                  refine D_v E rfl rfl rfl (fun w hC => (R_move E rfl)) ?_
                  clear E a; intro a E
                  have hc_67 : (decide (entE ((mkE l0).filter (fun e : Int × Int => predAt pk2 pn2 pl2 e.1 e.2)) = entE ((mkE l0).filter (fun e : Int × Int => predAt pk2 pn2 pl2 e.1 e.2)))) = true := by (clear S E; first | (simp; done) | decide | (simp [entE, mkE, putK, srtK_len]; done) | (first | refine dec_t ?_ | refine dec_f ?_ | skip); first | rfl | exact (hall _ (List.mem_of_getElem? (by assumption))).1 | (have h9 := (hall _ (List.mem_of_getElem? (by assumption))).2; omega) | (have h9 := (hall _ (List.mem_of_getElem? (by assumption))).2; simp; omega))
                  replace E := E.val (t := 106) rfl hc_67
                  replace E := E.val (t := 107) rfl hc_67
                  refine D_vyes E rfl rfl rfl rfl rfl (fun w hC => (R_move E rfl)) ?_
                  clear E a; intro a E
                  refine D_vyes E rfl rfl rfl rfl rfl (fun w hC => (R_loadGM E rfl (Try.isAgg54 _) (Try.sizeOf54 _) hC hb_1k61)) ?_
                  clear E a; intro a E
                  refine D_vyes E rfl rfl rfl rfl rfl (fun w hC => (R_move E rfl)) ?_
                  clear E a; intro a E
                  refine D_vyes E rfl rfl rfl rfl rfl (fun w hC => (R_loadGM E rfl (Try.isAgg64 _) (Try.sizeOf64 _) hC hb_61k61)) ?_
                  clear E a; intro a E
                  refine D_yes E rfl rfl rfl rfl (X_pu E S rfl rfl rfl (impl_OmitBy h0 hw2 (by omega) (by first | omega | (simp; done) | (simp; omega) | exact Nat.le_trans (mkE_len _) (by omega))) (Hp.le.refl _) ?_)
                  clear E a S; rintro a v_69 w M_68 hM_68 hv_69 S E
                  replace h0 := h0.le RP2_mono hM_68
                  replace h1 := h1.le hM_68
                  replace hw2 := hw2.le hM_68
                  replace hb_1 := hM_68.2 _ _ hb_1
                  replace hv_7 := hv_7.le RP2_mono hM_68
                  replace hz_11 := hz_11.le hM_68
                  replace hv_13 := hv_13.le RP2_mono hM_68
                  replace hv_15 := hv_15.le (RSl_mono RP2_mono) hM_68
                  replace hv_19 := hv_19.le hM_68
                  replace hv_26 := hv_26.le RP2_mono hM_68
                  replace hv_28 := hv_28.le RP2_mono hM_68
                  replace hv_30 := hv_30.le RP2_mono hM_68
                  replace hv_32 := hv_32.le RP2_mono hM_68
                  replace hv_34 := hv_34.le RP2_mono hM_68
                  replace hv_36 := hv_36.le RP2_mono hM_68
                  replace hv_38 := hv_38.le RP2_mono hM_68
                  replace hv_39 := hv_39.le RA2_mono hM_68
                  replace hv_58 := hv_58.le RP2_mono hM_68
                  replace hb_61 := hM_68.2 _ _ hb_61
                  replace hv_63 := hv_63.le RP2_mono hM_68
                  replace hv_65 := hv_65.le RP2_mono hM_68
                  refine ⟨fun x hq hb => (agree_le (hM_62.trans (hM_64.trans (hM_66.trans hM_68))) S.imm), ?_⟩
                  refine D_yes E rfl rfl rfl rfl (X_pu E S rfl rfl rfl (spec_OmitBy hv_58 hw2 (by omega) (by (first | omega | (simp; omega) | (simp; done) | (simp_all; omega) | grind)) (by assumption)) (Hp.le.refl _) ?_)
                  clear E a S; rintro a v_71 w M_70 hM_70 hv_71 S E
                  replace h0 := h0.le RP2_mono hM_70
                  replace h1 := h1.le hM_70
                  replace hw2 := hw2.le hM_70
                  replace hb_1 := hM_70.2 _ _ hb_1
                  replace hv_7 := hv_7.le RP2_mono hM_70
                  replace hz_11 := hz_11.le hM_70
                  replace hv_13 := hv_13.le RP2_mono hM_70
                  replace hv_15 := hv_15.le (RSl_mono RP2_mono) hM_70
                  replace hv_19 := hv_19.le hM_70
                  replace hv_26 := hv_26.le RP2_mono hM_70
                  replace hv_28 := hv_28.le RP2_mono hM_70
                  replace hv_30 := hv_30.le RP2_mono hM_70
                  replace hv_32 := hv_32.le RP2_mono hM_70
                  replace hv_34 := hv_34.le RP2_mono hM_70
                  replace hv_36 := hv_36.le RP2_mono hM_70
                  replace hv_38 := hv_38.le RP2_mono hM_70
                  replace hv_39 := hv_39.le RA2_mono hM_70
                  replace hv_58 := hv_58.le RP2_mono hM_70
                  replace hb_61 := hM_70.2 _ _ hb_61
                  replace hv_63 := hv_63.le RP2_mono hM_70
                  replace hv_65 := hv_65.le RP2_mono hM_70
                  replace hv_69 := hv_69.le RP2_mono hM_70
                  refine ⟨fun x hq hb => (agree_le (hM_62.trans (hM_64.trans (hM_66.trans (hM_68.trans hM_70)))) S.imm), ?_⟩
                  refine D_yes E rfl rfl rfl rfl (X_pu E S rfl rfl rfl (laws_eqRef hv_69 hv_71) (Hp.le.refl _) ?_)
                  clear E a S; rintro a _ w M_72 hM_72 rfl S E
                  replace h0 := h0.le RP2_mono hM_72
                  replace h1 := h1.le hM_72
                  replace hw2 := hw2.le hM_72
                  replace hb_1 := hM_72.2 _ _ hb_1
                  replace hv_7 := hv_7.le RP2_mono hM_72
                  replace hz_11 := hz_11.le hM_72
                  replace hv_13 := hv_13.le RP2_mono hM_72
                  replace hv_15 := hv_15.le (RSl_mono RP2_mono) hM_72
                  replace hv_19 := hv_19.le hM_72
                  replace hv_26 := hv_26.le RP2_mono hM_72
                  replace hv_28 := hv_28.le RP2_mono hM_72
                  replace hv_30 := hv_30.le RP2_mono hM_72
                  replace hv_32 := hv_32.le RP2_mono hM_72
                  replace hv_34 := hv_34.le RP2_mono hM_72
                  replace hv_36 := hv_36.le RP2_mono hM_72
                  replace hv_38 := hv_38.le RP2_mono hM_72
                  replace hv_39 := hv_39.le RA2_mono hM_72
                  replace hv_58 := hv_58.le RP2_mono hM_72
                  replace hb_61 := hM_72.2 _ _ hb_61
                  replace hv_63 := hv_63.le RP2_mono hM_72
                  replace hv_65 := hv_65.le RP2_mono hM_72
                  replace hv_69 := hv_69.le RP2_mono hM_72
                  replace hv_71 := hv_71.le RP2_mono hM_72
                  refine ⟨fun x hq hb => (agree_le (hM_62.trans (hM_64.trans (hM_66.trans (hM_68.trans (hM_70.trans hM_72))))) S.imm), ?_⟩
                  refine D_v E rfl rfl rfl (fun w hC => (R_pickT E rfl rfl)) ?_
                  clear E a; intro a E
                  refine D_v E rfl rfl rfl (fun w hC => (R_move E rfl)) ?_
                  clear E a; intro a E
                  have hc_73 : (decide (entE ((mkE l0).filter (fun e : Int × Int => !predAt pk2 pn2 pl2 e.1 e.2)) = entE ((mkE l0).filter (fun e : Int × Int => !predAt pk2 pn2 pl2 e.1 e.2)))) = true := by (clear S E; first | (simp; done) | decide | (simp [entE, mkE, putK, srtK_len]; done) | (first | refine dec_t ?_ | refine dec_f ?_ | skip); first | rfl | exact (hall _ (List.mem_of_getElem? (by assumption))).1 | (have h9 := (hall _ (List.mem_of_getElem? (by assumption))).2; omega) | (have h9 := (hall _ (List.mem_of_getElem? (by assumption))).2; simp; omega))
                  replace E := E.val (t := 114) rfl hc_73
                  replace E := E.val (t := 115) rfl hc_73
                  replace E := E.val (t := 116) rfl hc_73
                  refine D_vyes E rfl rfl rfl rfl rfl (fun w hC => (R_move E rfl)) ?_
                  clear E a; intro a E
                  refine D_vyes E rfl rfl rfl rfl rfl (fun w hC => (R_move E rfl)) ?_
                  clear E a; intro a E
                  refine D_vyes E rfl rfl rfl rfl rfl (fun w hC => (R_move E rfl)) ?_
                  clear E a; intro a E
                  refine D_vyes E rfl rfl rfl rfl rfl (fun w hC => (R_move E rfl)) ?_
                  clear E a; intro a E
                  refine D_yes E rfl rfl rfl rfl (X_pu E S rfl rfl rfl (impl_PickByKeys h0 h1 (by first | omega | (simp; done) | (simp; omega) | exact Nat.le_trans (mkE_len _) (by omega))) (Hp.le.refl _) ?_)
                  clear E a S; rintro a v_75 w M_74 hM_74 hv_75 S E
                  replace h0 := h0.le RP2_mono hM_74
                  replace h1 := h1.le hM_74
                  replace hw2 := hw2.le hM_74
                  replace hb_1 := hM_74.2 _ _ hb_1
                  replace hv_7 := hv_7.le RP2_mono hM_74
                  replace hz_11 := hz_11.le hM_74
                  replace hv_13 := hv_13.le RP2_mono hM_74
                  replace hv_15 := hv_15.le (RSl_mono RP2_mono) hM_74
                  replace hv_19 := hv_19.le hM_74
                  replace hv_26 := hv_26.le RP2_mono hM_74
                  replace hv_28 := hv_28.le RP2_mono hM_74
                  replace hv_30 := hv_30.le RP2_mono hM_74
                  replace hv_32 := hv_32.le RP2_mono hM_74
                  replace hv_34 := hv_34.le RP2_mono hM_74
                  replace hv_36 := hv_36.le RP2_mono hM_74
                  replace hv_38 := hv_38.le RP2_mono hM_74
                  replace hv_39 := hv_39.le RA2_mono hM_74
                  replace hv_58 := hv_58.le RP2_mono hM_74
                  replace hb_61 := hM_74.2 _ _ hb_61
                  replace hv_63 := hv_63.le RP2_mono hM_74
                  replace hv_65 := hv_65.le RP2_mono hM_74
                  replace hv_69 := hv_69.le RP2_mono hM_74
                  replace hv_71 := hv_71.le RP2_mono hM_74
                  refine ⟨fun x hq hb => (agree_le (hM_62.trans (hM_64.trans (hM_66.trans (hM_68.trans (hM_70.trans (hM_72.trans hM_74)))))) S.imm), ?_⟩
                  refine D_yes E rfl rfl rfl rfl (X_pu E S rfl rfl rfl (spec_PickByKeys hv_58 h1 (by (first | omega | (simp; omega) | (simp; done) | (simp_all; omega) | grind)) (by assumption)) (Hp.le.refl _) ?_)
                  clear E a S; rintro a v_77 w M_76 hM_76 hv_77 S E
                  replace h0 := h0.le RP2_mono hM_76
                  replace h1 := h1.le hM_76
                  replace hw2 := hw2.le hM_76
                  replace hb_1 := hM_76.2 _ _ hb_1
                  replace hv_7 := hv_7.le RP2_mono hM_76
                  replace hz_11 := hz_11.le hM_76
                  replace hv_13 := hv_13.le RP2_mono hM_76
                  replace hv_15 := hv_15.le (RSl_mono RP2_mono) hM_76
                  replace hv_19 := hv_19.le hM_76
                  replace hv_26 := hv_26.le RP2_mono hM_76
                  replace hv_28 := hv_28.le RP2_mono hM_76
                  replace hv_30 := hv_30.le RP2_mono hM_76
                  replace hv_32 := hv_32.le RP2_mono hM_76
                  replace hv_34 := hv_34.le RP2_mono hM_76
                  replace hv_36 := hv_36.le RP2_mono hM_76
                  replace hv_38 := hv_38.le RP2_mono hM_76
                  replace hv_39 := hv_39.le RA2_mono hM_76
                  replace hv_58 := hv_58.le RP2_mono hM_76
                  replace hb_61 := hM_76.2 _ _ hb_61
                  replace hv_63 := hv_63.le RP2_mono hM_76
                  replace hv_65 := hv_65.le RP2_mono hM_76
                  replace hv_69 := hv_69.le RP2_mono hM_76
                  replace hv_71 := hv_71.le RP2_mono hM_76
                  replace hv_75 := hv_75.le RP2_mono hM_76
                  refine ⟨fun x hq hb => (agree_le (hM_62.trans (hM_64.trans (hM_66.trans (hM_68.trans (hM_70.trans (hM_72.trans (hM_74.trans hM_76))))))) S.imm), ?_⟩
                  refine D_yes E rfl rfl rfl rfl (X_pu E S rfl rfl rfl (laws_eqRef hv_75 hv_77) (Hp.le.refl _) ?_)
                  clear E a S; rintro a _ w M_78 hM_78 rfl S E
                  replace h0 := h0.le RP2_mono hM_78
                  replace h1 := h1.le hM_78
                  replace hw2 := hw2.le hM_78
                  replace hb_1 := hM_78.2 _ _ hb_1
                  replace hv_7 := hv_7.le RP2_mono hM_78
                  replace hz_11 := hz_11.le hM_78
                  replace hv_13 := hv_13.le RP2_mono hM_78
                  replace hv_15 := hv_15.le (RSl_mono RP2_mono) hM_78
                  replace hv_19 := hv_19.le hM_78
                  replace hv_26 := hv_26.le RP2_mono hM_78
                  replace hv_28 := hv_28.le RP2_mono hM_78
                  replace hv_30 := hv_30.le RP2_mono hM_78
                  replace hv_32 := hv_32.le RP2_mono hM_78
                  replace hv_34 := hv_34.le RP2_mono hM_78
                  replace hv_36 := hv_36.le RP2_mono hM_78
                  replace hv_38 := hv_38.le RP2_mono hM_78
                  replace hv_39 := hv_39.le RA2_mono hM_78
                  replace hv_58 := hv_58.le RP2_mono hM_78
                  replace hb_61 := hM_78.2 _ _ hb_61
                  replace hv_63 := hv_63.le RP2_mono hM_78
                  replace hv_65 := hv_65.le RP2_mono hM_78
                  replace hv_69 := hv_69.le RP2_mono hM_78
                  replace hv_71 := hv_71.le RP2_mono hM_78
                  replace hv_75 := hv_75.le RP2_mono hM_78
                  replace hv_77 := hv_77.le RP2_mono hM_78
                  refine ⟨fun x hq hb => (agree_le (hM_62.trans (hM_64.trans (hM_66.trans (hM_68.trans (hM_70.trans (hM_72.trans (hM_74.trans (hM_76.trans hM_78)))))))) S.imm), ?_⟩
                  refine D_v E rfl rfl rfl (fun w hC => (R_pickT E rfl rfl)) ?_
                  clear E a; intro a E
                  refine D_v E rfl rfl rfl (fun w hC => (R_move E rfl)) ?_
                  clear E a; intro a E
                  have hc_79 : (decide (entE ((mkE l0).filter (fun e : Int × Int => decide (e.1 ∈ l1))) = entE ((mkE l0).filter (fun e : Int × Int => decide (e.1 ∈ l1))))) = true := by (clear S E; first | (simp; done) | decide | (simp [entE, mkE, putK, srtK_len]; done) | (first | refine dec_t ?_ | refine dec_f ?_ | skip); first | rfl | exact (hall _ (List.mem_of_getElem? (by assumption))).1 | (have h9 := (hall _ (List.mem_of_getElem? (by assumption))).2; omega) | (have h9 := (hall _ (List.mem_of_getElem? (by assumption))).2; simp; omega))
                  replace E := E.val (t := 123) rfl hc_79
                  replace E := E.val (t := 124) rfl hc_79
                  replace E := E.val (t := 125) rfl hc_79
                  refine D_vyes E rfl rfl rfl rfl rfl (fun w hC => (R_move E rfl)) ?_
                  clear E a; intro a E
                  refine D_vyes E rfl rfl rfl rfl rfl (fun w hC => (R_move E rfl)) ?_
                  clear E a; intro a E
                  refine D_vyes E rfl rfl rfl rfl rfl (fun w hC => (R_move E rfl)) ?_
                  clear E a; intro a E
                  refine D_vyes E rfl rfl rfl rfl rfl (fun w hC => (R_move E rfl)) ?_
                  clear E a; intro a E
                  refine D_yes E rfl rfl rfl rfl (X_pu E S rfl rfl rfl (impl_OmitByKeys h0 h1 (by first | omega | (simp; done) | (simp; omega) | exact Nat.le_trans (mkE_len _) (by omega))) (Hp.le.refl _) ?_)
                  clear E a S; rintro a v_81 w M_80 hM_80 hv_81 S E
                  replace h0 := h0.le RP2_mono hM_80
                  replace h1 := h1.le hM_80
                  replace hw2 := hw2.le hM_80
                  replace hb_1 := hM_80.2 _ _ hb_1
                  replace hv_7 := hv_7.le RP2_mono hM_80
                  replace hz_11 := hz_11.le hM_80
                  replace hv_13 := hv_13.le RP2_mono hM_80
                  replace hv_15 := hv_15.le (RSl_mono RP2_mono) hM_80
                  replace hv_19 := hv_19.le hM_80
                  replace hv_26 := hv_26.le RP2_mono hM_80
                  replace hv_28 := hv_28.le RP2_mono hM_80
                  replace hv_30 := hv_30.le RP2_mono hM_80
                  replace hv_32 := hv_32.le RP2_mono hM_80
                  replace hv_34 := hv_34.le RP2_mono hM_80
                  replace hv_36 := hv_36.le RP2_mono hM_80
                  replace hv_38 := hv_38.le RP2_mono hM_80
                  replace hv_39 := hv_39.le RA2_mono hM_80
                  replace hv_58 := hv_58.le RP2_mono hM_80
                  replace hb_61 := hM_80.2 _ _ hb_61
                  replace hv_63 := hv_63.le RP2_mono hM_80
                  replace hv_65 := hv_65.le RP2_mono hM_80
                  replace hv_69 := hv_69.le RP2_mono hM_80
                  replace hv_71 := hv_71.le RP2_mono hM_80
                  replace hv_75 := hv_75.le RP2_mono hM_80
                  replace hv_77 := hv_77.le RP2_mono hM_80
                  refine ⟨fun x hq hb => (agree_le (hM_62.trans (hM_64.trans (hM_66.trans (hM_68.trans (hM_70.trans (hM_72.trans (hM_74.trans (hM_76.trans (hM_78.trans hM_80))))))))) S.imm), ?_⟩
                  refine D_yes E rfl rfl rfl rfl (X_pu E S rfl rfl rfl (spec_OmitByKeys hv_58 h1 (by (first | omega | (simp; omega) | (simp; done) | (simp_all; omega) | grind)) (by assumption)) (Hp.le.refl _) ?_)
                  clear E a S; rintro a v_83 w M_82 hM_82 hv_83 S E
                  replace h0 := h0.le RP2_mono hM_82
                  replace h1 := h1.le hM_82
                  replace hw2 := hw2.le hM_82
                  replace hb_1 := hM_82.2 _ _ hb_1
                  replace hv_7 := hv_7.le RP2_mono hM_82
                  replace hz_11 := hz_11.le hM_82
                  replace hv_13 := hv_13.le RP2_mono hM_82
                  replace hv_15 := hv_15.le (RSl_mono RP2_mono) hM_82
                  replace hv_19 := hv_19.le hM_82
                  replace hv_26 := hv_26.le RP2_mono hM_82
                  replace hv_28 := hv_28.le RP2_mono hM_82
                  replace hv_30 := hv_30.le RP2_mono hM_82
                  replace hv_32 := hv_32.le RP2_mono hM_82
                  replace hv_34 := hv_34.le RP2_mono hM_82
                  replace hv_36 := hv_36.le RP2_mono hM_82
                  replace hv_38 := hv_38.le RP2_mono hM_82
                  replace hv_39 := hv_39.le RA2_mono hM_82
                  replace hv_58 := hv_58.le RP2_mono hM_82
                  replace hb_61 := hM_82.2 _ _ hb_61
                  replace hv_63 := hv_63.le RP2_mono hM_82
                  replace hv_65 := hv_65.le RP2_mono hM_82
                  replace hv_69 := hv_69.le RP2_mono hM_82
                  replace hv_71 := hv_71.le RP2_mono hM_82
                  replace hv_75 := hv_75.le RP2_mono hM_82
                  replace hv_77 := hv_77.le RP2_mono hM_82
                  replace hv_81 := hv_81.le RP2_mono hM_82
                  refine ⟨fun x hq hb => (agree_le (hM_62.trans (hM_64.trans (hM_66.trans (hM_68.trans (hM_70.trans (hM_72.trans (hM_74.trans (hM_76.trans (hM_78.trans (hM_80.trans hM_82)))))))))) S.imm), ?_⟩
                  refine D_yes E rfl rfl rfl rfl (X_pu E S rfl rfl rfl (laws_eqRef hv_81 hv_83) (Hp.le.refl _) ?_)
                  clear E a S; rintro a _ w M_84 hM_84 rfl S E
                  replace h0 := h0.le RP2_mono hM_84
                  replace h1 := h1.le hM_84
                  replace hw2 := hw2.le hM_84
                  replace hb_1 := hM_84.2 _ _ hb_1
                  replace hv_7 := hv_7.le RP2_mono hM_84
                  replace hz_11 := hz_11.le hM_84
                  replace hv_13 := hv_13.le RP2_mono hM_84
                  replace hv_15 := hv_15.le (RSl_mono RP2_mono) hM_84
                  replace hv_19 := hv_19.le hM_84
                  replace hv_26 := hv_26.le RP2_mono hM_84
                  replace hv_28 := hv_28.le RP2_mono hM_84
                  replace hv_30 := hv_30.le RP2_mono hM_84
                  replace hv_32 := hv_32.le RP2_mono hM_84
                  replace hv_34 := hv_34.le RP2_mono hM_84
                  replace hv_36 := hv_36.le RP2_mono hM_84
                  replace hv_38 := hv_38.le RP2_mono hM_84
                  replace hv_39 := hv_39.le RA2_mono hM_84
                  replace hv_58 := hv_58.le RP2_mono hM_84
                  replace hb_61 := hM_84.2 _ _ hb_61
                  replace hv_63 := hv_63.le RP2_mono hM_84
                  replace hv_65 := hv_65.le RP2_mono hM_84
                  replace hv_69 := hv_69.le RP2_mono hM_84
                  replace hv_71 := hv_71.le RP2_mono hM_84
                  replace hv_75 := hv_75.le RP2_mono hM_84
                  replace hv_77 := hv_77.le RP2_mono hM_84
                  replace hv_81 := hv_81.le RP2_mono hM_84
                  replace hv_83 := hv_83.le RP2_mono hM_84
                  refine ⟨fun x hq hb => (agree_le (hM_62.trans (hM_64.trans (hM_66.trans (hM_68.trans (hM_70.trans (hM_72.trans (hM_74.trans (hM_76.trans (hM_78.trans (hM_80.trans (hM_82.trans hM_84))))))))))) S.imm), ?_⟩
                  refine D_v E rfl rfl rfl (fun w hC => (R_pickT E rfl rfl)) ?_
                  clear E a; intro a E
                  refine D_v E rfl rfl rfl (fun w hC => (R_move E rfl)) ?_
                  clear E a; intro a E
                  have hc_85 : (decide (entE ((mkE l0).filter (fun e : Int × Int => !decide (e.1 ∈ l1))) = entE ((mkE l0).filter (fun e : Int × Int => !decide (e.1 ∈ l1))))) = true := by (clear S E; first | (simp; done) | decide | (simp [entE, mkE, putK, srtK_len]; done) | (first | refine dec_t ?_ | refine dec_f ?_ | skip); first | rfl | exact (hall _ (List.mem_of_getElem? (by assumption))).1 | (have h9 := (hall _ (List.mem_of_getElem? (by assumption))).2; omega) | (have h9 := (hall _ (List.mem_of_getElem? (by assumption))).2; simp; omega))
                  replace E := E.val (t := 132) rfl hc_85
                  replace E := E.val (t := 133) rfl hc_85
                  replace E := E.val (t := 134) rfl hc_85
                  refine D_vyes E rfl rfl rfl rfl rfl (fun w hC => (R_move E rfl)) ?_
                  clear E a; intro a E
                  refine D_vyes E rfl rfl rfl rfl rfl (fun w hC => (R_move E rfl)) ?_
                  clear E a; intro a E
                  refine D_vyes E rfl rfl rfl rfl rfl (fun w hC => (R_move E rfl)) ?_
                  clear E a; intro a E
                  refine D_vyes E rfl rfl rfl rfl rfl (fun w hC => (R_move E rfl)) ?_
                  clear E a; intro a E
                  refine D_yes E rfl rfl rfl rfl (X_pu E S rfl rfl rfl (impl_PickByValues h0 h1 (by first | omega | (simp; done) | (simp; omega) | exact Nat.le_trans (mkE_len _) (by omega))) (Hp.le.refl _) ?_)
                  clear E a S; rintro a v_87 w M_86 hM_86 hv_87 S E
                  replace h0 := h0.le RP2_mono hM_86
                  replace h1 := h1.le hM_86
                  replace hw2 := hw2.le hM_86
                  replace hb_1 := hM_86.2 _ _ hb_1
                  replace hv_7 := hv_7.le RP2_mono hM_86
                  replace hz_11 := hz_11.le hM_86
                  replace hv_13 := hv_13.le RP2_mono hM_86
                  replace hv_15 := hv_15.le (RSl_mono RP2_mono) hM_86
                  replace hv_19 := hv_19.le hM_86
                  replace hv_26 := hv_26.le RP2_mono hM_86
                  replace hv_28 := hv_28.le RP2_mono hM_86
                  replace hv_30 := hv_30.le RP2_mono hM_86
                  replace hv_32 := hv_32.le RP2_mono hM_86
                  replace hv_34 := hv_34.le RP2_mono hM_86
                  replace hv_36 := hv_36.le RP2_mono hM_86
                  replace hv_38 := hv_38.le RP2_mono hM_86
                  replace hv_39 := hv_39.le RA2_mono hM_86
                  replace hv_58 := hv_58.le RP2_mono hM_86
                  replace hb_61 := hM_86.2 _ _ hb_61
                  replace hv_63 := hv_63.le RP2_mono hM_86
                  replace hv_65 := hv_65.le RP2_mono hM_86
                  replace hv_69 := hv_69.le RP2_mono hM_86
                  replace hv_71 := hv_71.le RP2_mono hM_86
                  replace hv_75 := hv_75.le RP2_mono hM_86
                  replace hv_77 := hv_77.le RP2_mono hM_86
                  replace hv_81 := hv_81.le RP2_mono hM_86
                  replace hv_83 := hv_83.le RP2_mono hM_86
                  refine ⟨fun x hq hb => (agree_le (hM_62.trans (hM_64.trans (hM_66.trans (hM_68.trans (hM_70.trans (hM_72.trans (hM_74.trans (hM_76.trans (hM_78.trans (hM_80.trans (hM_82.trans (hM_84.trans hM_86)))))))))))) S.imm), ?_⟩
                  refine D_yes E rfl rfl rfl rfl (X_pu E S rfl rfl rfl (spec_PickByValues hv_58 h1 (by (first | omega | (simp; omega) | (simp; done) | (simp_all; omega) | grind)) (by assumption)) (Hp.le.refl _) ?_)
                  clear E a S; rintro a v_89 w M_88 hM_88 hv_89 S E
                  replace h0 := h0.le RP2_mono hM_88
                  replace h1 := h1.le hM_88
                  replace hw2 := hw2.le hM_88
                  replace hb_1 := hM_88.2 _ _ hb_1
                  replace hv_7 := hv_7.le RP2_mono hM_88
                  replace hz_11 := hz_11.le hM_88
                  replace hv_13 := hv_13.le RP2_mono hM_88
                  replace hv_15 := hv_15.le (RSl_mono RP2_mono) hM_88
                  replace hv_19 := hv_19.le hM_88
                  replace hv_26 := hv_26.le RP2_mono hM_88
                  replace hv_28 := hv_28.le RP2_mono hM_88
                  replace hv_30 := hv_30.le RP2_mono hM_88
                  replace hv_32 := hv_32.le RP2_mono hM_88
                  replace hv_34 := hv_34.le RP2_mono hM_88
                  replace hv_36 := hv_36.le RP2_mono hM_88
                  replace hv_38 := hv_38.le RP2_mono hM_88
                  replace hv_39 := hv_39.le RA2_mono hM_88
                  replace hv_58 := hv_58.le RP2_mono hM_88
                  replace hb_61 := hM_88.2 _ _ hb_61
                  replace hv_63 := hv_63.le RP2_mono hM_88
                  replace hv_65 := hv_65.le RP2_mono hM_88
                  replace hv_69 := hv_69.le RP2_mono hM_88
                  replace hv_71 := hv_71.le RP2_mono hM_88
                  replace hv_75 := hv_75.le RP2_mono hM_88
                  replace hv_77 := hv_77.le RP2_mono hM_88
                  replace hv_81 := hv_81.le RP2_mono hM_88
                  replace hv_83 := hv_83.le RP2_mono hM_88
                  replace hv_87 := hv_87.le RP2_mono hM_88
                  refine ⟨fun x hq hb => (agree_le (hM_62.trans (hM_64.trans (hM_66.trans (hM_68.trans (hM_70.trans (hM_72.trans (hM_74.trans (hM_76.trans (hM_78.trans (hM_80.trans (hM_82.trans (hM_84.trans (hM_86.trans hM_88))))))))))))) S.imm), ?_⟩
                  refine D_yes E rfl rfl rfl rfl (X_pu E S rfl rfl rfl (laws_eqRef hv_87 hv_89) (Hp.le.refl _) ?_)
                  clear E a S; rintro a _ w M_90 hM_90 rfl S E
                  replace h0 := h0.le RP2_mono hM_90
                  replace h1 := h1.le hM_90
                  replace hw2 := hw2.le hM_90
                  replace hb_1 := hM_90.2 _ _ hb_1
                  replace hv_7 := hv_7.le RP2_mono hM_90
                  replace hz_11 := hz_11.le hM_90
                  replace hv_13 := hv_13.le RP2_mono hM_90
                  replace hv_15 := hv_15.le (RSl_mono RP2_mono) hM_90
                  replace hv_19 := hv_19.le hM_90
                  replace hv_26 := hv_26.le RP2_mono hM_90
                  replace hv_28 := hv_28.le RP2_mono hM_90
                  replace hv_30 := hv_30.le RP2_mono hM_90
                  replace hv_32 := hv_32.le RP2_mono hM_90
                  replace hv_34 := hv_34.le RP2_mono hM_90
                  replace hv_36 := hv_36.le RP2_mono hM_90
                  replace hv_38 := hv_38.le RP2_mono hM_90
                  replace hv_39 := hv_39.le RA2_mono hM_90
                  replace hv_58 := hv_58.le RP2_mono hM_90
                  replace hb_61 := hM_90.2 _ _ hb_61
                  replace hv_63 := hv_63.le RP2_mono hM_90
                  replace hv_65 := hv_65.le RP2_mono hM_90
                  replace hv_69 := hv_69.le RP2_mono hM_90
                  replace hv_71 := hv_71.le RP2_mono hM_90
                  replace hv_75 := hv_75.le RP2_mono hM_90
                  replace hv_77 := hv_77.le RP2_mono hM_90
                  replace hv_81 := hv_81.le RP2_mono hM_90
                  replace hv_83 := hv_83.le RP2_mono hM_90
                  replace hv_87 := hv_87.le RP2_mono hM_90
                  replace hv_89 := hv_89.le RP2_mono hM_90
                  refine ⟨fun x hq hb => (agree_le (hM_62.trans (hM_64.trans (hM_66.trans (hM_68.trans (hM_70.trans (hM_72.trans (hM_74.trans (hM_76.trans (hM_78.trans (hM_80.trans (hM_82.trans (hM_84.trans (hM_86.trans (hM_88.trans hM_90)))))))))))))) S.imm), ?_⟩
                  refine D_v E rfl rfl rfl (fun w hC => (R_pickT E rfl rfl)) ?_
                  clear E a; intro a E
                  refine D_v E rfl rfl rfl (fun w hC => (R_move E rfl)) ?_
                  clear E a; intro a E
                  have hc_91 : (decide (entE ((mkE l0).filter (fun e : Int × Int => decide (e.2 ∈ l1))) = entE ((mkE l0).filter (fun e : Int × Int => decide (e.2 ∈ l1))))) = true := by (clear S E; first | (simp; done) | decide | (simp [entE, mkE, putK, srtK_len]; done) | (first | refine dec_t ?_ | refine dec_f ?_ | skip); first | rfl | exact (hall _ (List.mem_of_getElem? (by assumption))).1 | (have h9 := (hall _ (List.mem_of_getElem? (by assumption))).2; omega) | (have h9 := (hall _ (List.mem_of_getElem? (by assumption))).2; simp; omega))
                  replace E := E.val (t := 141) rfl hc_91
                  replace E := E.val (t := 142) rfl hc_91
                  replace E := E.val (t := 143) rfl hc_91
                  refine D_vyes E rfl rfl rfl rfl rfl (fun w hC => (R_move E rfl)) ?_
                  clear E a; intro a E
                  refine D_vyes E rfl rfl rfl rfl rfl (fun w hC => (R_move E rfl)) ?_
                  clear E a; intro a E
                  refine D_vyes E rfl rfl rfl rfl rfl (fun w hC => (R_move E rfl)) ?_
                  clear E a; intro a E
                  refine D_vyes E rfl rfl rfl rfl rfl (fun w hC => (R_move E rfl)) ?_
                  clear E a; intro a E
                  refine D_yes E rfl rfl rfl rfl (X_pu E S rfl rfl rfl (impl_OmitByValues h0 h1 (by first | omega | (simp; done) | (simp; omega) | exact Nat.le_trans (mkE_len _) (by omega))) (Hp.le.refl _) ?_)
                  clear E a S; rintro a v_93 w M_92 hM_92 hv_93 S E
                  replace h0 := h0.le RP2_mono hM_92
                  replace h1 := h1.le hM_92
                  replace hw2 := hw2.le hM_92
                  replace hb_1 := hM_92.2 _ _ hb_1
                  replace hv_7 := hv_7.le RP2_mono hM_92
                  replace hz_11 := hz_11.le hM_92
                  replace hv_13 := hv_13.le RP2_mono hM_92
                  replace hv_15 := hv_15.le (RSl_mono RP2_mono) hM_92
                  replace hv_19 := hv_19.le hM_92
                  replace hv_26 := hv_26.le RP2_mono hM_92
                  replace hv_28 := hv_28.le RP2_mono hM_92
                  replace hv_30 := hv_30.le RP2_mono hM_92
                  replace hv_32 := hv_32.le RP2_mono hM_92
                  replace hv_34 := hv_34.le RP2_mono hM_92
                  replace hv_36 := hv_36.le RP2_mono hM_92
                  replace hv_38 := hv_38.le RP2_mono hM_92
                  replace hv_39 := hv_39.le RA2_mono hM_92
                  replace hv_58 := hv_58.le RP2_mono hM_92
                  replace hb_61 := hM_92.2 _ _ hb_61
                  replace hv_63 := hv_63.le RP2_mono hM_92
                  replace hv_65 := hv_65.le RP2_mono hM_92
                  replace hv_69 := hv_69.le RP2_mono hM_92
                  replace hv_71 := hv_71.le RP2_mono hM_92
                  replace hv_75 := hv_75.le RP2_mono hM_92
                  replace hv_77 := hv_77.le RP2_mono hM_92
                  replace hv_81 := hv_81.le RP2_mono hM_92
                  replace hv_83 := hv_83.le RP2_mono hM_92
                  replace hv_87 := hv_87.le RP2_mono hM_92
                  replace hv_89 := hv_89.le RP2_mono hM_92
                  refine ⟨fun x hq hb => (agree_le (hM_62.trans (hM_64.trans (hM_66.trans (hM_68.trans (hM_70.trans (hM_72.trans (hM_74.trans (hM_76.trans (hM_78.trans (hM_80.trans (hM_82.trans (hM_84.trans (hM_86.trans (hM_88.trans (hM_90.trans hM_92))))))))))))))) S.imm), ?_⟩
                  refine D_yes E rfl rfl rfl rfl (X_pu E S rfl rfl rfl (spec_OmitByValues hv_58 h1 (by (first | omega | (simp; omega) | (simp; done) | (simp_all; omega) | grind)) (by assumption)) (Hp.le.refl _) ?_)
                  clear E a S; rintro a v_95 w M_94 hM_94 hv_95 S E
                  replace h0 := h0.le RP2_mono hM_94
                  replace h1 := h1.le hM_94
                  replace hw2 := hw2.le hM_94
                  replace hb_1 := hM_94.2 _ _ hb_1
                  replace hv_7 := hv_7.le RP2_mono hM_94
                  replace hz_11 := hz_11.le hM_94
                  replace hv_13 := hv_13.le RP2_mono hM_94
                  replace hv_15 := hv_15.le (RSl_mono RP2_mono) hM_94
                  replace hv_19 := hv_19.le hM_94
                  replace hv_26 := hv_26.le RP2_mono hM_94
                  replace hv_28 := hv_28.le RP2_mono hM_94
                  replace hv_30 := hv_30.le RP2_mono hM_94
                  replace hv_32 := hv_32.le RP2_mono hM_94
                  replace hv_34 := hv_34.le RP2_mono hM_94
                  replace hv_36 := hv_36.le RP2_mono hM_94
                  replace hv_38 := hv_38.le RP2_mono hM_94
                  replace hv_39 := hv_39.le RA2_mono hM_94
                  replace hv_58 := hv_58.le RP2_mono hM_94
                  replace hb_61 := hM_94.2 _ _ hb_61
                  replace hv_63 := hv_63.le RP2_mono hM_94
                  replace hv_65 := hv_65.le RP2_mono hM_94
                  replace hv_69 := hv_69.le RP2_mono hM_94
                  replace hv_71 := hv_71.le RP2_mono hM_94
                  replace hv_75 := hv_75.le RP2_mono hM_94
                  replace hv_77 := hv_77.le RP2_mono hM_94
                  replace hv_81 := hv_81.le RP2_mono hM_94
                  replace hv_83 := hv_83.le RP2_mono hM_94
                  replace hv_87 := hv_87.le RP2_mono hM_94
                  replace hv_89 := hv_89.le RP2_mono hM_94
                  replace hv_93 := hv_93.le RP2_mono hM_94
                  refine ⟨fun x hq hb => (agree_le (hM_62.trans (hM_64.trans (hM_66.trans (hM_68.trans (hM_70.trans (hM_72.trans (hM_74.trans (hM_76.trans (hM_78.trans (hM_80.trans (hM_82.trans (hM_84.trans (hM_86.trans (hM_88.trans (hM_90.trans (hM_92.trans hM_94)))))))))))))))) S.imm), ?_⟩
                  refine D_yes E rfl rfl rfl rfl (X_pu E S rfl rfl rfl (laws_eqRef hv_93 hv_95) (Hp.le.refl _) ?_)
                  clear E a S; rintro a _ w M_96 hM_96 rfl S E
                  replace h0 := h0.le RP2_mono hM_96
                  replace h1 := h1.le hM_96
                  replace hw2 := hw2.le hM_96
                  replace hb_1 := hM_96.2 _ _ hb_1
                  replace hv_7 := hv_7.le RP2_mono hM_96
                  replace hz_11 := hz_11.le hM_96
                  replace hv_13 := hv_13.le RP2_mono hM_96
                  replace hv_15 := hv_15.le (RSl_mono RP2_mono) hM_96
                  replace hv_19 := hv_19.le hM_96
                  replace hv_26 := hv_26.le RP2_mono hM_96
                  replace hv_28 := hv_28.le RP2_mono hM_96
                  replace hv_30 := hv_30.le RP2_mono hM_96
                  replace hv_32 := hv_32.le RP2_mono hM_96
                  replace hv_34 := hv_34.le RP2_mono hM_96
                  replace hv_36 := hv_36.le RP2_mono hM_96
                  replace hv_38 := hv_38.le RP2_mono hM_96
                  replace hv_39 := hv_39.le RA2_mono hM_96
                  replace hv_58 := hv_58.le RP2_mono hM_96
                  replace hb_61 := hM_96.2 _ _ hb_61
                  replace hv_63 := hv_63.le RP2_mono hM_96
                  replace hv_65 := hv_65.le RP2_mono hM_96
                  replace hv_69 := hv_69.le RP2_mono hM_96
                  replace hv_71 := hv_71.le RP2_mono hM_96
                  replace hv_75 := hv_75.le RP2_mono hM_96
                  replace hv_77 := hv_77.le RP2_mono hM_96
                  replace hv_81 := hv_81.le RP2_mono hM_96
                  replace hv_83 := hv_83.le RP2_mono hM_96
                  replace hv_87 := hv_87.le RP2_mono hM_96
                  replace hv_89 := hv_89.le RP2_mono hM_96
                  replace hv_93 := hv_93.le RP2_mono hM_96
                  replace hv_95 := hv_95.le RP2_mono hM_96
                  refine ⟨fun x hq hb => (agree_le (hM_62.trans (hM_64.trans (hM_66.trans (hM_68.trans (hM_70.trans (hM_72.trans (hM_74.trans (hM_76.trans (hM_78.trans (hM_80.trans (hM_82.trans (hM_84.trans (hM_86.trans (hM_88.trans (hM_90.trans (hM_92.trans (hM_94.trans hM_96))))))))))))))))) S.imm), ?_⟩
                  refine D_v E rfl rfl rfl (fun w hC => (R_pickT E rfl rfl)) ?_
                  clear E a; intro a E
                  refine D_v E rfl rfl rfl (fun w hC => (R_assign E rfl)) ?_
                  clear E a; intro a E
                  refine D_end (NoP_n ?_)
                  refine T_n ?_
                  refine WP_ret ?_
                  exact F_ret1 E Try.results9 rfl ⟨_, rfl, M_96, (hM_2.trans (hM_5.trans (hM_8.trans (hM_10.trans (hM_12.trans (hM_16.trans (hM_17.trans (hM_20.trans (hM_21.trans (hM_23.trans (hM_25.trans (hM_27.trans (hM_29.trans (hM_31.trans (hM_33.trans (hM_35.trans (hM_37.trans (hM_40.trans (hM_41.trans (hM_57.trans (hM_60.trans (hM_62.trans (hM_64.trans (hM_66.trans (hM_68.trans (hM_70.trans (hM_72.trans (hM_74.trans (hM_76.trans (hM_78.trans (hM_80.trans (hM_82.trans (hM_84.trans (hM_86.trans (hM_88.trans (hM_90.trans (hM_92.trans (hM_94.trans hM_96)))))))))))))))))))))))))))))))))))))), (congrArg Value.bool (by (clear S E; first | (simp; done) | decide | (simp [entE, mkE, putK, srtK_len]; done) | (first | refine dec_t ?_ | refine dec_f ?_ | skip); first | rfl | exact (hall _ (List.mem_of_getElem? (by assumption))).1 | (have h9 := (hall _ (List.mem_of_getElem? (by assumption))).2; omega) | (have h9 := (hall _ (List.mem_of_getElem? (by assumption))).2; simp; omega)))), S⟩
                · have hb_1k96 := hb_1
                  replace S := S.mono_heap (w' := World.drew _) rfl
                  refine DG_end (C := fun x w => agree M_41 w) (bf := (fun i => [])) [0, 2, 4] [0, 2, 3, 1, 4, 5] (by kernel_rfl) (fun x hq => S.imm) ?_
                  refine D_v E rfl rfl rfl (fun w hC => (R_move E rfl)) ?_
                  clear E a; intro a E
                  refine D_v E rfl rfl rfl (fun w hC => (R_loadGM E rfl (Try.isAgg54 _) (Try.sizeOf54 _) hC hb_1k96)) ?_
                  clear E a; intro a E
                  refine D_x rfl rfl rfl (X_alloc (cs := #[.int .i64 0, .int .i64 0, .slice none 0 0]) E S rfl Try.zeroValue64 rfl ?_)
                  clear E a S; rintro a w b_97 E S
                  refine ⟨fun x hq hb => (agree_le (Hp.le.refl _) S.imm), ?_⟩
                  refine D_x rfl rfl rfl (X_pu E S rfl rfl rfl (laws_pairs h0 (by first | omega | (simp [ixm_len]; done) | (simp [ixm_len]; omega) | (have h9 := kpix_len _ _ _; exact Nat.le_trans h9 (by omega)) | exact Nat.le_trans (kpix_len _ _ _) (by first | omega | (simp; omega)))) (Hp.le.refl _) ?_)
                  clear E a S; rintro a v_99 w M_98 hM_98 hv_99 S E
                  replace h0 := h0.le RP2_mono hM_98
                  replace h1 := h1.le hM_98
                  replace hw2 := hw2.le hM_98
                  replace hb_1 := hM_98.2 _ _ hb_1
                  replace hv_7 := hv_7.le RP2_mono hM_98
                  replace hz_11 := hz_11.le hM_98
                  replace hv_13 := hv_13.le RP2_mono hM_98
                  replace hv_15 := hv_15.le (RSl_mono RP2_mono) hM_98
                  replace hv_19 := hv_19.le hM_98
                  replace hv_26 := hv_26.le RP2_mono hM_98
                  replace hv_28 := hv_28.le RP2_mono hM_98
                  replace hv_30 := hv_30.le RP2_mono hM_98
                  replace hv_32 := hv_32.le RP2_mono hM_98
                  replace hv_34 := hv_34.le RP2_mono hM_98
                  replace hv_36 := hv_36.le RP2_mono hM_98
                  replace hv_38 := hv_38.le RP2_mono hM_98
                  replace hv_39 := hv_39.le RA2_mono hM_98
                  refine ⟨fun x hq hb => (agree_le hM_98 S.imm), ?_⟩
                  refine D_v E rfl rfl rfl (fun w hC => (R_assign E rfl)) ?_
                  clear E a; intro a E
                  refine D_x rfl rfl rfl (X_storeG (us := [.int .i64 pk2, .int .i64 pn2, w2]) E S rfl rfl (Try.sizeOf64 _) rfl (by intro u hu; simp only [List.mem_cons, List.not_mem_nil, or_false] at hu; rcases hu with rfl | rfl | rfl <;> first | exact rfl | exact rfl | exact (RdS.one' hw2)) ?_)
                  clear E a S; rintro a w E S
                  replace S : St w M_98 (blk b_97 (.cells #[.int .i64 pk2, .int .i64 pn2, w2] 64) :: _) := S
                  have S0 := S; clear S
                  obtain ⟨M_100, hM_100, hb_101, S⟩ := S0.freezeB
                  clear S0
                  replace h0 := h0.le RP2_mono hM_100
                  replace h1 := h1.le hM_100
                  replace hw2 := hw2.le hM_100
                  replace hb_1 := hM_100.2 _ _ hb_1
                  replace hv_7 := hv_7.le RP2_mono hM_100
                  replace hz_11 := hz_11.le hM_100
                  replace hv_13 := hv_13.le RP2_mono hM_100
                  replace hv_15 := hv_15.le (RSl_mono RP2_mono) hM_100
                  replace hv_19 := hv_19.le hM_100
                  replace hv_26 := hv_26.le RP2_mono hM_100
                  replace hv_28 := hv_28.le RP2_mono hM_100
                  replace hv_30 := hv_30.le RP2_mono hM_100
                  replace hv_32 := hv_32.le RP2_mono hM_100
                  replace hv_34 := hv_34.le RP2_mono hM_100
                  replace hv_36 := hv_36.le RP2_mono hM_100
                  replace hv_38 := hv_38.le RP2_mono hM_100
                  replace hv_39 := hv_39.le RA2_mono hM_100
                  replace hv_99 := hv_99.le RP2_mono hM_100
                  refine ⟨fun x hq hb => (agree_le (hM_98.trans hM_100) S.imm), ?_⟩
                  refine D_end (NoP_n ?_)
                  refine T_n ?_
                  refine WP_seq ?_
                  have hb_1k101 := hb_1
                  have hb_101k101 := hb_101
                  replace S := S.mono_heap (w' := World.drew _) rfl
                  refine WP_drawn (C := fun x w => agree M_100 w) (bf := (fun i => [])) [0, 1, 3, 4, 7, 8, 9, 11, 12, 15, 16, 17, 18, 20, 21, 24, 25, 26, 27, 29, 30, 33, 34, 35, 36, 38, 39, 42, 43, 44, 45, 47, 48, 51, 52] [0, 1, 3, 4, 2, 5, 6, 7, 8, 9, 11, 12, 10, 13, 14, 15, 16, 17, 18, 20, 21, 19, 22, 23, 24, 25, 26, 27, 29, 30, 28, 31, 32, 33, 34, 35, 36, 38, 39, 37, 40, 41, 42, 43, 44, 45, 47, 48, 46, 49, 50, 51, 52] Try.mixed (by kernel_rfl) (fun x hq => S.imm) ?_
                  refine D_v E rfl rfl rfl (fun w hC => (R_move E rfl)) ?_
                  clear E a; intro a E
                  refine D_v E rfl rfl rfl (fun w hC => (R_loadGM E rfl (Try.isAgg54 _) (Try.sizeOf54 _) hC hb_1k101)) ?_
                  clear E a; intro a E
                  refine D_v E rfl rfl rfl (fun w hC => (R_move E rfl)) ?_
                  clear E a; intro a E
                  refine D_v E rfl rfl rfl (fun w hC => (R_loadGM E rfl (Try.isAgg64 _) (Try.sizeOf64 _) hC hb_101k101)) ?_
                  clear E a; intro a E
                  refine D_x rfl rfl rfl (X_pu E S rfl rfl rfl (impl_PickBy h0 hw2 (by omega) (by first | omega | (simp; done) | (simp; omega) | exact Nat.le_trans (mkE_len _) (by omega))) (Hp.le.refl _) ?_)
                  clear E a S; rintro a v_103 w M_102 hM_102 hv_103 S E
                  replace h0 := h0.le RP2_mono hM_102
                  replace h1 := h1.le hM_102
                  replace hw2 := hw2.le hM_102
                  replace hb_1 := hM_102.2 _ _ hb_1
                  replace hv_7 := hv_7.le RP2_mono hM_102
                  replace hz_11 := hz_11.le hM_102
                  replace hv_13 := hv_13.le RP2_mono hM_102
                  replace hv_15 := hv_15.le (RSl_mono RP2_mono) hM_102
                  replace hv_19 := hv_19.le hM_102
                  replace hv_26 := hv_26.le RP2_mono hM_102
                  replace hv_28 := hv_28.le RP2_mono hM_102
                  replace hv_30 := hv_30.le RP2_mono hM_102
                  replace hv_32 := hv_32.le RP2_mono hM_102
                  replace hv_34 := hv_34.le RP2_mono hM_102
                  replace hv_36 := hv_36.le RP2_mono hM_102
                  replace hv_38 := hv_38.le RP2_mono hM_102
                  replace hv_39 := hv_39.le RA2_mono hM_102
                  replace hv_99 := hv_99.le RP2_mono hM_102
                  replace hb_101 := hM_102.2 _ _ hb_101
                  refine ⟨fun x hq hb => (agree_le hM_102 S.imm), ?_⟩
                  refine D_x rfl rfl rfl (X_pu E S rfl rfl rfl (spec_PickBy hv_99 hw2 (by omega) (by (first | omega | (simp; omega) | (simp; done) | (simp_all; omega) | grind)) (by assumption)) (Hp.le.refl _) ?_)
                  clear E a S; rintro a v_105 w M_104 hM_104 hv_105 S E
                  replace h0 := h0.le RP2_mono hM_104
                  replace h1 := h1.le hM_104
                  replace hw2 := hw2.le hM_104
                  replace hb_1 := hM_104.2 _ _ hb_1
                  replace hv_7 := hv_7.le RP2_mono hM_104
                  replace hz_11 := hz_11.le hM_104
                  replace hv_13 := hv_13.le RP2_mono hM_104
                  replace hv_15 := hv_15.le (RSl_mono RP2_mono) hM_104
                  replace hv_19 := hv_19.le hM_104
                  replace hv_26 := hv_26.le RP2_mono hM_104
                  replace hv_28 := hv_28.le RP2_mono hM_104
                  replace hv_30 := hv_30.le RP2_mono hM_104
                  replace hv_32 := hv_32.le RP2_mono hM_104
                  replace hv_34 := hv_34.le RP2_mono hM_104
                  replace hv_36 := hv_36.le RP2_mono hM_104
                  replace hv_38 := hv_38.le RP2_mono hM_104
                  replace hv_39 := hv_39.le RA2_mono hM_104
                  replace hv_99 := hv_99.le RP2_mono hM_104
                  replace hb_101 := hM_104.2 _ _ hb_101
                  replace hv_103 := hv_103.le RP2_mono hM_104
                  refine ⟨fun x hq hb => (agree_le (hM_102.trans hM_104) S.imm), ?_⟩
                  refine D_x rfl rfl rfl (X_pu E S rfl rfl rfl (laws_eqRef hv_103 hv_105) (Hp.le.refl _) ?_)
                  clear E a S; rintro a _ w M_106 hM_106 rfl S E
                  replace h0 := h0.le RP2_mono hM_106
                  replace h1 := h1.le hM_106
                  replace hw2 := hw2.le hM_106
                  replace hb_1 := hM_106.2 _ _ hb_1
                  replace hv_7 := hv_7.le RP2_mono hM_106
                  replace hz_11 := hz_11.le hM_106
                  replace hv_13 := hv_13.le RP2_mono hM_106
                  replace hv_15 := hv_15.le (RSl_mono RP2_mono) hM_106
                  replace hv_19 := hv_19.le hM_106
                  replace hv_26 := hv_26.le RP2_mono hM_106
                  replace hv_28 := hv_28.le RP2_mono hM_106
                  replace hv_30 := hv_30.le RP2_mono hM_106
                  replace hv_32 := hv_32.le RP2_mono hM_106
                  replace hv_34 := hv_34.le RP2_mono hM_106
                  replace hv_36 := hv_36.le RP2_mono hM_106
                  replace hv_38 := hv_38.le RP2_mono hM_106
                  replace hv_39 := hv_39.le RA2_mono hM_106
                  replace hv_99 := hv_99.le RP2_mono hM_106
                  replace hb_101 := hM_106.2 _ _ hb_101
                  replace hv_103 := hv_103.le RP2_mono hM_106
                  replace hv_105 := hv_105.le RP2_mono hM_106
                  refine ⟨fun x hq hb => (agree_le (hM_102.trans (hM_104.trans hM_106)) S.imm), ?_⟩
                  refine D_v E rfl rfl rfl (fun w hC => (R_move E rfl)) ?_
                  clear E a; intro a E
                  have hc_107 : (decide (entE ((mkE l0).filter (fun e : Int × Int => predAt pk2 pn2 pl2 e.1 e.2)) = entE ((mkE l0).filter (fun e : Int × Int => predAt pk2 pn2 pl2 e.1 e.2)))) = true := by (clear S E; first | (simp; done) | decide | (simp [entE, mkE, putK, srtK_len]; done) | (first | refine dec_t ?_ | refine dec_f ?_ | skip); first | rfl | exact (hall _ (List.mem_of_getElem? (by assumption))).1 | (have h9 := (hall _ (List.mem_of_getElem? (by assumption))).2; omega) | (have h9 := (hall _ (List.mem_of_getElem? (by assumption))).2; simp; omega))
                  replace E := E.val (t := 106) rfl hc_107
                  replace E := E.val (t := 107) rfl hc_107
                  refine D_vyes E rfl rfl rfl rfl rfl (fun w hC => (R_move E rfl)) ?_
                  clear E a; intro a E
                  refine D_vyes E rfl rfl rfl rfl rfl (fun w hC => (R_loadGM E rfl (Try.isAgg54 _) (Try.sizeOf54 _) hC hb_1k101)) ?_
                  clear E a; intro a E
                  refine D_vyes E rfl rfl rfl rfl rfl (fun w hC => (R_move E rfl)) ?_
                  clear E a; intro a E
                  refine D_vyes E rfl rfl rfl rfl rfl (fun w hC => (R_loadGM E rfl (Try.isAgg64 _) (Try.sizeOf64 _) hC hb_101k101)) ?_
                  clear E a; intro a E
                  refine D_yes E rfl rfl rfl rfl (X_pu E S rfl rfl rfl (impl_OmitBy h0 hw2 (by omega) (by first | omega | (simp; done) | (simp; omega) | exact Nat.le_trans (mkE_len _) (by omega))) (Hp.le.refl _) ?_)
                  clear E a S; rintro a v_109 w M_108 hM_108 hv_109 S E
                  replace h0 := h0.le RP2_mono hM_108
                  replace h1 := h1.le hM_108
                  replace hw2 := hw2.le hM_108
                  replace hb_1 := hM_108.2 _ _ hb_1
                  replace hv_7 := hv_7.le RP2_mono hM_108
                  replace hz_11 := hz_11.le hM_108
                  replace hv_13 := hv_13.le RP2_mono hM_108
                  replace hv_15 := hv_15.le (RSl_mono RP2_mono) hM_108
                  replace hv_19 := hv_19.le hM_108
                  replace hv_26 := hv_26.le RP2_mono hM_108
                  replace hv_28 := hv_28.le RP2_mono hM_108
                  replace hv_30 := hv_30.le RP2_mono hM_108
                  replace hv_32 := hv_32.le RP2_mono hM_108
                  replace hv_34 := hv_34.le RP2_mono hM_108
                  replace hv_36 := hv_36.le RP2_mono hM_108
                  replace hv_38 := hv_38.le RP2_mono hM_108
                  replace hv_39 := hv_39.le RA2_mono hM_108
                  replace hv_99 := hv_99.le RP2_mono hM_108
                  replace hb_101 := hM_108.2 _ _ hb_101
                  replace hv_103 := hv_103.le RP2_mono hM_108
                  replace hv_105 := hv_105.le RP2_mono hM_108
                  refine ⟨fun x hq hb => (agree_le (hM_102.trans (hM_104.trans (hM_106.trans hM_108))) S.imm), ?_⟩
                  refine D_yes E rfl rfl rfl rfl (X_pu E S rfl rfl rfl (spec_OmitBy hv_99 hw2 (by omega) (by (first | omega | (simp; omega) | (simp; done) | (simp_all; omega) | grind)) (by assumption)) (Hp.le.refl _) ?_)
                  clear E a S; rintro a v_111 w M_110 hM_110 hv_111 S E
                  replace h0 := h0.le RP2_mono hM_110
                  replace h1 := h1.le hM_110
                  replace hw2 := hw2.le hM_110
                  replace hb_1 := hM_110.2 _ _ hb_1
                  replace hv_7 := hv_7.le RP2_mono hM_110
                  replace hz_11 := hz_11.le hM_110
                  replace hv_13 := hv_13.le RP2_mono hM_110
                  replace hv_15 := hv_15.le (RSl_mono RP2_mono) hM_110
                  replace hv_19 := hv_19.le hM_110
                  replace hv_26 := hv_26.le RP2_mono hM_110
                  replace hv_28 := hv_28.le RP2_mono hM_110
                  replace hv_30 := hv_30.le RP2_mono hM_110
                  replace hv_32 := hv_32.le RP2_mono hM_110
                  replace hv_34 := hv_34.le RP2_mono hM_110
                  replace hv_36 := hv_36.le RP2_mono hM_110
                  replace hv_38 := hv_38.le RP2_mono hM_110
                  replace hv_39 := hv_39.le RA2_mono hM_110
                  replace hv_99 := hv_99.le RP2_mono hM_110
                  replace hb_101 := hM_110.2 _ _ hb_101
                  replace hv_103 := hv_103.le RP2_mono hM_110
                  replace hv_105 := hv_105.le RP2_mono hM_110
                  replace hv_109 := hv_109.le RP2_mono hM_110
                  refine ⟨fun x hq hb => (agree_le (hM_102.trans (hM_104.trans (hM_106.trans (hM_108.trans hM_110)))) S.imm), ?_⟩
                  refine D_yes E rfl rfl rfl rfl (X_pu E S rfl rfl rfl (laws_eqRef hv_109 hv_111) (Hp.le.refl _) ?_)
                  clear E a S; rintro a _ w M_112 hM_112 rfl S E
                  replace h0 := h0.le RP2_mono hM_112
                  replace h1 := h1.le hM_112
                  replace hw2 := hw2.le hM_112
                  replace hb_1 := hM_112.2 _ _ hb_1
                  replace hv_7 := hv_7.le RP2_mono hM_112
                  replace hz_11 := hz_11.le hM_112
                  replace hv_13 := hv_13.le RP2_mono hM_112
                  replace hv_15 := hv_15.le (RSl_mono RP2_mono) hM_112
                  replace hv_19 := hv_19.le hM_112
                  replace hv_26 := hv_26.le RP2_mono hM_112
                  replace hv_28 := hv_28.le RP2_mono hM_112
                  replace hv_30 := hv_30.le RP2_mono hM_112
                  replace hv_32 := hv_32.le RP2_mono hM_112
                  replace hv_34 := hv_34.le RP2_mono hM_112
                  replace hv_36 := hv_36.le RP2_mono hM_112
                  replace hv_38 := hv_38.le RP2_mono hM_112
                  replace hv_39 := hv_39.le RA2_mono hM_112
                  replace hv_99 := hv_99.le RP2_mono hM_112
                  replace hb_101 := hM_112.2 _ _ hb_101
                  replace hv_103 := hv_103.le RP2_mono hM_112
                  replace hv_105 := hv_105.le RP2_mono hM_112
                  replace hv_109 := hv_109.le RP2_mono hM_112
                  replace hv_111 := hv_111.le RP2_mono hM_112
                  refine ⟨fun x hq hb => (agree_le (hM_102.trans (hM_104.trans (hM_106.trans (hM_108.trans (hM_110.trans hM_112))))) S.imm), ?_⟩
                  refine D_v E rfl rfl rfl (fun w hC => (R_pickT E rfl rfl)) ?_
                  clear E a; intro a E
                  refine D_v E rfl rfl rfl (fun w hC => (R_move E rfl)) ?_
                  clear E a; intro a E
                  have hc_113 : (decide (entE ((mkE l0).filter (fun e : Int × Int => !predAt pk2 pn2 pl2 e.1 e.2)) = entE ((mkE l0).filter (fun e : Int × Int => !predAt pk2 pn2 pl2 e.1 e.2)))) = true := by (clear S E; first | (simp; done) | decide | (simp [entE, mkE, putK, srtK_len]; done) | (first | refine dec_t ?_ | refine dec_f ?_ | skip); first | rfl | exact (hall _ (List.mem_of_getElem? (by assumption))).1 | (have h9 := (hall _ (List.mem_of_getElem? (by assumption))).2; omega) | (have h9 := (hall _ (List.mem_of_getElem? (by assumption))).2; simp; omega))
                  replace E := E.val (t := 114) rfl hc_113
                  replace E := E.val (t := 115) rfl hc_113
                  replace E := E.val (t := 116) rfl hc_113
                  refine D_vyes E rfl rfl rfl rfl rfl (fun w hC => (R_move E rfl)) ?_
                  clear E a; intro a E
                  refine D_vyes E rfl rfl rfl rfl rfl (fun w hC => (R_move E rfl)) ?_
                  clear E a; intro a E
                  refine D_vyes E rfl rfl rfl rfl rfl (fun w hC => (R_move E rfl)) ?_
                  clear E a; intro a E
                  refine D_vyes E rfl rfl rfl rfl rfl (fun w hC => (R_move E rfl)) ?_
                  clear E a; intro a E
                  refine D_yes E rfl rfl rfl rfl (X_pu E S rfl rfl rfl (impl_PickByKeys h0 h1 (by first | omega | (simp; done) | (simp; omega) | exact Nat.le_trans (mkE_len _) (by omega))) (Hp.le.refl _) ?_)
                  clear E a S; rintro a v_115 w M_114 hM_114 hv_115 S E
                  replace h0 := h0.le RP2_mono hM_114
                  replace h1 := h1.le hM_114
                  replace hw2 := hw2.le hM_114
                  replace hb_1 := hM_114.2 _ _ hb_1
                  replace hv_7 := hv_7.le RP2_mono hM_114
                  replace hz_11 := hz_11.le hM_114
                  replace hv_13 := hv_13.le RP2_mono hM_114
                  replace hv_15 := hv_15.le (RSl_mono RP2_mono) hM_114
                  replace hv_19 := hv_19.le hM_114
                  replace hv_26 := hv_26.le RP2_mono hM_114
                  replace hv_28 := hv_28.le RP2_mono hM_114
                  replace hv_30 := hv_30.le RP2_mono hM_114
                  replace hv_32 := hv_32.le RP2_mono hM_114
                  replace hv_34 := hv_34.le RP2_mono hM_114
                  replace hv_36 := hv_36.le RP2_mono hM_114
                  replace hv_38 := hv_38.le RP2_mono hM_114
                  replace hv_39 := hv_39.le RA2_mono hM_114
                  replace hv_99 := hv_99.le RP2_mono hM_114
                  replace hb_101 := hM_114.2 _ _ hb_101
                  replace hv_103 := hv_103.le RP2_mono hM_114
                  replace hv_105 := hv_105.le RP2_mono hM_114
                  replace hv_109 := hv_109.le RP2_mono hM_114
                  replace hv_111 := hv_111.le RP2_mono hM_114
                  refine ⟨fun x hq hb => (agree_le (hM_102.trans (hM_104.trans (hM_106.trans (hM_108.trans (hM_110.trans (hM_112.trans hM_114)))))) S.imm), ?_⟩
                  refine D_yes E rfl rfl rfl rfl (X_pu E S rfl rfl rfl (spec_PickByKeys hv_99 h1 (by (first | omega | (simp; omega) | (simp; done) | (simp_all; omega) | grind)) (by assumption)) (Hp.le.refl _) ?_)
                  clear E a S; rintro a v_117 w M_116 hM_116 hv_117 S E
                  replace h0 := h0.le RP2_mono hM_116
                  replace h1 := h1.le hM_116
                  replace hw2 := hw2.le hM_116
                  replace hb_1 := hM_116.2 _ _ hb_1
                  replace hv_7 := hv_7.le RP2_mono hM_116
                  replace hz_11 := hz_11.le hM_116
                  replace hv_13 := hv_13.le RP2_mono hM_116
                  replace hv_15 := hv_15.le (RSl_mono RP2_mono) hM_116
                  replace hv_19 := hv_19.le hM_116
                  replace hv_26 := hv_26.le RP2_mono hM_116
                  replace hv_28 := hv_28.le RP2_mono hM_116
                  replace hv_30 := hv_30.le RP2_mono hM_116
                  replace hv_32 := hv_32.le RP2_mono hM_116
                  replace hv_34 := hv_34.le RP2_mono hM_116
                  replace hv_36 := hv_36.le RP2_mono hM_116
                  replace hv_38 := hv_38.le RP2_mono hM_116
                  replace hv_39 := hv_39.le RA2_mono hM_116
                  replace hv_99 := hv_99.le RP2_mono hM_116
                  replace hb_101 := hM_116.2 _ _ hb_101
                  replace hv_103 := hv_103.le RP2_mono hM_116
                  replace hv_105 := hv_105.le RP2_mono hM_116
                  replace hv_109 := hv_109.le RP2_mono hM_116
                  replace hv_111 := hv_111.le RP2_mono hM_116
                  replace hv_115 := hv_115.le RP2_mono hM_116
                  refine ⟨fun x hq hb => (agree_le (hM_102.trans (hM_104.trans (hM_106.trans (hM_108.trans (hM_110.trans (hM_112.trans (hM_114.trans hM_116))))))) S.imm), ?_⟩
                  refine D_yes E rfl rfl rfl rfl (X_pu E S rfl rfl rfl (laws_eqRef hv_115 hv_117) (Hp.le.refl _) ?_)
                  clear E a S; rintro a _ w M_118 hM_118 rfl S E
                  replace h0 := h0.le RP2_mono hM_118
                  replace h1 := h1.le hM_118
                  replace hw2 := hw2.le hM_118
                  replace hb_1 := hM_118.2 _ _ hb_1
                  replace hv_7 := hv_7.le RP2_mono hM_118
                  replace hz_11 := hz_11.le hM_118
                  replace hv_13 := hv_13.le RP2_mono hM_118
                  replace hv_15 := hv_15.le (RSl_mono RP2_mono) hM_118
                  replace hv_19 := hv_19.le hM_118
                  replace hv_26 := hv_26.le RP2_mono hM_118
                  replace hv_28 := hv_28.le RP2_mono hM_118
                  replace hv_30 := hv_30.le RP2_mono hM_118
                  replace hv_32 := hv_32.le RP2_mono hM_118
                  replace hv_34 := hv_34.le RP2_mono hM_118
                  replace hv_36 := hv_36.le RP2_mono hM_118
                  replace hv_38 := hv_38.le RP2_mono hM_118
                  replace hv_39 := hv_39.le RA2_mono hM_118
                  replace hv_99 := hv_99.le RP2_mono hM_118
                  replace hb_101 := hM_118.2 _ _ hb_101
                  replace hv_103 := hv_103.le RP2_mono hM_118
                  replace hv_105 := hv_105.le RP2_mono hM_118
                  replace hv_109 := hv_109.le RP2_mono hM_118
                  replace hv_111 := hv_111.le RP2_mono hM_118
                  replace hv_115 := hv_115.le RP2_mono hM_118
                  replace hv_117 := hv_117.le RP2_mono hM_118
                  refine ⟨fun x hq hb => (agree_le (hM_102.trans (hM_104.trans (hM_106.trans (hM_108.trans (hM_110.trans (hM_112.trans (hM_114.trans (hM_116.trans hM_118)))))))) S.imm), ?_⟩
                  refine D_v E rfl rfl rfl (fun w hC => (R_pickT E rfl rfl)) ?_
                  clear E a; intro a E
                  refine D_v E rfl rfl rfl (fun w hC => (R_move E rfl)) ?_
                  clear E a; intro a E
                  have hc_119 : (decide (entE ((mkE l0).filter (fun e : Int × Int => decide (e.1 ∈ l1))) = entE ((mkE l0).filter (fun e : Int × Int => decide (e.1 ∈ l1))))) = true := by (clear S E; first | (simp; done) | decide | (simp [entE, mkE, putK, srtK_len]; done) | (first | refine dec_t ?_ | refine dec_f ?_ | skip); first | rfl | exact (hall _ (List.mem_of_getElem? (by assumption))).1 | (have h9 := (hall _ (List.mem_of_getElem? (by assumption))).2; omega) | (have h9 := (hall _ (List.mem_of_getElem? (by assumption))).2; simp; omega))
                  replace E := E.val (t := 123) rfl hc_119
                  replace E := E.val (t := 124) rfl hc_119
                  replace E := E.val (t := 125) rfl hc_119
                  refine D_vyes E rfl rfl rfl rfl rfl (fun w hC => (R_move E rfl)) ?_
                  clear E a; intro a E
                  refine D_vyes E rfl rfl rfl rfl rfl (fun w hC => (R_move E rfl)) ?_
                  clear E a; intro a E
                  refine D_vyes E rfl rfl rfl rfl rfl (fun w hC => (R_move E rfl)) ?_
                  clear E a; intro a E
                  refine D_vyes E rfl rfl rfl rfl rfl (fun w hC => (R_move E rfl)) ?_
                  clear E a; intro a E
                  refine D_yes E rfl rfl rfl rfl (X_pu E S rfl rfl rfl (impl_OmitByKeys h0 h1 (by first | omega | (simp; done) | (simp; omega) | exact Nat.le_trans (mkE_len _) (by omega))) (Hp.le.refl _) ?_)
                  clear E a S; rintro a v_121 w M_120 hM_120 hv_121 S E
                  replace h0 := h0.le RP2_mono hM_120
                  replace h1 := h1.le hM_120
                  replace hw2 := hw2.le hM_120
                  replace hb_1 := hM_120.2 _ _ hb_1
                  replace hv_7 := hv_7.le RP2_mono hM_120
                  replace hz_11 := hz_11.le hM_120
                  replace hv_13 := hv_13.le RP2_mono hM_120
                  replace hv_15 := hv_15.le (RSl_mono RP2_mono) hM_120
                  replace hv_19 := hv_19.le hM_120
                  replace hv_26 := hv_26.le RP2_mono hM_120
                  replace hv_28 := hv_28.le RP2_mono hM_120
                  replace hv_30 := hv_30.le RP2_mono hM_120
                  replace hv_32 := hv_32.le RP2_mono hM_120
                  replace hv_34 := hv_34.le RP2_mono hM_120
                  replace hv_36 := hv_36.le RP2_mono hM_120
                  replace hv_38 := hv_38.le RP2_mono hM_120
                  replace hv_39 := hv_39.le RA2_mono hM_120
                  replace hv_99 := hv_99.le RP2_mono hM_120
                  replace hb_101 := hM_120.2 _ _ hb_101
                  replace hv_103 := hv_103.le RP2_mono hM_120
                  replace hv_105 := hv_105.le RP2_mono hM_120
                  replace hv_109 := hv_109.le RP2_mono hM_120
                  replace hv_111 := hv_111.le RP2_mono hM_120
                  replace hv_115 := hv_115.le RP2_mono hM_120
                  replace hv_117 := hv_117.le RP2_mono hM_120
                  refine ⟨fun x hq hb => (agree_le (hM_102.trans (hM_104.trans (hM_106.trans (hM_108.trans (hM_110.trans (hM_112.trans (hM_114.trans (hM_116.trans (hM_118.trans hM_120))))))))) S.imm), ?_⟩
                  refine D_yes E rfl rfl rfl rfl (X_pu E S rfl rfl rfl (spec_OmitByKeys hv_99 h1 (by (first | omega | (simp; omega) | (simp; done) | (simp_all; omega) | grind)) (by assumption)) (Hp.le.refl _) ?_)
                  clear E a S; rintro a v_123 w M_122 hM_122 hv_123 S E
                  replace h0 := h0.le RP2_mono hM_122
                  replace h1 := h1.le hM_122
                  replace hw2 := hw2.le hM_122
                  replace hb_1 := hM_122.2 _ _ hb_1
                  replace hv_7 := hv_7.le RP2_mono hM_122
                  replace hz_11 := hz_11.le hM_122
                  replace hv_13 := hv_13.le RP2_mono hM_122
                  replace hv_15 := hv_15.le (RSl_mono RP2_mono) hM_122
                  replace hv_19 := hv_19.le hM_122
                  replace hv_26 := hv_26.le RP2_mono hM_122
                  replace hv_28 := hv_28.le RP2_mono hM_122
                  replace hv_30 := hv_30.le RP2_mono hM_122
                  replace hv_32 := hv_32.le RP2_mono hM_122
                  replace hv_34 := hv_34.le RP2_mono hM_122
                  replace hv_36 := hv_36.le RP2_mono hM_122
                  replace hv_38 := hv_38.le RP2_mono hM_122
                  replace hv_39 := hv_39.le RA2_mono hM_122
                  replace hv_99 := hv_99.le RP2_mono hM_122
                  replace hb_101 := hM_122.2 _ _ hb_101
                  replace hv_103 := hv_103.le RP2_mono hM_122
                  replace hv_105 := hv_105.le RP2_mono hM_122
                  replace hv_109 := hv_109.le RP2_mono hM_122
                  replace hv_111 := hv_111.le RP2_mono hM_122
                  replace hv_115 := hv_115.le RP2_mono hM_122
                  replace hv_117 := hv_117.le RP2_mono hM_122
                  replace hv_121 := hv_121.le RP2_mono hM_122
                  refine ⟨fun x hq hb => (agree_le (hM_102.trans (hM_104.trans (hM_106.trans (hM_108.trans (hM_110.trans (hM_112.trans (hM_114.trans (hM_116.trans (hM_118.trans (hM_120.trans hM_122)))))))))) S.imm), ?_⟩
                  refine D_yes E rfl rfl rfl rfl (X_pu E S rfl rfl rfl (laws_eqRef hv_121 hv_123) (Hp.le.refl _) ?_)
                  clear E a S; rintro a _ w M_124 hM_124 rfl S E
                  replace h0 := h0.le RP2_mono hM_124
                  replace h1 := h1.le hM_124
                  replace hw2 := hw2.le hM_124
                  replace hb_1 := hM_124.2 _ _ hb_1
                  replace hv_7 := hv_7.le RP2_mono hM_124
                  replace hz_11 := hz_11.le hM_124
                  replace hv_13 := hv_13.le RP2_mono hM_124
                  replace hv_15 := hv_15.le (RSl_mono RP2_mono) hM_124
                  replace hv_19 := hv_19.le hM_124
                  replace hv_26 := hv_26.le RP2_mono hM_124
                  replace hv_28 := hv_28.le RP2_mono hM_124
                  replace hv_30 := hv_30.le RP2_mono hM_124
                  replace hv_32 := hv_32.le RP2_mono hM_124
                  replace hv_34 := hv_34.le RP2_mono hM_124
                  replace hv_36 := hv_36.le RP2_mono hM_124
                  replace hv_38 := hv_38.le RP2_mono hM_124
                  replace hv_39 := hv_39.le RA2_mono hM_124
                  replace hv_99 := hv_99.le RP2_mono hM_124
                  replace hb_101 := hM_124.2 _ _ hb_101
                  replace hv_103 := hv_103.le RP2_mono hM_124
                  replace hv_105 := hv_105.le RP2_mono hM_124
                  replace hv_109 := hv_109.le RP2_mono hM_124
                  replace hv_111 := hv_111.le RP2_mono hM_124
                  replace hv_115 := hv_115.le RP2_mono hM_124
                  replace hv_117 := hv_117.le RP2_mono hM_124
                  replace hv_121 := hv_121.le RP2_mono hM_124
                  replace hv_123 := hv_123.le RP2_mono hM_124
                  refine ⟨fun x hq hb => (agree_le (hM_102.trans (hM_104.trans (hM_106.trans (hM_108.trans (hM_110.trans (hM_112.trans (hM_114.trans (hM_116.trans (hM_118.trans (hM_120.trans (hM_122.trans hM_124))))))))))) S.imm), ?_⟩
                  refine D_v E rfl rfl rfl (fun w hC => (R_pickT E rfl rfl)) ?_
                  clear E a; intro a E
                  refine D_v E rfl rfl rfl (fun w hC => (R_move E rfl)) ?_
                  clear E a; intro a E
                  have hc_125 : (decide (entE ((mkE l0).filter (fun e : Int × Int => !decide (e.1 ∈ l1))) = entE ((mkE l0).filter (fun e : Int × Int => !decide (e.1 ∈ l1))))) = true := by (clear S E; first | (simp; done) | decide | (simp [entE, mkE, putK, srtK_len]; done) | (first | refine dec_t ?_ | refine dec_f ?_ | skip); first | rfl | exact (hall _ (List.mem_of_getElem? (by assumption))).1 | (have h9 := (hall _ (List.mem_of_getElem? (by assumption))).2; omega) | (have h9 := (hall _ (List.mem_of_getElem? (by assumption))).2; simp; omega))
                  replace E := E.val (t := 132) rfl hc_125
                  replace E := E.val (t := 133) rfl hc_125
                  replace E := E.val (t := 134) rfl hc_125
                  refine D_vyes E rfl rfl rfl rfl rfl (fun w hC => (R_move E rfl)) ?_
                  clear E a; intro a E
                  refine D_vyes E rfl rfl rfl rfl rfl (fun w hC => (R_move E rfl)) ?_
                  clear E a; intro a E
                  refine D_vyes E rfl rfl rfl rfl rfl (fun w hC => (R_move E rfl)) ?_
                  clear E a; intro a E
                  refine D_vyes E rfl rfl rfl rfl rfl (fun w hC => (R_move E rfl)) ?_
                  clear E a; intro a E
                  refine D_yes E rfl rfl rfl rfl (X_pu E S rfl rfl rfl (impl_PickByValues h0 h1 (by first | omega | (simp; done) | (simp; omega) | exact Nat.le_trans (mkE_len _) (by omega))) (Hp.le.refl _) ?_)
                  clear E a S; rintro a v_127 w M_126 hM_126 hv_127 S E
                  replace h0 := h0.le RP2_mono hM_126
                  replace h1 := h1.le hM_126
                  replace hw2 := hw2.le hM_126
                  replace hb_1 := hM_126.2 _ _ hb_1
                  replace hv_7 := hv_7.le RP2_mono hM_126
                  replace hz_11 := hz_11.le hM_126
                  replace hv_13 := hv_13.le RP2_mono hM_126
                  replace hv_15 := hv_15.le (RSl_mono RP2_mono) hM_126
                  replace hv_19 := hv_19.le hM_126
                  replace hv_26 := hv_26.le RP2_mono hM_126
                  replace hv_28 := hv_28.le RP2_mono hM_126
                  replace hv_30 := hv_30.le RP2_mono hM_126
                  replace hv_32 := hv_32.le RP2_mono hM_126
                  replace hv_34 := hv_34.le RP2_mono hM_126
                  replace hv_36 := hv_36.le RP2_mono hM_126
                  replace hv_38 := hv_38.le RP2_mono hM_126
                  replace hv_39 := hv_39.le RA2_mono hM_126
                  replace hv_99 := hv_99.le RP2_mono hM_126
                  replace hb_101 := hM_126.2 _ _ hb_101
                  replace hv_103 := hv_103.le RP2_mono hM_126
                  replace hv_105 := hv_105.le RP2_mono hM_126
                  replace hv_109 := hv_109.le RP2_mono hM_126
                  replace hv_111 := hv_111.le RP2_mono hM_126
                  replace hv_115 := hv_115.le RP2_mono hM_126
                  replace hv_117 := hv_117.le RP2_mono hM_126
                  replace hv_121 := hv_121.le RP2_mono hM_126
                  replace hv_123 := hv_123.le RP2_mono hM_126
                  refine ⟨fun x hq hb => (agree_le (hM_102.trans (hM_104.trans (hM_106.trans (hM_108.trans (hM_110.trans (hM_112.trans (hM_114.trans (hM_116.trans (hM_118.trans (hM_120.trans (hM_122.trans (hM_124.trans hM_126)))))))))))) S.imm), ?_⟩
                  refine D_yes E rfl rfl rfl rfl (X_pu E S rfl rfl rfl (spec_PickByValues hv_99 h1 (by (first | omega | (simp; omega) | (simp; done) | (simp_all; omega) | grind)) (by assumption)) (Hp.le.refl _) ?_)
                  clear E a S; rintro a v_129 w M_128 hM_128 hv_129 S E
                  replace h0 := h0.le RP2_mono hM_128
                  replace h1 := h1.le hM_128
                  replace hw2 := hw2.le hM_128
                  replace hb_1 := hM_128.2 _ _ hb_1
                  replace hv_7 := hv_7.le RP2_mono hM_128
                  replace hz_11 := hz_11.le hM_128
                  replace hv_13 := hv_13.le RP2_mono hM_128
                  replace hv_15 := hv_15.le (RSl_mono RP2_mono) hM_128
                  replace hv_19 := hv_19.le hM_128
                  replace hv_26 := hv_26.le RP2_mono hM_128
                  replace hv_28 := hv_28.le RP2_mono hM_128
                  replace hv_30 := hv_30.le RP2_mono hM_128
                  replace hv_32 := hv_32.le RP2_mono hM_128
                  replace hv_34 := hv_34.le RP2_mono hM_128
                  replace hv_36 := hv_36.le RP2_mono hM_128
                  replace hv_38 := hv_38.le RP2_mono hM_128
                  replace hv_39 := hv_39.le RA2_mono hM_128
                  replace hv_99 := hv_99.le RP2_mono hM_128
                  replace hb_101 := hM_128.2 _ _ hb_101
                  replace hv_103 := hv_103.le RP2_mono hM_128
                  replace hv_105 := hv_105.le RP2_mono hM_128
                  replace hv_109 := hv_109.le RP2_mono hM_128
                  replace hv_111 := hv_111.le RP2_mono hM_128
                  replace hv_115 := hv_115.le RP2_mono hM_128
                  replace hv_117 := hv_117.le RP2_mono hM_128
                  replace hv_121 := hv_121.le RP2_mono hM_128
                  replace hv_123 := hv_123.le RP2_mono hM_128
                  replace hv_127 := hv_127.le RP2_mono hM_128
                  refine ⟨fun x hq hb => (agree_le (hM_102.trans (hM_104.trans (hM_106.trans (hM_108.trans (hM_110.trans (hM_112.trans (hM_114.trans (hM_116.trans (hM_118.trans (hM_120.trans (hM_122.trans (hM_124.trans (hM_126.trans hM_128))))))))))))) S.imm), ?_⟩
                  refine D_yes E rfl rfl rfl rfl (X_pu E S rfl rfl rfl (laws_eqRef hv_127 hv_129) (Hp.le.refl _) ?_)
                  clear E a S; rintro a _ w M_130 hM_130 rfl S E
                  replace h0 := h0.le RP2_mono hM_130
                  replace h1 := h1.le hM_130
                  replace hw2 := hw2.le hM_130
                  replace hb_1 := hM_130.2 _ _ hb_1
                  replace hv_7 := hv_7.le RP2_mono hM_130
                  replace hz_11 := hz_11.le hM_130
                  replace hv_13 := hv_13.le RP2_mono hM_130
                  replace hv_15 := hv_15.le (RSl_mono RP2_mono) hM_130
                  replace hv_19 := hv_19.le hM_130
                  replace hv_26 := hv_26.le RP2_mono hM_130
                  replace hv_28 := hv_28.le RP2_mono hM_130
                  replace hv_30 := hv_30.le RP2_mono hM_130
                  replace hv_32 := hv_32.le RP2_mono hM_130
                  replace hv_34 := hv_34.le RP2_mono hM_130
                  replace hv_36 := hv_36.le RP2_mono hM_130
                  replace hv_38 := hv_38.le RP2_mono hM_130
                  replace hv_39 := hv_39.le RA2_mono hM_130
                  replace hv_99 := hv_99.le RP2_mono hM_130
                  replace hb_101 := hM_130.2 _ _ hb_101
                  replace hv_103 := hv_103.le RP2_mono hM_130
                  replace hv_105 := hv_105.le RP2_mono hM_130
                  replace hv_109 := hv_109.le RP2_mono hM_130
                  replace hv_111 := hv_111.le RP2_mono hM_130
                  replace hv_115 := hv_115.le RP2_mono hM_130
                  replace hv_117 := hv_117.le RP2_mono hM_130
                  replace hv_121 := hv_121.le RP2_mono hM_130
                  replace hv_123 := hv_123.le RP2_mono hM_130
                  replace hv_127 := hv_127.le RP2_mono hM_130
                  replace hv_129 := hv_129.le RP2_mono hM_130
                  refine ⟨fun x hq hb => (agree_le (hM_102.trans (hM_104.trans (hM_106.trans (hM_108.trans (hM_110.trans (hM_112.trans (hM_114.trans (hM_116.trans (hM_118.trans (hM_120.trans (hM_122.trans (hM_124.trans (hM_126.trans (hM_128.trans hM_130)))))))))))))) S.imm), ?_⟩
                  refine D_v E rfl rfl rfl (fun w hC => (R_pickT E rfl rfl)) ?_
                  clear E a; intro a E
                  refine D_v E rfl rfl rfl (fun w hC => (R_move E rfl)) ?_
                  clear E a; intro a E
                  have hc_131 : (decide (entE ((mkE l0).filter (fun e : Int × Int => decide (e.2 ∈ l1))) = entE ((mkE l0).filter (fun e : Int × Int => decide (e.2 ∈ l1))))) = true := by (clear S E; first | (simp; done) | decide | (simp [entE, mkE, putK, srtK_len]; done) | (first | refine dec_t ?_ | refine dec_f ?_ | skip); first | rfl | exact (hall _ (List.mem_of_getElem? (by assumption))).1 | (have h9 := (hall _ (List.mem_of_getElem? (by assumption))).2; omega) | (have h9 := (hall _ (List.mem_of_getElem? (by assumption))).2; simp; omega))
                  replace E := E.val (t := 141) rfl hc_131
                  replace E := E.val (t := 142) rfl hc_131
                  replace E := E.val (t := 143) rfl hc_131
                  refine D_vyes E rfl rfl rfl rfl rfl (fun w hC => (R_move E rfl)) ?_
                  clear E a; intro a E
                  refine D_vyes E rfl rfl rfl rfl rfl (fun w hC => (R_move E rfl)) ?_
                  clear E a; intro a E
                  refine D_vyes E rfl rfl rfl rfl rfl (fun w hC => (R_move E rfl)) ?_
                  clear E a; intro a E
                  refine D_vyes E rfl rfl rfl rfl rfl (fun w hC => (R_move E rfl)) ?_
                  clear E a; intro a E
                  refine D_yes E rfl rfl rfl rfl (X_pu E S rfl rfl rfl (impl_OmitByValues h0 h1 (by first | omega | (simp; done) | (simp; omega) | exact Nat.le_trans (mkE_len _) (by omega))) (Hp.le.refl _) ?_)
                  clear E a S; rintro a v_133 w M_132 hM_132 hv_133 S E
                  replace h0 := h0.le RP2_mono hM_132
                  replace h1 := h1.le hM_132
                  replace hw2 := hw2.le hM_132
                  replace hb_1 := hM_132.2 _ _ hb_1
                  replace hv_7 := hv_7.le RP2_mono hM_132
                  replace hz_11 := hz_11.le hM_132
                  replace hv_13 := hv_13.le RP2_mono hM_132
                  replace hv_15 := hv_15.le (RSl_mono RP2_mono) hM_132
                  replace hv_19 := hv_19.le hM_132
                  replace hv_26 := hv_26.le RP2_mono hM_132
                  replace hv_28 := hv_28.le RP2_mono hM_132
                  replace hv_30 := hv_30.le RP2_mono hM_132
                  replace hv_32 := hv_32.le RP2_mono hM_132
                  replace hv_34 := hv_34.le RP2_mono hM_132
                  replace hv_36 := hv_36.le RP2_mono hM_132
                  replace hv_38 := hv_38.le RP2_mono hM_132
                  replace hv_39 := hv_39.le RA2_mono hM_132
                  replace hv_99 := hv_99.le RP2_mono hM_132
                  replace hb_101 := hM_132.2 _ _ hb_101
                  replace hv_103 := hv_103.le RP2_mono hM_132
                  replace hv_105 := hv_105.le RP2_mono hM_132
                  replace hv_109 := hv_109.le RP2_mono hM_132
                  replace hv_111 := hv_111.le RP2_mono hM_132
                  replace hv_115 := hv_115.le RP2_mono hM_132
                  replace hv_117 := hv_117.le RP2_mono hM_132
                  replace hv_121 := hv_121.le RP2_mono hM_132
                  replace hv_123 := hv_123.le RP2_mono hM_132
                  replace hv_127 := hv_127.le RP2_mono hM_132
                  replace hv_129 := hv_129.le RP2_mono hM_132
                  refine ⟨fun x hq hb => (agree_le (hM_102.trans (hM_104.trans (hM_106.trans (hM_108.trans (hM_110.trans (hM_112.trans (hM_114.trans (hM_116.trans (hM_118.trans (hM_120.trans (hM_122.trans (hM_124.trans (hM_126.trans (hM_128.trans (hM_130.trans hM_132))))))))))))))) S.imm), ?_⟩
                  refine D_yes E rfl rfl rfl rfl (X_pu E S rfl rfl rfl (spec_OmitByValues hv_99 h1 (by (first | omega | (simp; omega) | (simp; done) | (simp_all; omega) | grind)) (by assumption)) (Hp.le.refl _) ?_)
                  clear E a S; rintro a v_135 w M_134 hM_134 hv_135 S E
                  replace h0 := h0.le RP2_mono hM_134
                  replace h1 := h1.le hM_134
                  replace hw2 := hw2.le hM_134
                  replace hb_1 := hM_134.2 _ _ hb_1
                  replace hv_7 := hv_7.le RP2_mono hM_134
                  replace hz_11 := hz_11.le hM_134
                  replace hv_13 := hv_13.le RP2_mono hM_134
                  replace hv_15 := hv_15.le (RSl_mono RP2_mono) hM_134
                  replace hv_19 := hv_19.le hM_134
                  replace hv_26 := hv_26.le RP2_mono hM_134
                  replace hv_28 := hv_28.le RP2_mono hM_134
                  replace hv_30 := hv_30.le RP2_mono hM_134
                  replace hv_32 := hv_32.le RP2_mono hM_134
                  replace hv_34 := hv_34.le RP2_mono hM_134
                  replace hv_36 := hv_36.le RP2_mono hM_134
                  replace hv_38 := hv_38.le RP2_mono hM_134
                  replace hv_39 := hv_39.le RA2_mono hM_134
                  replace hv_99 := hv_99.le RP2_mono hM_134
                  replace hb_101 := hM_134.2 _ _ hb_101
                  replace hv_103 := hv_103.le RP2_mono hM_134
                  replace hv_105 := hv_105.le RP2_mono hM_134
                  replace hv_109 := hv_109.le RP2_mono hM_134
                  replace hv_111 := hv_111.le RP2_mono hM_134
                  replace hv_115 := hv_115.le RP2_mono hM_134
                  replace hv_117 := hv_117.le RP2_mono hM_134
                  replace hv_121 := hv_121.le RP2_mono hM_134
                  replace hv_123 := hv_123.le RP2_mono hM_134
                  replace hv_127 := hv_127.le RP2_mono hM_134
                  replace hv_129 := hv_129.le RP2_mono hM_134
                  replace hv_133 := hv_133.le RP2_mono hM_134
                  refine ⟨fun x hq hb => (agree_le (hM_102.trans (hM_104.trans (hM_106.trans (hM_108.trans (hM_110.trans (hM_112.trans (hM_114.trans (hM_116.trans (hM_118.trans (hM_120.trans (hM_122.trans (hM_124.trans (hM_126.trans (hM_128.trans (hM_130.trans (hM_132.trans hM_134)))))))))))))))) S.imm), ?_⟩
                  refine D_yes E rfl rfl rfl rfl (X_pu E S rfl rfl rfl (laws_eqRef hv_133 hv_135) (Hp.le.refl _) ?_)
                  clear E a S; rintro a _ w M_136 hM_136 rfl S E
                  replace h0 := h0.le RP2_mono hM_136
                  replace h1 := h1.le hM_136
                  replace hw2 := hw2.le hM_136
                  replace hb_1 := hM_136.2 _ _ hb_1
                  replace hv_7 := hv_7.le RP2_mono hM_136
                  replace hz_11 := hz_11.le hM_136
                  replace hv_13 := hv_13.le RP2_mono hM_136
                  replace hv_15 := hv_15.le (RSl_mono RP2_mono) hM_136
                  replace hv_19 := hv_19.le hM_136
                  replace hv_26 := hv_26.le RP2_mono hM_136
                  replace hv_28 := hv_28.le RP2_mono hM_136
                  replace hv_30 := hv_30.le RP2_mono hM_136
                  replace hv_32 := hv_32.le RP2_mono hM_136
                  replace hv_34 := hv_34.le RP2_mono hM_136
                  replace hv_36 := hv_36.le RP2_mono hM_136
                  replace hv_38 := hv_38.le RP2_mono hM_136
                  replace hv_39 := hv_39.le RA2_mono hM_136
                  replace hv_99 := hv_99.le RP2_mono hM_136
                  replace hb_101 := hM_136.2 _ _ hb_101
                  replace hv_103 := hv_103.le RP2_mono hM_136
                  replace hv_105 := hv_105.le RP2_mono hM_136
                  replace hv_109 := hv_109.le RP2_mono hM_136
                  replace hv_111 := hv_111.le RP2_mono hM_136
                  replace hv_115 := hv_115.le RP2_mono hM_136
                  replace hv_117 := hv_117.le RP2_mono hM_136
                  replace hv_121 := hv_121.le RP2_mono hM_136
                  replace hv_123 := hv_123.le RP2_mono hM_136
                  replace hv_127 := hv_127.le RP2_mono hM_136
                  replace hv_129 := hv_129.le RP2_mono hM_136
                  replace hv_133 := hv_133.le RP2_mono hM_136
                  replace hv_135 := hv_135.le RP2_mono hM_136
                  refine ⟨fun x hq hb => (agree_le (hM_102.trans (hM_104.trans (hM_106.trans (hM_108.trans (hM_110.trans (hM_112.trans (hM_114.trans (hM_116.trans (hM_118.trans (hM_120.trans (hM_122.trans (hM_124.trans (hM_126.trans (hM_128.trans (hM_130.trans (hM_132.trans (hM_134.trans hM_136))))))))))))))))) S.imm), ?_⟩
                  refine D_v E rfl rfl rfl (fun w hC => (R_pickT E rfl rfl)) ?_
                  clear E a; intro a E
                  refine D_v E rfl rfl rfl (fun w hC => (R_assign E rfl)) ?_
                  clear E a; intro a E
                  refine D_end (NoP_n ?_)
                  refine T_n ?_
                  refine WP_ret ?_
                  exact F_ret1 E Try.results9 rfl ⟨_, rfl, M_136, (hM_2.trans (hM_5.trans (hM_8.trans (hM_10.trans (hM_12.trans (hM_16.trans (hM_17.trans (hM_20.trans (hM_21.trans (hM_23.trans (hM_25.trans (hM_27.trans (hM_29.trans (hM_31.trans (hM_33.trans (hM_35.trans (hM_37.trans (hM_40.trans (hM_41.trans (hM_98.trans (hM_100.trans (hM_102.trans (hM_104.trans (hM_106.trans (hM_108.trans (hM_110.trans (hM_112.trans (hM_114.trans (hM_116.trans (hM_118.trans (hM_120.trans (hM_122.trans (hM_124.trans (hM_126.trans (hM_128.trans (hM_130.trans (hM_132.trans (hM_134.trans hM_136)))))))))))))))))))))))))))))))))))))), (congrArg Value.bool (by (clear S E; first | (simp; done) | decide | (simp [entE, mkE, putK, srtK_len]; done) | (first | refine dec_t ?_ | refine dec_f ?_ | skip); first | rfl | exact (hall _ (List.mem_of_getElem? (by assumption))).1 | (have h9 := (hall _ (List.mem_of_getElem? (by assumption))).2; omega) | (have h9 := (hall _ (List.mem_of_getElem? (by assumption))).2; simp; omega)))), S⟩

end Go.Proofs.Ytahbobhbookehaa.wFnPicked
