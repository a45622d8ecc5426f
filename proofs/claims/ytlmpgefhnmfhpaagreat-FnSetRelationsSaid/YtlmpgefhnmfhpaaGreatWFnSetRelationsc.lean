/- Walks through the functions that laws.FnSetRelations reaches: what each computes; no conditions beyond what each theorem states. -/
import Derived.Test.YtlmpgefhnmfhpaaGreatWFnSetRelationsb
set_option linter.unusedVariables false
set_option linter.unusedSimpArgs false
namespace Go.Proofs.YtlmpgefhnmfhpaaGreat.wFnSetRelations
open Go Go.Sl
set_option maxRecDepth 100000 in
set_option maxHeartbeats 4000000 in
theorem laws_FnSetRelations {M : Hp} {x0 : Bool} {v1 v2 : Value} {l1 l2 : List Int} (h1 : RdI M v1 l1) (h2 : RdI M v2 l2) :
    PuC Tryz.prog 4 M [.bool x0, v1, v2] (fun r M' => r = .bool true) := by
  refine PuC_enter Tryz.func4 rfl Tryz.ntmps4 rfl ?_
  intro a w M1 H hM1 S E
  replace h1 := h1.le hM1
  replace h2 := h2.le hM1
  have b1 := h1.bound
  have b2 := h2.bound
  refine WP_seq ?_
  refine WP_region ?_
  refine S_v E rfl (R_assign E rfl) rfl ?_
  clear E a; intro a E
  refine WL_nil ?_
  refine T_n ?_
  refine WP_seq ?_
  refine WP_seq ?_
  refine WP_region ?_
  refine S_v E rfl (R_move E rfl) rfl ?_
  clear E a; intro a E
  refine S_v E rfl (R_lenV E rfl T22 h1.len) rfl ?_
  clear E a; intro a E
  refine S_v E rfl (R_gtr E rfl rfl) rfl ?_
  clear E a; intro a E
  refine S_v E rfl (R_move E rfl) rfl ?_
  clear E a; intro a E
  refine split_bool (decide (2147483647 < (((l1).length : Nat) : Int))) (fun hc_1 => ?_) (fun hc_1 => ?_)
  · replace E := E.val (t := 20) rfl hc_1
    replace E := E.val (t := 21) rfl hc_1
    replace hc_1 := of_decide_eq_true hc_1
    refine WL_guard_no E rfl rfl rfl rfl fun a E => ?_
    refine WL_guard_no E rfl rfl rfl rfl fun a E => ?_
    refine WL_guard_no E rfl rfl rfl rfl fun a E => ?_
    refine S_v E rfl (R_pickT E rfl rfl) rfl ?_
    clear E a; intro a E
    refine WL_nil ?_
    refine T_n ?_
    refine WP_condT E rfl rfl ?_
    refine WP_seq ?_
    refine WP_region ?_
    refine S_v E rfl (R_assign E rfl) rfl ?_
    clear E a; intro a E
    refine WL_nil ?_
    refine T_n ?_
    refine WP_ret ?_
    refine T_r ?_
    exact F_ret1 E Tryz.results4 rfl ⟨_, rfl, M1, (Hp.le.refl _), rfl, S⟩
  · replace E := E.val (t := 20) rfl hc_1
    replace E := E.val (t := 21) rfl hc_1
    replace hc_1 := of_decide_eq_false hc_1
    refine WL_guard_yes E rfl rfl ?_
    refine S_v E rfl (R_move E rfl) rfl ?_
    clear E a; intro a E
    refine WL_guard_yes E rfl rfl ?_
    refine S_v E rfl (R_lenV E rfl T22 h2.len) rfl ?_
    clear E a; intro a E
    refine WL_guard_yes E rfl rfl ?_
    refine S_v E rfl (R_gtr E rfl rfl) rfl ?_
    clear E a; intro a E
    refine S_v E rfl (R_pickF E rfl rfl) rfl ?_
    clear E a; intro a E
    refine WL_nil ?_
    refine T_n ?_
    refine WP_cond E rfl (fun hc_2 => ?_) (fun hc_2 => ?_)
    · replace hc_2 := of_decide_eq_true hc_2
      refine WP_seq ?_
      refine WP_region ?_
      refine S_v E rfl (R_assign E rfl) rfl ?_
      clear E a; intro a E
      refine WL_nil ?_
      refine T_n ?_
      refine WP_ret ?_
      refine T_r ?_
      exact F_ret1 E Tryz.results4 rfl ⟨_, rfl, M1, (Hp.le.refl _), rfl, S⟩
    · replace hc_2 := of_decide_eq_false hc_2
      refine WP_skip ?_
      refine T_n ?_
      refine WP_seq ?_
      refine WP_seq ?_
      refine WP_region ?_
      refine S_v E rfl (R_move E rfl) rfl ?_
      clear E a; intro a E
      refine S_x (X_buildI (ys := [1]) E S rfl T22 rfl rfl rfl ?_)
      clear E a S; rintro a w v_3 E S
      refine S_x (X_buildI (ys := [1]) E S rfl T22 rfl rfl rfl ?_)
      clear E a S; rintro a w v_4 E S
      replace S := S.front1
      have S0 := S; clear S
      obtain ⟨M_5, hM_5, hz_6, S⟩ := S0.freezeI (by (first | omega | (simp; done)))
      clear S0
      replace h1 := h1.le hM_5
      replace h2 := h2.le hM_5
      have S0 := S; clear S
      obtain ⟨M_7, hM_7, hz_8, S⟩ := S0.freezeI (by (first | omega | (simp; done)))
      clear S0
      replace h1 := h1.le hM_7
      replace h2 := h2.le hM_7
      replace hz_6 := hz_6.le hM_7
      refine S_x (X_pu E S rfl rfl rfl (impl_SetRelations hz_6 hz_8 (by first | assumption | omega | (simp; done)) (by first | assumption | omega | (simp; done))) (Hp.le.refl _) ?_)
      clear E a S; rintro a v_10 w M_9 hM_9 hv_10 S E
      replace h1 := h1.le hM_9
      replace h2 := h2.le hM_9
      replace hz_6 := hz_6.le hM_9
      replace hz_8 := hz_8.le hM_9
      refine S_v E rfl (R_assign E rfl) rfl ?_
      clear E a; intro a E
      refine WL_nil ?_
      refine T_n ?_
      refine WP_seq ?_
      refine WP_region ?_
      refine S_v E rfl (R_move E rfl) rfl ?_
      clear E a; intro a E
      refine S_v E rfl (R_lenV E rfl T28 hv_10.len) rfl ?_
      clear E a; intro a E
      refine S_v E rfl (R_neq E rfl rfl) rfl ?_
      clear E a; intro a E
      refine S_v E rfl (R_move E rfl) rfl ?_
      clear E a; intro a E
      have hc_11 : (decide ((((relL [1] [1]).length : Nat) : Int) ≠ 6)) = false := by (clear S E; first | (simp [relL]; done) | exact rel_0 (by assumption) | exact rel_1 (by assumption) | exact rel_2 (by assumption) | exact rel_5 (by assumption) | (refine rel_ne (by assumption) (by assumption) ?_; rw [relW]; simp only [ek1, ek2] at *; simp [*]; done))
      replace E := E.val (t := 32) rfl hc_11
      replace E := E.val (t := 33) rfl hc_11
      refine WL_guard_yes E rfl rfl ?_
      refine S_v E rfl (R_move E rfl) rfl ?_
      clear E a; intro a E
      obtain ⟨x_12, hx_12⟩ : ∃ x, (relL [1] [1])[0]? = some x := ⟨_, List.getElem?_eq_getElem (by (first | decide | (rw [relL_len]; decide) | omega | (simp; done) | (rw [relL_len]; omega) | (rw [relL_len]; simp only [List.length_cons, List.length_nil] at *; omega) | (simp only [List.length_cons, List.length_nil] at *; omega)))⟩
      obtain ⟨p_13, hp_13, qp_13⟩ := RdB.at hv_10 hx_12
      refine WL_guard_yes E rfl rfl ?_
      refine S_v E rfl (R_idx E rfl rfl T28 hp_13 (by omega)) rfl ?_
      clear E a; intro a E
      refine WL_guard_yes E rfl rfl ?_
      refine S_v E rfl (R_loadM E rfl Tryz.isAgg4 S.imm qp_13) rfl ?_
      clear E a; intro a E
      refine WL_guard_yes E rfl rfl ?_
      refine S_v E rfl (R_not E rfl) rfl ?_
      clear E a; intro a E
      refine S_v E rfl (R_pickF E rfl rfl) rfl ?_
      clear E a; intro a E
      refine WL_nil ?_
      refine T_n ?_
      have hc_14 : (!x_12) = false := by (clear S E; first | (simp [relL]; done) | exact rel_0 (by assumption) | exact rel_1 (by assumption) | exact rel_2 (by assumption) | exact rel_5 (by assumption) | (refine rel_ne (by assumption) (by assumption) ?_; rw [relW]; simp only [ek1, ek2] at *; simp [*]; done))
      refine WP_condF E rfl hc_14 ?_
      refine WP_skip ?_
      refine T_n ?_
      refine WP_seq ?_
      refine WP_seq ?_
      refine WP_region ?_
      refine S_v E rfl (R_move E rfl) rfl ?_
      clear E a; intro a E
      refine S_v E rfl (R_move E rfl) rfl ?_
      clear E a; intro a E
      refine S_x (X_buildM (R := RSl 1 RInt) (vs := [v1, v2]) (xs := [l1, l2]) (RSl_mono RInt_mono) E S rfl T36 rfl rfl rfl (by intro u hu; simp only [List.mem_cons, List.not_mem_nil, or_false] at hu; rcases hu with rfl | rfl <;> first | exact RdI.one h1 | exact RdI.one h2 | rfl) rfl (rowsC (R := RSl 1 RInt) (RdI.row h1) (rowsC (R := RSl 1 RInt) (RdI.row h2) rowsN)) ?_)
      clear E a S; rintro a v_15 w M_16 hM_16 hv_15 S E
      replace hv_15 : RdII M_16 v_15 [l1, l2] := hv_15
      replace h1 := h1.le hM_16
      replace h2 := h2.le hM_16
      replace hz_6 := hz_6.le hM_16
      replace hz_8 := hz_8.le hM_16
      replace hv_10 := hv_10.le RB1_mono hM_16
      refine S_x (X_pu E S rfl rfl rfl (laws_few hv_15) (Hp.le.refl _) ?_)
      clear E a S; rintro a _ w M_17 hM_17 rfl S E
      replace h1 := h1.le hM_17
      replace h2 := h2.le hM_17
      replace hz_6 := hz_6.le hM_17
      replace hz_8 := hz_8.le hM_17
      replace hv_10 := hv_10.le RB1_mono hM_17
      replace hv_15 := hv_15.le hM_17
      refine S_v E rfl (R_not E rfl) rfl ?_
      clear E a; intro a E
      refine WL_nil ?_
      refine T_n ?_
      refine WP_cond E rfl (fun hc_18 => ?_) (fun hc_18 => ?_)
      · refine WP_seq ?_
        refine WP_region ?_
        refine S_v E rfl (R_assign E rfl) rfl ?_
        clear E a; intro a E
        refine WL_nil ?_
        refine T_n ?_
        refine WP_ret ?_
        refine T_r ?_
        exact F_ret1 E Tryz.results4 rfl ⟨_, rfl, M_17, (hM_5.trans (hM_7.trans (hM_9.trans (hM_16.trans hM_17)))), rfl, S⟩
      · have hle : l1.length ≤ 300 ∧ l2.length ≤ 300 := (by simp_all)
        obtain ⟨hle1, hle2⟩ := hle
        refine WP_skip ?_
        refine T_n ?_
        refine WP_seq ?_
        refine WP_region ?_
        refine S_v E rfl (R_assign E rfl) rfl ?_
        clear E a; intro a E
        refine S_v E rfl (R_assign E rfl) rfl ?_
        clear E a; intro a E
        refine S_v E rfl (R_assign E rfl) rfl ?_
        clear E a; intro a E
        refine WL_nil ?_
        refine T_n ?_
        refine WP_seq ?_
        refine WP_seq ?_
        refine WP_region ?_
        refine S_v E rfl (R_move E rfl) rfl ?_
        clear E a; intro a E
        refine S_v E rfl (R_lenV E rfl T22 h1.len) rfl ?_
        clear E a; intro a E
        refine S_v E rfl (R_move E rfl) rfl ?_
        clear E a; intro a E
        refine WL_nil ?_
        refine T_n ?_
        refine WP_block ?_
        refine WP_loop (γ := Nat) (fun (k : Nat) a w => ∃ (M_19 : Hp), Hp.le M_17 M_19 ∧ St w M_19 (H) ∧ Env a 151 [] [(0, .bool x0), (1, v1), (2, v2), (8, .bool (sub' (l1.take k) l2)), (9, .bool true), (10, .bool (any' (l1.take k) l2)), (44, v1), (45, .int .i64 (((l1).length : Nat) : Int)), (46, .int .i64 ((k : Nat) : Int))] ∧ (k ≤ (l1).length)) (fun k => ((l1).length) - k) 0 ⟨M_17, Hp.le.refl _, S, E.keep ⟨rfl, rfl, rfl, look_bool (i := true) rfl (by (first | (simp [sub', any']; done) | (rw [sub_take (by assumption)]; simp [*]; done) | (rw [any_take (by assumption)]; simp [*]; done))), rfl, look_bool (i := false) rfl (by (first | (simp [sub', any']; done) | (rw [sub_take (by assumption)]; simp [*]; done) | (rw [any_take (by assumption)]; simp [*]; done))), rfl, rfl, rfl, trivial⟩, by ((try clear S); (try clear E); first | assumption | omega | rfl | (simp; done) | (simp_all; done) | (simp [List.take_add_one, *]; done) | grind [List.take_add_one])⟩ ?_
        try clear E
        try clear S
        try clear a
        try clear w
        rintro k a w ⟨M_19, hM_19, S, E, hL0_0⟩
        replace h1 := h1.le hM_19
        replace h2 := h2.le hM_19
        replace hz_6 := hz_6.le hM_19
        replace hz_8 := hz_8.le hM_19
        replace hv_10 := hv_10.le RB1_mono hM_19
        replace hv_15 := hv_15.le hM_19
        refine WP_seq ?_
        refine WP_region ?_
        refine S_v E rfl (R_lss E rfl rfl) rfl ?_
        clear E a; intro a E
        refine WL_nil ?_
        refine T_n ?_
        refine WP_seq ?_
        refine WP_cond E rfl (fun hc_20 => ?_) (fun hc_20 => ?_)
        · replace hc_20 := of_decide_eq_true hc_20
          refine WP_skip ?_
          refine T_n ?_
          refine WP_seq ?_
          refine WP_block ?_
          refine WP_seq ?_
          refine WP_region ?_
          obtain ⟨x_21, hx_21⟩ : ∃ x, (l1)[k]? = some x := ⟨_, List.getElem?_eq_getElem (by (first | decide | (rw [relL_len]; decide) | omega | (simp; done) | (rw [relL_len]; omega) | (rw [relL_len]; simp only [List.length_cons, List.length_nil] at *; omega) | (simp only [List.length_cons, List.length_nil] at *; omega)))⟩
          obtain ⟨p_22, hp_22, qp_22⟩ := h1.at hx_21
          refine S_v E rfl (R_idx E rfl rfl T22 hp_22 rfl) rfl ?_
          clear E a; intro a E
          refine S_v E rfl (R_loadM E rfl Tryz.isAgg3 S.imm qp_22) rfl ?_
          clear E a; intro a E
          refine S_v E rfl (R_assign E rfl) rfl ?_
          clear E a; intro a E
          refine WL_nil ?_
          refine T_n ?_
          refine WP_seq ?_
          refine WP_region ?_
          refine S_v E rfl (R_move E rfl) rfl ?_
          clear E a; intro a E
          refine S_v E rfl (R_move E rfl) rfl ?_
          clear E a; intro a E
          refine split_bool (sub' (l1.take k) l2) (fun hc_23 => ?_) (fun hc_23 => ?_)
          · replace E := E.val (t := 8) rfl hc_23
            replace E := E.val (t := 50) rfl hc_23
            replace E := E.val (t := 51) rfl hc_23
            refine WL_guard_yes E rfl rfl ?_
            refine S_v E rfl (R_move E rfl) rfl ?_
            clear E a; intro a E
            refine WL_guard_yes E rfl rfl ?_
            refine S_v E rfl (R_move E rfl) rfl ?_
            clear E a; intro a E
            refine WL_guard_yes E rfl rfl ?_
            refine S_x (X_pu E S rfl rfl rfl (laws_in h2) (Hp.le.refl _) ?_)
            clear E a S; rintro a _ w M_24 hM_24 rfl S E
            replace h1 := h1.le hM_24
            replace h2 := h2.le hM_24
            replace hz_6 := hz_6.le hM_24
            replace hz_8 := hz_8.le hM_24
            replace hv_10 := hv_10.le RB1_mono hM_24
            replace hv_15 := hv_15.le hM_24
            refine S_v E rfl (R_pickT E rfl rfl) rfl ?_
            clear E a; intro a E
            refine S_v E rfl (R_assign E rfl) rfl ?_
            clear E a; intro a E
            refine WL_nil ?_
            refine T_n ?_
            refine WP_region ?_
            refine S_v E rfl (R_move E rfl) rfl ?_
            clear E a; intro a E
            refine S_v E rfl (R_move E rfl) rfl ?_
            clear E a; intro a E
            refine split_bool (any' (l1.take k) l2) (fun hc_25 => ?_) (fun hc_25 => ?_)
            · replace E := E.val (t := 10) rfl hc_25
              replace E := E.val (t := 56) rfl hc_25
              replace E := E.val (t := 57) rfl hc_25
              refine WL_guard_no E rfl rfl rfl rfl fun a E => ?_
              refine WL_guard_no E rfl rfl rfl rfl fun a E => ?_
              refine WL_guard_no E rfl rfl rfl rfl fun a E => ?_
              refine S_v E rfl (R_pickT E rfl rfl) rfl ?_
              clear E a; intro a E
              refine S_v E rfl (R_assign E rfl) rfl ?_
              clear E a; intro a E
              refine WL_nil ?_
              refine B_n ?_
              refine T_n ?_
              refine WP_region ?_
              refine S_v E rfl (R_addx (m := ((k + 1 : Nat) : Int)) E rfl rfl (by omega) (by omega)) rfl ?_
              clear E a; intro a E
              refine S_v E rfl (R_move E rfl) rfl ?_
              clear E a; intro a E
              refine WL_nil ?_
              refine T_n ?_
              exact ⟨k + 1, ⟨M_24, (hM_19.trans hM_24), S, E.keep ⟨rfl, rfl, rfl, look_bool (i := decide (x_21 ∈ l2)) rfl (by (first | (simp [sub', any']; done) | (rw [sub_take (by assumption)]; simp [*]; done) | (rw [any_take (by assumption)]; simp [*]; done))), rfl, look_bool (i := true) rfl (by (first | (simp [sub', any']; done) | (rw [sub_take (by assumption)]; simp [*]; done) | (rw [any_take (by assumption)]; simp [*]; done))), rfl, rfl, rfl, trivial⟩, by ((try clear S); (try clear E); first | assumption | omega | rfl | (simp; done) | (simp_all; done) | (simp [List.take_add_one, *]; done) | grind [List.take_add_one])⟩, by omega⟩
            · replace E := E.val (t := 10) rfl hc_25
              replace E := E.val (t := 56) rfl hc_25
              replace E := E.val (t := 57) rfl hc_25
              refine WL_guard_yes E rfl rfl ?_
              refine S_v E rfl (R_move E rfl) rfl ?_
              clear E a; intro a E
              refine WL_guard_yes E rfl rfl ?_
              refine S_v E rfl (R_move E rfl) rfl ?_
              clear E a; intro a E
              refine WL_guard_yes E rfl rfl ?_
              refine S_x (X_pu E S rfl rfl rfl (laws_in h2) (Hp.le.refl _) ?_)
              clear E a S; rintro a _ w M_26 hM_26 rfl S E
              replace h1 := h1.le hM_26
              replace h2 := h2.le hM_26
              replace hz_6 := hz_6.le hM_26
              replace hz_8 := hz_8.le hM_26
              replace hv_10 := hv_10.le RB1_mono hM_26
              replace hv_15 := hv_15.le hM_26
              refine S_v E rfl (R_pickF E rfl rfl) rfl ?_
              clear E a; intro a E
              refine S_v E rfl (R_assign E rfl) rfl ?_
              clear E a; intro a E
              refine WL_nil ?_
              refine B_n ?_
              refine T_n ?_
              refine WP_region ?_
              refine S_v E rfl (R_addx (m := ((k + 1 : Nat) : Int)) E rfl rfl (by omega) (by omega)) rfl ?_
              clear E a; intro a E
              refine S_v E rfl (R_move E rfl) rfl ?_
              clear E a; intro a E
              refine WL_nil ?_
              refine T_n ?_
              exact ⟨k + 1, ⟨M_26, (hM_19.trans (hM_24.trans hM_26)), S, E.keep ⟨rfl, rfl, rfl, look_bool (i := decide (x_21 ∈ l2)) rfl (by (first | (simp [sub', any']; done) | (rw [sub_take (by assumption)]; simp [*]; done) | (rw [any_take (by assumption)]; simp [*]; done))), rfl, look_bool (i := decide (x_21 ∈ l2)) rfl (by (first | (simp [sub', any']; done) | (rw [sub_take (by assumption)]; simp [*]; done) | (rw [any_take (by assumption)]; simp [*]; done))), rfl, rfl, rfl, trivial⟩, by ((try clear S); (try clear E); first | assumption | omega | rfl | (simp; done) | (simp_all; done) | (simp [List.take_add_one, *]; done) | grind [List.take_add_one])⟩, by omega⟩
          · replace E := E.val (t := 8) rfl hc_23
            replace E := E.val (t := 50) rfl hc_23
            replace E := E.val (t := 51) rfl hc_23
            refine WL_guard_no E rfl rfl rfl rfl fun a E => ?_
            refine WL_guard_no E rfl rfl rfl rfl fun a E => ?_
            refine WL_guard_no E rfl rfl rfl rfl fun a E => ?_
            refine S_v E rfl (R_pickF E rfl rfl) rfl ?_
            clear E a; intro a E
            refine S_v E rfl (R_assign E rfl) rfl ?_
            clear E a; intro a E
            refine WL_nil ?_
            refine T_n ?_
            refine WP_region ?_
            refine S_v E rfl (R_move E rfl) rfl ?_
            clear E a; intro a E
            refine S_v E rfl (R_move E rfl) rfl ?_
            clear E a; intro a E
            refine split_bool (any' (l1.take k) l2) (fun hc_27 => ?_) (fun hc_27 => ?_)
            · replace E := E.val (t := 10) rfl hc_27
              replace E := E.val (t := 56) rfl hc_27
              replace E := E.val (t := 57) rfl hc_27
              refine WL_guard_no E rfl rfl rfl rfl fun a E => ?_
              refine WL_guard_no E rfl rfl rfl rfl fun a E => ?_
              refine WL_guard_no E rfl rfl rfl rfl fun a E => ?_
              refine S_v E rfl (R_pickT E rfl rfl) rfl ?_
              clear E a; intro a E
              refine S_v E rfl (R_assign E rfl) rfl ?_
              clear E a; intro a E
              refine WL_nil ?_
              refine B_n ?_
              refine T_n ?_
              refine WP_region ?_
              refine S_v E rfl (R_addx (m := ((k + 1 : Nat) : Int)) E rfl rfl (by omega) (by omega)) rfl ?_
              clear E a; intro a E
              refine S_v E rfl (R_move E rfl) rfl ?_
              clear E a; intro a E
              refine WL_nil ?_
              refine T_n ?_
              exact ⟨k + 1, ⟨M_19, hM_19, S, E.keep ⟨rfl, rfl, rfl, look_bool (i := false) rfl (by (first | (simp [sub', any']; done) | (rw [sub_take (by assumption)]; simp [*]; done) | (rw [any_take (by assumption)]; simp [*]; done))), rfl, look_bool (i := true) rfl (by (first | (simp [sub', any']; done) | (rw [sub_take (by assumption)]; simp [*]; done) | (rw [any_take (by assumption)]; simp [*]; done))), rfl, rfl, rfl, trivial⟩, by ((try clear S); (try clear E); first | assumption | omega | rfl | (simp; done) | (simp_all; done) | (simp [List.take_add_one, *]; done) | grind [List.take_add_one])⟩, by omega⟩
            · replace E := E.val (t := 10) rfl hc_27
              replace E := E.val (t := 56) rfl hc_27
              replace E := E.val (t := 57) rfl hc_27
              refine WL_guard_yes E rfl rfl ?_
              refine S_v E rfl (R_move E rfl) rfl ?_
              clear E a; intro a E
              refine WL_guard_yes E rfl rfl ?_
              refine S_v E rfl (R_move E rfl) rfl ?_
              clear E a; intro a E
              refine WL_guard_yes E rfl rfl ?_
              refine S_x (X_pu E S rfl rfl rfl (laws_in h2) (Hp.le.refl _) ?_)
              clear E a S; rintro a _ w M_28 hM_28 rfl S E
              replace h1 := h1.le hM_28
              replace h2 := h2.le hM_28
              replace hz_6 := hz_6.le hM_28
              replace hz_8 := hz_8.le hM_28
              replace hv_10 := hv_10.le RB1_mono hM_28
              replace hv_15 := hv_15.le hM_28
              refine S_v E rfl (R_pickF E rfl rfl) rfl ?_
              clear E a; intro a E
              refine S_v E rfl (R_assign E rfl) rfl ?_
              clear E a; intro a E
              refine WL_nil ?_
              refine B_n ?_
              refine T_n ?_
              refine WP_region ?_
              refine S_v E rfl (R_addx (m := ((k + 1 : Nat) : Int)) E rfl rfl (by omega) (by omega)) rfl ?_
              clear E a; intro a E
              refine S_v E rfl (R_move E rfl) rfl ?_
              clear E a; intro a E
              refine WL_nil ?_
              refine T_n ?_
              exact ⟨k + 1, ⟨M_28, (hM_19.trans hM_28), S, E.keep ⟨rfl, rfl, rfl, look_bool (i := false) rfl (by (first | (simp [sub', any']; done) | (rw [sub_take (by assumption)]; simp [*]; done) | (rw [any_take (by assumption)]; simp [*]; done))), rfl, look_bool (i := decide (x_21 ∈ l2)) rfl (by (first | (simp [sub', any']; done) | (rw [sub_take (by assumption)]; simp [*]; done) | (rw [any_take (by assumption)]; simp [*]; done))), rfl, rfl, rfl, trivial⟩, by ((try clear S); (try clear E); first | assumption | omega | rfl | (simp; done) | (simp_all; done) | (simp [List.take_add_one, *]; done) | grind [List.take_add_one])⟩, by omega⟩
        · replace hc_20 := of_decide_eq_false hc_20
          have ek1 : l1.take k = l1 := List.take_of_length_le (by omega)
          refine WP_exit ?_
          refine T_x ?_
          refine T_x ?_
          refine B_x ?_
          refine T_n ?_
          refine WP_seq ?_
          refine WP_seq ?_
          refine WP_region ?_
          refine S_v E rfl (R_move E rfl) rfl ?_
          clear E a; intro a E
          refine S_v E rfl (R_lenV E rfl T22 h2.len) rfl ?_
          clear E a; intro a E
          refine S_v E rfl (R_move E rfl) rfl ?_
          clear E a; intro a E
          refine WL_nil ?_
          refine T_n ?_
          refine WP_block ?_
          refine WP_loop (γ := Nat) (fun (j : Nat) a w => ∃ (M_29 : Hp), Hp.le M_19 M_29 ∧ St w M_29 (H) ∧ Env a 151 [] [(0, .bool x0), (1, v1), (2, v2), (8, .bool (sub' (l1.take k) l2)), (9, .bool (sub' (l2.take j) l1)), (10, .bool (any' (l1.take k) l2)), (63, v2), (64, .int .i64 (((l2).length : Nat) : Int)), (65, .int .i64 ((j : Nat) : Int))] ∧ (j ≤ (l2).length)) (fun j => ((l2).length) - j) 0 ⟨M_19, Hp.le.refl _, S, E.keep ⟨rfl, rfl, rfl, rfl, look_bool (i := true) rfl (by (first | (simp [sub', any']; done) | (rw [sub_take (by assumption)]; simp [*]; done) | (rw [any_take (by assumption)]; simp [*]; done))), rfl, rfl, rfl, rfl, trivial⟩, by ((try clear S); (try clear E); first | assumption | omega | rfl | (simp; done) | (simp_all; done) | (simp [List.take_add_one, *]; done) | grind [List.take_add_one])⟩ ?_
          try clear E
          try clear S
          try clear a
          try clear w
          rintro j a w ⟨M_29, hM_29, S, E, hL1_0⟩
          replace h1 := h1.le hM_29
          replace h2 := h2.le hM_29
          replace hz_6 := hz_6.le hM_29
          replace hz_8 := hz_8.le hM_29
          replace hv_10 := hv_10.le RB1_mono hM_29
          replace hv_15 := hv_15.le hM_29
          refine WP_seq ?_
          refine WP_region ?_
          refine S_v E rfl (R_lss E rfl rfl) rfl ?_
          clear E a; intro a E
          refine WL_nil ?_
          refine T_n ?_
          refine WP_seq ?_
          refine WP_cond E rfl (fun hc_30 => ?_) (fun hc_30 => ?_)
          · replace hc_30 := of_decide_eq_true hc_30
            refine WP_skip ?_
            refine T_n ?_
            refine WP_seq ?_
            refine WP_block ?_
            refine WP_seq ?_
            refine WP_region ?_
            obtain ⟨x_31, hx_31⟩ : ∃ x, (l2)[j]? = some x := ⟨_, List.getElem?_eq_getElem (by (first | decide | (rw [relL_len]; decide) | omega | (simp; done) | (rw [relL_len]; omega) | (rw [relL_len]; simp only [List.length_cons, List.length_nil] at *; omega) | (simp only [List.length_cons, List.length_nil] at *; omega)))⟩
            obtain ⟨p_32, hp_32, qp_32⟩ := h2.at hx_31
            refine S_v E rfl (R_idx E rfl rfl T22 hp_32 rfl) rfl ?_
            clear E a; intro a E
            refine S_v E rfl (R_loadM E rfl Tryz.isAgg3 S.imm qp_32) rfl ?_
            clear E a; intro a E
            refine S_v E rfl (R_assign E rfl) rfl ?_
            clear E a; intro a E
            refine WL_nil ?_
            refine T_n ?_
            refine WP_region ?_
            refine S_v E rfl (R_move E rfl) rfl ?_
            clear E a; intro a E
            refine S_v E rfl (R_move E rfl) rfl ?_
            clear E a; intro a E
            refine split_bool (sub' (l2.take j) l1) (fun hc_33 => ?_) (fun hc_33 => ?_)
            · replace E := E.val (t := 9) rfl hc_33
              replace E := E.val (t := 69) rfl hc_33
              replace E := E.val (t := 70) rfl hc_33
              refine WL_guard_yes E rfl rfl ?_
              refine S_v E rfl (R_move E rfl) rfl ?_
              clear E a; intro a E
              refine WL_guard_yes E rfl rfl ?_
              refine S_v E rfl (R_move E rfl) rfl ?_
              clear E a; intro a E
              refine WL_guard_yes E rfl rfl ?_
              refine S_x (X_pu E S rfl rfl rfl (laws_in h1) (Hp.le.refl _) ?_)
              clear E a S; rintro a _ w M_34 hM_34 rfl S E
              replace h1 := h1.le hM_34
              replace h2 := h2.le hM_34
              replace hz_6 := hz_6.le hM_34
              replace hz_8 := hz_8.le hM_34
              replace hv_10 := hv_10.le RB1_mono hM_34
              replace hv_15 := hv_15.le hM_34
              refine S_v E rfl (R_pickT E rfl rfl) rfl ?_
              clear E a; intro a E
              refine S_v E rfl (R_assign E rfl) rfl ?_
              clear E a; intro a E
              refine WL_nil ?_
              refine B_n ?_
              refine T_n ?_
              refine WP_region ?_
              refine S_v E rfl (R_addx (m := ((j + 1 : Nat) : Int)) E rfl rfl (by omega) (by omega)) rfl ?_
              clear E a; intro a E
              refine S_v E rfl (R_move E rfl) rfl ?_
              clear E a; intro a E
              refine WL_nil ?_
              refine T_n ?_
              exact ⟨j + 1, ⟨M_34, (hM_29.trans hM_34), S, E.keep ⟨rfl, rfl, rfl, rfl, look_bool (i := decide (x_31 ∈ l1)) rfl (by (first | (simp [sub', any']; done) | (rw [sub_take (by assumption)]; simp [*]; done) | (rw [any_take (by assumption)]; simp [*]; done))), rfl, rfl, rfl, rfl, trivial⟩, by ((try clear S); (try clear E); first | assumption | omega | rfl | (simp; done) | (simp_all; done) | (simp [List.take_add_one, *]; done) | grind [List.take_add_one])⟩, by omega⟩
            · replace E := E.val (t := 9) rfl hc_33
              replace E := E.val (t := 69) rfl hc_33
              replace E := E.val (t := 70) rfl hc_33
              refine WL_guard_no E rfl rfl rfl rfl fun a E => ?_
              refine WL_guard_no E rfl rfl rfl rfl fun a E => ?_
              refine WL_guard_no E rfl rfl rfl rfl fun a E => ?_
              refine S_v E rfl (R_pickF E rfl rfl) rfl ?_
              clear E a; intro a E
              refine S_v E rfl (R_assign E rfl) rfl ?_
              clear E a; intro a E
              refine WL_nil ?_
              refine B_n ?_
              refine T_n ?_
              refine WP_region ?_
              refine S_v E rfl (R_addx (m := ((j + 1 : Nat) : Int)) E rfl rfl (by omega) (by omega)) rfl ?_
              clear E a; intro a E
              refine S_v E rfl (R_move E rfl) rfl ?_
              clear E a; intro a E
              refine WL_nil ?_
              refine T_n ?_
              exact ⟨j + 1, ⟨M_29, hM_29, S, E.keep ⟨rfl, rfl, rfl, rfl, look_bool (i := false) rfl (by (first | (simp [sub', any']; done) | (rw [sub_take (by assumption)]; simp [*]; done) | (rw [any_take (by assumption)]; simp [*]; done))), rfl, rfl, rfl, rfl, trivial⟩, by ((try clear S); (try clear E); first | assumption | omega | rfl | (simp; done) | (simp_all; done) | (simp [List.take_add_one, *]; done) | grind [List.take_add_one])⟩, by omega⟩
          · replace hc_30 := of_decide_eq_false hc_30
            have ek2 : l2.take j = l2 := List.take_of_length_le (by omega)
            refine WP_exit ?_
            refine T_x ?_
            refine T_x ?_
            refine B_x ?_
            refine T_n ?_
            refine WP_seq ?_
            refine WP_region ?_
            refine S_v E rfl (R_move E rfl) rfl ?_
            clear E a; intro a E
            refine S_v E rfl (R_move E rfl) rfl ?_
            clear E a; intro a E
            refine split_bool (sub' (l1.take k) l2) (fun hc_35 => ?_) (fun hc_35 => ?_)
            · replace E := E.val (t := 8) rfl hc_35
              replace E := E.val (t := 76) rfl hc_35
              replace E := E.val (t := 77) rfl hc_35
              refine WL_guard_yes E rfl rfl ?_
              refine S_v E rfl (R_move E rfl) rfl ?_
              clear E a; intro a E
              refine S_v E rfl (R_pickT E rfl rfl) rfl ?_
              clear E a; intro a E
              refine S_v E rfl (R_move E rfl) rfl ?_
              clear E a; intro a E
              refine S_v E rfl (R_move E rfl) rfl ?_
              clear E a; intro a E
              refine S_v E rfl (R_move E rfl) rfl ?_
              clear E a; intro a E
              refine WL_guard_yes E rfl rfl ?_
              refine S_v E rfl (R_move E rfl) rfl ?_
              clear E a; intro a E
              refine WL_guard_yes E rfl rfl ?_
              refine S_v E rfl (R_not E rfl) rfl ?_
              clear E a; intro a E
              refine S_v E rfl (R_pickT E rfl rfl) rfl ?_
              clear E a; intro a E
              refine S_v E rfl (R_move E rfl) rfl ?_
              clear E a; intro a E
              refine S_v E rfl (R_move E rfl) rfl ?_
              clear E a; intro a E
              refine S_v E rfl (R_move E rfl) rfl ?_
              clear E a; intro a E
              refine split_bool (sub' (l2.take j) l1) (fun hc_36 => ?_) (fun hc_36 => ?_)
              · replace E := E.val (t := 9) rfl hc_36
                replace E := E.val (t := 78) rfl hc_36
                replace E := E.val (t := 79) rfl hc_36
                replace E := E.val (t := 83) rfl hc_36
                replace E := E.val (t := 86) rfl hc_36
                replace E := E.val (t := 87) rfl hc_36
                replace E := E.val (t := 88) rfl hc_36
                refine WL_guard_yes E rfl rfl ?_
                refine S_v E rfl (R_move E rfl) rfl ?_
                clear E a; intro a E
                refine WL_guard_yes E rfl rfl ?_
                refine S_v E rfl (R_not E rfl) rfl ?_
                clear E a; intro a E
                refine S_v E rfl (R_pickT E rfl rfl) rfl ?_
                clear E a; intro a E
                refine S_v E rfl (R_move E rfl) rfl ?_
                clear E a; intro a E
                refine S_x (X_buildM (R := RB1) (vs := [.bool true, .bool true, .bool (!(sub' (l2.take j) l1)), .bool true, .bool (!true), .bool (any' (l1.take k) l2)]) (xs := [true, true, !(sub' (l2.take j) l1), true, !true, any' (l1.take k) l2]) RB1_mono E S rfl T28 rfl rfl rfl (by intro u hu; simp only [List.mem_cons, List.not_mem_nil, or_false] at hu; rcases hu with rfl | rfl | rfl | rfl | rfl | rfl <;> first | exact rfl | exact rfl | exact rfl | exact rfl | exact rfl | exact rfl) rfl (rowsC (R := RB1) rfl (rowsC (R := RB1) rfl (rowsC (R := RB1) rfl (rowsC (R := RB1) rfl (rowsC (R := RB1) rfl (rowsC (R := RB1) rfl rowsN)))))) ?_)
                clear E a S; rintro a v_37 w M_38 hM_38 hv_37 S E
                replace h1 := h1.le hM_38
                replace h2 := h2.le hM_38
                replace hz_6 := hz_6.le hM_38
                replace hz_8 := hz_8.le hM_38
                replace hv_10 := hv_10.le RB1_mono hM_38
                replace hv_15 := hv_15.le hM_38
                refine S_v E rfl (R_assign E rfl) rfl ?_
                clear E a; intro a E
                refine WL_nil ?_
                refine T_n ?_
                refine WP_seq ?_
                refine WP_region ?_
                refine S_v E rfl (R_move E rfl) rfl ?_
                clear E a; intro a E
                refine S_v E rfl (R_move E rfl) rfl ?_
                clear E a; intro a E
                refine S_v E rfl (R_move E rfl) rfl ?_
                clear E a; intro a E
                refine S_x (X_pu E S rfl rfl rfl (impl_SetRelations h1 h2 (by first | assumption | omega | (simp; done)) (by first | assumption | omega | (simp; done))) (Hp.le.refl _) ?_)
                clear E a S; rintro a v_40 w M_39 hM_39 hv_40 S E
                replace h1 := h1.le hM_39
                replace h2 := h2.le hM_39
                replace hz_6 := hz_6.le hM_39
                replace hz_8 := hz_8.le hM_39
                replace hv_10 := hv_10.le RB1_mono hM_39
                replace hv_15 := hv_15.le hM_39
                replace hv_37 := hv_37.le RB1_mono hM_39
                refine S_v E rfl (R_assign E rfl) rfl ?_
                clear E a; intro a E
                refine WL_nil ?_
                refine T_n ?_
                refine WP_seq ?_
                refine WP_seq ?_
                refine WP_region ?_
                refine S_v E rfl (R_move E rfl) rfl ?_
                clear E a; intro a E
                refine S_v E rfl (R_lenV E rfl T28 hv_40.len) rfl ?_
                clear E a; intro a E
                refine S_v E rfl (R_neq E rfl rfl) rfl ?_
                clear E a; intro a E
                refine WL_nil ?_
                refine T_n ?_
                have hc_41 : (decide ((((relL l1 l2).length : Nat) : Int) ≠ 6)) = false := by (clear S E; first | (simp [relL]; done) | exact rel_0 (by assumption) | exact rel_1 (by assumption) | exact rel_2 (by assumption) | exact rel_5 (by assumption) | (refine rel_ne (by assumption) (by assumption) ?_; rw [relW]; simp only [ek1, ek2] at *; simp [*]; done))
                refine WP_condF E rfl hc_41 ?_
                refine WP_skip ?_
                refine T_n ?_
                refine WP_seq ?_
                refine WP_seq ?_
                refine WP_region ?_
                refine S_v E rfl (R_move E rfl) rfl ?_
                clear E a; intro a E
                refine S_v E rfl (R_lenV E rfl T28 hv_37.len) rfl ?_
                clear E a; intro a E
                refine S_v E rfl (R_move E rfl) rfl ?_
                clear E a; intro a E
                refine WL_nil ?_
                refine T_n ?_
                refine WP_block ?_
                refine WP_loop (γ := Nat) (fun (i : Nat) a w => ∃ (M_42 : Hp), Hp.le M_39 M_42 ∧ St w M_42 (H) ∧ Env a 151 [] [(0, .bool x0), (1, v1), (2, v2), (15, v_37), (16, v_40), (102, .int .i64 ((([true, true, !(sub' (l2.take j) l1), true, !true, any' (l1.take k) l2]).length : Nat) : Int)), (103, .int .i64 ((i : Nat) : Int))] ∧ (i ≤ 6)) (fun i => 6 - i) 0 ⟨M_39, Hp.le.refl _, S, E.keep ⟨rfl, rfl, rfl, rfl, rfl, rfl, rfl, trivial⟩, (by omega)⟩ ?_
                try clear E
                try clear S
                try clear a
                try clear w
                rintro i a w ⟨M_42, hM_42, S, E, hL2_0⟩
                replace h1 := h1.le hM_42
                replace h2 := h2.le hM_42
                replace hz_6 := hz_6.le hM_42
                replace hz_8 := hz_8.le hM_42
                replace hv_10 := hv_10.le RB1_mono hM_42
                replace hv_15 := hv_15.le hM_42
                replace hv_37 := hv_37.le RB1_mono hM_42
                replace hv_40 := hv_40.le RB1_mono hM_42
                refine WP_seq ?_
                refine WP_region ?_
                refine S_v E rfl (R_lss E rfl rfl) rfl ?_
                clear E a; intro a E
                refine WL_nil ?_
                refine T_n ?_
                refine WP_seq ?_
                refine WP_cond E rfl (fun hc_43 => ?_) (fun hc_43 => ?_)
                · replace hc_43 := of_decide_eq_true hc_43
                  refine WP_skip ?_
                  refine T_n ?_
                  refine WP_seq ?_
                  refine WP_block ?_
                  refine WP_seq ?_
                  refine WP_region ?_
                  refine S_v E rfl (R_move E rfl) rfl ?_
                  clear E a; intro a E
                  refine S_v E rfl (R_assign E rfl) rfl ?_
                  clear E a; intro a E
                  refine WL_nil ?_
                  refine T_n ?_
                  refine WP_seq ?_
                  replace S := S.mono_heap (w' := World.drew _) rfl
                  refine WP_drawn (C := fun x w => agree M_42 w) (bf := (fun i => [])) [0, 1, 2, 3, 4, 5, 6, 7, 8] [0, 1, 2, 3, 4, 5, 6, 7, 8] Tryz.mixed (by kernel_rfl) (fun x hq => S.imm) ?_
                  refine D_v E rfl rfl rfl (fun w hC => (R_move E rfl)) ?_
                  clear E a; intro a E
                  refine D_v E rfl rfl rfl (fun w hC => (R_move E rfl)) ?_
                  clear E a; intro a E
                  obtain ⟨x_44, hx_44⟩ : ∃ x, (relL l1 l2)[i]? = some x := ⟨_, List.getElem?_eq_getElem (by (first | decide | (rw [relL_len]; decide) | omega | (simp; done) | (rw [relL_len]; omega) | (rw [relL_len]; simp only [List.length_cons, List.length_nil] at *; omega) | (simp only [List.length_cons, List.length_nil] at *; omega)))⟩
                  obtain ⟨p_45, hp_45, qp_45⟩ := RdB.at hv_40 hx_44
                  refine D_v E rfl rfl rfl (fun w hC => (R_idx E rfl rfl T28 hp_45 rfl)) ?_
                  clear E a; intro a E
                  refine D_v E rfl rfl rfl (fun w hC => (R_loadM E rfl Tryz.isAgg4 hC qp_45)) ?_
                  clear E a; intro a E
                  refine D_v E rfl rfl rfl (fun w hC => (R_move E rfl)) ?_
                  clear E a; intro a E
                  refine D_v E rfl rfl rfl (fun w hC => (R_move E rfl)) ?_
                  clear E a; intro a E
                  obtain ⟨x_46, hx_46⟩ : ∃ x, ([true, true, !(sub' (l2.take j) l1), true, !true, any' (l1.take k) l2])[i]? = some x := ⟨_, List.getElem?_eq_getElem (by (first | decide | (rw [relL_len]; decide) | omega | (simp; done) | (rw [relL_len]; omega) | (rw [relL_len]; simp only [List.length_cons, List.length_nil] at *; omega) | (simp only [List.length_cons, List.length_nil] at *; omega)))⟩
                  obtain ⟨p_47, hp_47, qp_47⟩ := RdB.at hv_37 hx_46
                  refine D_v E rfl rfl rfl (fun w hC => (R_idx E rfl rfl T28 hp_47 rfl)) ?_
                  clear E a; intro a E
                  refine D_v E rfl rfl rfl (fun w hC => (R_loadM E rfl Tryz.isAgg4 hC qp_47)) ?_
                  clear E a; intro a E
                  refine D_v E rfl rfl rfl (fun w hC => (R_neqB E rfl rfl Tryz.underlying4)) ?_
                  clear E a; intro a E
                  refine D_end (NoP_n ?_)
                  refine T_n ?_
                  have hc_48 : (!(x_44 == x_46)) = false := by (clear S E; first | (simp [relL]; done) | exact rel_0 (by assumption) | exact rel_1 (by assumption) | exact rel_2 (by assumption) | exact rel_5 (by assumption) | (refine rel_ne (by assumption) (by assumption) ?_; rw [relW]; simp only [ek1, ek2] at *; simp [*]; done))
                  refine WP_condF E rfl hc_48 ?_
                  refine WP_skip ?_
                  refine B_n ?_
                  refine T_n ?_
                  refine WP_region ?_
                  refine S_v E rfl (R_addx (m := ((i + 1 : Nat) : Int)) E rfl rfl (by omega) (by omega)) rfl ?_
                  clear E a; intro a E
                  refine S_v E rfl (R_move E rfl) rfl ?_
                  clear E a; intro a E
                  refine WL_nil ?_
                  refine T_n ?_
                  exact ⟨i + 1, ⟨M_42, hM_42, S, E.keep ⟨rfl, rfl, rfl, rfl, rfl, rfl, rfl, trivial⟩, (by simp at *; omega)⟩, (by simp at *; omega)⟩
                · replace hc_43 := of_decide_eq_false hc_43
                  refine WP_exit ?_
                  refine T_x ?_
                  refine T_x ?_
                  refine B_x ?_
                  refine T_n ?_
                  refine WP_seq ?_
                  have h1k48 := h1
                  have h2k48 := h2
                  have hv_40k48 := hv_40
                  replace S := S.mono_heap (w' := World.drew _) rfl
                  refine WP_drawn (C := fun x w => agree M_42 w) (bf := (fun i => [])) [0, 1, 2, 3, 4, 5, 7, 10, 11, 12, 13, 14, 15, 16, 17, 19, 20, 21, 22, 23, 24, 25, 26, 27, 28, 29, 31, 32, 33, 34, 35] [0, 1, 2, 3, 4, 5, 7, 6, 8, 9, 10, 11, 12, 13, 14, 15, 16, 17, 18, 19, 20, 21, 22, 23, 24, 25, 26, 27, 28, 29, 30, 31, 32, 33, 34, 35] Tryz.mixed (by kernel_rfl) (fun x hq => S.imm) ?_
                  refine D_v E rfl rfl rfl (fun w hC => (R_move E rfl)) ?_
                  clear E a; intro a E
                  obtain ⟨x_49, hx_49⟩ : ∃ x, (relL l1 l2)[1]? = some x := ⟨_, List.getElem?_eq_getElem (by (first | decide | (rw [relL_len]; decide) | omega | (simp; done) | (rw [relL_len]; omega) | (rw [relL_len]; simp only [List.length_cons, List.length_nil] at *; omega) | (simp only [List.length_cons, List.length_nil] at *; omega)))⟩
                  obtain ⟨p_50, hp_50, qp_50⟩ := RdB.at hv_40 hx_49
                  refine D_v E rfl rfl rfl (fun w hC => (R_idx E rfl rfl T28 hp_50 (by omega))) ?_
                  clear E a; intro a E
                  refine D_v E rfl rfl rfl (fun w hC => (R_loadM E rfl Tryz.isAgg4 hC qp_50)) ?_
                  clear E a; intro a E
                  refine D_v E rfl rfl rfl (fun w hC => (R_move E rfl)) ?_
                  clear E a; intro a E
                  refine D_v E rfl rfl rfl (fun w hC => (R_move E rfl)) ?_
                  clear E a; intro a E
                  refine D_v E rfl rfl rfl (fun w hC => (R_move E rfl)) ?_
                  clear E a; intro a E
                  refine D_v E rfl rfl rfl (fun w hC => (R_move E rfl)) ?_
                  clear E a; intro a E
                  refine D_x rfl rfl rfl (X_pu E S rfl rfl rfl (impl_SetIntersect h1 h2 (by first | assumption | omega | (simp; done)) (by first | assumption | omega | (simp; done))) (Hp.le.refl _) ?_)
                  clear E a S; rintro a v_52 w M_51 hM_51 hv_52 S E
                  replace h1 := h1.le hM_51
                  replace h2 := h2.le hM_51
                  replace hz_6 := hz_6.le hM_51
                  replace hz_8 := hz_8.le hM_51
                  replace hv_10 := hv_10.le RB1_mono hM_51
                  replace hv_15 := hv_15.le hM_51
                  replace hv_37 := hv_37.le RB1_mono hM_51
                  replace hv_40 := hv_40.le RB1_mono hM_51
                  refine ⟨fun x hq hb => (agree_le hM_51 S.imm), ?_⟩
                  have hzl := Nat.le_trans (suL_len ((l1).filter (fun z => decide (z ∈ l2)))) (List.length_filter_le _ _)
                  refine D_x rfl rfl rfl (X_pu E S rfl rfl rfl (laws_sorted h1 (by (first | omega | (simp; omega) | (simp; done) | (simp_all; omega) | grind))) (Hp.le.refl _) ?_)
                  clear E a S; rintro a v_54 w M_53 hM_53 hv_54 S E
                  replace h1 := h1.le hM_53
                  replace h2 := h2.le hM_53
                  replace hz_6 := hz_6.le hM_53
                  replace hz_8 := hz_8.le hM_53
                  replace hv_10 := hv_10.le RB1_mono hM_53
                  replace hv_15 := hv_15.le hM_53
                  replace hv_37 := hv_37.le RB1_mono hM_53
                  replace hv_40 := hv_40.le RB1_mono hM_53
                  replace hv_52 := hv_52.le hM_53
                  refine ⟨fun x hq hb => (agree_le (hM_51.trans hM_53) S.imm), ?_⟩
                  refine D_x rfl rfl rfl (X_pu E S rfl rfl rfl (laws_eq hv_52 hv_54) (Hp.le.refl _) ?_)
                  clear E a S; rintro a _ w M_55 hM_55 rfl S E
                  replace h1 := h1.le hM_55
                  replace h2 := h2.le hM_55
                  replace hz_6 := hz_6.le hM_55
                  replace hz_8 := hz_8.le hM_55
                  replace hv_10 := hv_10.le RB1_mono hM_55
                  replace hv_15 := hv_15.le hM_55
                  replace hv_37 := hv_37.le RB1_mono hM_55
                  replace hv_40 := hv_40.le RB1_mono hM_55
                  replace hv_52 := hv_52.le hM_55
                  replace hv_54 := hv_54.le hM_55
                  refine ⟨fun x hq hb => (agree_le (hM_51.trans (hM_53.trans hM_55)) S.imm), ?_⟩
                  refine D_v E rfl rfl rfl (fun w hC => (R_eqlB E rfl rfl Tryz.underlying4)) ?_
                  clear E a; intro a E
                  refine D_v E rfl rfl rfl (fun w hC => (R_move E rfl)) ?_
                  clear E a; intro a E
                  have hc_56 : (x_49 == (decide (suL ((l1).filter (fun z => decide (z ∈ l2))) = setI l1))) = true := by (clear S E; first | (simp [relL]; done) | exact rel_0 (by assumption) | exact rel_1 (by assumption) | exact rel_2 (by assumption) | exact rel_5 (by assumption) | (refine rel_ne (by assumption) (by assumption) ?_; rw [relW]; simp only [ek1, ek2] at *; simp [*]; done))
                  replace E := E.val (t := 126) rfl hc_56
                  replace E := E.val (t := 127) rfl hc_56
                  refine D_vyes E rfl rfl rfl rfl rfl (fun w hC => (R_move E rfl)) ?_
                  clear E a; intro a E
                  obtain ⟨p_57, hp_57, qp_57⟩ := RdB.at hv_40k48 hx_49
                  refine D_vyes E rfl rfl rfl rfl rfl (fun w hC => (R_idx E rfl rfl T28 hp_57 (by omega))) ?_
                  clear E a; intro a E
                  refine D_vyes E rfl rfl rfl rfl rfl (fun w hC => (R_loadM E rfl Tryz.isAgg4 hC qp_57)) ?_
                  clear E a; intro a E
                  refine D_vyes E rfl rfl rfl rfl rfl (fun w hC => (R_move E rfl)) ?_
                  clear E a; intro a E
                  refine D_vyes E rfl rfl rfl rfl rfl (fun w hC => (R_move E rfl)) ?_
                  clear E a; intro a E
                  refine D_vyes E rfl rfl rfl rfl rfl (fun w hC => (R_move E rfl)) ?_
                  clear E a; intro a E
                  refine D_yes E rfl rfl rfl rfl (X_pu E S rfl rfl rfl (impl_SetDifference h1 h2 (by first | assumption | omega | (simp; done)) (by first | assumption | omega | (simp; done))) (Hp.le.refl _) ?_)
                  clear E a S; rintro a v_59 w M_58 hM_58 hv_59 S E
                  replace h1 := h1.le hM_58
                  replace h2 := h2.le hM_58
                  replace hz_6 := hz_6.le hM_58
                  replace hz_8 := hz_8.le hM_58
                  replace hv_10 := hv_10.le RB1_mono hM_58
                  replace hv_15 := hv_15.le hM_58
                  replace hv_37 := hv_37.le RB1_mono hM_58
                  replace hv_40 := hv_40.le RB1_mono hM_58
                  replace hv_52 := hv_52.le hM_58
                  replace hv_54 := hv_54.le hM_58
                  refine ⟨fun x hq hb => (agree_le (hM_51.trans (hM_53.trans (hM_55.trans hM_58))) S.imm), ?_⟩
                  have hzl := Nat.le_trans (suL_len ((l1).filter (fun z => decide (z ∉ l2)))) (List.length_filter_le _ _)
                  refine D_vyes E rfl rfl rfl rfl rfl (fun w hC => (R_lenV E rfl T22 hv_59.len)) ?_
                  clear E a; intro a E
                  refine D_vyes E rfl rfl rfl rfl rfl (fun w hC => (R_eql E rfl rfl)) ?_
                  clear E a; intro a E
                  refine D_vyes E rfl rfl rfl rfl rfl (fun w hC => (R_eqlB E rfl rfl Tryz.underlying4)) ?_
                  clear E a; intro a E
                  refine D_v E rfl rfl rfl (fun w hC => (R_pickT E rfl rfl)) ?_
                  clear E a; intro a E
                  refine D_v E rfl rfl rfl (fun w hC => (R_move E rfl)) ?_
                  clear E a; intro a E
                  have hc_60 : (x_49 == (decide ((((suL ((l1).filter (fun z => decide (z ∉ l2)))).length : Nat) : Int) = 0))) = true := by (clear S E; first | (simp [relL]; done) | exact rel_0 (by assumption) | exact rel_1 (by assumption) | exact rel_2 (by assumption) | exact rel_5 (by assumption) | (refine rel_ne (by assumption) (by assumption) ?_; rw [relW]; simp only [ek1, ek2] at *; simp [*]; done))
                  replace E := E.val (t := 137) rfl hc_60
                  replace E := E.val (t := 138) rfl hc_60
                  replace E := E.val (t := 139) rfl hc_60
                  refine D_vyes E rfl rfl rfl rfl rfl (fun w hC => (R_move E rfl)) ?_
                  clear E a; intro a E
                  obtain ⟨x_61, hx_61⟩ : ∃ x, (relL l1 l2)[5]? = some x := ⟨_, List.getElem?_eq_getElem (by (first | decide | (rw [relL_len]; decide) | omega | (simp; done) | (rw [relL_len]; omega) | (rw [relL_len]; simp only [List.length_cons, List.length_nil] at *; omega) | (simp only [List.length_cons, List.length_nil] at *; omega)))⟩
                  obtain ⟨p_62, hp_62, qp_62⟩ := RdB.at hv_40k48 hx_61
                  refine D_vyes E rfl rfl rfl rfl rfl (fun w hC => (R_idx E rfl rfl T28 hp_62 (by omega))) ?_
                  clear E a; intro a E
                  refine D_vyes E rfl rfl rfl rfl rfl (fun w hC => (R_loadM E rfl Tryz.isAgg4 hC qp_62)) ?_
                  clear E a; intro a E
                  refine D_vyes E rfl rfl rfl rfl rfl (fun w hC => (R_move E rfl)) ?_
                  clear E a; intro a E
                  refine D_vyes E rfl rfl rfl rfl rfl (fun w hC => (R_move E rfl)) ?_
                  clear E a; intro a E
                  refine D_vyes E rfl rfl rfl rfl rfl (fun w hC => (R_move E rfl)) ?_
                  clear E a; intro a E
                  refine D_yes E rfl rfl rfl rfl (X_pu E S rfl rfl rfl (impl_SetIntersect h1 h2 (by first | assumption | omega | (simp; done)) (by first | assumption | omega | (simp; done))) (Hp.le.refl _) ?_)
                  clear E a S; rintro a v_64 w M_63 hM_63 hv_64 S E
                  replace h1 := h1.le hM_63
                  replace h2 := h2.le hM_63
                  replace hz_6 := hz_6.le hM_63
                  replace hz_8 := hz_8.le hM_63
                  replace hv_10 := hv_10.le RB1_mono hM_63
                  replace hv_15 := hv_15.le hM_63
                  replace hv_37 := hv_37.le RB1_mono hM_63
                  replace hv_40 := hv_40.le RB1_mono hM_63
                  replace hv_52 := hv_52.le hM_63
                  replace hv_54 := hv_54.le hM_63
                  replace hv_59 := hv_59.le hM_63
                  refine ⟨fun x hq hb => (agree_le (hM_51.trans (hM_53.trans (hM_55.trans (hM_58.trans hM_63)))) S.imm), ?_⟩
                  have hzl := Nat.le_trans (suL_len ((l1).filter (fun z => decide (z ∈ l2)))) (List.length_filter_le _ _)
                  refine D_vyes E rfl rfl rfl rfl rfl (fun w hC => (R_lenV E rfl T22 hv_64.len)) ?_
                  clear E a; intro a E
                  refine D_vyes E rfl rfl rfl rfl rfl (fun w hC => (R_gtr E rfl rfl)) ?_
                  clear E a; intro a E
                  refine D_vyes E rfl rfl rfl rfl rfl (fun w hC => (R_eqlB E rfl rfl Tryz.underlying4)) ?_
                  clear E a; intro a E
                  refine D_v E rfl rfl rfl (fun w hC => (R_pickT E rfl rfl)) ?_
                  clear E a; intro a E
                  refine D_v E rfl rfl rfl (fun w hC => (R_assign E rfl)) ?_
                  clear E a; intro a E
                  refine D_end (NoP_n ?_)
                  refine T_n ?_
                  refine WP_ret ?_
                  exact F_ret1 E Tryz.results4 rfl ⟨_, rfl, M_63, (hM_5.trans (hM_7.trans (hM_9.trans (hM_16.trans (hM_17.trans (hM_19.trans (hM_29.trans (hM_38.trans (hM_39.trans (hM_42.trans (hM_51.trans (hM_53.trans (hM_55.trans (hM_58.trans hM_63)))))))))))))), (congrArg Value.bool (by (clear S E; first | (simp [relL]; done) | exact rel_0 (by assumption) | exact rel_1 (by assumption) | exact rel_2 (by assumption) | exact rel_5 (by assumption) | (refine rel_ne (by assumption) (by assumption) ?_; rw [relW]; simp only [ek1, ek2] at *; simp [*]; done)))), S⟩
              · replace E := E.val (t := 9) rfl hc_36
                replace E := E.val (t := 78) rfl hc_36
                replace E := E.val (t := 79) rfl hc_36
                replace E := E.val (t := 83) rfl hc_36
                replace E := E.val (t := 86) rfl hc_36
                replace E := E.val (t := 87) rfl hc_36
                replace E := E.val (t := 88) rfl hc_36
                refine WL_guard_no E rfl rfl rfl rfl fun a E => ?_
                refine WL_guard_no E rfl rfl rfl rfl fun a E => ?_
                refine S_v E rfl (R_pickF E rfl rfl) rfl ?_
                clear E a; intro a E
                refine S_v E rfl (R_move E rfl) rfl ?_
                clear E a; intro a E
                refine S_x (X_buildM (R := RB1) (vs := [.bool false, .bool true, .bool (!(sub' (l2.take j) l1)), .bool false, .bool false, .bool (any' (l1.take k) l2)]) (xs := [false, true, !(sub' (l2.take j) l1), false, false, any' (l1.take k) l2]) RB1_mono E S rfl T28 rfl rfl rfl (by intro u hu; simp only [List.mem_cons, List.not_mem_nil, or_false] at hu; rcases hu with rfl | rfl | rfl | rfl | rfl | rfl <;> first | exact rfl | exact rfl | exact rfl | exact rfl | exact rfl | exact rfl) rfl (rowsC (R := RB1) rfl (rowsC (R := RB1) rfl (rowsC (R := RB1) rfl (rowsC (R := RB1) rfl (rowsC (R := RB1) rfl (rowsC (R := RB1) rfl rowsN)))))) ?_)
                clear E a S; rintro a v_65 w M_66 hM_66 hv_65 S E
                replace h1 := h1.le hM_66
                replace h2 := h2.le hM_66
                replace hz_6 := hz_6.le hM_66
                replace hz_8 := hz_8.le hM_66
                replace hv_10 := hv_10.le RB1_mono hM_66
                replace hv_15 := hv_15.le hM_66
                refine S_v E rfl (R_assign E rfl) rfl ?_
                clear E a; intro a E
                refine WL_nil ?_
                refine T_n ?_
                refine WP_seq ?_
                refine WP_region ?_
                refine S_v E rfl (R_move E rfl) rfl ?_
                clear E a; intro a E
                refine S_v E rfl (R_move E rfl) rfl ?_
                clear E a; intro a E
                refine S_v E rfl (R_move E rfl) rfl ?_
                clear E a; intro a E
                refine S_x (X_pu E S rfl rfl rfl (impl_SetRelations h1 h2 (by first | assumption | omega | (simp; done)) (by first | assumption | omega | (simp; done))) (Hp.le.refl _) ?_)
                clear E a S; rintro a v_68 w M_67 hM_67 hv_68 S E
                replace h1 := h1.le hM_67
                replace h2 := h2.le hM_67
                replace hz_6 := hz_6.le hM_67
                replace hz_8 := hz_8.le hM_67
                replace hv_10 := hv_10.le RB1_mono hM_67
                replace hv_15 := hv_15.le hM_67
                replace hv_65 := hv_65.le RB1_mono hM_67
                refine S_v E rfl (R_assign E rfl) rfl ?_
                clear E a; intro a E
                refine WL_nil ?_
                refine T_n ?_
                refine WP_seq ?_
                refine WP_seq ?_
                refine WP_region ?_
                refine S_v E rfl (R_move E rfl) rfl ?_
                clear E a; intro a E
                refine S_v E rfl (R_lenV E rfl T28 hv_68.len) rfl ?_
                clear E a; intro a E
                refine S_v E rfl (R_neq E rfl rfl) rfl ?_
                clear E a; intro a E
                refine WL_nil ?_
                refine T_n ?_
                have hc_69 : (decide ((((relL l1 l2).length : Nat) : Int) ≠ 6)) = false := by (clear S E; first | (simp [relL]; done) | exact rel_0 (by assumption) | exact rel_1 (by assumption) | exact rel_2 (by assumption) | exact rel_5 (by assumption) | (refine rel_ne (by assumption) (by assumption) ?_; rw [relW]; simp only [ek1, ek2] at *; simp [*]; done))
                refine WP_condF E rfl hc_69 ?_
                refine WP_skip ?_
                refine T_n ?_
                refine WP_seq ?_
                refine WP_seq ?_
                refine WP_region ?_
                refine S_v E rfl (R_move E rfl) rfl ?_
                clear E a; intro a E
                refine S_v E rfl (R_lenV E rfl T28 hv_65.len) rfl ?_
                clear E a; intro a E
                refine S_v E rfl (R_move E rfl) rfl ?_
                clear E a; intro a E
                refine WL_nil ?_
                refine T_n ?_
                refine WP_block ?_
                refine WP_loop (γ := Nat) (fun (i : Nat) a w => ∃ (M_70 : Hp), Hp.le M_67 M_70 ∧ St w M_70 (H) ∧ Env a 151 [] [(0, .bool x0), (1, v1), (2, v2), (15, v_65), (16, v_68), (102, .int .i64 ((([false, true, !(sub' (l2.take j) l1), false, false, any' (l1.take k) l2]).length : Nat) : Int)), (103, .int .i64 ((i : Nat) : Int))] ∧ (i ≤ 6)) (fun i => 6 - i) 0 ⟨M_67, Hp.le.refl _, S, E.keep ⟨rfl, rfl, rfl, rfl, rfl, rfl, rfl, trivial⟩, (by omega)⟩ ?_
                try clear E
                try clear S
                try clear a
                try clear w
                rintro i a w ⟨M_70, hM_70, S, E, hL2_0⟩
                replace h1 := h1.le hM_70
                replace h2 := h2.le hM_70
                replace hz_6 := hz_6.le hM_70
                replace hz_8 := hz_8.le hM_70
                replace hv_10 := hv_10.le RB1_mono hM_70
                replace hv_15 := hv_15.le hM_70
                replace hv_65 := hv_65.le RB1_mono hM_70
                replace hv_68 := hv_68.le RB1_mono hM_70
                refine WP_seq ?_
                refine WP_region ?_
                refine S_v E rfl (R_lss E rfl rfl) rfl ?_
                clear E a; intro a E
                refine WL_nil ?_
                refine T_n ?_
                refine WP_seq ?_
                refine WP_cond E rfl (fun hc_71 => ?_) (fun hc_71 => ?_)
                · replace hc_71 := of_decide_eq_true hc_71
                  refine WP_skip ?_
                  refine T_n ?_
                  refine WP_seq ?_
                  refine WP_block ?_
                  refine WP_seq ?_
                  refine WP_region ?_
                  refine S_v E rfl (R_move E rfl) rfl ?_
                  clear E a; intro a E
                  refine S_v E rfl (R_assign E rfl) rfl ?_
                  clear E a; intro a E
                  refine WL_nil ?_
                  refine T_n ?_
                  refine WP_seq ?_
                  replace S := S.mono_heap (w' := World.drew _) rfl
                  refine WP_drawn (C := fun x w => agree M_70 w) (bf := (fun i => [])) [0, 1, 2, 3, 4, 5, 6, 7, 8] [0, 1, 2, 3, 4, 5, 6, 7, 8] Tryz.mixed (by kernel_rfl) (fun x hq => S.imm) ?_
                  refine D_v E rfl rfl rfl (fun w hC => (R_move E rfl)) ?_
                  clear E a; intro a E
                  refine D_v E rfl rfl rfl (fun w hC => (R_move E rfl)) ?_
                  clear E a; intro a E
                  obtain ⟨x_72, hx_72⟩ : ∃ x, (relL l1 l2)[i]? = some x := ⟨_, List.getElem?_eq_getElem (by (first | decide | (rw [relL_len]; decide) | omega | (simp; done) | (rw [relL_len]; omega) | (rw [relL_len]; simp only [List.length_cons, List.length_nil] at *; omega) | (simp only [List.length_cons, List.length_nil] at *; omega)))⟩
                  obtain ⟨p_73, hp_73, qp_73⟩ := RdB.at hv_68 hx_72
                  refine D_v E rfl rfl rfl (fun w hC => (R_idx E rfl rfl T28 hp_73 rfl)) ?_
                  clear E a; intro a E
                  refine D_v E rfl rfl rfl (fun w hC => (R_loadM E rfl Tryz.isAgg4 hC qp_73)) ?_
                  clear E a; intro a E
                  refine D_v E rfl rfl rfl (fun w hC => (R_move E rfl)) ?_
                  clear E a; intro a E
                  refine D_v E rfl rfl rfl (fun w hC => (R_move E rfl)) ?_
                  clear E a; intro a E
                  obtain ⟨x_74, hx_74⟩ : ∃ x, ([false, true, !(sub' (l2.take j) l1), false, false, any' (l1.take k) l2])[i]? = some x := ⟨_, List.getElem?_eq_getElem (by (first | decide | (rw [relL_len]; decide) | omega | (simp; done) | (rw [relL_len]; omega) | (rw [relL_len]; simp only [List.length_cons, List.length_nil] at *; omega) | (simp only [List.length_cons, List.length_nil] at *; omega)))⟩
                  obtain ⟨p_75, hp_75, qp_75⟩ := RdB.at hv_65 hx_74
                  refine D_v E rfl rfl rfl (fun w hC => (R_idx E rfl rfl T28 hp_75 rfl)) ?_
                  clear E a; intro a E
                  refine D_v E rfl rfl rfl (fun w hC => (R_loadM E rfl Tryz.isAgg4 hC qp_75)) ?_
                  clear E a; intro a E
                  refine D_v E rfl rfl rfl (fun w hC => (R_neqB E rfl rfl Tryz.underlying4)) ?_
                  clear E a; intro a E
                  refine D_end (NoP_n ?_)
                  refine T_n ?_
                  have hc_76 : (!(x_72 == x_74)) = false := by (clear S E; first | (simp [relL]; done) | exact rel_0 (by assumption) | exact rel_1 (by assumption) | exact rel_2 (by assumption) | exact rel_5 (by assumption) | (refine rel_ne (by assumption) (by assumption) ?_; rw [relW]; simp only [ek1, ek2] at *; simp [*]; done))
                  refine WP_condF E rfl hc_76 ?_
                  refine WP_skip ?_
                  refine B_n ?_
                  refine T_n ?_
                  refine WP_region ?_
                  refine S_v E rfl (R_addx (m := ((i + 1 : Nat) : Int)) E rfl rfl (by omega) (by omega)) rfl ?_
                  clear E a; intro a E
                  refine S_v E rfl (R_move E rfl) rfl ?_
                  clear E a; intro a E
                  refine WL_nil ?_
                  refine T_n ?_
                  exact ⟨i + 1, ⟨M_70, hM_70, S, E.keep ⟨rfl, rfl, rfl, rfl, rfl, rfl, rfl, trivial⟩, (by simp at *; omega)⟩, (by simp at *; omega)⟩
                · replace hc_71 := of_decide_eq_false hc_71
                  refine WP_exit ?_
                  refine T_x ?_
                  refine T_x ?_
                  refine B_x ?_
                  refine T_n ?_
                  refine WP_seq ?_
                  have h1k76 := h1
                  have h2k76 := h2
                  have hv_68k76 := hv_68
                  replace S := S.mono_heap (w' := World.drew _) rfl
                  refine WP_drawn (C := fun x w => agree M_70 w) (bf := (fun i => [])) [0, 1, 2, 3, 4, 5, 7, 10, 11, 12, 13, 14, 15, 16, 17, 19, 20, 21, 22, 23, 24, 25, 26, 27, 28, 29, 31, 32, 33, 34, 35] [0, 1, 2, 3, 4, 5, 7, 6, 8, 9, 10, 11, 12, 13, 14, 15, 16, 17, 18, 19, 20, 21, 22, 23, 24, 25, 26, 27, 28, 29, 30, 31, 32, 33, 34, 35] Tryz.mixed (by kernel_rfl) (fun x hq => S.imm) ?_
                  refine D_v E rfl rfl rfl (fun w hC => (R_move E rfl)) ?_
                  clear E a; intro a E
                  obtain ⟨x_77, hx_77⟩ : ∃ x, (relL l1 l2)[1]? = some x := ⟨_, List.getElem?_eq_getElem (by (first | decide | (rw [relL_len]; decide) | omega | (simp; done) | (rw [relL_len]; omega) | (rw [relL_len]; simp only [List.length_cons, List.length_nil] at *; omega) | (simp only [List.length_cons, List.length_nil] at *; omega)))⟩
                  obtain ⟨p_78, hp_78, qp_78⟩ := RdB.at hv_68 hx_77
                  refine D_v E rfl rfl rfl (fun w hC => (R_idx E rfl rfl T28 hp_78 (by omega))) ?_
                  clear E a; intro a E
                  refine D_v E rfl rfl rfl (fun w hC => (R_loadM E rfl Tryz.isAgg4 hC qp_78)) ?_
                  clear E a; intro a E
                  refine D_v E rfl rfl rfl (fun w hC => (R_move E rfl)) ?_
                  clear E a; intro a E
                  refine D_v E rfl rfl rfl (fun w hC => (R_move E rfl)) ?_
                  clear E a; intro a E
                  refine D_v E rfl rfl rfl (fun w hC => (R_move E rfl)) ?_
                  clear E a; intro a E
                  refine D_v E rfl rfl rfl (fun w hC => (R_move E rfl)) ?_
                  clear E a; intro a E
                  refine D_x rfl rfl rfl (X_pu E S rfl rfl rfl (impl_SetIntersect h1 h2 (by first | assumption | omega | (simp; done)) (by first | assumption | omega | (simp; done))) (Hp.le.refl _) ?_)
                  clear E a S; rintro a v_80 w M_79 hM_79 hv_80 S E
                  replace h1 := h1.le hM_79
                  replace h2 := h2.le hM_79
                  replace hz_6 := hz_6.le hM_79
                  replace hz_8 := hz_8.le hM_79
                  replace hv_10 := hv_10.le RB1_mono hM_79
                  replace hv_15 := hv_15.le hM_79
                  replace hv_65 := hv_65.le RB1_mono hM_79
                  replace hv_68 := hv_68.le RB1_mono hM_79
                  refine ⟨fun x hq hb => (agree_le hM_79 S.imm), ?_⟩
                  have hzl := Nat.le_trans (suL_len ((l1).filter (fun z => decide (z ∈ l2)))) (List.length_filter_le _ _)
                  refine D_x rfl rfl rfl (X_pu E S rfl rfl rfl (laws_sorted h1 (by (first | omega | (simp; omega) | (simp; done) | (simp_all; omega) | grind))) (Hp.le.refl _) ?_)
                  clear E a S; rintro a v_82 w M_81 hM_81 hv_82 S E
                  replace h1 := h1.le hM_81
                  replace h2 := h2.le hM_81
                  replace hz_6 := hz_6.le hM_81
                  replace hz_8 := hz_8.le hM_81
                  replace hv_10 := hv_10.le RB1_mono hM_81
                  replace hv_15 := hv_15.le hM_81
                  replace hv_65 := hv_65.le RB1_mono hM_81
                  replace hv_68 := hv_68.le RB1_mono hM_81
                  replace hv_80 := hv_80.le hM_81
                  refine ⟨fun x hq hb => (agree_le (hM_79.trans hM_81) S.imm), ?_⟩
                  refine D_x rfl rfl rfl (X_pu E S rfl rfl rfl (laws_eq hv_80 hv_82) (Hp.le.refl _) ?_)
                  clear E a S; rintro a _ w M_83 hM_83 rfl S E
                  replace h1 := h1.le hM_83
                  replace h2 := h2.le hM_83
                  replace hz_6 := hz_6.le hM_83
                  replace hz_8 := hz_8.le hM_83
                  replace hv_10 := hv_10.le RB1_mono hM_83
                  replace hv_15 := hv_15.le hM_83
                  replace hv_65 := hv_65.le RB1_mono hM_83
                  replace hv_68 := hv_68.le RB1_mono hM_83
                  replace hv_80 := hv_80.le hM_83
                  replace hv_82 := hv_82.le hM_83
                  refine ⟨fun x hq hb => (agree_le (hM_79.trans (hM_81.trans hM_83)) S.imm), ?_⟩
                  refine D_v E rfl rfl rfl (fun w hC => (R_eqlB E rfl rfl Tryz.underlying4)) ?_
                  clear E a; intro a E
                  refine D_v E rfl rfl rfl (fun w hC => (R_move E rfl)) ?_
                  clear E a; intro a E
                  have hc_84 : (x_77 == (decide (suL ((l1).filter (fun z => decide (z ∈ l2))) = setI l1))) = true := by (clear S E; first | (simp [relL]; done) | exact rel_0 (by assumption) | exact rel_1 (by assumption) | exact rel_2 (by assumption) | exact rel_5 (by assumption) | (refine rel_ne (by assumption) (by assumption) ?_; rw [relW]; simp only [ek1, ek2] at *; simp [*]; done))
                  replace E := E.val (t := 126) rfl hc_84
                  replace E := E.val (t := 127) rfl hc_84
                  refine D_vyes E rfl rfl rfl rfl rfl (fun w hC => (R_move E rfl)) ?_
                  clear E a; intro a E
                  obtain ⟨p_85, hp_85, qp_85⟩ := RdB.at hv_68k76 hx_77
                  refine D_vyes E rfl rfl rfl rfl rfl (fun w hC => (R_idx E rfl rfl T28 hp_85 (by omega))) ?_
                  clear E a; intro a E
                  refine D_vyes E rfl rfl rfl rfl rfl (fun w hC => (R_loadM E rfl Tryz.isAgg4 hC qp_85)) ?_
                  clear E a; intro a E
                  refine D_vyes E rfl rfl rfl rfl rfl (fun w hC => (R_move E rfl)) ?_
                  clear E a; intro a E
                  refine D_vyes E rfl rfl rfl rfl rfl (fun w hC => (R_move E rfl)) ?_
                  clear E a; intro a E
                  refine D_vyes E rfl rfl rfl rfl rfl (fun w hC => (R_move E rfl)) ?_
                  clear E a; intro a E
                  refine D_yes E rfl rfl rfl rfl (X_pu E S rfl rfl rfl (impl_SetDifference h1 h2 (by first | assumption | omega | (simp; done)) (by first | assumption | omega | (simp; done))) (Hp.le.refl _) ?_)
                  clear E a S; rintro a v_87 w M_86 hM_86 hv_87 S E
                  replace h1 := h1.le hM_86
                  replace h2 := h2.le hM_86
                  replace hz_6 := hz_6.le hM_86
                  replace hz_8 := hz_8.le hM_86
                  replace hv_10 := hv_10.le RB1_mono hM_86
                  replace hv_15 := hv_15.le hM_86
                  replace hv_65 := hv_65.le RB1_mono hM_86
                  replace hv_68 := hv_68.le RB1_mono hM_86
                  replace hv_80 := hv_80.le hM_86
                  replace hv_82 := hv_82.le hM_86
                  refine ⟨fun x hq hb => (agree_le (hM_79.trans (hM_81.trans (hM_83.trans hM_86))) S.imm), ?_⟩
                  have hzl := Nat.le_trans (suL_len ((l1).filter (fun z => decide (z ∉ l2)))) (List.length_filter_le _ _)
                  refine D_vyes E rfl rfl rfl rfl rfl (fun w hC => (R_lenV E rfl T22 hv_87.len)) ?_
                  clear E a; intro a E
                  refine D_vyes E rfl rfl rfl rfl rfl (fun w hC => (R_eql E rfl rfl)) ?_
                  clear E a; intro a E
                  refine D_vyes E rfl rfl rfl rfl rfl (fun w hC => (R_eqlB E rfl rfl Tryz.underlying4)) ?_
                  clear E a; intro a E
                  refine D_v E rfl rfl rfl (fun w hC => (R_pickT E rfl rfl)) ?_
                  clear E a; intro a E
                  refine D_v E rfl rfl rfl (fun w hC => (R_move E rfl)) ?_
                  clear E a; intro a E
                  have hc_88 : (x_77 == (decide ((((suL ((l1).filter (fun z => decide (z ∉ l2)))).length : Nat) : Int) = 0))) = true := by (clear S E; first | (simp [relL]; done) | exact rel_0 (by assumption) | exact rel_1 (by assumption) | exact rel_2 (by assumption) | exact rel_5 (by assumption) | (refine rel_ne (by assumption) (by assumption) ?_; rw [relW]; simp only [ek1, ek2] at *; simp [*]; done))
                  replace E := E.val (t := 137) rfl hc_88
                  replace E := E.val (t := 138) rfl hc_88
                  replace E := E.val (t := 139) rfl hc_88
                  refine D_vyes E rfl rfl rfl rfl rfl (fun w hC => (R_move E rfl)) ?_
                  clear E a; intro a E
                  obtain ⟨x_89, hx_89⟩ : ∃ x, (relL l1 l2)[5]? = some x := ⟨_, List.getElem?_eq_getElem (by (first | decide | (rw [relL_len]; decide) | omega | (simp; done) | (rw [relL_len]; omega) | (rw [relL_len]; simp only [List.length_cons, List.length_nil] at *; omega) | (simp only [List.length_cons, List.length_nil] at *; omega)))⟩
                  obtain ⟨p_90, hp_90, qp_90⟩ := RdB.at hv_68k76 hx_89
                  refine D_vyes E rfl rfl rfl rfl rfl (fun w hC => (R_idx E rfl rfl T28 hp_90 (by omega))) ?_
                  clear E a; intro a E
                  refine D_vyes E rfl rfl rfl rfl rfl (fun w hC => (R_loadM E rfl Tryz.isAgg4 hC qp_90)) ?_
                  clear E a; intro a E
                  refine D_vyes E rfl rfl rfl rfl rfl (fun w hC => (R_move E rfl)) ?_
                  clear E a; intro a E
                  refine D_vyes E rfl rfl rfl rfl rfl (fun w hC => (R_move E rfl)) ?_
                  clear E a; intro a E
                  refine D_vyes E rfl rfl rfl rfl rfl (fun w hC => (R_move E rfl)) ?_
                  clear E a; intro a E
                  refine D_yes E rfl rfl rfl rfl (X_pu E S rfl rfl rfl (impl_SetIntersect h1 h2 (by first | assumption | omega | (simp; done)) (by first | assumption | omega | (simp; done))) (Hp.le.refl _) ?_)
                  clear E a S; rintro a v_92 w M_91 hM_91 hv_92 S E
                  replace h1 := h1.le hM_91
                  replace h2 := h2.le hM_91
                  replace hz_6 := hz_6.le hM_91
                  replace hz_8 := hz_8.le hM_91
                  replace hv_10 := hv_10.le RB1_mono hM_91
                  replace hv_15 := hv_15.le hM_91
                  replace hv_65 := hv_65.le RB1_mono hM_91
                  replace hv_68 := hv_68.le RB1_mono hM_91
                  replace hv_80 := hv_80.le hM_91
                  replace hv_82 := hv_82.le hM_91
                  replace hv_87 := hv_87.le hM_91
                  refine ⟨fun x hq hb => (agree_le (hM_79.trans (hM_81.trans (hM_83.trans (hM_86.trans hM_91)))) S.imm), ?_⟩
                  have hzl := Nat.le_trans (suL_len ((l1).filter (fun z => decide (z ∈ l2)))) (List.length_filter_le _ _)
                  refine D_vyes E rfl rfl rfl rfl rfl (fun w hC => (R_lenV E rfl T22 hv_92.len)) ?_
                  clear E a; intro a E
                  refine D_vyes E rfl rfl rfl rfl rfl (fun w hC => (R_gtr E rfl rfl)) ?_
                  clear E a; intro a E
                  refine D_vyes E rfl rfl rfl rfl rfl (fun w hC => (R_eqlB E rfl rfl Tryz.underlying4)) ?_
                  clear E a; intro a E
                  refine D_v E rfl rfl rfl (fun w hC => (R_pickT E rfl rfl)) ?_
                  clear E a; intro a E
                  refine D_v E rfl rfl rfl (fun w hC => (R_assign E rfl)) ?_
                  clear E a; intro a E
                  refine D_end (NoP_n ?_)
                  refine T_n ?_
                  refine WP_ret ?_
                  exact F_ret1 E Tryz.results4 rfl ⟨_, rfl, M_91, (hM_5.trans (hM_7.trans (hM_9.trans (hM_16.trans (hM_17.trans (hM_19.trans (hM_29.trans (hM_66.trans (hM_67.trans (hM_70.trans (hM_79.trans (hM_81.trans (hM_83.trans (hM_86.trans hM_91)))))))))))))), (congrArg Value.bool (by (clear S E; first | (simp [relL]; done) | exact rel_0 (by assumption) | exact rel_1 (by assumption) | exact rel_2 (by assumption) | exact rel_5 (by assumption) | (refine rel_ne (by assumption) (by assumption) ?_; rw [relW]; simp only [ek1, ek2] at *; simp [*]; done)))), S⟩
            · replace E := E.val (t := 8) rfl hc_35
              replace E := E.val (t := 76) rfl hc_35
              replace E := E.val (t := 77) rfl hc_35
              refine WL_guard_no E rfl rfl rfl rfl fun a E => ?_
              refine S_v E rfl (R_pickF E rfl rfl) rfl ?_
              clear E a; intro a E
              refine S_v E rfl (R_move E rfl) rfl ?_
              clear E a; intro a E
              refine S_v E rfl (R_move E rfl) rfl ?_
              clear E a; intro a E
              refine S_v E rfl (R_move E rfl) rfl ?_
              clear E a; intro a E
              refine WL_guard_no E rfl rfl rfl rfl fun a E => ?_
              refine WL_guard_no E rfl rfl rfl rfl fun a E => ?_
              refine S_v E rfl (R_pickF E rfl rfl) rfl ?_
              clear E a; intro a E
              refine S_v E rfl (R_move E rfl) rfl ?_
              clear E a; intro a E
              refine S_v E rfl (R_move E rfl) rfl ?_
              clear E a; intro a E
              refine S_v E rfl (R_move E rfl) rfl ?_
              clear E a; intro a E
              refine split_bool (sub' (l2.take j) l1) (fun hc_93 => ?_) (fun hc_93 => ?_)
              · replace E := E.val (t := 9) rfl hc_93
                replace E := E.val (t := 86) rfl hc_93
                replace E := E.val (t := 87) rfl hc_93
                replace E := E.val (t := 88) rfl hc_93
                refine WL_guard_yes E rfl rfl ?_
                refine S_v E rfl (R_move E rfl) rfl ?_
                clear E a; intro a E
                refine WL_guard_yes E rfl rfl ?_
                refine S_v E rfl (R_not E rfl) rfl ?_
                clear E a; intro a E
                refine S_v E rfl (R_pickT E rfl rfl) rfl ?_
                clear E a; intro a E
                refine S_v E rfl (R_move E rfl) rfl ?_
                clear E a; intro a E
                refine S_x (X_buildM (R := RB1) (vs := [.bool false, .bool false, .bool false, .bool true, .bool (!false), .bool (any' (l1.take k) l2)]) (xs := [false, false, false, true, !false, any' (l1.take k) l2]) RB1_mono E S rfl T28 rfl rfl rfl (by intro u hu; simp only [List.mem_cons, List.not_mem_nil, or_false] at hu; rcases hu with rfl | rfl | rfl | rfl | rfl | rfl <;> first | exact rfl | exact rfl | exact rfl | exact rfl | exact rfl | exact rfl) rfl (rowsC (R := RB1) rfl (rowsC (R := RB1) rfl (rowsC (R := RB1) rfl (rowsC (R := RB1) rfl (rowsC (R := RB1) rfl (rowsC (R := RB1) rfl rowsN)))))) ?_)
                clear E a S; rintro a v_94 w M_95 hM_95 hv_94 S E
                replace h1 := h1.le hM_95
                replace h2 := h2.le hM_95
                replace hz_6 := hz_6.le hM_95
                replace hz_8 := hz_8.le hM_95
                replace hv_10 := hv_10.le RB1_mono hM_95
                replace hv_15 := hv_15.le hM_95
                refine S_v E rfl (R_assign E rfl) rfl ?_
                clear E a; intro a E
                refine WL_nil ?_
                refine T_n ?_
                refine WP_seq ?_
                refine WP_region ?_
                refine S_v E rfl (R_move E rfl) rfl ?_
                clear E a; intro a E
                refine S_v E rfl (R_move E rfl) rfl ?_
                clear E a; intro a E
                refine S_v E rfl (R_move E rfl) rfl ?_
                clear E a; intro a E
                refine S_x (X_pu E S rfl rfl rfl (impl_SetRelations h1 h2 (by first | assumption | omega | (simp; done)) (by first | assumption | omega | (simp; done))) (Hp.le.refl _) ?_)
                clear E a S; rintro a v_97 w M_96 hM_96 hv_97 S E
                replace h1 := h1.le hM_96
                replace h2 := h2.le hM_96
                replace hz_6 := hz_6.le hM_96
                replace hz_8 := hz_8.le hM_96
                replace hv_10 := hv_10.le RB1_mono hM_96
                replace hv_15 := hv_15.le hM_96
                replace hv_94 := hv_94.le RB1_mono hM_96
                refine S_v E rfl (R_assign E rfl) rfl ?_
                clear E a; intro a E
                refine WL_nil ?_
                refine T_n ?_
                refine WP_seq ?_
                refine WP_seq ?_
                refine WP_region ?_
                refine S_v E rfl (R_move E rfl) rfl ?_
                clear E a; intro a E
                refine S_v E rfl (R_lenV E rfl T28 hv_97.len) rfl ?_
                clear E a; intro a E
                refine S_v E rfl (R_neq E rfl rfl) rfl ?_
                clear E a; intro a E
                refine WL_nil ?_
                refine T_n ?_
                have hc_98 : (decide ((((relL l1 l2).length : Nat) : Int) ≠ 6)) = false := by (clear S E; first | (simp [relL]; done) | exact rel_0 (by assumption) | exact rel_1 (by assumption) | exact rel_2 (by assumption) | exact rel_5 (by assumption) | (refine rel_ne (by assumption) (by assumption) ?_; rw [relW]; simp only [ek1, ek2] at *; simp [*]; done))
                refine WP_condF E rfl hc_98 ?_
                refine WP_skip ?_
                refine T_n ?_
                refine WP_seq ?_
                refine WP_seq ?_
                refine WP_region ?_
                refine S_v E rfl (R_move E rfl) rfl ?_
                clear E a; intro a E
                refine S_v E rfl (R_lenV E rfl T28 hv_94.len) rfl ?_
                clear E a; intro a E
                refine S_v E rfl (R_move E rfl) rfl ?_
                clear E a; intro a E
                refine WL_nil ?_
                refine T_n ?_
                refine WP_block ?_
                refine WP_loop (γ := Nat) (fun (i : Nat) a w => ∃ (M_99 : Hp), Hp.le M_96 M_99 ∧ St w M_99 (H) ∧ Env a 151 [] [(0, .bool x0), (1, v1), (2, v2), (15, v_94), (16, v_97), (102, .int .i64 ((([false, false, false, true, !false, any' (l1.take k) l2]).length : Nat) : Int)), (103, .int .i64 ((i : Nat) : Int))] ∧ (i ≤ 6)) (fun i => 6 - i) 0 ⟨M_96, Hp.le.refl _, S, E.keep ⟨rfl, rfl, rfl, rfl, rfl, rfl, rfl, trivial⟩, (by omega)⟩ ?_
                try clear E
                try clear S
                try clear a
                try clear w
                rintro i a w ⟨M_99, hM_99, S, E, hL2_0⟩
                replace h1 := h1.le hM_99
                replace h2 := h2.le hM_99
                replace hz_6 := hz_6.le hM_99
                replace hz_8 := hz_8.le hM_99
                replace hv_10 := hv_10.le RB1_mono hM_99
                replace hv_15 := hv_15.le hM_99
                replace hv_94 := hv_94.le RB1_mono hM_99
                replace hv_97 := hv_97.le RB1_mono hM_99
                refine WP_seq ?_
                refine WP_region ?_
                refine S_v E rfl (R_lss E rfl rfl) rfl ?_
                clear E a; intro a E
                refine WL_nil ?_
                refine T_n ?_
                refine WP_seq ?_
                refine WP_cond E rfl (fun hc_100 => ?_) (fun hc_100 => ?_)
                · replace hc_100 := of_decide_eq_true hc_100
                  refine WP_skip ?_
                  refine T_n ?_
                  refine WP_seq ?_
                  refine WP_block ?_
                  refine WP_seq ?_
                  refine WP_region ?_
                  refine S_v E rfl (R_move E rfl) rfl ?_
                  clear E a; intro a E
                  refine S_v E rfl (R_assign E rfl) rfl ?_
                  clear E a; intro a E
                  refine WL_nil ?_
                  refine T_n ?_
                  refine WP_seq ?_
                  replace S := S.mono_heap (w' := World.drew _) rfl
                  refine WP_drawn (C := fun x w => agree M_99 w) (bf := (fun i => [])) [0, 1, 2, 3, 4, 5, 6, 7, 8] [0, 1, 2, 3, 4, 5, 6, 7, 8] Tryz.mixed (by kernel_rfl) (fun x hq => S.imm) ?_
                  refine D_v E rfl rfl rfl (fun w hC => (R_move E rfl)) ?_
                  clear E a; intro a E
                  refine D_v E rfl rfl rfl (fun w hC => (R_move E rfl)) ?_
                  clear E a; intro a E
                  obtain ⟨x_101, hx_101⟩ : ∃ x, (relL l1 l2)[i]? = some x := ⟨_, List.getElem?_eq_getElem (by (first | decide | (rw [relL_len]; decide) | omega | (simp; done) | (rw [relL_len]; omega) | (rw [relL_len]; simp only [List.length_cons, List.length_nil] at *; omega) | (simp only [List.length_cons, List.length_nil] at *; omega)))⟩
                  obtain ⟨p_102, hp_102, qp_102⟩ := RdB.at hv_97 hx_101
                  refine D_v E rfl rfl rfl (fun w hC => (R_idx E rfl rfl T28 hp_102 rfl)) ?_
                  clear E a; intro a E
                  refine D_v E rfl rfl rfl (fun w hC => (R_loadM E rfl Tryz.isAgg4 hC qp_102)) ?_
                  clear E a; intro a E
                  refine D_v E rfl rfl rfl (fun w hC => (R_move E rfl)) ?_
                  clear E a; intro a E
                  refine D_v E rfl rfl rfl (fun w hC => (R_move E rfl)) ?_
                  clear E a; intro a E
                  obtain ⟨x_103, hx_103⟩ : ∃ x, ([false, false, false, true, !false, any' (l1.take k) l2])[i]? = some x := ⟨_, List.getElem?_eq_getElem (by (first | decide | (rw [relL_len]; decide) | omega | (simp; done) | (rw [relL_len]; omega) | (rw [relL_len]; simp only [List.length_cons, List.length_nil] at *; omega) | (simp only [List.length_cons, List.length_nil] at *; omega)))⟩
                  obtain ⟨p_104, hp_104, qp_104⟩ := RdB.at hv_94 hx_103
                  refine D_v E rfl rfl rfl (fun w hC => (R_idx E rfl rfl T28 hp_104 rfl)) ?_
                  clear E a; intro a E
                  refine D_v E rfl rfl rfl (fun w hC => (R_loadM E rfl Tryz.isAgg4 hC qp_104)) ?_
                  clear E a; intro a E
                  refine D_v E rfl rfl rfl (fun w hC => (R_neqB E rfl rfl Tryz.underlying4)) ?_
                  clear E a; intro a E
                  refine D_end (NoP_n ?_)
                  refine T_n ?_
                  have hc_105 : (!(x_101 == x_103)) = false := by (clear S E; first | (simp [relL]; done) | exact rel_0 (by assumption) | exact rel_1 (by assumption) | exact rel_2 (by assumption) | exact rel_5 (by assumption) | (refine rel_ne (by assumption) (by assumption) ?_; rw [relW]; simp only [ek1, ek2] at *; simp [*]; done))
                  refine WP_condF E rfl hc_105 ?_
                  refine WP_skip ?_
                  refine B_n ?_
                  refine T_n ?_
                  refine WP_region ?_
                  refine S_v E rfl (R_addx (m := ((i + 1 : Nat) : Int)) E rfl rfl (by omega) (by omega)) rfl ?_
                  clear E a; intro a E
                  refine S_v E rfl (R_move E rfl) rfl ?_
                  clear E a; intro a E
                  refine WL_nil ?_
                  refine T_n ?_
                  exact ⟨i + 1, ⟨M_99, hM_99, S, E.keep ⟨rfl, rfl, rfl, rfl, rfl, rfl, rfl, trivial⟩, (by simp at *; omega)⟩, (by simp at *; omega)⟩
                · replace hc_100 := of_decide_eq_false hc_100
                  refine WP_exit ?_
                  refine T_x ?_
                  refine T_x ?_
                  refine B_x ?_
                  refine T_n ?_
                  refine WP_seq ?_
                  have h1k105 := h1
                  have h2k105 := h2
                  have hv_97k105 := hv_97
                  replace S := S.mono_heap (w' := World.drew _) rfl
                  refine WP_drawn (C := fun x w => agree M_99 w) (bf := (fun i => [])) [0, 1, 2, 3, 4, 5, 7, 10, 11, 12, 13, 14, 15, 16, 17, 19, 20, 21, 22, 23, 24, 25, 26, 27, 28, 29, 31, 32, 33, 34, 35] [0, 1, 2, 3, 4, 5, 7, 6, 8, 9, 10, 11, 12, 13, 14, 15, 16, 17, 18, 19, 20, 21, 22, 23, 24, 25, 26, 27, 28, 29, 30, 31, 32, 33, 34, 35] Tryz.mixed (by kernel_rfl) (fun x hq => S.imm) ?_
                  refine D_v E rfl rfl rfl (fun w hC => (R_move E rfl)) ?_
                  clear E a; intro a E
                  obtain ⟨x_106, hx_106⟩ : ∃ x, (relL l1 l2)[1]? = some x := ⟨_, List.getElem?_eq_getElem (by (first | decide | (rw [relL_len]; decide) | omega | (simp; done) | (rw [relL_len]; omega) | (rw [relL_len]; simp only [List.length_cons, List.length_nil] at *; omega) | (simp only [List.length_cons, List.length_nil] at *; omega)))⟩
                  obtain ⟨p_107, hp_107, qp_107⟩ := RdB.at hv_97 hx_106
                  refine D_v E rfl rfl rfl (fun w hC => (R_idx E rfl rfl T28 hp_107 (by omega))) ?_
                  clear E a; intro a E
                  refine D_v E rfl rfl rfl (fun w hC => (R_loadM E rfl Tryz.isAgg4 hC qp_107)) ?_
                  clear E a; intro a E
                  refine D_v E rfl rfl rfl (fun w hC => (R_move E rfl)) ?_
                  clear E a; intro a E
                  refine D_v E rfl rfl rfl (fun w hC => (R_move E rfl)) ?_
                  clear E a; intro a E
                  refine D_v E rfl rfl rfl (fun w hC => (R_move E rfl)) ?_
                  clear E a; intro a E
                  refine D_v E rfl rfl rfl (fun w hC => (R_move E rfl)) ?_
                  clear E a; intro a E
                  refine D_x rfl rfl rfl (X_pu E S rfl rfl rfl (impl_SetIntersect h1 h2 (by first | assumption | omega | (simp; done)) (by first | assumption | omega | (simp; done))) (Hp.le.refl _) ?_)
                  clear E a S; rintro a v_109 w M_108 hM_108 hv_109 S E
                  replace h1 := h1.le hM_108
                  replace h2 := h2.le hM_108
                  replace hz_6 := hz_6.le hM_108
                  replace hz_8 := hz_8.le hM_108
                  replace hv_10 := hv_10.le RB1_mono hM_108
                  replace hv_15 := hv_15.le hM_108
                  replace hv_94 := hv_94.le RB1_mono hM_108
                  replace hv_97 := hv_97.le RB1_mono hM_108
                  refine ⟨fun x hq hb => (agree_le hM_108 S.imm), ?_⟩
                  have hzl := Nat.le_trans (suL_len ((l1).filter (fun z => decide (z ∈ l2)))) (List.length_filter_le _ _)
                  refine D_x rfl rfl rfl (X_pu E S rfl rfl rfl (laws_sorted h1 (by (first | omega | (simp; omega) | (simp; done) | (simp_all; omega) | grind))) (Hp.le.refl _) ?_)
                  clear E a S; rintro a v_111 w M_110 hM_110 hv_111 S E
                  replace h1 := h1.le hM_110
                  replace h2 := h2.le hM_110
                  replace hz_6 := hz_6.le hM_110
                  replace hz_8 := hz_8.le hM_110
                  replace hv_10 := hv_10.le RB1_mono hM_110
                  replace hv_15 := hv_15.le hM_110
                  replace hv_94 := hv_94.le RB1_mono hM_110
                  replace hv_97 := hv_97.le RB1_mono hM_110
                  replace hv_109 := hv_109.le hM_110
                  refine ⟨fun x hq hb => (agree_le (hM_108.trans hM_110) S.imm), ?_⟩
                  refine D_x rfl rfl rfl (X_pu E S rfl rfl rfl (laws_eq hv_109 hv_111) (Hp.le.refl _) ?_)
                  clear E a S; rintro a _ w M_112 hM_112 rfl S E
                  replace h1 := h1.le hM_112
                  replace h2 := h2.le hM_112
                  replace hz_6 := hz_6.le hM_112
                  replace hz_8 := hz_8.le hM_112
                  replace hv_10 := hv_10.le RB1_mono hM_112
                  replace hv_15 := hv_15.le hM_112
                  replace hv_94 := hv_94.le RB1_mono hM_112
                  replace hv_97 := hv_97.le RB1_mono hM_112
                  replace hv_109 := hv_109.le hM_112
                  replace hv_111 := hv_111.le hM_112
                  refine ⟨fun x hq hb => (agree_le (hM_108.trans (hM_110.trans hM_112)) S.imm), ?_⟩
                  refine D_v E rfl rfl rfl (fun w hC => (R_eqlB E rfl rfl Tryz.underlying4)) ?_
                  clear E a; intro a E
                  refine D_v E rfl rfl rfl (fun w hC => (R_move E rfl)) ?_
                  clear E a; intro a E
                  have hc_113 : (x_106 == (decide (suL ((l1).filter (fun z => decide (z ∈ l2))) = setI l1))) = true := by (clear S E; first | (simp [relL]; done) | exact rel_0 (by assumption) | exact rel_1 (by assumption) | exact rel_2 (by assumption) | exact rel_5 (by assumption) | (refine rel_ne (by assumption) (by assumption) ?_; rw [relW]; simp only [ek1, ek2] at *; simp [*]; done))
                  replace E := E.val (t := 126) rfl hc_113
                  replace E := E.val (t := 127) rfl hc_113
                  refine D_vyes E rfl rfl rfl rfl rfl (fun w hC => (R_move E rfl)) ?_
                  clear E a; intro a E
                  obtain ⟨p_114, hp_114, qp_114⟩ := RdB.at hv_97k105 hx_106
                  refine D_vyes E rfl rfl rfl rfl rfl (fun w hC => (R_idx E rfl rfl T28 hp_114 (by omega))) ?_
                  clear E a; intro a E
                  refine D_vyes E rfl rfl rfl rfl rfl (fun w hC => (R_loadM E rfl Tryz.isAgg4 hC qp_114)) ?_
                  clear E a; intro a E
                  refine D_vyes E rfl rfl rfl rfl rfl (fun w hC => (R_move E rfl)) ?_
                  clear E a; intro a E
                  refine D_vyes E rfl rfl rfl rfl rfl (fun w hC => (R_move E rfl)) ?_
                  clear E a; intro a E
                  refine D_vyes E rfl rfl rfl rfl rfl (fun w hC => (R_move E rfl)) ?_
                  clear E a; intro a E
                  refine D_yes E rfl rfl rfl rfl (X_pu E S rfl rfl rfl (impl_SetDifference h1 h2 (by first | assumption | omega | (simp; done)) (by first | assumption | omega | (simp; done))) (Hp.le.refl _) ?_)
                  clear E a S; rintro a v_116 w M_115 hM_115 hv_116 S E
                  replace h1 := h1.le hM_115
                  replace h2 := h2.le hM_115
                  replace hz_6 := hz_6.le hM_115
                  replace hz_8 := hz_8.le hM_115
                  replace hv_10 := hv_10.le RB1_mono hM_115
                  replace hv_15 := hv_15.le hM_115
                  replace hv_94 := hv_94.le RB1_mono hM_115
                  replace hv_97 := hv_97.le RB1_mono hM_115
                  replace hv_109 := hv_109.le hM_115
                  replace hv_111 := hv_111.le hM_115
                  refine ⟨fun x hq hb => (agree_le (hM_108.trans (hM_110.trans (hM_112.trans hM_115))) S.imm), ?_⟩
                  have hzl := Nat.le_trans (suL_len ((l1).filter (fun z => decide (z ∉ l2)))) (List.length_filter_le _ _)
                  refine D_vyes E rfl rfl rfl rfl rfl (fun w hC => (R_lenV E rfl T22 hv_116.len)) ?_
                  clear E a; intro a E
                  refine D_vyes E rfl rfl rfl rfl rfl (fun w hC => (R_eql E rfl rfl)) ?_
                  clear E a; intro a E
                  refine D_vyes E rfl rfl rfl rfl rfl (fun w hC => (R_eqlB E rfl rfl Tryz.underlying4)) ?_
                  clear E a; intro a E
                  refine D_v E rfl rfl rfl (fun w hC => (R_pickT E rfl rfl)) ?_
                  clear E a; intro a E
                  refine D_v E rfl rfl rfl (fun w hC => (R_move E rfl)) ?_
                  clear E a; intro a E
                  have hc_117 : (x_106 == (decide ((((suL ((l1).filter (fun z => decide (z ∉ l2)))).length : Nat) : Int) = 0))) = true := by (clear S E; first | (simp [relL]; done) | exact rel_0 (by assumption) | exact rel_1 (by assumption) | exact rel_2 (by assumption) | exact rel_5 (by assumption) | (refine rel_ne (by assumption) (by assumption) ?_; rw [relW]; simp only [ek1, ek2] at *; simp [*]; done))
                  replace E := E.val (t := 137) rfl hc_117
                  replace E := E.val (t := 138) rfl hc_117
                  replace E := E.val (t := 139) rfl hc_117
                  refine D_vyes E rfl rfl rfl rfl rfl (fun w hC => (R_move E rfl)) ?_
                  clear E a; intro a E
                  obtain ⟨x_118, hx_118⟩ : ∃ x, (relL l1 l2)[5]? = some x := ⟨_, List.getElem?_eq_getElem (by (first | decide | (rw [relL_len]; decide) | omega | (simp; done) | (rw [relL_len]; omega) | (rw [relL_len]; simp only [List.length_cons, List.length_nil] at *; omega) | (simp only [List.length_cons, List.length_nil] at *; omega)))⟩
                  obtain ⟨p_119, hp_119, qp_119⟩ := RdB.at hv_97k105 hx_118
                  refine D_vyes E rfl rfl rfl rfl rfl (fun w hC => (R_idx E rfl rfl T28 hp_119 (by omega))) ?_
                  clear E a; intro a E
                  refine D_vyes E rfl rfl rfl rfl rfl (fun w hC => (R_loadM E rfl Tryz.isAgg4 hC qp_119)) ?_
                  clear E a; intro a E
                  refine D_vyes E rfl rfl rfl rfl rfl (fun w hC => (R_move E rfl)) ?_
                  clear E a; intro a E
                  refine D_vyes E rfl rfl rfl rfl rfl (fun w hC => (R_move E rfl)) ?_
                  clear E a; intro a E
                  refine D_vyes E rfl rfl rfl rfl rfl (fun w hC => (R_move E rfl)) ?_
                  clear E a; intro a E
                  refine D_yes E rfl rfl rfl rfl (X_pu E S rfl rfl rfl (impl_SetIntersect h1 h2 (by first | assumption | omega | (simp; done)) (by first | assumption | omega | (simp; done))) (Hp.le.refl _) ?_)
                  clear E a S; rintro a v_121 w M_120 hM_120 hv_121 S E
                  replace h1 := h1.le hM_120
                  replace h2 := h2.le hM_120
                  replace hz_6 := hz_6.le hM_120
                  replace hz_8 := hz_8.le hM_120
                  replace hv_10 := hv_10.le RB1_mono hM_120
                  replace hv_15 := hv_15.le hM_120
                  replace hv_94 := hv_94.le RB1_mono hM_120
                  replace hv_97 := hv_97.le RB1_mono hM_120
                  replace hv_109 := hv_109.le hM_120
                  replace hv_111 := hv_111.le hM_120
                  replace hv_116 := hv_116.le hM_120
                  refine ⟨fun x hq hb => (agree_le (hM_108.trans (hM_110.trans (hM_112.trans (hM_115.trans hM_120)))) S.imm), ?_⟩
                  have hzl := Nat.le_trans (suL_len ((l1).filter (fun z => decide (z ∈ l2)))) (List.length_filter_le _ _)
                  refine D_vyes E rfl rfl rfl rfl rfl (fun w hC => (R_lenV E rfl T22 hv_121.len)) ?_
                  clear E a; intro a E
                  refine D_vyes E rfl rfl rfl rfl rfl (fun w hC => (R_gtr E rfl rfl)) ?_
                  clear E a; intro a E
                  refine D_vyes E rfl rfl rfl rfl rfl (fun w hC => (R_eqlB E rfl rfl Tryz.underlying4)) ?_
                  clear E a; intro a E
                  refine D_v E rfl rfl rfl (fun w hC => (R_pickT E rfl rfl)) ?_
                  clear E a; intro a E
                  refine D_v E rfl rfl rfl (fun w hC => (R_assign E rfl)) ?_
                  clear E a; intro a E
                  refine D_end (NoP_n ?_)
                  refine T_n ?_
                  refine WP_ret ?_
                  exact F_ret1 E Tryz.results4 rfl ⟨_, rfl, M_120, (hM_5.trans (hM_7.trans (hM_9.trans (hM_16.trans (hM_17.trans (hM_19.trans (hM_29.trans (hM_95.trans (hM_96.trans (hM_99.trans (hM_108.trans (hM_110.trans (hM_112.trans (hM_115.trans hM_120)))))))))))))), (congrArg Value.bool (by (clear S E; first | (simp [relL]; done) | exact rel_0 (by assumption) | exact rel_1 (by assumption) | exact rel_2 (by assumption) | exact rel_5 (by assumption) | (refine rel_ne (by assumption) (by assumption) ?_; rw [relW]; simp only [ek1, ek2] at *; simp [*]; done)))), S⟩
              · replace E := E.val (t := 9) rfl hc_93
                replace E := E.val (t := 86) rfl hc_93
                replace E := E.val (t := 87) rfl hc_93
                replace E := E.val (t := 88) rfl hc_93
                refine WL_guard_no E rfl rfl rfl rfl fun a E => ?_
                refine WL_guard_no E rfl rfl rfl rfl fun a E => ?_
                refine S_v E rfl (R_pickF E rfl rfl) rfl ?_
                clear E a; intro a E
                refine S_v E rfl (R_move E rfl) rfl ?_
                clear E a; intro a E
                refine S_x (X_buildM (R := RB1) (vs := [.bool false, .bool false, .bool false, .bool false, .bool false, .bool (any' (l1.take k) l2)]) (xs := [false, false, false, false, false, any' (l1.take k) l2]) RB1_mono E S rfl T28 rfl rfl rfl (by intro u hu; simp only [List.mem_cons, List.not_mem_nil, or_false] at hu; rcases hu with rfl | rfl | rfl | rfl | rfl | rfl <;> first | exact rfl | exact rfl | exact rfl | exact rfl | exact rfl | exact rfl) rfl (rowsC (R := RB1) rfl (rowsC (R := RB1) rfl (rowsC (R := RB1) rfl (rowsC (R := RB1) rfl (rowsC (R := RB1) rfl (rowsC (R := RB1) rfl rowsN)))))) ?_)
                clear E a S; rintro a v_122 w M_123 hM_123 hv_122 S E
                replace h1 := h1.le hM_123
                replace h2 := h2.le hM_123
                replace hz_6 := hz_6.le hM_123
                replace hz_8 := hz_8.le hM_123
                replace hv_10 := hv_10.le RB1_mono hM_123
                replace hv_15 := hv_15.le hM_123
                refine S_v E rfl (R_assign E rfl) rfl ?_
                clear E a; intro a E
                refine WL_nil ?_
                refine T_n ?_
                refine WP_seq ?_
                refine WP_region ?_
                refine S_v E rfl (R_move E rfl) rfl ?_
                clear E a; intro a E
                refine S_v E rfl (R_move E rfl) rfl ?_
                clear E a; intro a E
                refine S_v E rfl (R_move E rfl) rfl ?_
                clear E a; intro a E
                refine S_x (X_pu E S rfl rfl rfl (impl_SetRelations h1 h2 (by first | assumption | omega | (simp; done)) (by first | assumption | omega | (simp; done))) (Hp.le.refl _) ?_)
                clear E a S; rintro a v_125 w M_124 hM_124 hv_125 S E
                replace h1 := h1.le hM_124
                replace h2 := h2.le hM_124
                replace hz_6 := hz_6.le hM_124
                replace hz_8 := hz_8.le hM_124
                replace hv_10 := hv_10.le RB1_mono hM_124
                replace hv_15 := hv_15.le hM_124
                replace hv_122 := hv_122.le RB1_mono hM_124
                refine S_v E rfl (R_assign E rfl) rfl ?_
                clear E a; intro a E
                refine WL_nil ?_
                refine T_n ?_
                refine WP_seq ?_
                refine WP_seq ?_
                refine WP_region ?_
                refine S_v E rfl (R_move E rfl) rfl ?_
                clear E a; intro a E
                refine S_v E rfl (R_lenV E rfl T28 hv_125.len) rfl ?_
                clear E a; intro a E
                refine S_v E rfl (R_neq E rfl rfl) rfl ?_
                clear E a; intro a E
                refine WL_nil ?_
                refine T_n ?_
                have hc_126 : (decide ((((relL l1 l2).length : Nat) : Int) ≠ 6)) = false := by (clear S E; first | (simp [relL]; done) | exact rel_0 (by assumption) | exact rel_1 (by assumption) | exact rel_2 (by assumption) | exact rel_5 (by assumption) | (refine rel_ne (by assumption) (by assumption) ?_; rw [relW]; simp only [ek1, ek2] at *; simp [*]; done))
                refine WP_condF E rfl hc_126 ?_
                refine WP_skip ?_
                refine T_n ?_
                refine WP_seq ?_
                refine WP_seq ?_
                refine WP_region ?_
                refine S_v E rfl (R_move E rfl) rfl ?_
                clear E a; intro a E
                refine S_v E rfl (R_lenV E rfl T28 hv_122.len) rfl ?_
                clear E a; intro a E
                refine S_v E rfl (R_move E rfl) rfl ?_
                clear E a; intro a E
                refine WL_nil ?_
                refine T_n ?_
                refine WP_block ?_
                refine WP_loop (γ := Nat) (fun (i : Nat) a w => ∃ (M_127 : Hp), Hp.le M_124 M_127 ∧ St w M_127 (H) ∧ Env a 151 [] [(0, .bool x0), (1, v1), (2, v2), (15, v_122), (16, v_125), (102, .int .i64 ((([false, false, false, false, false, any' (l1.take k) l2]).length : Nat) : Int)), (103, .int .i64 ((i : Nat) : Int))] ∧ (i ≤ 6)) (fun i => 6 - i) 0 ⟨M_124, Hp.le.refl _, S, E.keep ⟨rfl, rfl, rfl, rfl, rfl, rfl, rfl, trivial⟩, (by omega)⟩ ?_
                try clear E
                try clear S
                try clear a
                try clear w
                rintro i a w ⟨M_127, hM_127, S, E, hL2_0⟩
                replace h1 := h1.le hM_127
                replace h2 := h2.le hM_127
                replace hz_6 := hz_6.le hM_127
                replace hz_8 := hz_8.le hM_127
                replace hv_10 := hv_10.le RB1_mono hM_127
                replace hv_15 := hv_15.le hM_127
                replace hv_122 := hv_122.le RB1_mono hM_127
                replace hv_125 := hv_125.le RB1_mono hM_127
                refine WP_seq ?_
                refine WP_region ?_
                refine S_v E rfl (R_lss E rfl rfl) rfl ?_
                clear E a; intro a E
                refine WL_nil ?_
                refine T_n ?_
                refine WP_seq ?_
                refine WP_cond E rfl (fun hc_128 => ?_) (fun hc_128 => ?_)
                · replace hc_128 := of_decide_eq_true hc_128
                  refine WP_skip ?_
                  refine T_n ?_
                  refine WP_seq ?_
                  refine WP_block ?_
                  refine WP_seq ?_
                  refine WP_region ?_
                  refine S_v E rfl (R_move E rfl) rfl ?_
                  clear E a; intro a E
                  refine S_v E rfl (R_assign E rfl) rfl ?_
                  clear E a; intro a E
                  refine WL_nil ?_
                  refine T_n ?_
                  refine WP_seq ?_
                  replace S := S.mono_heap (w' := World.drew _) rfl
                  refine WP_drawn (C := fun x w => agree M_127 w) (bf := (fun i => [])) [0, 1, 2, 3, 4, 5, 6, 7, 8] [0, 1, 2, 3, 4, 5, 6, 7, 8] Tryz.mixed (by kernel_rfl) (fun x hq => S.imm) ?_
                  refine D_v E rfl rfl rfl (fun w hC => (R_move E rfl)) ?_
                  clear E a; intro a E
                  refine D_v E rfl rfl rfl (fun w hC => (R_move E rfl)) ?_
                  clear E a; intro a E
                  obtain ⟨x_129, hx_129⟩ : ∃ x, (relL l1 l2)[i]? = some x := ⟨_, List.getElem?_eq_getElem (by (first | decide | (rw [relL_len]; decide) | omega | (simp; done) | (rw [relL_len]; omega) | (rw [relL_len]; simp only [List.length_cons, List.length_nil] at *; omega) | (simp only [List.length_cons, List.length_nil] at *; omega)))⟩
                  obtain ⟨p_130, hp_130, qp_130⟩ := RdB.at hv_125 hx_129
                  refine D_v E rfl rfl rfl (fun w hC => (R_idx E rfl rfl T28 hp_130 rfl)) ?_
                  clear E a; intro a E
                  refine D_v E rfl rfl rfl (fun w hC => (R_loadM E rfl Tryz.isAgg4 hC qp_130)) ?_
                  clear E a; intro a E
                  refine D_v E rfl rfl rfl (fun w hC => (R_move E rfl)) ?_
                  clear E a; intro a E
                  refine D_v E rfl rfl rfl (fun w hC => (R_move E rfl)) ?_
                  clear E a; intro a E
                  obtain ⟨x_131, hx_131⟩ : ∃ x, ([false, false, false, false, false, any' (l1.take k) l2])[i]? = some x := ⟨_, List.getElem?_eq_getElem (by (first | decide | (rw [relL_len]; decide) | omega | (simp; done) | (rw [relL_len]; omega) | (rw [relL_len]; simp only [List.length_cons, List.length_nil] at *; omega) | (simp only [List.length_cons, List.length_nil] at *; omega)))⟩
                  obtain ⟨p_132, hp_132, qp_132⟩ := RdB.at hv_122 hx_131
                  refine D_v E rfl rfl rfl (fun w hC => (R_idx E rfl rfl T28 hp_132 rfl)) ?_
                  clear E a; intro a E
                  refine D_v E rfl rfl rfl (fun w hC => (R_loadM E rfl Tryz.isAgg4 hC qp_132)) ?_
                  clear E a; intro a E
                  refine D_v E rfl rfl rfl (fun w hC => (R_neqB E rfl rfl Tryz.underlying4)) ?_
                  clear E a; intro a E
                  refine D_end (NoP_n ?_)
                  refine T_n ?_
                  have hc_133 : (!(x_129 == x_131)) = false := by (clear S E; first | (simp [relL]; done) | exact rel_0 (by assumption) | exact rel_1 (by assumption) | exact rel_2 (by assumption) | exact rel_5 (by assumption) | (refine rel_ne (by assumption) (by assumption) ?_; rw [relW]; simp only [ek1, ek2] at *; simp [*]; done))
                  refine WP_condF E rfl hc_133 ?_
                  refine WP_skip ?_
                  refine B_n ?_
                  refine T_n ?_
                  refine WP_region ?_
                  refine S_v E rfl (R_addx (m := ((i + 1 : Nat) : Int)) E rfl rfl (by omega) (by omega)) rfl ?_
                  clear E a; intro a E
                  refine S_v E rfl (R_move E rfl) rfl ?_
                  clear E a; intro a E
                  refine WL_nil ?_
                  refine T_n ?_
                  exact ⟨i + 1, ⟨M_127, hM_127, S, E.keep ⟨rfl, rfl, rfl, rfl, rfl, rfl, rfl, trivial⟩, (by simp at *; omega)⟩, (by simp at *; omega)⟩
                · replace hc_128 := of_decide_eq_false hc_128
                  refine WP_exit ?_
                  refine T_x ?_
                  refine T_x ?_
                  refine B_x ?_
                  refine T_n ?_
                  refine WP_seq ?_
                  have h1k133 := h1
                  have h2k133 := h2
                  have hv_125k133 := hv_125
                  replace S := S.mono_heap (w' := World.drew _) rfl
                  refine WP_drawn (C := fun x w => agree M_127 w) (bf := (fun i => [])) [0, 1, 2, 3, 4, 5, 7, 10, 11, 12, 13, 14, 15, 16, 17, 19, 20, 21, 22, 23, 24, 25, 26, 27, 28, 29, 31, 32, 33, 34, 35] [0, 1, 2, 3, 4, 5, 7, 6, 8, 9, 10, 11, 12, 13, 14, 15, 16, 17, 18, 19, 20, 21, 22, 23, 24, 25, 26, 27, 28, 29, 30, 31, 32, 33, 34, 35] Tryz.mixed (by kernel_rfl) (fun x hq => S.imm) ?_
                  refine D_v E rfl rfl rfl (fun w hC => (R_move E rfl)) ?_
                  clear E a; intro a E
                  obtain ⟨x_134, hx_134⟩ : ∃ x, (relL l1 l2)[1]? = some x := ⟨_, List.getElem?_eq_getElem (by (first | decide | (rw [relL_len]; decide) | omega | (simp; done) | (rw [relL_len]; omega) | (rw [relL_len]; simp only [List.length_cons, List.length_nil] at *; omega) | (simp only [List.length_cons, List.length_nil] at *; omega)))⟩
                  obtain ⟨p_135, hp_135, qp_135⟩ := RdB.at hv_125 hx_134
                  refine D_v E rfl rfl rfl (fun w hC => (R_idx E rfl rfl T28 hp_135 (by omega))) ?_
                  clear E a; intro a E
                  refine D_v E rfl rfl rfl (fun w hC => (R_loadM E rfl Tryz.isAgg4 hC qp_135)) ?_
                  clear E a; intro a E
                  refine D_v E rfl rfl rfl (fun w hC => (R_move E rfl)) ?_
                  clear E a; intro a E
                  refine D_v E rfl rfl rfl (fun w hC => (R_move E rfl)) ?_
                  clear E a; intro a E
                  refine D_v E rfl rfl rfl (fun w hC => (R_move E rfl)) ?_
                  clear E a; intro a E
                  refine D_v E rfl rfl rfl (fun w hC => (R_move E rfl)) ?_
                  clear E a; intro a E
                  refine D_x rfl rfl rfl (X_pu E S rfl rfl rfl (impl_SetIntersect h1 h2 (by first | assumption | omega | (simp; done)) (by first | assumption | omega | (simp; done))) (Hp.le.refl _) ?_)
                  clear E a S; rintro a v_137 w M_136 hM_136 hv_137 S E
                  replace h1 := h1.le hM_136
                  replace h2 := h2.le hM_136
                  replace hz_6 := hz_6.le hM_136
                  replace hz_8 := hz_8.le hM_136
                  replace hv_10 := hv_10.le RB1_mono hM_136
                  replace hv_15 := hv_15.le hM_136
                  replace hv_122 := hv_122.le RB1_mono hM_136
                  replace hv_125 := hv_125.le RB1_mono hM_136
                  refine ⟨fun x hq hb => (agree_le hM_136 S.imm), ?_⟩
                  have hzl := Nat.le_trans (suL_len ((l1).filter (fun z => decide (z ∈ l2)))) (List.length_filter_le _ _)
                  refine D_x rfl rfl rfl (X_pu E S rfl rfl rfl (laws_sorted h1 (by (first | omega | (simp; omega) | (simp; done) | (simp_all; omega) | grind))) (Hp.le.refl _) ?_)
                  clear E a S; rintro a v_139 w M_138 hM_138 hv_139 S E
                  replace h1 := h1.le hM_138
                  replace h2 := h2.le hM_138
                  replace hz_6 := hz_6.le hM_138
                  replace hz_8 := hz_8.le hM_138
                  replace hv_10 := hv_10.le RB1_mono hM_138
                  replace hv_15 := hv_15.le hM_138
                  replace hv_122 := hv_122.le RB1_mono hM_138
                  replace hv_125 := hv_125.le RB1_mono hM_138
                  replace hv_137 := hv_137.le hM_138
                  refine ⟨fun x hq hb => (agree_le (hM_136.trans hM_138) S.imm), ?_⟩
                  refine D_x rfl rfl rfl (X_pu E S rfl rfl rfl (laws_eq hv_137 hv_139) (Hp.le.refl _) ?_)
                  clear E a S; rintro a _ w M_140 hM_140 rfl S E
                  replace h1 := h1.le hM_140
                  replace h2 := h2.le hM_140
                  replace hz_6 := hz_6.le hM_140
                  replace hz_8 := hz_8.le hM_140
                  replace hv_10 := hv_10.le RB1_mono hM_140
                  replace hv_15 := hv_15.le hM_140
                  replace hv_122 := hv_122.le RB1_mono hM_140
                  replace hv_125 := hv_125.le RB1_mono hM_140
                  replace hv_137 := hv_137.le hM_140
                  replace hv_139 := hv_139.le hM_140
                  refine ⟨fun x hq hb => (agree_le (hM_136.trans (hM_138.trans hM_140)) S.imm), ?_⟩
                  refine D_v E rfl rfl rfl (fun w hC => (R_eqlB E rfl rfl Tryz.underlying4)) ?_
                  clear E a; intro a E
                  refine D_v E rfl rfl rfl (fun w hC => (R_move E rfl)) ?_
                  clear E a; intro a E
                  have hc_141 : (x_134 == (decide (suL ((l1).filter (fun z => decide (z ∈ l2))) = setI l1))) = true := by (clear S E; first | (simp [relL]; done) | exact rel_0 (by assumption) | exact rel_1 (by assumption) | exact rel_2 (by assumption) | exact rel_5 (by assumption) | (refine rel_ne (by assumption) (by assumption) ?_; rw [relW]; simp only [ek1, ek2] at *; simp [*]; done))
                  replace E := E.val (t := 126) rfl hc_141
                  replace E := E.val (t := 127) rfl hc_141
                  refine D_vyes E rfl rfl rfl rfl rfl (fun w hC => (R_move E rfl)) ?_
                  clear E a; intro a E
                  obtain ⟨p_142, hp_142, qp_142⟩ := RdB.at hv_125k133 hx_134
                  refine D_vyes E rfl rfl rfl rfl rfl (fun w hC => (R_idx E rfl rfl T28 hp_142 (by omega))) ?_
                  clear E a; intro a E
                  refine D_vyes E rfl rfl rfl rfl rfl (fun w hC => (R_loadM E rfl Tryz.isAgg4 hC qp_142)) ?_
                  clear E a; intro a E
                  refine D_vyes E rfl rfl rfl rfl rfl (fun w hC => (R_move E rfl)) ?_
                  clear E a; intro a E
                  refine D_vyes E rfl rfl rfl rfl rfl (fun w hC => (R_move E rfl)) ?_
                  clear E a; intro a E
                  refine D_vyes E rfl rfl rfl rfl rfl (fun w hC => (R_move E rfl)) ?_
                  clear E a; intro a E
                  refine D_yes E rfl rfl rfl rfl (X_pu E S rfl rfl rfl (impl_SetDifference h1 h2 (by first | assumption | omega | (simp; done)) (by first | assumption | omega | (simp; done))) (Hp.le.refl _) ?_)
                  clear E a S; rintro a v_144 w M_143 hM_143 hv_144 S E
                  replace h1 := h1.le hM_143
                  replace h2 := h2.le hM_143
                  replace hz_6 := hz_6.le hM_143
                  replace hz_8 := hz_8.le hM_143
                  replace hv_10 := hv_10.le RB1_mono hM_143
                  replace hv_15 := hv_15.le hM_143
                  replace hv_122 := hv_122.le RB1_mono hM_143
                  replace hv_125 := hv_125.le RB1_mono hM_143
                  replace hv_137 := hv_137.le hM_143
                  replace hv_139 := hv_139.le hM_143
                  refine ⟨fun x hq hb => (agree_le (hM_136.trans (hM_138.trans (hM_140.trans hM_143))) S.imm), ?_⟩
                  have hzl := Nat.le_trans (suL_len ((l1).filter (fun z => decide (z ∉ l2)))) (List.length_filter_le _ _)
                  refine D_vyes E rfl rfl rfl rfl rfl (fun w hC => (R_lenV E rfl T22 hv_144.len)) ?_
                  clear E a; intro a E
                  refine D_vyes E rfl rfl rfl rfl rfl (fun w hC => (R_eql E rfl rfl)) ?_
                  clear E a; intro a E
                  refine D_vyes E rfl rfl rfl rfl rfl (fun w hC => (R_eqlB E rfl rfl Tryz.underlying4)) ?_
                  clear E a; intro a E
                  refine D_v E rfl rfl rfl (fun w hC => (R_pickT E rfl rfl)) ?_
                  clear E a; intro a E
                  refine D_v E rfl rfl rfl (fun w hC => (R_move E rfl)) ?_
                  clear E a; intro a E
                  have hc_145 : (x_134 == (decide ((((suL ((l1).filter (fun z => decide (z ∉ l2)))).length : Nat) : Int) = 0))) = true := by (clear S E; first | (simp [relL]; done) | exact rel_0 (by assumption) | exact rel_1 (by assumption) | exact rel_2 (by assumption) | exact rel_5 (by assumption) | (refine rel_ne (by assumption) (by assumption) ?_; rw [relW]; simp only [ek1, ek2] at *; simp [*]; done))
                  replace E := E.val (t := 137) rfl hc_145
                  replace E := E.val (t := 138) rfl hc_145
                  replace E := E.val (t := 139) rfl hc_145
                  refine D_vyes E rfl rfl rfl rfl rfl (fun w hC => (R_move E rfl)) ?_
                  clear E a; intro a E
                  obtain ⟨x_146, hx_146⟩ : ∃ x, (relL l1 l2)[5]? = some x := ⟨_, List.getElem?_eq_getElem (by (first | decide | (rw [relL_len]; decide) | omega | (simp; done) | (rw [relL_len]; omega) | (rw [relL_len]; simp only [List.length_cons, List.length_nil] at *; omega) | (simp only [List.length_cons, List.length_nil] at *; omega)))⟩
                  obtain ⟨p_147, hp_147, qp_147⟩ := RdB.at hv_125k133 hx_146
                  refine D_vyes E rfl rfl rfl rfl rfl (fun w hC => (R_idx E rfl rfl T28 hp_147 (by omega))) ?_
                  clear E a; intro a E
                  refine D_vyes E rfl rfl rfl rfl rfl (fun w hC => (R_loadM E rfl Tryz.isAgg4 hC qp_147)) ?_
                  clear E a; intro a E
                  refine D_vyes E rfl rfl rfl rfl rfl (fun w hC => (R_move E rfl)) ?_
                  clear E a; intro a E
                  refine D_vyes E rfl rfl rfl rfl rfl (fun w hC => (R_move E rfl)) ?_
                  clear E a; intro a E
                  refine D_vyes E rfl rfl rfl rfl rfl (fun w hC => (R_move E rfl)) ?_
                  clear E a; intro a E
                  refine D_yes E rfl rfl rfl rfl (X_pu E S rfl rfl rfl (impl_SetIntersect h1 h2 (by first | assumption | omega | (simp; done)) (by first | assumption | omega | (simp; done))) (Hp.le.refl _) ?_)
                  clear E a S; rintro a v_149 w M_148 hM_148 hv_149 S E
                  replace h1 := h1.le hM_148
                  replace h2 := h2.le hM_148
                  replace hz_6 := hz_6.le hM_148
                  replace hz_8 := hz_8.le hM_148
                  replace hv_10 := hv_10.le RB1_mono hM_148
                  replace hv_15 := hv_15.le hM_148
                  replace hv_122 := hv_122.le RB1_mono hM_148
                  replace hv_125 := hv_125.le RB1_mono hM_148
                  replace hv_137 := hv_137.le hM_148
                  replace hv_139 := hv_139.le hM_148
                  replace hv_144 := hv_144.le hM_148
                  refine ⟨fun x hq hb => (agree_le (hM_136.trans (hM_138.trans (hM_140.trans (hM_143.trans hM_148)))) S.imm), ?_⟩
                  have hzl := Nat.le_trans (suL_len ((l1).filter (fun z => decide (z ∈ l2)))) (List.length_filter_le _ _)
                  refine D_vyes E rfl rfl rfl rfl rfl (fun w hC => (R_lenV E rfl T22 hv_149.len)) ?_
                  clear E a; intro a E
                  refine D_vyes E rfl rfl rfl rfl rfl (fun w hC => (R_gtr E rfl rfl)) ?_
                  clear E a; intro a E
                  refine D_vyes E rfl rfl rfl rfl rfl (fun w hC => (R_eqlB E rfl rfl Tryz.underlying4)) ?_
                  clear E a; intro a E
                  refine D_v E rfl rfl rfl (fun w hC => (R_pickT E rfl rfl)) ?_
                  clear E a; intro a E
                  refine D_v E rfl rfl rfl (fun w hC => (R_assign E rfl)) ?_
                  clear E a; intro a E
                  refine D_end (NoP_n ?_)
                  refine T_n ?_
                  refine WP_ret ?_
                  exact F_ret1 E Tryz.results4 rfl ⟨_, rfl, M_148, (hM_5.trans (hM_7.trans (hM_9.trans (hM_16.trans (hM_17.trans (hM_19.trans (hM_29.trans (hM_123.trans (hM_124.trans (hM_127.trans (hM_136.trans (hM_138.trans (hM_140.trans (hM_143.trans hM_148)))))))))))))), (congrArg Value.bool (by (clear S E; first | (simp [relL]; done) | exact rel_0 (by assumption) | exact rel_1 (by assumption) | exact rel_2 (by assumption) | exact rel_5 (by assumption) | (refine rel_ne (by assumption) (by assumption) ?_; rw [relW]; simp only [ek1, ek2] at *; simp [*]; done)))), S⟩

end Go.Proofs.YtlmpgefhnmfhpaaGreat.wFnSetRelations
