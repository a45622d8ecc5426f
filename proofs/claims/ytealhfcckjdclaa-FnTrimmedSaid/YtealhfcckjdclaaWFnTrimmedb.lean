/- Walks through the functions that laws.FnTrimmed reaches: what each computes; no conditions beyond what each theorem states. -/
import Derived.Test.YtealhfcckjdclaaWFnTrimmeda
set_option linter.unusedVariables false
set_option linter.unusedSimpArgs false
namespace Go.Proofs.Ytealhfcckjdclaa.wFnTrimmed
open Go Go.Sl
set_option maxRecDepth 100000 in
set_option maxHeartbeats 4000000 in
theorem laws_FnTrimmed {M : Hp} {v0 v1 : Value} {l0 l1 : List Int} (h0 : RdI M v0 l0) (h1 : RdI M v1 l1) :
    PuC Try.prog 13 M [v0, v1] (fun r M' => r = .bool true) := by
  refine PuC_enter Try.func13 rfl Try.ntmps13 rfl ?_
  intro a w M1 H hM1 S E
  replace h0 := h0.le hM1
  replace h1 := h1.le hM1
  have b0 := h0.bound
  have b1 := h1.bound
  have hw1 := dwlen (fun x => decide (x ∈ l1)) l0; have hw2 := drw_len (fun x => decide (x ∈ l1)) (l0.dropWhile (fun x => decide (x ∈ l1))); have hw3 := drw_len (fun x => decide (x ∈ l1)) l0
  refine WP_seq ?_
  refine WP_region ?_
  refine S_v E rfl (R_assign E rfl) rfl ?_
  clear E a; intro a E
  refine WL_nil ?_
  refine T_n ?_
  refine WP_seq ?_
  refine WP_seq ?_
  refine WP_region ?_
  refine S_v E rfl (R_move E rfl) rfl ?_
  clear E a; intro a E
  refine S_v E rfl (R_lenV E rfl T22 h0.len) rfl ?_
  clear E a; intro a E
  refine S_v E rfl (R_gtr E rfl rfl) rfl ?_
  clear E a; intro a E
  refine S_v E rfl (R_move E rfl) rfl ?_
  clear E a; intro a E
  refine split_bool (decide (2147483647 < (((l0).length : Nat) : Int))) (fun hc_1 => ?_) (fun hc_1 => ?_)
  · replace E := E.val (t := 13) rfl hc_1
    replace E := E.val (t := 14) rfl hc_1
    replace hc_1 := of_decide_eq_true hc_1
    refine WL_guard_no E rfl rfl rfl rfl fun a E => ?_
    refine WL_guard_no E rfl rfl rfl rfl fun a E => ?_
    refine WL_guard_no E rfl rfl rfl rfl fun a E => ?_
    refine S_v E rfl (R_pickT E rfl rfl) rfl ?_
    clear E a; intro a E
    refine WL_nil ?_
    refine T_n ?_
    refine WP_condT E rfl rfl ?_
    refine WP_seq ?_
    refine WP_region ?_
    refine S_v E rfl (R_assign E rfl) rfl ?_
    clear E a; intro a E
    refine WL_nil ?_
    refine T_n ?_
    refine WP_ret ?_
    refine T_r ?_
    exact F_ret1 E Try.results13 rfl ⟨_, rfl, M1, (Hp.le.refl _), rfl, S⟩
  · replace E := E.val (t := 13) rfl hc_1
    replace E := E.val (t := 14) rfl hc_1
    replace hc_1 := of_decide_eq_false hc_1
    refine WL_guard_yes E rfl rfl ?_
    refine S_v E rfl (R_move E rfl) rfl ?_
    clear E a; intro a E
    refine WL_guard_yes E rfl rfl ?_
    refine S_v E rfl (R_lenV E rfl T22 h1.len) rfl ?_
    clear E a; intro a E
    refine WL_guard_yes E rfl rfl ?_
    refine S_v E rfl (R_gtr E rfl rfl) rfl ?_
    clear E a; intro a E
    refine S_v E rfl (R_pickF E rfl rfl) rfl ?_
    clear E a; intro a E
    refine WL_nil ?_
    refine T_n ?_
    refine WP_cond E rfl (fun hc_2 => ?_) (fun hc_2 => ?_)
    · replace hc_2 := of_decide_eq_true hc_2
      refine WP_seq ?_
      refine WP_region ?_
      refine S_v E rfl (R_assign E rfl) rfl ?_
      clear E a; intro a E
      refine WL_nil ?_
      refine T_n ?_
      refine WP_ret ?_
      refine T_r ?_
      exact F_ret1 E Try.results13 rfl ⟨_, rfl, M1, (Hp.le.refl _), rfl, S⟩
    · replace hc_2 := of_decide_eq_false hc_2
      refine WP_skip ?_
      refine T_n ?_
      refine WP_seq ?_
      refine WP_seq ?_
      refine WP_region ?_
      refine S_x (X_buildI (ys := [1, 2, 1]) E S rfl T22 rfl rfl rfl ?_)
      clear E a S; rintro a w v_3 E S
      refine S_x (X_buildI (ys := [1]) E S rfl T22 rfl rfl rfl ?_)
      clear E a S; rintro a w v_4 E S
      replace S := S.front1
      have S0 := S; clear S
      obtain ⟨M_5, hM_5, hz_6, S⟩ := S0.freezeI (by (first | omega | (simp; omega) | (simp; done) | (simp_all; omega) | grind))
      clear S0
      replace h0 := h0.le hM_5
      replace h1 := h1.le hM_5
      have S0 := S; clear S
      obtain ⟨M_7, hM_7, hz_8, S⟩ := S0.freezeI (by (first | omega | (simp; omega) | (simp; done) | (simp_all; omega) | grind))
      clear S0
      replace h0 := h0.le hM_7
      replace h1 := h1.le hM_7
      replace hz_6 := hz_6.le hM_7
      refine S_x (X_pu E S rfl rfl rfl (impl_Trim hz_6 hz_8 (by (first | omega | (simp; omega) | (simp; done) | (simp_all; omega) | grind))) (Hp.le.refl _) ?_)
      clear E a S; rintro a v_10 w M_9 hM_9 hv_10 S E
      replace h0 := h0.le hM_9
      replace h1 := h1.le hM_9
      replace hz_6 := hz_6.le hM_9
      replace hz_8 := hz_8.le hM_9
      refine S_v E rfl (R_lenV E rfl T22 hv_10.len) rfl ?_
      clear E a; intro a E
      refine S_v E rfl (R_neq E rfl rfl) rfl ?_
      clear E a; intro a E
      refine WL_nil ?_
      refine T_n ?_
      have hc_11 : (decide ((((drw (fun x => decide (x ∈ [1])) (([1, 2, 1]).dropWhile (fun x => decide (x ∈ [1])))).length : Nat) : Int) ≠ 1)) = false := by (clear S E; first | (simp; done) | decide)
      refine WP_condF E rfl hc_11 ?_
      refine WP_skip ?_
      refine T_n ?_
      refine WP_seq ?_
      refine WP_seq ?_
      refine WP_region ?_
      refine S_v E rfl (R_move E rfl) rfl ?_
      clear E a; intro a E
      refine S_v E rfl (R_move E rfl) rfl ?_
      clear E a; intro a E
      refine S_x (X_buildM (R := RSl 1 RInt) (vs := [v0, v1]) (xs := [l0, l1]) (RSl_mono RInt_mono) E S rfl T36 rfl rfl rfl (by intro u hu; simp only [List.mem_cons, List.not_mem_nil, or_false] at hu; rcases hu with rfl | rfl <;> first | exact RdI.one h0 | exact RdI.one h1 | rfl) rfl (rowsC (R := RSl 1 RInt) (RdI.row h0) (rowsC (R := RSl 1 RInt) (RdI.row h1) rowsN)) ?_)
      clear E a S; rintro a v_12 w M_13 hM_13 hv_12 S E
      replace hv_12 : RdII M_13 v_12 [l0, l1] := hv_12
      replace h0 := h0.le hM_13
      replace h1 := h1.le hM_13
      replace hz_6 := hz_6.le hM_13
      replace hz_8 := hz_8.le hM_13
      replace hv_10 := hv_10.le hM_13
      refine S_x (X_pu E S rfl rfl rfl (laws_few hv_12) (Hp.le.refl _) ?_)
      clear E a S; rintro a _ w M_14 hM_14 rfl S E
      replace h0 := h0.le hM_14
      replace h1 := h1.le hM_14
      replace hz_6 := hz_6.le hM_14
      replace hz_8 := hz_8.le hM_14
      replace hv_10 := hv_10.le hM_14
      replace hv_12 := hv_12.le hM_14
      refine S_v E rfl (R_not E rfl) rfl ?_
      clear E a; intro a E
      refine WL_nil ?_
      refine T_n ?_
      refine WP_cond E rfl (fun hc_15 => ?_) (fun hc_15 => ?_)
      · refine WP_seq ?_
        refine WP_region ?_
        refine S_v E rfl (R_assign E rfl) rfl ?_
        clear E a; intro a E
        refine WL_nil ?_
        refine T_n ?_
        refine WP_ret ?_
        refine T_r ?_
        exact F_ret1 E Try.results13 rfl ⟨_, rfl, M_14, (hM_5.trans (hM_7.trans (hM_9.trans (hM_13.trans hM_14)))), rfl, S⟩
      · refine WP_skip ?_
        refine T_n ?_
        refine WP_seq ?_
        refine WP_region ?_
        refine S_v E rfl (R_move E rfl) rfl ?_
        clear E a; intro a E
        refine S_v E rfl (R_lenV E rfl T22 h0.len) rfl ?_
        clear E a; intro a E
        refine S_v E rfl (R_assign E rfl) rfl ?_
        clear E a; intro a E
        refine S_v E rfl (R_assign E rfl) rfl ?_
        clear E a; intro a E
        refine WL_nil ?_
        refine T_n ?_
        refine WP_seq ?_
        refine WP_join (fun a w => ∃ (M_16 : Hp) (k : Nat), Hp.le M_14 M_16 ∧ St w M_16 (H) ∧ Env a 154 [] [(0, v0), (1, v1), (5, .int .i64 ((k : Nat) : Int)), (6, .int .i64 (((l0).length : Nat) : Int))] ∧ (k ≤ l0.length) ∧ (∀ x ∈ l0.take k, decide (x ∈ l1) = true) ∧ (l0.length ≤ k ∨ ∃ x, l0[k]? = some x ∧ decide (x ∈ l1) = false) ∧ (l0.drop k = l0.dropWhile (fun x => decide (x ∈ l1)))) ?_ ?_
        · refine WP_block ?_
          refine WP_loop (γ := Nat) (fun (k : Nat) a w => ∃ (M_17 : Hp), Hp.le M_14 M_17 ∧ St w M_17 (H) ∧ Env a 154 [] [(0, v0), (1, v1), (5, .int .i64 ((k : Nat) : Int)), (6, .int .i64 (((l0).length : Nat) : Int))] ∧ (k ≤ l0.length) ∧ (∀ x ∈ l0.take k, decide (x ∈ l1) = true)) (fun k => l0.length - k) 0 ⟨M_14, Hp.le.refl _, S, E.keep ⟨rfl, rfl, rfl, rfl, trivial⟩, by ((try clear S); (try clear E); first | assumption | omega | rfl | (simp; done) | (simp_all; done) | (simp [List.take_add_one, *]; done) | grind [List.take_add_one]), (by simp)⟩ ?_
          try clear E
          try clear S
          try clear a
          try clear w
          rintro k a w ⟨M_17, hM_17, S, E, hL0_0, hL0_1⟩
          replace h0 := h0.le hM_17
          replace h1 := h1.le hM_17
          replace hz_6 := hz_6.le hM_17
          replace hz_8 := hz_8.le hM_17
          replace hv_10 := hv_10.le hM_17
          replace hv_12 := hv_12.le hM_17
          refine WP_seq ?_
          refine WP_seq ?_
          refine WP_region ?_
          refine S_v E rfl (R_move E rfl) rfl ?_
          clear E a; intro a E
          refine S_v E rfl (R_move E rfl) rfl ?_
          clear E a; intro a E
          refine S_v E rfl (R_lenV E rfl T22 h0.len) rfl ?_
          clear E a; intro a E
          refine S_v E rfl (R_lss E rfl rfl) rfl ?_
          clear E a; intro a E
          refine S_v E rfl (R_move E rfl) rfl ?_
          clear E a; intro a E
          refine split_bool (decide (((k : Nat) : Int) < (((l0).length : Nat) : Int))) (fun hc_18 => ?_) (fun hc_18 => ?_)
          · replace E := E.val (t := 34) rfl hc_18
            replace E := E.val (t := 35) rfl hc_18
            replace hc_18 := of_decide_eq_true hc_18
            refine WL_guard_yes E rfl rfl ?_
            refine S_v E rfl (R_move E rfl) rfl ?_
            clear E a; intro a E
            refine WL_guard_yes E rfl rfl ?_
            refine S_v E rfl (R_move E rfl) rfl ?_
            clear E a; intro a E
            refine WL_guard_yes E rfl rfl ?_
            refine S_v E rfl (R_move E rfl) rfl ?_
            clear E a; intro a E
            obtain ⟨x_19, hx_19⟩ : ∃ x, (l0)[k]? = some x := ⟨_, List.getElem?_eq_getElem (by first | omega | (simp; done) | (simp; omega) | (simp_all; omega))⟩
            obtain ⟨p_20, hp_20, qp_20⟩ := h0.at hx_19
            refine WL_guard_yes E rfl rfl ?_
            refine S_v E rfl (R_idx E rfl rfl T22 hp_20 rfl) rfl ?_
            clear E a; intro a E
            refine WL_guard_yes E rfl rfl ?_
            refine S_v E rfl (R_loadM E rfl Try.isAgg3 S.imm qp_20) rfl ?_
            clear E a; intro a E
            refine WL_guard_yes E rfl rfl ?_
            refine S_x (X_pu E S rfl rfl rfl (laws_in h1) (Hp.le.refl _) ?_)
            clear E a S; rintro a _ w M_21 hM_21 rfl S E
            replace h0 := h0.le hM_21
            replace h1 := h1.le hM_21
            replace hz_6 := hz_6.le hM_21
            replace hz_8 := hz_8.le hM_21
            replace hv_10 := hv_10.le hM_21
            replace hv_12 := hv_12.le hM_21
            refine S_v E rfl (R_pickT E rfl rfl) rfl ?_
            clear E a; intro a E
            refine WL_nil ?_
            refine T_n ?_
            refine WP_cond E rfl (fun hc_22 => ?_) (fun hc_22 => ?_)
            · replace hc_22 := of_decide_eq_true hc_22
              refine WP_skip ?_
              refine T_n ?_
              refine WP_block ?_
              refine WP_region ?_
              refine S_v E rfl (R_move E rfl) rfl ?_
              clear E a; intro a E
              refine S_v E rfl (R_addx (m := ((k + 1 : Nat) : Int)) E rfl rfl (by omega) (by omega)) rfl ?_
              clear E a; intro a E
              refine S_v E rfl (R_assign E rfl) rfl ?_
              clear E a; intro a E
              refine WL_nil ?_
              refine B_n ?_
              refine T_n ?_
              exact ⟨k + 1, ⟨M_21, (hM_17.trans hM_21), S, E.keep ⟨rfl, rfl, rfl, rfl, trivial⟩, (by omega), (by exact take_all (P := fun x => decide (x ∈ l1) = true) hL0_1 (by assumption) (by first | assumption | (simp; assumption) | (simp_all; done)))⟩, by omega⟩
            · replace hc_22 := of_decide_eq_false hc_22
              refine WP_exit ?_
              refine T_x ?_
              refine T_x ?_
              refine B_x ?_
              refine .inl ⟨rfl, ?_⟩
              exact ⟨M_21, k, (hM_17.trans hM_21), S, E.keep ⟨rfl, rfl, rfl, rfl, trivial⟩, (by omega), (by exact hL0_1), (by (first | exact .inl (by omega) | exact .inr ⟨_, by assumption, (by first | assumption | (simp; assumption) | (simp_all; done))⟩)), (by (first | exact (dw_eq (f := fun x => decide (x ∈ l1)) hL0_1 (.inl (by omega))).symm | exact (dw_eq (f := fun x => decide (x ∈ l1)) hL0_1 (.inr ⟨_, by assumption, (by first | assumption | (simp; assumption) | (simp_all; done))⟩)).symm))⟩
          · replace E := E.val (t := 34) rfl hc_18
            replace E := E.val (t := 35) rfl hc_18
            replace hc_18 := of_decide_eq_false hc_18
            refine WL_guard_no E rfl rfl rfl rfl fun a E => ?_
            refine WL_guard_no E rfl rfl rfl rfl fun a E => ?_
            refine WL_guard_no E rfl rfl rfl rfl fun a E => ?_
            refine WL_guard_no E rfl rfl rfl rfl fun a E => ?_
            refine WL_guard_no E rfl rfl rfl rfl fun a E => ?_
            refine WL_guard_no E rfl rfl rfl rfl fun a E => ?_
            refine S_v E rfl (R_pickF E rfl rfl) rfl ?_
            clear E a; intro a E
            refine WL_nil ?_
            refine T_n ?_
            refine WP_condF E rfl rfl ?_
            refine WP_exit ?_
            refine T_x ?_
            refine T_x ?_
            refine B_x ?_
            refine .inl ⟨rfl, ?_⟩
            exact ⟨M_17, k, hM_17, S, E.keep ⟨rfl, rfl, rfl, rfl, trivial⟩, (by omega), (by exact hL0_1), (by (first | exact .inl (by omega) | exact .inr ⟨_, by assumption, (by first | assumption | (simp; assumption) | (simp_all; done))⟩)), (by (first | exact (dw_eq (f := fun x => decide (x ∈ l1)) hL0_1 (.inl (by omega))).symm | exact (dw_eq (f := fun x => decide (x ∈ l1)) hL0_1 (.inr ⟨_, by assumption, (by first | assumption | (simp; assumption) | (simp_all; done))⟩)).symm))⟩
        · clear E S a w
          rintro a w ⟨M_16, k, hM_16, S, E, hJ0_0, hJ0_1, hJ0_2, hJ0_3⟩
          replace h0 := h0.le hM_16
          replace h1 := h1.le hM_16
          replace hz_6 := hz_6.le hM_16
          replace hz_8 := hz_8.le hM_16
          replace hv_10 := hv_10.le hM_16
          replace hv_12 := hv_12.le hM_16
          refine T_n ?_
          refine WP_seq ?_
          refine WP_join (fun a w => ∃ (M_23 : Hp) (j : Nat), Hp.le M_16 M_23 ∧ St w M_23 (H) ∧ Env a 154 [] [(0, v0), (1, v1), (5, .int .i64 ((k : Nat) : Int)), (6, .int .i64 ((l0.length - j : Nat) : Int))] ∧ (j ≤ l0.length) ∧ (k ≤ l0.length - j) ∧ ((l0.take (l0.length - j)).drop k = drw (fun x => decide (x ∈ l1)) (l0.dropWhile (fun x => decide (x ∈ l1))))) ?_ ?_
          · refine WP_block ?_
            refine WP_loop (γ := Nat) (fun (j : Nat) a w => ∃ (M_24 : Hp), Hp.le M_16 M_24 ∧ St w M_24 (H) ∧ Env a 154 [] [(0, v0), (1, v1), (5, .int .i64 ((k : Nat) : Int)), (6, .int .i64 ((l0.length - j : Nat) : Int))] ∧ (j ≤ l0.length) ∧ (k ≤ l0.length - j) ∧ (∀ x ∈ l0.drop (l0.length - j), (fun x => decide (x ∈ l1)) x = true)) (fun j => l0.length - j) 0 ⟨M_16, Hp.le.refl _, S, E.keep ⟨rfl, rfl, rfl, look_nat (i := (l0).length) rfl (by (simp)), trivial⟩, by ((try clear S); (try clear E); first | assumption | omega | rfl | (simp; done) | (simp_all; done) | (simp [List.take_add_one, *]; done) | grind [List.take_add_one]), (by omega), (by simp)⟩ ?_
            try clear E
            try clear S
            try clear a
            try clear w
            rintro j a w ⟨M_24, hM_24, S, E, hL1_0, hL1_1, hL1_2⟩
            replace h0 := h0.le hM_24
            replace h1 := h1.le hM_24
            replace hz_6 := hz_6.le hM_24
            replace hz_8 := hz_8.le hM_24
            replace hv_10 := hv_10.le hM_24
            replace hv_12 := hv_12.le hM_24
            refine WP_seq ?_
            refine WP_seq ?_
            refine WP_region ?_
            refine S_v E rfl (R_move E rfl) rfl ?_
            clear E a; intro a E
            refine S_v E rfl (R_move E rfl) rfl ?_
            clear E a; intro a E
            refine S_v E rfl (R_gtr E rfl rfl) rfl ?_
            clear E a; intro a E
            refine S_v E rfl (R_move E rfl) rfl ?_
            clear E a; intro a E
            refine split_bool (decide (((k : Nat) : Int) < ((l0.length - j : Nat) : Int))) (fun hc_25 => ?_) (fun hc_25 => ?_)
            · replace E := E.val (t := 47) rfl hc_25
              replace E := E.val (t := 48) rfl hc_25
              replace hc_25 := of_decide_eq_true hc_25
              refine WL_guard_yes E rfl rfl ?_
              refine S_v E rfl (R_move E rfl) rfl ?_
              clear E a; intro a E
              refine WL_guard_yes E rfl rfl ?_
              refine S_v E rfl (R_move E rfl) rfl ?_
              clear E a; intro a E
              refine WL_guard_yes E rfl rfl ?_
              refine S_v E rfl (R_move E rfl) rfl ?_
              clear E a; intro a E
              refine WL_guard_yes E rfl rfl ?_
              refine S_v E rfl (R_subx (m := ((l0.length - j - 1 : Nat) : Int)) E rfl rfl (by omega) (by omega)) rfl ?_
              clear E a; intro a E
              obtain ⟨x_26, hx_26⟩ : ∃ x, (l0)[l0.length - j - 1]? = some x := ⟨_, List.getElem?_eq_getElem (by first | omega | (simp; done) | (simp; omega) | (simp_all; omega))⟩
              obtain ⟨p_27, hp_27, qp_27⟩ := h0.at hx_26
              refine WL_guard_yes E rfl rfl ?_
              refine S_v E rfl (R_idx E rfl rfl T22 hp_27 rfl) rfl ?_
              clear E a; intro a E
              refine WL_guard_yes E rfl rfl ?_
              refine S_v E rfl (R_loadM E rfl Try.isAgg3 S.imm qp_27) rfl ?_
              clear E a; intro a E
              refine WL_guard_yes E rfl rfl ?_
              refine S_x (X_pu E S rfl rfl rfl (laws_in h1) (Hp.le.refl _) ?_)
              clear E a S; rintro a _ w M_28 hM_28 rfl S E
              replace h0 := h0.le hM_28
              replace h1 := h1.le hM_28
              replace hz_6 := hz_6.le hM_28
              replace hz_8 := hz_8.le hM_28
              replace hv_10 := hv_10.le hM_28
              replace hv_12 := hv_12.le hM_28
              refine S_v E rfl (R_pickT E rfl rfl) rfl ?_
              clear E a; intro a E
              refine WL_nil ?_
              refine T_n ?_
              refine WP_cond E rfl (fun hc_29 => ?_) (fun hc_29 => ?_)
              · replace hc_29 := of_decide_eq_true hc_29
                refine WP_skip ?_
                refine T_n ?_
                refine WP_block ?_
                refine WP_region ?_
                refine S_v E rfl (R_move E rfl) rfl ?_
                clear E a; intro a E
                refine S_v E rfl (R_subx (m := ((l0.length - j - 1 : Nat) : Int)) E rfl rfl (by omega) (by omega)) rfl ?_
                clear E a; intro a E
                refine S_v E rfl (R_assign E rfl) rfl ?_
                clear E a; intro a E
                refine WL_nil ?_
                refine B_n ?_
                refine T_n ?_
                exact ⟨j + 1, ⟨M_28, (hM_24.trans hM_28), S, E.keep ⟨rfl, rfl, rfl, look_nat (i := l0.length - j - 1) rfl (by (omega)), trivial⟩, (by omega), (by omega), (by exact drop_all (f := fun x => decide (x ∈ l1)) hL1_2 (by omega) (by rw [show l0.length - 1 - j = l0.length - j - 1 by omega]; assumption) (by first | assumption | (simp; assumption) | (simp_all; done)))⟩, by omega⟩
              · replace hc_29 := of_decide_eq_false hc_29
                refine WP_exit ?_
                refine T_x ?_
                refine T_x ?_
                refine B_x ?_
                refine .inl ⟨rfl, ?_⟩
                exact ⟨M_28, j, (hM_24.trans hM_28), S, E.keep ⟨rfl, rfl, rfl, rfl, trivial⟩, (by omega), (by omega), (by (exact trim_mid (f := fun x => decide (x ∈ l1)) hJ0_1 hJ0_2 hL1_1 hL1_0 hL1_2 (by (first | exact .inl (by omega) | exact .inr ⟨_, by assumption, (by first | assumption | (simp; assumption) | (simp_all; done))⟩))))⟩
            · replace E := E.val (t := 47) rfl hc_25
              replace E := E.val (t := 48) rfl hc_25
              replace hc_25 := of_decide_eq_false hc_25
              refine WL_guard_no E rfl rfl rfl rfl fun a E => ?_
              refine WL_guard_no E rfl rfl rfl rfl fun a E => ?_
              refine WL_guard_no E rfl rfl rfl rfl fun a E => ?_
              refine WL_guard_no E rfl rfl rfl rfl fun a E => ?_
              refine WL_guard_no E rfl rfl rfl rfl fun a E => ?_
              refine WL_guard_no E rfl rfl rfl rfl fun a E => ?_
              refine WL_guard_no E rfl rfl rfl rfl fun a E => ?_
              refine S_v E rfl (R_pickF E rfl rfl) rfl ?_
              clear E a; intro a E
              refine WL_nil ?_
              refine T_n ?_
              refine WP_condF E rfl rfl ?_
              refine WP_exit ?_
              refine T_x ?_
              refine T_x ?_
              refine B_x ?_
              refine .inl ⟨rfl, ?_⟩
              exact ⟨M_24, j, hM_24, S, E.keep ⟨rfl, rfl, rfl, rfl, trivial⟩, (by omega), (by omega), (by (exact trim_mid (f := fun x => decide (x ∈ l1)) hJ0_1 hJ0_2 hL1_1 hL1_0 hL1_2 (by (first | exact .inl (by omega) | exact .inr ⟨_, by assumption, (by first | assumption | (simp; assumption) | (simp_all; done))⟩))))⟩
          · clear E S a w
            rintro a w ⟨M_23, j, hM_23, S, E, hJ1_0, hJ1_1, hJ1_2⟩
            replace h0 := h0.le hM_23
            replace h1 := h1.le hM_23
            replace hz_6 := hz_6.le hM_23
            replace hz_8 := hz_8.le hM_23
            replace hv_10 := hv_10.le hM_23
            replace hv_12 := hv_12.le hM_23
            refine T_n ?_
            refine WP_seq ?_
            refine WP_region ?_
            refine S_v E rfl (R_move E rfl) rfl ?_
            clear E a; intro a E
            refine S_v E rfl (R_lenV E rfl T22 h0.len) rfl ?_
            clear E a; intro a E
            refine S_v E rfl (R_assign E rfl) rfl ?_
            clear E a; intro a E
            refine WL_nil ?_
            refine T_n ?_
            refine WP_seq ?_
            refine WP_join (fun a w => ∃ (M_30 : Hp) (i : Nat), Hp.le M_23 M_30 ∧ St w M_30 (H) ∧ Env a 154 [] [(0, v0), (1, v1), (5, .int .i64 ((k : Nat) : Int)), (6, .int .i64 ((l0.length - j : Nat) : Int)), (7, .int .i64 ((l0.length - i : Nat) : Int))] ∧ (i ≤ l0.length) ∧ (l0.take (l0.length - i) = drw (fun x => decide (x ∈ l1)) l0)) ?_ ?_
            · refine WP_block ?_
              refine WP_loop (γ := Nat) (fun (i : Nat) a w => ∃ (M_31 : Hp), Hp.le M_23 M_31 ∧ St w M_31 (H) ∧ Env a 154 [] [(0, v0), (1, v1), (5, .int .i64 ((k : Nat) : Int)), (6, .int .i64 ((l0.length - j : Nat) : Int)), (7, .int .i64 ((l0.length - i : Nat) : Int))] ∧ (i ≤ l0.length) ∧ (∀ x ∈ l0.drop (l0.length - i), (fun x => decide (x ∈ l1)) x = true)) (fun i => l0.length - i) 0 ⟨M_23, Hp.le.refl _, S, E.keep ⟨rfl, rfl, rfl, rfl, look_nat (i := (l0).length) rfl (by (simp)), trivial⟩, by ((try clear S); (try clear E); first | assumption | omega | rfl | (simp; done) | (simp_all; done) | (simp [List.take_add_one, *]; done) | grind [List.take_add_one]), (by simp)⟩ ?_
              try clear E
              try clear S
              try clear a
              try clear w
              rintro i a w ⟨M_31, hM_31, S, E, hL2_0, hL2_1⟩
              replace h0 := h0.le hM_31
              replace h1 := h1.le hM_31
              replace hz_6 := hz_6.le hM_31
              replace hz_8 := hz_8.le hM_31
              replace hv_10 := hv_10.le hM_31
              replace hv_12 := hv_12.le hM_31
              refine WP_seq ?_
              refine WP_seq ?_
              refine WP_region ?_
              refine S_v E rfl (R_move E rfl) rfl ?_
              clear E a; intro a E
              refine S_v E rfl (R_gtr E rfl rfl) rfl ?_
              clear E a; intro a E
              refine S_v E rfl (R_move E rfl) rfl ?_
              clear E a; intro a E
              refine split_bool (decide (0 < ((l0.length - i : Nat) : Int))) (fun hc_32 => ?_) (fun hc_32 => ?_)
              · replace E := E.val (t := 62) rfl hc_32
                replace E := E.val (t := 63) rfl hc_32
                replace hc_32 := of_decide_eq_true hc_32
                refine WL_guard_yes E rfl rfl ?_
                refine S_v E rfl (R_move E rfl) rfl ?_
                clear E a; intro a E
                refine WL_guard_yes E rfl rfl ?_
                refine S_v E rfl (R_move E rfl) rfl ?_
                clear E a; intro a E
                refine WL_guard_yes E rfl rfl ?_
                refine S_v E rfl (R_move E rfl) rfl ?_
                clear E a; intro a E
                refine WL_guard_yes E rfl rfl ?_
                refine S_v E rfl (R_subx (m := ((l0.length - i - 1 : Nat) : Int)) E rfl rfl (by omega) (by omega)) rfl ?_
                clear E a; intro a E
                obtain ⟨x_33, hx_33⟩ : ∃ x, (l0)[l0.length - i - 1]? = some x := ⟨_, List.getElem?_eq_getElem (by first | omega | (simp; done) | (simp; omega) | (simp_all; omega))⟩
                obtain ⟨p_34, hp_34, qp_34⟩ := h0.at hx_33
                refine WL_guard_yes E rfl rfl ?_
                refine S_v E rfl (R_idx E rfl rfl T22 hp_34 rfl) rfl ?_
                clear E a; intro a E
                refine WL_guard_yes E rfl rfl ?_
                refine S_v E rfl (R_loadM E rfl Try.isAgg3 S.imm qp_34) rfl ?_
                clear E a; intro a E
                refine WL_guard_yes E rfl rfl ?_
                refine S_x (X_pu E S rfl rfl rfl (laws_in h1) (Hp.le.refl _) ?_)
                clear E a S; rintro a _ w M_35 hM_35 rfl S E
                replace h0 := h0.le hM_35
                replace h1 := h1.le hM_35
                replace hz_6 := hz_6.le hM_35
                replace hz_8 := hz_8.le hM_35
                replace hv_10 := hv_10.le hM_35
                replace hv_12 := hv_12.le hM_35
                refine S_v E rfl (R_pickT E rfl rfl) rfl ?_
                clear E a; intro a E
                refine WL_nil ?_
                refine T_n ?_
                refine WP_cond E rfl (fun hc_36 => ?_) (fun hc_36 => ?_)
                · replace hc_36 := of_decide_eq_true hc_36
                  refine WP_skip ?_
                  refine T_n ?_
                  refine WP_block ?_
                  refine WP_region ?_
                  refine S_v E rfl (R_move E rfl) rfl ?_
                  clear E a; intro a E
                  refine S_v E rfl (R_subx (m := ((l0.length - i - 1 : Nat) : Int)) E rfl rfl (by omega) (by omega)) rfl ?_
                  clear E a; intro a E
                  refine S_v E rfl (R_assign E rfl) rfl ?_
                  clear E a; intro a E
                  refine WL_nil ?_
                  refine B_n ?_
                  refine T_n ?_
                  exact ⟨i + 1, ⟨M_35, (hM_31.trans hM_35), S, E.keep ⟨rfl, rfl, rfl, rfl, look_nat (i := l0.length - i - 1) rfl (by (omega)), trivial⟩, (by omega), (by exact drop_all (f := fun x => decide (x ∈ l1)) hL2_1 (by omega) (by rw [show l0.length - 1 - i = l0.length - i - 1 by omega]; assumption) (by first | assumption | (simp; assumption) | (simp_all; done)))⟩, by omega⟩
                · replace hc_36 := of_decide_eq_false hc_36
                  refine WP_exit ?_
                  refine T_x ?_
                  refine T_x ?_
                  refine B_x ?_
                  refine .inl ⟨rfl, ?_⟩
                  exact ⟨M_35, i, (hM_31.trans hM_35), S, E.keep ⟨rfl, rfl, rfl, rfl, rfl, trivial⟩, (by omega), (by (symm; first | exact drw_eq (f := fun x => decide (x ∈ l1)) (by omega) hL2_1 (.inl (by omega)) | exact drw_eq (f := fun x => decide (x ∈ l1)) (by omega) hL2_1 (.inr ⟨_, by rw [show l0.length - 1 - i = l0.length - i - 1 by omega]; assumption, (by first | assumption | (simp; assumption) | (simp_all; done))⟩)))⟩
              · replace E := E.val (t := 62) rfl hc_32
                replace E := E.val (t := 63) rfl hc_32
                replace hc_32 := of_decide_eq_false hc_32
                refine WL_guard_no E rfl rfl rfl rfl fun a E => ?_
                refine WL_guard_no E rfl rfl rfl rfl fun a E => ?_
                refine WL_guard_no E rfl rfl rfl rfl fun a E => ?_
                refine WL_guard_no E rfl rfl rfl rfl fun a E => ?_
                refine WL_guard_no E rfl rfl rfl rfl fun a E => ?_
                refine WL_guard_no E rfl rfl rfl rfl fun a E => ?_
                refine WL_guard_no E rfl rfl rfl rfl fun a E => ?_
                refine S_v E rfl (R_pickF E rfl rfl) rfl ?_
                clear E a; intro a E
                refine WL_nil ?_
                refine T_n ?_
                refine WP_condF E rfl rfl ?_
                refine WP_exit ?_
                refine T_x ?_
                refine T_x ?_
                refine B_x ?_
                refine .inl ⟨rfl, ?_⟩
                exact ⟨M_31, i, hM_31, S, E.keep ⟨rfl, rfl, rfl, rfl, rfl, trivial⟩, (by omega), (by (symm; first | exact drw_eq (f := fun x => decide (x ∈ l1)) (by omega) hL2_1 (.inl (by omega)) | exact drw_eq (f := fun x => decide (x ∈ l1)) (by omega) hL2_1 (.inr ⟨_, by rw [show l0.length - 1 - i = l0.length - i - 1 by omega]; assumption, (by first | assumption | (simp; assumption) | (simp_all; done))⟩)))⟩
            · clear E S a w
              rintro a w ⟨M_30, i, hM_30, S, E, hJ2_0, hJ2_1⟩
              replace h0 := h0.le hM_30
              replace h1 := h1.le hM_30
              replace hz_6 := hz_6.le hM_30
              replace hz_8 := hz_8.le hM_30
              replace hv_10 := hv_10.le hM_30
              replace hv_12 := hv_12.le hM_30
              refine T_n ?_
              refine WP_seq ?_
              refine WP_region ?_
              refine S_v E rfl (R_move E rfl) rfl ?_
              clear E a; intro a E
              refine S_v E rfl (R_move E rfl) rfl ?_
              clear E a; intro a E
              refine S_x (X_pu E S rfl rfl rfl (impl_Trim h0 h1 (by (first | omega | (simp; omega) | (simp; done) | (simp_all; omega) | grind))) (Hp.le.refl _) ?_)
              clear E a S; rintro a v_38 w M_37 hM_37 hv_38 S E
              replace h0 := h0.le hM_37
              replace h1 := h1.le hM_37
              replace hz_6 := hz_6.le hM_37
              replace hz_8 := hz_8.le hM_37
              replace hv_10 := hv_10.le hM_37
              replace hv_12 := hv_12.le hM_37
              refine S_v E rfl (R_move E rfl) rfl ?_
              clear E a; intro a E
              refine S_v E rfl (R_move E rfl) rfl ?_
              clear E a; intro a E
              refine S_x (X_pu E S rfl rfl rfl (impl_TrimLeft h0 h1 (by (first | omega | (simp; omega) | (simp; done) | (simp_all; omega) | grind))) (Hp.le.refl _) ?_)
              clear E a S; rintro a v_40 w M_39 hM_39 hv_40 S E
              replace h0 := h0.le hM_39
              replace h1 := h1.le hM_39
              replace hz_6 := hz_6.le hM_39
              replace hz_8 := hz_8.le hM_39
              replace hv_10 := hv_10.le hM_39
              replace hv_12 := hv_12.le hM_39
              replace hv_38 := hv_38.le hM_39
              refine S_v E rfl (R_move E rfl) rfl ?_
              clear E a; intro a E
              refine S_v E rfl (R_move E rfl) rfl ?_
              clear E a; intro a E
              refine S_x (X_pu E S rfl rfl rfl (impl_TrimRight h0 h1 (by (first | omega | (simp; omega) | (simp; done) | (simp_all; omega) | grind))) (Hp.le.refl _) ?_)
              clear E a S; rintro a v_42 w M_41 hM_41 hv_42 S E
              replace h0 := h0.le hM_41
              replace h1 := h1.le hM_41
              replace hz_6 := hz_6.le hM_41
              replace hz_8 := hz_8.le hM_41
              replace hv_10 := hv_10.le hM_41
              replace hv_12 := hv_12.le hM_41
              replace hv_38 := hv_38.le hM_41
              replace hv_40 := hv_40.le hM_41
              refine S_v E rfl (R_assign E rfl) rfl ?_
              clear E a; intro a E
              refine S_v E rfl (R_assign E rfl) rfl ?_
              clear E a; intro a E
              refine S_v E rfl (R_assign E rfl) rfl ?_
              clear E a; intro a E
              refine WL_nil ?_
              refine T_n ?_
              refine WP_seq ?_
              refine WP_region ?_
              refine S_v E rfl (R_move E rfl) rfl ?_
              clear E a; intro a E
              refine S_v E rfl (R_move E rfl) rfl ?_
              clear E a; intro a E
              refine S_v E rfl (R_move E rfl) rfl ?_
              clear E a; intro a E
              refine S_v E rfl (R_move E rfl) rfl ?_
              clear E a; intro a E
              obtain ⟨v_43, sv_43, hv_43⟩ := h0.subv k (l0.length - j) (by first | omega | (simp; done) | (simp; omega) | (simp_all; omega)) (by first | omega | (simp; done) | (simp; omega) | (simp_all; omega))
              replace hv_43 : RdI M_41 v_43 (((l0).take (l0.length - j)).drop k) := hv_43
              refine S_v E rfl (R_sliceLH E rfl rfl rfl T22 sv_43 (by omega) (by omega)) rfl ?_
              clear E a; intro a E
              refine S_x (X_pu E S rfl rfl rfl (laws_eq hv_38 hv_43) (Hp.le.refl _) ?_)
              clear E a S; rintro a _ w M_44 hM_44 rfl S E
              replace h0 := h0.le hM_44
              replace h1 := h1.le hM_44
              replace hz_6 := hz_6.le hM_44
              replace hz_8 := hz_8.le hM_44
              replace hv_10 := hv_10.le hM_44
              replace hv_12 := hv_12.le hM_44
              replace hv_38 := hv_38.le hM_44
              replace hv_40 := hv_40.le hM_44
              replace hv_42 := hv_42.le hM_44
              replace hv_43 := hv_43.le hM_44
              refine S_v E rfl (R_move E rfl) rfl ?_
              clear E a; intro a E
              have hc_45 : (decide (drw (fun x => decide (x ∈ l1)) ((l0).dropWhile (fun x => decide (x ∈ l1))) = ((l0).take (l0.length - j)).drop k)) = true := by (clear S E; (try simp only [hJ1_2, hJ0_3, hJ2_1, predAt2]); first | (simp; done) | (rw [trim_comm]; simp; done))
              replace E := E.val (t := 88) rfl hc_45
              replace E := E.val (t := 89) rfl hc_45
              refine WL_guard_yes E rfl rfl ?_
              refine S_v E rfl (R_move E rfl) rfl ?_
              clear E a; intro a E
              refine WL_guard_yes E rfl rfl ?_
              refine S_v E rfl (R_move E rfl) rfl ?_
              clear E a; intro a E
              refine WL_guard_yes E rfl rfl ?_
              refine S_v E rfl (R_move E rfl) rfl ?_
              clear E a; intro a E
              obtain ⟨v_46, sv_46, hv_46⟩ := h0.subv k ((l0).length) (by first | omega | (simp; done) | (simp; omega) | (simp_all; omega)) (by first | omega | (simp; done) | (simp; omega) | (simp_all; omega))
              simp only [List.take_length] at hv_46
              replace hv_46 : RdI M_44 v_46 ((l0).drop k) := hv_46
              refine WL_guard_yes E rfl rfl ?_
              refine S_v E rfl (R_sliceL E rfl rfl T22 h0.len sv_46 (by omega)) rfl ?_
              clear E a; intro a E
              refine WL_guard_yes E rfl rfl ?_
              refine S_x (X_pu E S rfl rfl rfl (laws_eq hv_40 hv_46) (Hp.le.refl _) ?_)
              clear E a S; rintro a _ w M_47 hM_47 rfl S E
              replace h0 := h0.le hM_47
              replace h1 := h1.le hM_47
              replace hz_6 := hz_6.le hM_47
              replace hz_8 := hz_8.le hM_47
              replace hv_10 := hv_10.le hM_47
              replace hv_12 := hv_12.le hM_47
              replace hv_38 := hv_38.le hM_47
              replace hv_40 := hv_40.le hM_47
              replace hv_42 := hv_42.le hM_47
              replace hv_43 := hv_43.le hM_47
              replace hv_46 := hv_46.le hM_47
              refine S_v E rfl (R_pickT E rfl rfl) rfl ?_
              clear E a; intro a E
              refine S_v E rfl (R_move E rfl) rfl ?_
              clear E a; intro a E
              have hc_48 : (decide ((l0).dropWhile (fun x => decide (x ∈ l1)) = (l0).drop k)) = true := by (clear S E; (try simp only [hJ1_2, hJ0_3, hJ2_1, predAt2]); first | (simp; done) | (rw [trim_comm]; simp; done))
              replace E := E.val (t := 94) rfl hc_48
              replace E := E.val (t := 95) rfl hc_48
              replace E := E.val (t := 96) rfl hc_48
              refine WL_guard_yes E rfl rfl ?_
              refine S_v E rfl (R_move E rfl) rfl ?_
              clear E a; intro a E
              refine WL_guard_yes E rfl rfl ?_
              refine S_v E rfl (R_move E rfl) rfl ?_
              clear E a; intro a E
              refine WL_guard_yes E rfl rfl ?_
              refine S_v E rfl (R_move E rfl) rfl ?_
              clear E a; intro a E
              obtain ⟨v_49, sv_49, hv_49⟩ := h0.subv 0 (l0.length - i) (by first | omega | (simp; done) | (simp; omega) | (simp_all; omega)) (by first | omega | (simp; done) | (simp; omega) | (simp_all; omega))
              simp only [List.drop_zero] at hv_49
              replace hv_49 : RdI M_47 v_49 ((l0).take (l0.length - i)) := hv_49
              refine WL_guard_yes E rfl rfl ?_
              refine S_v E rfl (R_sliceH E rfl rfl T22 sv_49 (by omega)) rfl ?_
              clear E a; intro a E
              refine WL_guard_yes E rfl rfl ?_
              refine S_x (X_pu E S rfl rfl rfl (laws_eq hv_42 hv_49) (Hp.le.refl _) ?_)
              clear E a S; rintro a _ w M_50 hM_50 rfl S E
              replace h0 := h0.le hM_50
              replace h1 := h1.le hM_50
              replace hz_6 := hz_6.le hM_50
              replace hz_8 := hz_8.le hM_50
              replace hv_10 := hv_10.le hM_50
              replace hv_12 := hv_12.le hM_50
              replace hv_38 := hv_38.le hM_50
              replace hv_40 := hv_40.le hM_50
              replace hv_42 := hv_42.le hM_50
              replace hv_43 := hv_43.le hM_50
              replace hv_46 := hv_46.le hM_50
              replace hv_49 := hv_49.le hM_50
              refine S_v E rfl (R_pickT E rfl rfl) rfl ?_
              clear E a; intro a E
              refine S_v E rfl (R_move E rfl) rfl ?_
              clear E a; intro a E
              have hc_51 : (decide (drw (fun x => decide (x ∈ l1)) l0 = (l0).take (l0.length - i))) = true := by (clear S E; (try simp only [hJ1_2, hJ0_3, hJ2_1, predAt2]); first | (simp; done) | (rw [trim_comm]; simp; done))
              replace E := E.val (t := 101) rfl hc_51
              replace E := E.val (t := 102) rfl hc_51
              replace E := E.val (t := 103) rfl hc_51
              refine WL_guard_yes E rfl rfl ?_
              refine S_v E rfl (R_move E rfl) rfl ?_
              clear E a; intro a E
              refine WL_guard_yes E rfl rfl ?_
              refine S_v E rfl (R_move E rfl) rfl ?_
              clear E a; intro a E
              refine WL_guard_yes E rfl rfl ?_
              refine S_x (X_pu E S rfl rfl rfl (impl_TrimRight hv_40 h1 (by (first | omega | (simp; omega) | (simp; done) | (simp_all; omega) | grind))) (Hp.le.refl _) ?_)
              clear E a S; rintro a v_53 w M_52 hM_52 hv_53 S E
              replace h0 := h0.le hM_52
              replace h1 := h1.le hM_52
              replace hz_6 := hz_6.le hM_52
              replace hz_8 := hz_8.le hM_52
              replace hv_10 := hv_10.le hM_52
              replace hv_12 := hv_12.le hM_52
              replace hv_38 := hv_38.le hM_52
              replace hv_40 := hv_40.le hM_52
              replace hv_42 := hv_42.le hM_52
              replace hv_43 := hv_43.le hM_52
              replace hv_46 := hv_46.le hM_52
              replace hv_49 := hv_49.le hM_52
              refine WL_guard_yes E rfl rfl ?_
              refine S_v E rfl (R_move E rfl) rfl ?_
              clear E a; intro a E
              refine WL_guard_yes E rfl rfl ?_
              refine S_x (X_pu E S rfl rfl rfl (laws_eq hv_53 hv_38) (Hp.le.refl _) ?_)
              clear E a S; rintro a _ w M_54 hM_54 rfl S E
              replace h0 := h0.le hM_54
              replace h1 := h1.le hM_54
              replace hz_6 := hz_6.le hM_54
              replace hz_8 := hz_8.le hM_54
              replace hv_10 := hv_10.le hM_54
              replace hv_12 := hv_12.le hM_54
              replace hv_38 := hv_38.le hM_54
              replace hv_40 := hv_40.le hM_54
              replace hv_42 := hv_42.le hM_54
              replace hv_43 := hv_43.le hM_54
              replace hv_46 := hv_46.le hM_54
              replace hv_49 := hv_49.le hM_54
              replace hv_53 := hv_53.le hM_54
              refine S_v E rfl (R_pickT E rfl rfl) rfl ?_
              clear E a; intro a E
              refine S_v E rfl (R_move E rfl) rfl ?_
              clear E a; intro a E
              have hc_55 : (decide (drw (fun x => decide (x ∈ l1)) ((l0).dropWhile (fun x => decide (x ∈ l1))) = drw (fun x => decide (x ∈ l1)) ((l0).dropWhile (fun x => decide (x ∈ l1))))) = true := by (clear S E; (try simp only [hJ1_2, hJ0_3, hJ2_1, predAt2]); first | (simp; done) | (rw [trim_comm]; simp; done))
              replace E := E.val (t := 108) rfl hc_55
              replace E := E.val (t := 109) rfl hc_55
              replace E := E.val (t := 110) rfl hc_55
              refine WL_guard_yes E rfl rfl ?_
              refine S_v E rfl (R_move E rfl) rfl ?_
              clear E a; intro a E
              refine WL_guard_yes E rfl rfl ?_
              refine S_v E rfl (R_move E rfl) rfl ?_
              clear E a; intro a E
              refine WL_guard_yes E rfl rfl ?_
              refine S_x (X_pu E S rfl rfl rfl (impl_TrimLeft hv_42 h1 (by (first | omega | (simp; omega) | (simp; done) | (simp_all; omega) | grind))) (Hp.le.refl _) ?_)
              clear E a S; rintro a v_57 w M_56 hM_56 hv_57 S E
              replace h0 := h0.le hM_56
              replace h1 := h1.le hM_56
              replace hz_6 := hz_6.le hM_56
              replace hz_8 := hz_8.le hM_56
              replace hv_10 := hv_10.le hM_56
              replace hv_12 := hv_12.le hM_56
              replace hv_38 := hv_38.le hM_56
              replace hv_40 := hv_40.le hM_56
              replace hv_42 := hv_42.le hM_56
              replace hv_43 := hv_43.le hM_56
              replace hv_46 := hv_46.le hM_56
              replace hv_49 := hv_49.le hM_56
              replace hv_53 := hv_53.le hM_56
              refine WL_guard_yes E rfl rfl ?_
              refine S_v E rfl (R_move E rfl) rfl ?_
              clear E a; intro a E
              refine WL_guard_yes E rfl rfl ?_
              refine S_x (X_pu E S rfl rfl rfl (laws_eq hv_57 hv_38) (Hp.le.refl _) ?_)
              clear E a S; rintro a _ w M_58 hM_58 rfl S E
              replace h0 := h0.le hM_58
              replace h1 := h1.le hM_58
              replace hz_6 := hz_6.le hM_58
              replace hz_8 := hz_8.le hM_58
              replace hv_10 := hv_10.le hM_58
              replace hv_12 := hv_12.le hM_58
              replace hv_38 := hv_38.le hM_58
              replace hv_40 := hv_40.le hM_58
              replace hv_42 := hv_42.le hM_58
              replace hv_43 := hv_43.le hM_58
              replace hv_46 := hv_46.le hM_58
              replace hv_49 := hv_49.le hM_58
              replace hv_53 := hv_53.le hM_58
              replace hv_57 := hv_57.le hM_58
              refine S_v E rfl (R_pickT E rfl rfl) rfl ?_
              clear E a; intro a E
              refine S_v E rfl (R_move E rfl) rfl ?_
              clear E a; intro a E
              have hc_59 : (decide ((drw (fun x => decide (x ∈ l1)) l0).dropWhile (fun x => decide (x ∈ l1)) = drw (fun x => decide (x ∈ l1)) ((l0).dropWhile (fun x => decide (x ∈ l1))))) = true := by (clear S E; (try simp only [hJ1_2, hJ0_3, hJ2_1, predAt2]); first | (simp; done) | (rw [trim_comm]; simp; done))
              replace E := E.val (t := 115) rfl hc_59
              replace E := E.val (t := 116) rfl hc_59
              replace E := E.val (t := 117) rfl hc_59
              refine WL_guard_yes E rfl rfl ?_
              refine S_v E rfl (R_move E rfl) rfl ?_
              clear E a; intro a E
              refine WL_guard_yes E rfl rfl ?_
              refine S_v E rfl (R_move E rfl) rfl ?_
              clear E a; intro a E
              refine WL_guard_yes E rfl rfl ?_
              refine S_x (X_pu E S rfl rfl rfl (impl_TrimSeq h0 h1 (by (first | omega | (simp; omega) | (simp; done) | (simp_all; omega) | grind))) (Hp.le.refl _) ?_)
              clear E a S; rintro a v_61 w M_60 hM_60 hv_61 S E
              replace h0 := h0.le hM_60
              replace h1 := h1.le hM_60
              replace hz_6 := hz_6.le hM_60
              replace hz_8 := hz_8.le hM_60
              replace hv_10 := hv_10.le hM_60
              replace hv_12 := hv_12.le hM_60
              replace hv_38 := hv_38.le hM_60
              replace hv_40 := hv_40.le hM_60
              replace hv_42 := hv_42.le hM_60
              replace hv_43 := hv_43.le hM_60
              replace hv_46 := hv_46.le hM_60
              replace hv_49 := hv_49.le hM_60
              replace hv_53 := hv_53.le hM_60
              replace hv_57 := hv_57.le hM_60
              refine WL_guard_yes E rfl rfl ?_
              refine S_v E rfl (R_move E rfl) rfl ?_
              clear E a; intro a E
              refine WL_guard_yes E rfl rfl ?_
              refine S_x (X_pu E S rfl rfl rfl (laws_eq hv_61 hv_38) (Hp.le.refl _) ?_)
              clear E a S; rintro a _ w M_62 hM_62 rfl S E
              replace h0 := h0.le hM_62
              replace h1 := h1.le hM_62
              replace hz_6 := hz_6.le hM_62
              replace hz_8 := hz_8.le hM_62
              replace hv_10 := hv_10.le hM_62
              replace hv_12 := hv_12.le hM_62
              replace hv_38 := hv_38.le hM_62
              replace hv_40 := hv_40.le hM_62
              replace hv_42 := hv_42.le hM_62
              replace hv_43 := hv_43.le hM_62
              replace hv_46 := hv_46.le hM_62
              replace hv_49 := hv_49.le hM_62
              replace hv_53 := hv_53.le hM_62
              replace hv_57 := hv_57.le hM_62
              replace hv_61 := hv_61.le hM_62
              refine S_v E rfl (R_pickT E rfl rfl) rfl ?_
              clear E a; intro a E
              refine S_v E rfl (R_move E rfl) rfl ?_
              clear E a; intro a E
              have hc_63 : (decide (drw (fun x => decide (x ∈ l1)) ((l0).dropWhile (fun x => decide (x ∈ l1))) = drw (fun x => decide (x ∈ l1)) ((l0).dropWhile (fun x => decide (x ∈ l1))))) = true := by (clear S E; (try simp only [hJ1_2, hJ0_3, hJ2_1, predAt2]); first | (simp; done) | (rw [trim_comm]; simp; done))
              replace E := E.val (t := 122) rfl hc_63
              replace E := E.val (t := 123) rfl hc_63
              replace E := E.val (t := 124) rfl hc_63
              refine WL_guard_yes E rfl rfl ?_
              refine S_v E rfl (R_move E rfl) rfl ?_
              clear E a; intro a E
              refine WL_guard_yes E rfl rfl ?_
              refine S_v E rfl (R_move E rfl) rfl ?_
              clear E a; intro a E
              refine WL_guard_yes E rfl rfl ?_
              refine S_x (X_pu E S rfl rfl rfl (impl_TrimLeftSeq h0 h1 (by (first | omega | (simp; omega) | (simp; done) | (simp_all; omega) | grind))) (Hp.le.refl _) ?_)
              clear E a S; rintro a v_65 w M_64 hM_64 hv_65 S E
              replace h0 := h0.le hM_64
              replace h1 := h1.le hM_64
              replace hz_6 := hz_6.le hM_64
              replace hz_8 := hz_8.le hM_64
              replace hv_10 := hv_10.le hM_64
              replace hv_12 := hv_12.le hM_64
              replace hv_38 := hv_38.le hM_64
              replace hv_40 := hv_40.le hM_64
              replace hv_42 := hv_42.le hM_64
              replace hv_43 := hv_43.le hM_64
              replace hv_46 := hv_46.le hM_64
              replace hv_49 := hv_49.le hM_64
              replace hv_53 := hv_53.le hM_64
              replace hv_57 := hv_57.le hM_64
              replace hv_61 := hv_61.le hM_64
              refine WL_guard_yes E rfl rfl ?_
              refine S_v E rfl (R_move E rfl) rfl ?_
              clear E a; intro a E
              refine WL_guard_yes E rfl rfl ?_
              refine S_x (X_pu E S rfl rfl rfl (laws_eq hv_65 hv_40) (Hp.le.refl _) ?_)
              clear E a S; rintro a _ w M_66 hM_66 rfl S E
              replace h0 := h0.le hM_66
              replace h1 := h1.le hM_66
              replace hz_6 := hz_6.le hM_66
              replace hz_8 := hz_8.le hM_66
              replace hv_10 := hv_10.le hM_66
              replace hv_12 := hv_12.le hM_66
              replace hv_38 := hv_38.le hM_66
              replace hv_40 := hv_40.le hM_66
              replace hv_42 := hv_42.le hM_66
              replace hv_43 := hv_43.le hM_66
              replace hv_46 := hv_46.le hM_66
              replace hv_49 := hv_49.le hM_66
              replace hv_53 := hv_53.le hM_66
              replace hv_57 := hv_57.le hM_66
              replace hv_61 := hv_61.le hM_66
              replace hv_65 := hv_65.le hM_66
              refine S_v E rfl (R_pickT E rfl rfl) rfl ?_
              clear E a; intro a E
              refine S_v E rfl (R_move E rfl) rfl ?_
              clear E a; intro a E
              have hc_67 : (decide ((l0).dropWhile (fun x => decide (x ∈ l1)) = (l0).dropWhile (fun x => decide (x ∈ l1)))) = true := by (clear S E; (try simp only [hJ1_2, hJ0_3, hJ2_1, predAt2]); first | (simp; done) | (rw [trim_comm]; simp; done))
              replace E := E.val (t := 129) rfl hc_67
              replace E := E.val (t := 130) rfl hc_67
              replace E := E.val (t := 131) rfl hc_67
              refine WL_guard_yes E rfl rfl ?_
              refine S_v E rfl (R_move E rfl) rfl ?_
              clear E a; intro a E
              refine WL_guard_yes E rfl rfl ?_
              refine S_v E rfl (R_move E rfl) rfl ?_
              clear E a; intro a E
              refine WL_guard_yes E rfl rfl ?_
              refine S_x (X_pu E S rfl rfl rfl (impl_TrimRightSeq h0 h1 (by (first | omega | (simp; omega) | (simp; done) | (simp_all; omega) | grind))) (Hp.le.refl _) ?_)
              clear E a S; rintro a v_69 w M_68 hM_68 hv_69 S E
              replace h0 := h0.le hM_68
              replace h1 := h1.le hM_68
              replace hz_6 := hz_6.le hM_68
              replace hz_8 := hz_8.le hM_68
              replace hv_10 := hv_10.le hM_68
              replace hv_12 := hv_12.le hM_68
              replace hv_38 := hv_38.le hM_68
              replace hv_40 := hv_40.le hM_68
              replace hv_42 := hv_42.le hM_68
              replace hv_43 := hv_43.le hM_68
              replace hv_46 := hv_46.le hM_68
              replace hv_49 := hv_49.le hM_68
              replace hv_53 := hv_53.le hM_68
              replace hv_57 := hv_57.le hM_68
              replace hv_61 := hv_61.le hM_68
              replace hv_65 := hv_65.le hM_68
              refine WL_guard_yes E rfl rfl ?_
              refine S_v E rfl (R_move E rfl) rfl ?_
              clear E a; intro a E
              refine WL_guard_yes E rfl rfl ?_
              refine S_x (X_pu E S rfl rfl rfl (laws_eq hv_69 hv_42) (Hp.le.refl _) ?_)
              clear E a S; rintro a _ w M_70 hM_70 rfl S E
              replace h0 := h0.le hM_70
              replace h1 := h1.le hM_70
              replace hz_6 := hz_6.le hM_70
              replace hz_8 := hz_8.le hM_70
              replace hv_10 := hv_10.le hM_70
              replace hv_12 := hv_12.le hM_70
              replace hv_38 := hv_38.le hM_70
              replace hv_40 := hv_40.le hM_70
              replace hv_42 := hv_42.le hM_70
              replace hv_43 := hv_43.le hM_70
              replace hv_46 := hv_46.le hM_70
              replace hv_49 := hv_49.le hM_70
              replace hv_53 := hv_53.le hM_70
              replace hv_57 := hv_57.le hM_70
              replace hv_61 := hv_61.le hM_70
              replace hv_65 := hv_65.le hM_70
              replace hv_69 := hv_69.le hM_70
              refine S_v E rfl (R_pickT E rfl rfl) rfl ?_
              clear E a; intro a E
              refine S_v E rfl (R_move E rfl) rfl ?_
              clear E a; intro a E
              have hc_71 : (decide (drw (fun x => decide (x ∈ l1)) l0 = drw (fun x => decide (x ∈ l1)) l0)) = true := by (clear S E; (try simp only [hJ1_2, hJ0_3, hJ2_1, predAt2]); first | (simp; done) | (rw [trim_comm]; simp; done))
              replace E := E.val (t := 136) rfl hc_71
              replace E := E.val (t := 137) rfl hc_71
              replace E := E.val (t := 138) rfl hc_71
              refine WL_guard_yes E rfl rfl ?_
              refine S_v E rfl (R_move E rfl) rfl ?_
              clear E a; intro a E
              refine WL_guard_yes E rfl rfl ?_
              refine S_v E rfl (R_move E rfl) rfl ?_
              clear E a; intro a E
              refine WL_guard_yes E rfl rfl ?_
              refine S_v E rfl (R_move E rfl) rfl ?_
              clear E a; intro a E
              refine WL_guard_yes E rfl rfl ?_
              refine S_v E rfl (R_build (u := .agg #[.int .i64 2, .int .i64 0, v1]) (vs := [.int .i64 2, v1]) E rfl (fun w => by obtain ⟨A0, c0, e0, _⟩ := RdS.len h1; rw [e0]; exact FB29_0_2_is 2 _ _ _ w)) rfl ?_
              clear E a; intro a E
              refine WL_guard_yes E rfl rfl ?_
              refine S_x (X_pu E S rfl rfl rfl (impl_DropWhile h0 h1 (by omega) (by (first | omega | (simp; omega) | (simp; done) | (simp_all; omega) | grind))) (Hp.le.refl _) ?_)
              clear E a S; rintro a v_73 w M_72 hM_72 hv_73 S E
              replace h0 := h0.le hM_72
              replace h1 := h1.le hM_72
              replace hz_6 := hz_6.le hM_72
              replace hz_8 := hz_8.le hM_72
              replace hv_10 := hv_10.le hM_72
              replace hv_12 := hv_12.le hM_72
              replace hv_38 := hv_38.le hM_72
              replace hv_40 := hv_40.le hM_72
              replace hv_42 := hv_42.le hM_72
              replace hv_43 := hv_43.le hM_72
              replace hv_46 := hv_46.le hM_72
              replace hv_49 := hv_49.le hM_72
              replace hv_53 := hv_53.le hM_72
              replace hv_57 := hv_57.le hM_72
              replace hv_61 := hv_61.le hM_72
              replace hv_65 := hv_65.le hM_72
              replace hv_69 := hv_69.le hM_72
              refine WL_guard_yes E rfl rfl ?_
              refine S_x (X_pu E S rfl rfl rfl (laws_eq hv_40 hv_73) (Hp.le.refl _) ?_)
              clear E a S; rintro a _ w M_74 hM_74 rfl S E
              replace h0 := h0.le hM_74
              replace h1 := h1.le hM_74
              replace hz_6 := hz_6.le hM_74
              replace hz_8 := hz_8.le hM_74
              replace hv_10 := hv_10.le hM_74
              replace hv_12 := hv_12.le hM_74
              replace hv_38 := hv_38.le hM_74
              replace hv_40 := hv_40.le hM_74
              replace hv_42 := hv_42.le hM_74
              replace hv_43 := hv_43.le hM_74
              replace hv_46 := hv_46.le hM_74
              replace hv_49 := hv_49.le hM_74
              replace hv_53 := hv_53.le hM_74
              replace hv_57 := hv_57.le hM_74
              replace hv_61 := hv_61.le hM_74
              replace hv_65 := hv_65.le hM_74
              replace hv_69 := hv_69.le hM_74
              replace hv_73 := hv_73.le hM_74
              refine S_v E rfl (R_pickT E rfl rfl) rfl ?_
              clear E a; intro a E
              refine S_v E rfl (R_move E rfl) rfl ?_
              clear E a; intro a E
              have hc_75 : (decide ((l0).dropWhile (fun x => decide (x ∈ l1)) = (l0).dropWhile (fun x => predAt 2 0 l1 x 0))) = true := by (clear S E; (try simp only [hJ1_2, hJ0_3, hJ2_1, predAt2]); first | (simp; done) | (rw [trim_comm]; simp; done))
              replace E := E.val (t := 144) rfl hc_75
              replace E := E.val (t := 145) rfl hc_75
              replace E := E.val (t := 146) rfl hc_75
              refine WL_guard_yes E rfl rfl ?_
              refine S_v E rfl (R_move E rfl) rfl ?_
              clear E a; intro a E
              refine WL_guard_yes E rfl rfl ?_
              refine S_v E rfl (R_move E rfl) rfl ?_
              clear E a; intro a E
              refine WL_guard_yes E rfl rfl ?_
              refine S_v E rfl (R_move E rfl) rfl ?_
              clear E a; intro a E
              refine WL_guard_yes E rfl rfl ?_
              refine S_v E rfl (R_build (u := .agg #[.int .i64 2, .int .i64 0, v1]) (vs := [.int .i64 2, v1]) E rfl (fun w => by obtain ⟨A0, c0, e0, _⟩ := RdS.len h1; rw [e0]; exact FB29_0_2_is 2 _ _ _ w)) rfl ?_
              clear E a; intro a E
              refine WL_guard_yes E rfl rfl ?_
              refine S_x (X_pu E S rfl rfl rfl (impl_DropRightWhile h0 h1 (by omega) (by (first | omega | (simp; omega) | (simp; done) | (simp_all; omega) | grind))) (Hp.le.refl _) ?_)
              clear E a S; rintro a v_77 w M_76 hM_76 hv_77 S E
              replace h0 := h0.le hM_76
              replace h1 := h1.le hM_76
              replace hz_6 := hz_6.le hM_76
              replace hz_8 := hz_8.le hM_76
              replace hv_10 := hv_10.le hM_76
              replace hv_12 := hv_12.le hM_76
              replace hv_38 := hv_38.le hM_76
              replace hv_40 := hv_40.le hM_76
              replace hv_42 := hv_42.le hM_76
              replace hv_43 := hv_43.le hM_76
              replace hv_46 := hv_46.le hM_76
              replace hv_49 := hv_49.le hM_76
              replace hv_53 := hv_53.le hM_76
              replace hv_57 := hv_57.le hM_76
              replace hv_61 := hv_61.le hM_76
              replace hv_65 := hv_65.le hM_76
              replace hv_69 := hv_69.le hM_76
              replace hv_73 := hv_73.le hM_76
              refine WL_guard_yes E rfl rfl ?_
              refine S_x (X_pu E S rfl rfl rfl (laws_eq hv_42 hv_77) (Hp.le.refl _) ?_)
              clear E a S; rintro a _ w M_78 hM_78 rfl S E
              replace h0 := h0.le hM_78
              replace h1 := h1.le hM_78
              replace hz_6 := hz_6.le hM_78
              replace hz_8 := hz_8.le hM_78
              replace hv_10 := hv_10.le hM_78
              replace hv_12 := hv_12.le hM_78
              replace hv_38 := hv_38.le hM_78
              replace hv_40 := hv_40.le hM_78
              replace hv_42 := hv_42.le hM_78
              replace hv_43 := hv_43.le hM_78
              replace hv_46 := hv_46.le hM_78
              replace hv_49 := hv_49.le hM_78
              replace hv_53 := hv_53.le hM_78
              replace hv_57 := hv_57.le hM_78
              replace hv_61 := hv_61.le hM_78
              replace hv_65 := hv_65.le hM_78
              replace hv_69 := hv_69.le hM_78
              replace hv_73 := hv_73.le hM_78
              replace hv_77 := hv_77.le hM_78
              refine S_v E rfl (R_pickT E rfl rfl) rfl ?_
              clear E a; intro a E
              refine S_v E rfl (R_assign E rfl) rfl ?_
              clear E a; intro a E
              refine WL_nil ?_
              refine T_n ?_
              refine WP_ret ?_
              exact F_ret1 E Try.results13 rfl ⟨_, rfl, M_78, (hM_5.trans (hM_7.trans (hM_9.trans (hM_13.trans (hM_14.trans (hM_16.trans (hM_23.trans (hM_30.trans (hM_37.trans (hM_39.trans (hM_41.trans (hM_44.trans (hM_47.trans (hM_50.trans (hM_52.trans (hM_54.trans (hM_56.trans (hM_58.trans (hM_60.trans (hM_62.trans (hM_64.trans (hM_66.trans (hM_68.trans (hM_70.trans (hM_72.trans (hM_74.trans (hM_76.trans hM_78))))))))))))))))))))))))))), (congrArg Value.bool (by (clear S E; (try simp only [hJ1_2, hJ0_3, hJ2_1, predAt2]); first | (simp; done) | (rw [trim_comm]; simp; done)))), S⟩

end Go.Proofs.Ytealhfcckjdclaa.wFnTrimmed
