/- Walks through the functions that laws.FnPlaces reaches: what each computes; no conditions beyond what each theorem states. -/
import Derived.Test.YtgljcnmakpnamaaWFnPlacesa
set_option linter.unusedVariables false
set_option linter.unusedSimpArgs false
namespace Go.Proofs.Ytgljcnmakpnamaa.wFnPlaces
open Go Go.Sl
set_option maxRecDepth 100000 in
set_option maxHeartbeats 4000000 in
theorem lo_None {M : Hp} {v0 v1 : Value} {l0 l1 : List Int} (h0 : RdI M v0 l0) (h1 : RdI M v1 l1) :
    Pu Try.prog (.func (.func 182) #[] #[]) M [v0, v1] (fun r M' => r = .bool (!((l1).any (fun y => decide (y ∈ l0))))) := by
  refine Pu_enter Try.func182 rfl Try.ntmps182 rfl Try.call182 ?_
  intro a w M1 H hM1 S E
  replace h0 := h0.le hM1
  replace h1 := h1.le hM1
  have b0 := h0.bound
  have b1 := h1.bound
  refine WP_seq ?_
  refine WP_region ?_
  refine S_v E rfl (R_assign E rfl) rfl ?_
  clear E a; intro a E
  refine WL_nil ?_
  refine T_n ?_
  refine WP_seq ?_
  refine WP_seq ?_
  refine WP_region ?_
  refine S_v E rfl (R_move E rfl) rfl ?_
  clear E a; intro a E
  refine S_v E rfl (R_lenV E rfl T22 h1.len) rfl ?_
  clear E a; intro a E
  refine S_v E rfl (R_eql E rfl rfl) rfl ?_
  clear E a; intro a E
  refine WL_nil ?_
  refine T_n ?_
  refine WP_cond E rfl (fun hc_1 => ?_) (fun hc_1 => ?_)
  · replace hc_1 := of_decide_eq_true hc_1
    refine WP_seq ?_
    refine WP_region ?_
    refine S_v E rfl (R_assign E rfl) rfl ?_
    clear E a; intro a E
    refine WL_nil ?_
    refine T_n ?_
    refine WP_ret ?_
    refine T_r ?_
    exact F_ret1 E Try.results182 rfl ⟨_, rfl, M1, (Hp.le.refl _), (congrArg Value.bool (by ((try simp only [mem_keyL] at *); first | (rw [any_yes (by assumption) (by assumption)]; rfl) | (rw [any_no hL0_1 (by omega)]; rfl) | (rw [show l1 = [] from List.eq_nil_of_length_eq_zero (by omega)]; rfl)))), S⟩
  · replace hc_1 := of_decide_eq_false hc_1
    refine WP_skip ?_
    refine T_n ?_
    refine WP_seq ?_
    refine WP_region ?_
    refine S_v E rfl (R_move E rfl) rfl ?_
    clear E a; intro a E
    refine S_x (X_sp (p := []) E S rfl rfl rfl (lo_Keyify h1) (Hp.le.refl _) ?_)
    clear E a S; rintro a _ w M_2 _ hM_2 ⟨v_3, rfl, rfl⟩ S E
    replace S : St w M_2 (OwnS v_3 (keyL l1) :: _) := S
    replace h0 := h0.le hM_2
    replace h1 := h1.le hM_2
    refine S_v E rfl (R_assign E rfl) rfl ?_
    clear E a; intro a E
    refine WL_nil ?_
    refine T_n ?_
    refine WP_seq ?_
    refine WP_seq ?_
    refine WP_region ?_
    refine S_v E rfl (R_move E rfl) rfl ?_
    clear E a; intro a E
    refine S_v E rfl (R_lenV E rfl T22 h0.len) rfl ?_
    clear E a; intro a E
    refine S_v E rfl (R_move E rfl) rfl ?_
    clear E a; intro a E
    refine WL_nil ?_
    refine T_n ?_
    refine WP_block ?_
    refine WP_loop (γ := Nat) (fun (k : Nat) a w => ∃ (M_4 : Hp), Hp.le M_2 M_4 ∧ St w M_4 (OwnS v_3 (keyL l1) :: H) ∧ Env a 30 [] [(0, v0), (5, .map (some v_3)), (15, .int .i64 (((l0).length : Nat) : Int)), (16, .int .i64 ((k : Nat) : Int))] ∧ (k ≤ (l0).length) ∧ (∀ x ∈ l0.take k, ¬ x ∈ l1)) (fun k => ((l0).length) - k) 0 ⟨M_2, Hp.le.refl _, S, E.keep ⟨rfl, rfl, rfl, rfl, trivial⟩, by ((try clear S); (try clear E); first | assumption | omega | rfl | (simp; done) | (simp_all; done) | (simp [List.take_add_one, *]; done) | grind [List.take_add_one]), (by simp)⟩ ?_
    try clear E
    try clear S
    try clear a
    try clear w
    rintro k a w ⟨M_4, hM_4, S, E, hL0_0, hL0_1⟩
    replace h0 := h0.le hM_4
    replace h1 := h1.le hM_4
    refine WP_seq ?_
    refine WP_region ?_
    refine S_v E rfl (R_lss E rfl rfl) rfl ?_
    clear E a; intro a E
    refine WL_nil ?_
    refine T_n ?_
    refine WP_seq ?_
    refine WP_cond E rfl (fun hc_5 => ?_) (fun hc_5 => ?_)
    · replace hc_5 := of_decide_eq_true hc_5
      refine WP_skip ?_
      refine T_n ?_
      refine WP_seq ?_
      refine WP_block ?_
      refine WP_seq ?_
      refine WP_region ?_
      refine S_v E rfl (R_move E rfl) rfl ?_
      clear E a; intro a E
      refine S_v E rfl (R_assign E rfl) rfl ?_
      clear E a; intro a E
      refine WL_nil ?_
      refine T_n ?_
      refine WP_seq ?_
      refine WP_region ?_
      refine S_v E rfl (R_move E rfl) rfl ?_
      clear E a; intro a E
      refine S_v E rfl (R_move E rfl) rfl ?_
      clear E a; intro a E
      refine S_v E rfl (R_move E rfl) rfl ?_
      clear E a; intro a E
      obtain ⟨x_6, hx_6⟩ : ∃ x, (l0)[k]? = some x := ⟨_, List.getElem?_eq_getElem (by first | omega | (simp; done) | (simp; omega) | (simp_all; omega))⟩
      obtain ⟨p_7, hp_7, qp_7⟩ := h0.at hx_6
      refine S_v E rfl (R_idx E rfl rfl T22 hp_7 rfl) rfl ?_
      clear E a; intro a E
      refine S_v E rfl (R_loadM E rfl Try.isAgg3 S.imm qp_7) rfl ?_
      clear E a; intro a E
      refine S_x (X_lookupS E S rfl MT136 rfl rfl ?_)
      clear E a S; rintro a w E S
      replace S : St w M_4 (OwnS v_3 (keyL l1) :: _) := S
      refine S_v E rfl (R_move E rfl) rfl ?_
      clear E a; intro a E
      refine S_v E rfl (R_extract E rfl rfl) rfl ?_
      clear E a; intro a E
      refine S_v E rfl (R_extract E rfl rfl) rfl ?_
      clear E a; intro a E
      refine S_x (X_alloc (cs := #[]) E S rfl Try.zeroValue176 rfl ?_)
      clear E a S; rintro a w b_8 E S
      refine S_x0 (X_storeG (us := []) E S rfl rfl (Try.sizeOf176 _) rfl (by intro u hu; cases hu) ?_)
      clear E a S; rintro a w E S
      replace S : St w M_4 (blk b_8 (.cells #[] 176) :: _) := S
      have S0 := S; clear S
      obtain ⟨M_9, hM_9, hb_10, S⟩ := S0.freezeB
      clear S0
      replace h0 := h0.le hM_9
      replace h1 := h1.le hM_9
      refine S_v E rfl (R_assign E rfl) rfl ?_
      clear E a; intro a E
      refine WL_nil ?_
      refine T_n ?_
      refine WP_seq ?_
      refine WP_region ?_
      refine S_v E rfl (R_move E rfl) rfl ?_
      clear E a; intro a E
      refine WL_nil ?_
      refine T_n ?_
      refine WP_cond E rfl (fun hc_11 => ?_) (fun hc_11 => ?_)
      · replace hc_11 := of_decide_eq_true hc_11
        refine WP_seq ?_
        refine WP_region ?_
        refine S_v E rfl (R_assign E rfl) rfl ?_
        clear E a; intro a E
        refine WL_nil ?_
        refine T_n ?_
        refine WP_ret ?_
        refine B_r ?_
        refine T_r ?_
        refine T_r ?_
        refine B_r ?_
        refine T_r ?_
        exact F_ret1 E Try.results182 rfl ⟨_, rfl, M_9, (hM_2.trans (hM_4.trans hM_9)), (congrArg Value.bool (by ((try simp only [mem_keyL] at *); first | (rw [any_yes (by assumption) (by assumption)]; rfl) | (rw [any_no hL0_1 (by omega)]; rfl) | (rw [show l1 = [] from List.eq_nil_of_length_eq_zero (by omega)]; rfl)))), S.drop⟩
      · replace hc_11 := of_decide_eq_false hc_11
        refine WP_skip ?_
        refine B_n ?_
        refine T_n ?_
        refine WP_region ?_
        refine S_v E rfl (R_addx (m := ((k + 1 : Nat) : Int)) E rfl rfl (by omega) (by omega)) rfl ?_
        clear E a; intro a E
        refine S_v E rfl (R_move E rfl) rfl ?_
        clear E a; intro a E
        refine WL_nil ?_
        refine T_n ?_
        exact ⟨k + 1, ⟨M_9, (hM_4.trans hM_9), S, E.keep ⟨rfl, rfl, rfl, rfl, trivial⟩, by ((try clear S); (try clear E); first | assumption | omega | rfl | (simp; done) | (simp_all; done) | (simp [List.take_add_one, *]; done) | grind [List.take_add_one]), (by (try simp only [mem_keyL] at *); exact take_all (P := fun x => ¬ x ∈ l1) hL0_1 (by assumption) (by assumption))⟩, by omega⟩
    · replace hc_5 := of_decide_eq_false hc_5
      refine WP_exit ?_
      refine T_x ?_
      refine T_x ?_
      refine B_x ?_
      refine T_n ?_
      refine WP_seq ?_
      refine WP_region ?_
      refine S_v E rfl (R_assign E rfl) rfl ?_
      clear E a; intro a E
      refine WL_nil ?_
      refine T_n ?_
      refine WP_ret ?_
      exact F_ret1 E Try.results182 rfl ⟨_, rfl, M_4, (hM_2.trans hM_4), (congrArg Value.bool (by ((try simp only [mem_keyL] at *); first | (rw [any_yes (by assumption) (by assumption)]; rfl) | (rw [any_no hL0_1 (by omega)]; rfl) | (rw [show l1 = [] from List.eq_nil_of_length_eq_zero (by omega)]; rfl)))), S.drop⟩

set_option maxRecDepth 100000 in
set_option maxHeartbeats 4000000 in
theorem impl_None {M : Hp} {v0 v1 : Value} {l0 l1 : List Int} (h0 : RdI M v0 l0) (h1 : RdI M v1 l1) :
    Pu Try.prog (.func (.func 69) #[] #[]) M [v0, v1] (fun r M' => r = .bool (!((l1).any (fun y => decide (y ∈ l0))))) := by
  refine Pu_enter Try.func69 rfl Try.ntmps69 rfl Try.call69 ?_
  intro a w M1 H hM1 S E
  replace h0 := h0.le hM1
  replace h1 := h1.le hM1
  have b0 := h0.bound
  have b1 := h1.bound
  refine WP_seq ?_
  refine WP_region ?_
  refine S_v E rfl (R_assign E rfl) rfl ?_
  clear E a; intro a E
  refine WL_nil ?_
  refine T_n ?_
  refine WP_seq ?_
  refine WP_region ?_
  refine S_v E rfl (R_move E rfl) rfl ?_
  clear E a; intro a E
  refine S_v E rfl (R_move E rfl) rfl ?_
  clear E a; intro a E
  refine S_x (X_pu E S rfl rfl rfl (lo_None h0 h1) (Hp.le.refl _) ?_)
  clear E a S; rintro a _ w M_1 hM_1 rfl S E
  replace h0 := h0.le hM_1
  replace h1 := h1.le hM_1
  refine S_v E rfl (R_assign E rfl) rfl ?_
  clear E a; intro a E
  refine WL_nil ?_
  refine T_n ?_
  refine WP_ret ?_
  exact F_ret1 E Try.results69 rfl ⟨_, rfl, M_1, hM_1, rfl, S⟩

set_option maxRecDepth 100000 in
set_option maxHeartbeats 4000000 in
theorem laws_FnPlaces {M : Hp} {v0 : Value} {l0 : List Int} (h0 : RdI M v0 l0){x1 : Int} :
    PuC Try.prog 5 M [v0, .int .i64 x1] (fun r M' => r = .bool true) := by
  refine PuC_enter Try.func5 rfl Try.ntmps5 rfl ?_
  intro a w M1 H hM1 S E
  replace h0 := h0.le hM1
  have b0 := h0.bound
  have c0 := List.count_le_length (a := x1) (l := l0)
  refine WP_seq ?_
  refine WP_region ?_
  refine S_v E rfl (R_assign E rfl) rfl ?_
  clear E a; intro a E
  refine WL_nil ?_
  refine T_n ?_
  refine WP_seq ?_
  refine WP_seq ?_
  refine WP_region ?_
  refine S_v E rfl (R_move E rfl) rfl ?_
  clear E a; intro a E
  refine S_v E rfl (R_lenV E rfl T22 h0.len) rfl ?_
  clear E a; intro a E
  refine S_v E rfl (R_gtr E rfl rfl) rfl ?_
  clear E a; intro a E
  refine WL_nil ?_
  refine T_n ?_
  refine WP_cond E rfl (fun hc_1 => ?_) (fun hc_1 => ?_)
  · replace hc_1 := of_decide_eq_true hc_1
    refine WP_seq ?_
    refine WP_region ?_
    refine S_v E rfl (R_assign E rfl) rfl ?_
    clear E a; intro a E
    refine WL_nil ?_
    refine T_n ?_
    refine WP_ret ?_
    refine T_r ?_
    exact F_ret1 E Try.results5 rfl ⟨_, rfl, M1, (Hp.le.refl _), rfl, S⟩
  · replace hc_1 := of_decide_eq_false hc_1
    refine WP_skip ?_
    refine T_n ?_
    refine WP_seq ?_
    refine WP_seq ?_
    refine WP_region ?_
    refine S_x (X_buildI (ys := [1]) E S rfl T22 rfl rfl rfl ?_)
    clear E a S; rintro a w v_2 E S
    have S0 := S; clear S
    obtain ⟨M_3, hM_3, hz_4, S⟩ := S0.freezeI (by (first | omega | (simp; omega) | (simp; done) | (simp_all; omega) | grind))
    clear S0
    replace h0 := h0.le hM_3
    refine S_x (X_pu E S rfl rfl rfl (impl_IndexOf hz_4) (Hp.le.refl _) ?_)
    clear E a S; rintro a _ w M_5 hM_5 rfl S E
    replace h0 := h0.le hM_5
    replace hz_4 := hz_4.le hM_5
    refine S_v E rfl (R_neq E rfl rfl) rfl ?_
    clear E a; intro a E
    refine WL_nil ?_
    refine T_n ?_
    have hc_6 : (decide (fiI (eqx 2) [1] ≠ (-1))) = false := by (clear S E; (try simp only [predx, etk]); first | (simp; done) | decide | exact none_cnt _ _ | exact (none_cnt _ _).symm | (rw [fi_any_neg]; simp; done) | (rw [hg0]; first | done | rfl | (simp; done)) | (rw [fiV_eqx hg1]; simp; done) | (rw [laV_eqx hg1]; simp; done) | (rw [mem_cnt]; simp; done) | (rw [mem_cnt]; first | done | rfl) | (simp [mem_cnt]; done) | (have := mem_cnt l0 x1; simp_all; done) | (have h9 := mem_cnt l0 x1; by_cases hz : l0.count x1 = 0 <;> simp_all <;> omega))
    refine WP_condF E rfl hc_6 ?_
    refine WP_skip ?_
    refine T_n ?_
    refine WP_seq ?_
    refine WP_seq ?_
    refine WP_region ?_
    refine S_v E rfl (R_move E rfl) rfl ?_
    clear E a; intro a E
    refine S_x (X_buildM (R := RSl 1 RInt) (vs := [v0]) (xs := [l0]) (RSl_mono RInt_mono) E S rfl T98 rfl rfl rfl (by intro u hu; simp only [List.mem_cons, List.not_mem_nil, or_false] at hu; rcases hu with rfl <;> first | exact RdI.one h0 | rfl) rfl (rowsC (R := RSl 1 RInt) (RdI.row h0) rowsN) ?_)
    clear E a S; rintro a v_7 w M_8 hM_8 hv_7 S E
    replace hv_7 : RdII M_8 v_7 [l0] := hv_7
    replace h0 := h0.le hM_8
    replace hz_4 := hz_4.le hM_8
    refine S_x (X_pu E S rfl rfl rfl (laws_few hv_7) (Hp.le.refl _) ?_)
    clear E a S; rintro a _ w M_9 hM_9 rfl S E
    replace h0 := h0.le hM_9
    replace hz_4 := hz_4.le hM_9
    replace hv_7 := hv_7.le hM_9
    refine S_v E rfl (R_not E rfl) rfl ?_
    clear E a; intro a E
    refine WL_nil ?_
    refine T_n ?_
    refine WP_cond E rfl (fun hc_10 => ?_) (fun hc_10 => ?_)
    · refine WP_seq ?_
      refine WP_region ?_
      refine S_v E rfl (R_assign E rfl) rfl ?_
      clear E a; intro a E
      refine WL_nil ?_
      refine T_n ?_
      refine WP_ret ?_
      refine T_r ?_
      exact F_ret1 E Try.results5 rfl ⟨_, rfl, M_9, (hM_3.trans (hM_5.trans (hM_8.trans hM_9))), rfl, S⟩
    · refine WP_skip ?_
      refine T_n ?_
      refine WP_seq ?_
      refine WP_region ?_
      refine S_v E rfl (R_assign E rfl) rfl ?_
      clear E a; intro a E
      refine S_v E rfl (R_assign E rfl) rfl ?_
      clear E a; intro a E
      refine WL_nil ?_
      refine T_n ?_
      refine WP_seq ?_
      refine WP_seq ?_
      refine WP_region ?_
      refine S_v E rfl (R_move E rfl) rfl ?_
      clear E a; intro a E
      refine S_v E rfl (R_lenV E rfl T22 h0.len) rfl ?_
      clear E a; intro a E
      refine S_v E rfl (R_move E rfl) rfl ?_
      clear E a; intro a E
      refine WL_nil ?_
      refine T_n ?_
      refine WP_block ?_
      refine WP_loop (γ := Nat) (fun (k : Nat) a w => ∃ (M_11 : Hp), Hp.le M_9 M_11 ∧ St w M_11 (H) ∧ Env a 224 [] [(0, v0), (1, .int .i64 x1), (5, .int .i64 (fiI (eqx x1) (l0.take k))), (6, .int .i64 (laI (eqx x1) (l0.take k))), (29, v0), (30, .int .i64 (((l0).length : Nat) : Int)), (31, .int .i64 ((k : Nat) : Int))] ∧ (k ≤ (l0).length)) (fun k => ((l0).length) - k) 0 ⟨M_9, Hp.le.refl _, S, E.keep ⟨rfl, rfl, look_int (i := (-1)) rfl (by (rfl)), look_int (i := (-1)) rfl (by (rfl)), rfl, rfl, rfl, trivial⟩, by ((try clear S); (try clear E); first | assumption | omega | rfl | (simp; done) | (simp_all; done) | (simp [List.take_add_one, *]; done) | grind [List.take_add_one])⟩ ?_
      try clear E
      try clear S
      try clear a
      try clear w
      rintro k a w ⟨M_11, hM_11, S, E, hL0_0⟩
      replace h0 := h0.le hM_11
      replace hz_4 := hz_4.le hM_11
      replace hv_7 := hv_7.le hM_11
      refine WP_seq ?_
      refine WP_region ?_
      refine S_v E rfl (R_lss E rfl rfl) rfl ?_
      clear E a; intro a E
      refine WL_nil ?_
      refine T_n ?_
      refine WP_seq ?_
      refine WP_cond E rfl (fun hc_12 => ?_) (fun hc_12 => ?_)
      · replace hc_12 := of_decide_eq_true hc_12
        refine WP_skip ?_
        refine T_n ?_
        refine WP_seq ?_
        refine WP_block ?_
        refine WP_seq ?_
        refine WP_region ?_
        refine S_v E rfl (R_move E rfl) rfl ?_
        clear E a; intro a E
        obtain ⟨x_13, hx_13⟩ : ∃ x, (l0)[k]? = some x := ⟨_, List.getElem?_eq_getElem (by first | omega | (simp; done) | (simp; omega) | (simp_all; omega))⟩
        obtain ⟨p_14, hp_14, qp_14⟩ := h0.at hx_13
        refine S_v E rfl (R_idx E rfl rfl T22 hp_14 rfl) rfl ?_
        clear E a; intro a E
        refine S_v E rfl (R_loadM E rfl Try.isAgg3 S.imm qp_14) rfl ?_
        clear E a; intro a E
        refine S_v E rfl (R_assign E rfl) rfl ?_
        clear E a; intro a E
        refine S_v E rfl (R_assign E rfl) rfl ?_
        clear E a; intro a E
        refine WL_nil ?_
        refine T_n ?_
        refine WP_seq ?_
        refine WP_region ?_
        refine S_v E rfl (R_move E rfl) rfl ?_
        clear E a; intro a E
        refine S_v E rfl (R_move E rfl) rfl ?_
        clear E a; intro a E
        refine S_v E rfl (R_eql E rfl rfl) rfl ?_
        clear E a; intro a E
        refine WL_nil ?_
        refine T_n ?_
        refine WP_cond E rfl (fun hc_15 => ?_) (fun hc_15 => ?_)
        · replace hc_15 := of_decide_eq_true hc_15
          refine WP_seq ?_
          refine WP_region ?_
          refine S_v E rfl (R_move E rfl) rfl ?_
          clear E a; intro a E
          refine S_v E rfl (R_assign E rfl) rfl ?_
          clear E a; intro a E
          refine WL_nil ?_
          refine T_n ?_
          refine WP_seq ?_
          refine WP_region ?_
          refine S_v E rfl (R_move E rfl) rfl ?_
          clear E a; intro a E
          refine S_v E rfl (R_lss E rfl rfl) rfl ?_
          clear E a; intro a E
          refine WL_nil ?_
          refine T_n ?_
          refine WP_cond E rfl (fun hc_16 => ?_) (fun hc_16 => ?_)
          · replace hc_16 := of_decide_eq_true hc_16
            refine WP_region ?_
            refine S_v E rfl (R_move E rfl) rfl ?_
            clear E a; intro a E
            refine S_v E rfl (R_assign E rfl) rfl ?_
            clear E a; intro a E
            refine WL_nil ?_
            refine B_n ?_
            refine T_n ?_
            refine WP_region ?_
            refine S_v E rfl (R_addx (m := ((k + 1 : Nat) : Int)) E rfl rfl (by omega) (by omega)) rfl ?_
            clear E a; intro a E
            refine S_v E rfl (R_move E rfl) rfl ?_
            clear E a; intro a E
            refine WL_nil ?_
            refine T_n ?_
            exact ⟨k + 1, ⟨M_11, hM_11, S, E.keep ⟨rfl, rfl, look_int (i := ((k : Nat) : Int)) rfl (by (first | (rw [fiI_take (by assumption), if_pos (by assumption), if_pos (by first | exact eqx_yes (by assumption) | exact eqx_yes' (by assumption))]) | (rw [fiI_take (by assumption), if_neg (by assumption)]) | (rw [fiI_take (by assumption)]; split <;> first | rfl | (rw [if_neg (by simp [show eqx x1 _ = false from (by first | exact eqx_no (by assumption) | exact eqx_no' (by assumption))])]; exact fiI_neg (by assumption)) | (exact fiI_neg (by assumption)) | simp_all))), look_int (i := ((k : Nat) : Int)) rfl (by (rw [laI_take (by assumption)]; first | (rw [if_pos (by first | exact eqx_yes (by assumption) | exact eqx_yes' (by assumption))]) | (rw [if_neg (by simp [show eqx x1 _ = false from (by first | exact eqx_no (by assumption) | exact eqx_no' (by assumption))])]))), rfl, rfl, rfl, trivial⟩, by ((try clear S); (try clear E); first | assumption | omega | rfl | (simp; done) | (simp_all; done) | (simp [List.take_add_one, *]; done) | grind [List.take_add_one])⟩, by omega⟩
          · replace hc_16 := of_decide_eq_false hc_16
            refine WP_skip ?_
            refine B_n ?_
            refine T_n ?_
            refine WP_region ?_
            refine S_v E rfl (R_addx (m := ((k + 1 : Nat) : Int)) E rfl rfl (by omega) (by omega)) rfl ?_
            clear E a; intro a E
            refine S_v E rfl (R_move E rfl) rfl ?_
            clear E a; intro a E
            refine WL_nil ?_
            refine T_n ?_
            exact ⟨k + 1, ⟨M_11, hM_11, S, E.keep ⟨rfl, rfl, look_int (i := fiI (eqx x1) (l0.take k)) rfl (by (first | (rw [fiI_take (by assumption), if_pos (by assumption), if_pos (by first | exact eqx_yes (by assumption) | exact eqx_yes' (by assumption))]) | (rw [fiI_take (by assumption), if_neg (by assumption)]) | (rw [fiI_take (by assumption)]; split <;> first | rfl | (rw [if_neg (by simp [show eqx x1 _ = false from (by first | exact eqx_no (by assumption) | exact eqx_no' (by assumption))])]; exact fiI_neg (by assumption)) | (exact fiI_neg (by assumption)) | simp_all))), look_int (i := ((k : Nat) : Int)) rfl (by (rw [laI_take (by assumption)]; first | (rw [if_pos (by first | exact eqx_yes (by assumption) | exact eqx_yes' (by assumption))]) | (rw [if_neg (by simp [show eqx x1 _ = false from (by first | exact eqx_no (by assumption) | exact eqx_no' (by assumption))])]))), rfl, rfl, rfl, trivial⟩, by ((try clear S); (try clear E); first | assumption | omega | rfl | (simp; done) | (simp_all; done) | (simp [List.take_add_one, *]; done) | grind [List.take_add_one])⟩, by omega⟩
        · replace hc_15 := of_decide_eq_false hc_15
          refine WP_skip ?_
          refine B_n ?_
          refine T_n ?_
          refine WP_region ?_
          refine S_v E rfl (R_addx (m := ((k + 1 : Nat) : Int)) E rfl rfl (by omega) (by omega)) rfl ?_
          clear E a; intro a E
          refine S_v E rfl (R_move E rfl) rfl ?_
          clear E a; intro a E
          refine WL_nil ?_
          refine T_n ?_
          exact ⟨k + 1, ⟨M_11, hM_11, S, E.keep ⟨rfl, rfl, look_int (i := fiI (eqx x1) (l0.take k)) rfl (by (first | (rw [fiI_take (by assumption), if_pos (by assumption), if_pos (by first | exact eqx_yes (by assumption) | exact eqx_yes' (by assumption))]) | (rw [fiI_take (by assumption), if_neg (by assumption)]) | (rw [fiI_take (by assumption)]; split <;> first | rfl | (rw [if_neg (by simp [show eqx x1 _ = false from (by first | exact eqx_no (by assumption) | exact eqx_no' (by assumption))])]; exact fiI_neg (by assumption)) | (exact fiI_neg (by assumption)) | simp_all))), look_int (i := laI (eqx x1) (l0.take k)) rfl (by (rw [laI_take (by assumption)]; first | (rw [if_pos (by first | exact eqx_yes (by assumption) | exact eqx_yes' (by assumption))]) | (rw [if_neg (by simp [show eqx x1 _ = false from (by first | exact eqx_no (by assumption) | exact eqx_no' (by assumption))])]))), rfl, rfl, rfl, trivial⟩, by ((try clear S); (try clear E); first | assumption | omega | rfl | (simp; done) | (simp_all; done) | (simp [List.take_add_one, *]; done) | grind [List.take_add_one])⟩, by omega⟩
      · replace hc_12 := of_decide_eq_false hc_12
        have etk : l0.take k = l0 := List.take_of_length_le (by omega)
        refine WP_exit ?_
        refine T_x ?_
        refine T_x ?_
        refine B_x ?_
        refine T_n ?_
        refine WP_seq ?_
        refine WP_region ?_
        refine S_v E rfl (R_move E rfl) rfl ?_
        clear E a; intro a E
        refine S_x (X_buildI (ys := [x1]) E S rfl T22 rfl rfl rfl ?_)
        clear E a S; rintro a w v_17 E S
        have S0 := S; clear S
        obtain ⟨M_18, hM_18, hz_19, S⟩ := S0.freezeI (by (first | omega | (simp; omega) | (simp; done) | (simp_all; omega) | grind))
        clear S0
        replace h0 := h0.le hM_18
        replace hz_4 := hz_4.le hM_18
        replace hv_7 := hv_7.le hM_18
        refine S_v E rfl (R_build (u := .agg #[.int .i64 2, .int .i64 0, v_17]) (vs := [.int .i64 2, v_17]) E rfl (fun w => by obtain ⟨A0, c0, e0, _⟩ := RdS.len hz_19; rw [e0]; exact FB36_0_2_is 2 _ _ _ w)) rfl ?_
        clear E a; intro a E
        refine S_x (X_alloc (cs := #[.int .i64 0, .int .i64 0, .slice none 0 0]) E S rfl Try.zeroValue36 rfl ?_)
        clear E a S; rintro a w b_20 E S
        refine S_x0 (X_storeG (us := [.int .i64 2, .int .i64 0, v_17]) E S rfl rfl (Try.sizeOf36 _) rfl (by intro u hu; simp only [List.mem_cons, List.not_mem_nil, or_false] at hu; rcases hu with rfl | rfl | rfl <;> first | exact rfl | exact rfl | exact (RdS.one' hz_19)) ?_)
        clear E a S; rintro a w E S
        replace S : St w M_18 (blk b_20 (.cells #[.int .i64 2, .int .i64 0, v_17] 36) :: _) := S
        have S0 := S; clear S
        obtain ⟨M_21, hM_21, hb_22, S⟩ := S0.freezeB
        clear S0
        replace h0 := h0.le hM_21
        replace hz_4 := hz_4.le hM_21
        replace hv_7 := hv_7.le hM_21
        replace hz_19 := hz_19.le hM_21
        refine WL_nil ?_
        refine T_n ?_
        refine WP_seq ?_
        refine WP_region ?_
        refine S_v E rfl (R_move E rfl) rfl ?_
        clear E a; intro a E
        refine S_v E rfl (R_loadGM E rfl (Try.isAgg36 _) (Try.sizeOf36 _) S.imm hb_22) rfl ?_
        clear E a; intro a E
        refine S_x (X_pu E S rfl rfl rfl (impl_FindIndexOf h0 hz_19 (by omega)) (Hp.le.refl _) ?_)
        clear E a S; rintro a _ w M_23 hM_23 rfl S E
        replace h0 := h0.le hM_23
        replace hz_4 := hz_4.le hM_23
        replace hv_7 := hv_7.le hM_23
        replace hz_19 := hz_19.le hM_23
        replace hb_22 := hM_23.2 _ _ hb_22
        refine S_v E rfl (R_move E rfl) rfl ?_
        clear E a; intro a E
        refine S_v E rfl (R_extract E rfl rfl) rfl ?_
        clear E a; intro a E
        refine S_v E rfl (R_extract E rfl rfl) rfl ?_
        clear E a; intro a E
        refine S_v E rfl (R_extract E rfl rfl) rfl ?_
        clear E a; intro a E
        refine S_v E rfl (R_assign E rfl) rfl ?_
        clear E a; intro a E
        refine S_v E rfl (R_assign E rfl) rfl ?_
        clear E a; intro a E
        refine S_v E rfl (R_assign E rfl) rfl ?_
        clear E a; intro a E
        refine WL_nil ?_
        refine T_n ?_
        refine WP_seq ?_
        refine WP_region ?_
        refine S_v E rfl (R_move E rfl) rfl ?_
        clear E a; intro a E
        refine S_v E rfl (R_loadGM E rfl (Try.isAgg36 _) (Try.sizeOf36 _) S.imm hb_22) rfl ?_
        clear E a; intro a E
        refine S_x (X_pu E S rfl rfl rfl (impl_FindLastIndexOf h0 hz_19 (by omega)) (Hp.le.refl _) ?_)
        clear E a S; rintro a _ w M_24 hM_24 rfl S E
        replace h0 := h0.le hM_24
        replace hz_4 := hz_4.le hM_24
        replace hv_7 := hv_7.le hM_24
        replace hz_19 := hz_19.le hM_24
        replace hb_22 := hM_24.2 _ _ hb_22
        refine S_v E rfl (R_move E rfl) rfl ?_
        clear E a; intro a E
        refine S_v E rfl (R_extract E rfl rfl) rfl ?_
        clear E a; intro a E
        refine S_v E rfl (R_extract E rfl rfl) rfl ?_
        clear E a; intro a E
        refine S_v E rfl (R_extract E rfl rfl) rfl ?_
        clear E a; intro a E
        refine S_v E rfl (R_assign E rfl) rfl ?_
        clear E a; intro a E
        refine S_v E rfl (R_assign E rfl) rfl ?_
        clear E a; intro a E
        refine S_v E rfl (R_assign E rfl) rfl ?_
        clear E a; intro a E
        refine WL_nil ?_
        refine T_n ?_
        refine WP_seq ?_
        refine WP_region ?_
        refine S_v E rfl (R_move E rfl) rfl ?_
        clear E a; intro a E
        refine S_v E rfl (R_loadGM E rfl (Try.isAgg36 _) (Try.sizeOf36 _) S.imm hb_22) rfl ?_
        clear E a; intro a E
        refine S_x (X_pu E S rfl rfl rfl (impl_Find h0 hz_19 (by omega)) (Hp.le.refl _) ?_)
        clear E a S; rintro a _ w M_25 hM_25 rfl S E
        replace h0 := h0.le hM_25
        replace hz_4 := hz_4.le hM_25
        replace hv_7 := hv_7.le hM_25
        replace hz_19 := hz_19.le hM_25
        replace hb_22 := hM_25.2 _ _ hb_22
        refine S_v E rfl (R_move E rfl) rfl ?_
        clear E a; intro a E
        refine S_v E rfl (R_extract E rfl rfl) rfl ?_
        clear E a; intro a E
        refine S_v E rfl (R_extract E rfl rfl) rfl ?_
        clear E a; intro a E
        refine S_v E rfl (R_assign E rfl) rfl ?_
        clear E a; intro a E
        refine S_v E rfl (R_assign E rfl) rfl ?_
        clear E a; intro a E
        refine WL_nil ?_
        refine T_n ?_
        refine WP_seq ?_
        refine WP_region ?_
        refine S_v E rfl (R_move E rfl) rfl ?_
        clear E a; intro a E
        refine S_v E rfl (R_move E rfl) rfl ?_
        clear E a; intro a E
        refine S_x (X_pu E S rfl rfl rfl (laws_count h0) (Hp.le.refl _) ?_)
        clear E a S; rintro a _ w M_26 hM_26 rfl S E
        replace h0 := h0.le hM_26
        replace hz_4 := hz_4.le hM_26
        replace hv_7 := hv_7.le hM_26
        replace hz_19 := hz_19.le hM_26
        replace hb_22 := hM_26.2 _ _ hb_22
        refine S_v E rfl (R_assign E rfl) rfl ?_
        clear E a; intro a E
        refine WL_nil ?_
        refine T_n ?_
        refine WP_seq ?_
        refine WP_seq ?_
        refine WP_region ?_
        refine S_v E rfl (R_move E rfl) rfl ?_
        clear E a; intro a E
        refine S_v E rfl (R_move E rfl) rfl ?_
        clear E a; intro a E
        refine S_v E rfl (R_neq E rfl rfl) rfl ?_
        clear E a; intro a E
        refine S_v E rfl (R_move E rfl) rfl ?_
        clear E a; intro a E
        have hc_27 : (decide (fiI (fun x => predAt 2 0 [x1] x 0) l0 ≠ fiI (eqx x1) (l0.take k))) = false := by (clear S E; (try simp only [predx, etk]); first | (simp; done) | decide | exact none_cnt _ _ | exact (none_cnt _ _).symm | (rw [fi_any_neg]; simp; done) | (rw [hg0]; first | done | rfl | (simp; done)) | (rw [fiV_eqx hg1]; simp; done) | (rw [laV_eqx hg1]; simp; done) | (rw [mem_cnt]; simp; done) | (rw [mem_cnt]; first | done | rfl) | (simp [mem_cnt]; done) | (have := mem_cnt l0 x1; simp_all; done) | (have h9 := mem_cnt l0 x1; by_cases hz : l0.count x1 = 0 <;> simp_all <;> omega))
        replace E := E.val (t := 72) rfl hc_27
        replace E := E.val (t := 73) rfl hc_27
        refine WL_guard_yes E rfl rfl ?_
        refine S_v E rfl (R_move E rfl) rfl ?_
        clear E a; intro a E
        refine WL_guard_yes E rfl rfl ?_
        refine S_v E rfl (R_move E rfl) rfl ?_
        clear E a; intro a E
        refine WL_guard_yes E rfl rfl ?_
        refine S_v E rfl (R_neq E rfl rfl) rfl ?_
        clear E a; intro a E
        refine S_v E rfl (R_pickF E rfl rfl) rfl ?_
        clear E a; intro a E
        refine S_v E rfl (R_move E rfl) rfl ?_
        clear E a; intro a E
        have hc_28 : (decide (laI (fun x => predAt 2 0 [x1] x 0) l0 ≠ laI (eqx x1) (l0.take k))) = false := by (clear S E; (try simp only [predx, etk]); first | (simp; done) | decide | exact none_cnt _ _ | exact (none_cnt _ _).symm | (rw [fi_any_neg]; simp; done) | (rw [hg0]; first | done | rfl | (simp; done)) | (rw [fiV_eqx hg1]; simp; done) | (rw [laV_eqx hg1]; simp; done) | (rw [mem_cnt]; simp; done) | (rw [mem_cnt]; first | done | rfl) | (simp [mem_cnt]; done) | (have := mem_cnt l0 x1; simp_all; done) | (have h9 := mem_cnt l0 x1; by_cases hz : l0.count x1 = 0 <;> simp_all <;> omega))
        replace E := E.val (t := 76) rfl hc_28
        replace E := E.val (t := 77) rfl hc_28
        replace E := E.val (t := 78) rfl hc_28
        refine WL_guard_yes E rfl rfl ?_
        refine S_v E rfl (R_move E rfl) rfl ?_
        clear E a; intro a E
        refine WL_guard_yes E rfl rfl ?_
        refine S_v E rfl (R_move E rfl) rfl ?_
        clear E a; intro a E
        refine WL_guard_yes E rfl rfl ?_
        refine S_v E rfl (R_geq E rfl rfl) rfl ?_
        clear E a; intro a E
        refine WL_guard_yes E rfl rfl ?_
        refine S_v E rfl (R_neqB E rfl rfl Try.underlying4) rfl ?_
        clear E a; intro a E
        refine S_v E rfl (R_pickF E rfl rfl) rfl ?_
        clear E a; intro a E
        refine S_v E rfl (R_move E rfl) rfl ?_
        clear E a; intro a E
        have hc_29 : (!(((l0).any (fun x => predAt 2 0 [x1] x 0)) == (decide (0 ≤ fiI (eqx x1) (l0.take k))))) = false := by (clear S E; (try simp only [predx, etk]); first | (simp; done) | decide | exact none_cnt _ _ | exact (none_cnt _ _).symm | (rw [fi_any_neg]; simp; done) | (rw [hg0]; first | done | rfl | (simp; done)) | (rw [fiV_eqx hg1]; simp; done) | (rw [laV_eqx hg1]; simp; done) | (rw [mem_cnt]; simp; done) | (rw [mem_cnt]; first | done | rfl) | (simp [mem_cnt]; done) | (have := mem_cnt l0 x1; simp_all; done) | (have h9 := mem_cnt l0 x1; by_cases hz : l0.count x1 = 0 <;> simp_all <;> omega))
        replace E := E.val (t := 82) rfl hc_29
        replace E := E.val (t := 83) rfl hc_29
        replace E := E.val (t := 84) rfl hc_29
        refine WL_guard_yes E rfl rfl ?_
        refine S_v E rfl (R_move E rfl) rfl ?_
        clear E a; intro a E
        refine WL_guard_yes E rfl rfl ?_
        refine S_v E rfl (R_move E rfl) rfl ?_
        clear E a; intro a E
        refine WL_guard_yes E rfl rfl ?_
        refine S_v E rfl (R_neqB E rfl rfl Try.underlying4) rfl ?_
        clear E a; intro a E
        refine S_v E rfl (R_pickF E rfl rfl) rfl ?_
        clear E a; intro a E
        refine S_v E rfl (R_move E rfl) rfl ?_
        clear E a; intro a E
        have hc_30 : (!(((l0).any (fun x => predAt 2 0 [x1] x 0)) == ((l0).any (fun x => predAt 2 0 [x1] x 0)))) = false := by (clear S E; (try simp only [predx, etk]); first | (simp; done) | decide | exact none_cnt _ _ | exact (none_cnt _ _).symm | (rw [fi_any_neg]; simp; done) | (rw [hg0]; first | done | rfl | (simp; done)) | (rw [fiV_eqx hg1]; simp; done) | (rw [laV_eqx hg1]; simp; done) | (rw [mem_cnt]; simp; done) | (rw [mem_cnt]; first | done | rfl) | (simp [mem_cnt]; done) | (have := mem_cnt l0 x1; simp_all; done) | (have h9 := mem_cnt l0 x1; by_cases hz : l0.count x1 = 0 <;> simp_all <;> omega))
        replace E := E.val (t := 87) rfl hc_30
        replace E := E.val (t := 88) rfl hc_30
        replace E := E.val (t := 89) rfl hc_30
        refine WL_guard_yes E rfl rfl ?_
        refine S_v E rfl (R_move E rfl) rfl ?_
        clear E a; intro a E
        refine WL_guard_yes E rfl rfl ?_
        refine S_v E rfl (R_move E rfl) rfl ?_
        clear E a; intro a E
        refine WL_guard_yes E rfl rfl ?_
        refine S_v E rfl (R_neqB E rfl rfl Try.underlying4) rfl ?_
        clear E a; intro a E
        refine S_v E rfl (R_pickF E rfl rfl) rfl ?_
        clear E a; intro a E
        refine S_v E rfl (R_move E rfl) rfl ?_
        clear E a; intro a E
        have hc_31 : (!(((l0).any (fun x => predAt 2 0 [x1] x 0)) == ((l0).any (fun x => predAt 2 0 [x1] x 0)))) = false := by (clear S E; (try simp only [predx, etk]); first | (simp; done) | decide | exact none_cnt _ _ | exact (none_cnt _ _).symm | (rw [fi_any_neg]; simp; done) | (rw [hg0]; first | done | rfl | (simp; done)) | (rw [fiV_eqx hg1]; simp; done) | (rw [laV_eqx hg1]; simp; done) | (rw [mem_cnt]; simp; done) | (rw [mem_cnt]; first | done | rfl) | (simp [mem_cnt]; done) | (have := mem_cnt l0 x1; simp_all; done) | (have h9 := mem_cnt l0 x1; by_cases hz : l0.count x1 = 0 <;> simp_all <;> omega))
        replace E := E.val (t := 92) rfl hc_31
        replace E := E.val (t := 93) rfl hc_31
        replace E := E.val (t := 94) rfl hc_31
        refine WL_guard_yes E rfl rfl ?_
        refine S_v E rfl (R_move E rfl) rfl ?_
        clear E a; intro a E
        refine WL_guard_yes E rfl rfl ?_
        refine S_v E rfl (R_move E rfl) rfl ?_
        clear E a; intro a E
        refine split_bool ((l0).any (fun x => predAt 2 0 [x1] x 0)) (fun hc_32 => ?_) (fun hc_32 => ?_)
        · replace E := E.val (t := 53) rfl hc_32
          replace E := E.val (t := 12) rfl hc_32
          replace E := E.val (t := 60) rfl hc_32
          replace E := E.val (t := 15) rfl hc_32
          replace E := E.val (t := 66) rfl hc_32
          replace E := E.val (t := 17) rfl hc_32
          replace E := E.val (t := 79) rfl hc_32
          replace E := E.val (t := 85) rfl hc_32
          replace E := E.val (t := 86) rfl hc_32
          replace E := E.val (t := 90) rfl hc_32
          replace E := E.val (t := 91) rfl hc_32
          replace E := E.val (t := 95) rfl hc_32
          replace E := E.val (t := 96) rfl hc_32
          have hg0 := hc_32
          have hg1 : l0.any (eqx x1) = true := (by first | (rw [predx] at hg0; exact hg0) | exact any_of_le hg0 | trivial)
          refine WL_guard_yes E rfl rfl ?_
          refine S_v E rfl (R_move E rfl) rfl ?_
          clear E a; intro a E
          refine WL_guard_yes E rfl rfl ?_
          refine S_v E rfl (R_move E rfl) rfl ?_
          clear E a; intro a E
          refine WL_guard_yes E rfl rfl ?_
          refine S_v E rfl (R_neq E rfl rfl) rfl ?_
          clear E a; intro a E
          refine WL_guard_yes E rfl rfl ?_
          refine S_v E rfl (R_move E rfl) rfl ?_
          clear E a; intro a E
          have hc_33 : (decide (fiV (fun x => predAt 2 0 [x1] x 0) l0 ≠ x1)) = false := by (clear S E; (try simp only [predx, etk]); first | (simp; done) | decide | exact none_cnt _ _ | exact (none_cnt _ _).symm | (rw [fi_any_neg]; simp; done) | (rw [hg0]; first | done | rfl | (simp; done)) | (rw [fiV_eqx hg1]; simp; done) | (rw [laV_eqx hg1]; simp; done) | (rw [mem_cnt]; simp; done) | (rw [mem_cnt]; first | done | rfl) | (simp [mem_cnt]; done) | (have := mem_cnt l0 x1; simp_all; done) | (have h9 := mem_cnt l0 x1; by_cases hz : l0.count x1 = 0 <;> simp_all <;> omega))
          replace E := E.val (t := 99) rfl hc_33
          replace E := E.val (t := 100) rfl hc_33
          refine WL_guard_yes E rfl rfl ?_
          refine S_v E rfl (R_move E rfl) rfl ?_
          clear E a; intro a E
          refine WL_guard_yes E rfl rfl ?_
          refine S_v E rfl (R_move E rfl) rfl ?_
          clear E a; intro a E
          refine WL_guard_yes E rfl rfl ?_
          refine S_v E rfl (R_neq E rfl rfl) rfl ?_
          clear E a; intro a E
          refine WL_guard_yes E rfl rfl ?_
          refine S_v E rfl (R_pickF E rfl rfl) rfl ?_
          clear E a; intro a E
          refine WL_guard_yes E rfl rfl ?_
          refine S_v E rfl (R_move E rfl) rfl ?_
          clear E a; intro a E
          have hc_34 : (decide (laV (fun x => predAt 2 0 [x1] x 0) l0 ≠ x1)) = false := by (clear S E; (try simp only [predx, etk]); first | (simp; done) | decide | exact none_cnt _ _ | exact (none_cnt _ _).symm | (rw [fi_any_neg]; simp; done) | (rw [hg0]; first | done | rfl | (simp; done)) | (rw [fiV_eqx hg1]; simp; done) | (rw [laV_eqx hg1]; simp; done) | (rw [mem_cnt]; simp; done) | (rw [mem_cnt]; first | done | rfl) | (simp [mem_cnt]; done) | (have := mem_cnt l0 x1; simp_all; done) | (have h9 := mem_cnt l0 x1; by_cases hz : l0.count x1 = 0 <;> simp_all <;> omega))
          replace E := E.val (t := 103) rfl hc_34
          replace E := E.val (t := 104) rfl hc_34
          replace E := E.val (t := 105) rfl hc_34
          refine WL_guard_yes E rfl rfl ?_
          refine S_v E rfl (R_move E rfl) rfl ?_
          clear E a; intro a E
          refine WL_guard_yes E rfl rfl ?_
          refine S_v E rfl (R_move E rfl) rfl ?_
          clear E a; intro a E
          refine WL_guard_yes E rfl rfl ?_
          refine S_v E rfl (R_neq E rfl rfl) rfl ?_
          clear E a; intro a E
          refine WL_guard_yes E rfl rfl ?_
          refine S_v E rfl (R_pickF E rfl rfl) rfl ?_
          clear E a; intro a E
          refine WL_guard_yes E rfl rfl ?_
          refine S_v E rfl (R_pickT E rfl rfl) rfl ?_
          clear E a; intro a E
          refine S_v E rfl (R_pickF E rfl rfl) rfl ?_
          clear E a; intro a E
          refine WL_nil ?_
          refine T_n ?_
          have hc_35 : (decide (fiV (fun x => predAt 2 0 [x1] x 0) l0 ≠ x1)) = false := by (clear S E; (try simp only [predx, etk]); first | (simp; done) | decide | exact none_cnt _ _ | exact (none_cnt _ _).symm | (rw [fi_any_neg]; simp; done) | (rw [hg0]; first | done | rfl | (simp; done)) | (rw [fiV_eqx hg1]; simp; done) | (rw [laV_eqx hg1]; simp; done) | (rw [mem_cnt]; simp; done) | (rw [mem_cnt]; first | done | rfl) | (simp [mem_cnt]; done) | (have := mem_cnt l0 x1; simp_all; done) | (have h9 := mem_cnt l0 x1; by_cases hz : l0.count x1 = 0 <;> simp_all <;> omega))
          refine WP_condF E rfl hc_35 ?_
          refine WP_skip ?_
          refine T_n ?_
          refine WP_seq ?_
          refine WP_region ?_
          refine S_v E rfl (R_move E rfl) rfl ?_
          clear E a; intro a E
          refine S_v E rfl (R_move E rfl) rfl ?_
          clear E a; intro a E
          refine S_x (X_pu E S rfl rfl rfl (spec_IndexOf h0) (Hp.le.refl _) ?_)
          clear E a S; rintro a _ w M_36 hM_36 rfl S E
          replace h0 := h0.le hM_36
          replace hz_4 := hz_4.le hM_36
          replace hv_7 := hv_7.le hM_36
          replace hz_19 := hz_19.le hM_36
          replace hb_22 := hM_36.2 _ _ hb_22
          refine S_v E rfl (R_move E rfl) rfl ?_
          clear E a; intro a E
          refine S_v E rfl (R_eql E rfl rfl) rfl ?_
          clear E a; intro a E
          refine S_v E rfl (R_move E rfl) rfl ?_
          clear E a; intro a E
          have hc_37 : (decide (fiI (eqx x1) l0 = fiI (eqx x1) (l0.take k))) = true := by (clear S E; (try simp only [predx, etk]); first | (simp; done) | decide | exact none_cnt _ _ | exact (none_cnt _ _).symm | (rw [fi_any_neg]; simp; done) | (rw [hg0]; first | done | rfl | (simp; done)) | (rw [fiV_eqx hg1]; simp; done) | (rw [laV_eqx hg1]; simp; done) | (rw [mem_cnt]; simp; done) | (rw [mem_cnt]; first | done | rfl) | (simp [mem_cnt]; done) | (have := mem_cnt l0 x1; simp_all; done) | (have h9 := mem_cnt l0 x1; by_cases hz : l0.count x1 = 0 <;> simp_all <;> omega))
          replace E := E.val (t := 116) rfl hc_37
          replace E := E.val (t := 117) rfl hc_37
          refine WL_guard_yes E rfl rfl ?_
          refine S_v E rfl (R_move E rfl) rfl ?_
          clear E a; intro a E
          refine WL_guard_yes E rfl rfl ?_
          refine S_v E rfl (R_move E rfl) rfl ?_
          clear E a; intro a E
          refine WL_guard_yes E rfl rfl ?_
          refine S_x (X_pu E S rfl rfl rfl (spec_LastIndexOf h0) (Hp.le.refl _) ?_)
          clear E a S; rintro a _ w M_38 hM_38 rfl S E
          replace h0 := h0.le hM_38
          replace hz_4 := hz_4.le hM_38
          replace hv_7 := hv_7.le hM_38
          replace hz_19 := hz_19.le hM_38
          replace hb_22 := hM_38.2 _ _ hb_22
          refine WL_guard_yes E rfl rfl ?_
          refine S_v E rfl (R_move E rfl) rfl ?_
          clear E a; intro a E
          refine WL_guard_yes E rfl rfl ?_
          refine S_v E rfl (R_eql E rfl rfl) rfl ?_
          clear E a; intro a E
          refine S_v E rfl (R_pickT E rfl rfl) rfl ?_
          clear E a; intro a E
          refine S_v E rfl (R_move E rfl) rfl ?_
          clear E a; intro a E
          have hc_39 : (decide (laI (eqx x1) l0 = laI (eqx x1) (l0.take k))) = true := by (clear S E; (try simp only [predx, etk]); first | (simp; done) | decide | exact none_cnt _ _ | exact (none_cnt _ _).symm | (rw [fi_any_neg]; simp; done) | (rw [hg0]; first | done | rfl | (simp; done)) | (rw [fiV_eqx hg1]; simp; done) | (rw [laV_eqx hg1]; simp; done) | (rw [mem_cnt]; simp; done) | (rw [mem_cnt]; first | done | rfl) | (simp [mem_cnt]; done) | (have := mem_cnt l0 x1; simp_all; done) | (have h9 := mem_cnt l0 x1; by_cases hz : l0.count x1 = 0 <;> simp_all <;> omega))
          replace E := E.val (t := 122) rfl hc_39
          replace E := E.val (t := 123) rfl hc_39
          replace E := E.val (t := 124) rfl hc_39
          refine WL_guard_yes E rfl rfl ?_
          refine S_v E rfl (R_move E rfl) rfl ?_
          clear E a; intro a E
          refine WL_guard_yes E rfl rfl ?_
          refine S_v E rfl (R_move E rfl) rfl ?_
          clear E a; intro a E
          refine WL_guard_yes E rfl rfl ?_
          refine S_x (X_pu E S rfl rfl rfl (spec_Count h0) (Hp.le.refl _) ?_)
          clear E a S; rintro a _ w M_40 hM_40 rfl S E
          replace h0 := h0.le hM_40
          replace hz_4 := hz_4.le hM_40
          replace hv_7 := hv_7.le hM_40
          replace hz_19 := hz_19.le hM_40
          replace hb_22 := hM_40.2 _ _ hb_22
          refine WL_guard_yes E rfl rfl ?_
          refine S_v E rfl (R_move E rfl) rfl ?_
          clear E a; intro a E
          refine WL_guard_yes E rfl rfl ?_
          refine S_v E rfl (R_eql E rfl rfl) rfl ?_
          clear E a; intro a E
          refine S_v E rfl (R_pickT E rfl rfl) rfl ?_
          clear E a; intro a E
          refine S_v E rfl (R_move E rfl) rfl ?_
          clear E a; intro a E
          have hc_41 : (decide ((((l0).count x1 : Nat) : Int) = (((l0).count x1 : Nat) : Int))) = true := by (clear S E; (try simp only [predx, etk]); first | (simp; done) | decide | exact none_cnt _ _ | exact (none_cnt _ _).symm | (rw [fi_any_neg]; simp; done) | (rw [hg0]; first | done | rfl | (simp; done)) | (rw [fiV_eqx hg1]; simp; done) | (rw [laV_eqx hg1]; simp; done) | (rw [mem_cnt]; simp; done) | (rw [mem_cnt]; first | done | rfl) | (simp [mem_cnt]; done) | (have := mem_cnt l0 x1; simp_all; done) | (have h9 := mem_cnt l0 x1; by_cases hz : l0.count x1 = 0 <;> simp_all <;> omega))
          replace E := E.val (t := 129) rfl hc_41
          replace E := E.val (t := 130) rfl hc_41
          replace E := E.val (t := 131) rfl hc_41
          refine WL_guard_yes E rfl rfl ?_
          refine S_v E rfl (R_move E rfl) rfl ?_
          clear E a; intro a E
          refine WL_guard_yes E rfl rfl ?_
          refine S_v E rfl (R_move E rfl) rfl ?_
          clear E a; intro a E
          refine WL_guard_yes E rfl rfl ?_
          refine S_x (X_pu E S rfl rfl rfl (spec_Contains h0) (Hp.le.refl _) ?_)
          clear E a S; rintro a _ w M_42 hM_42 rfl S E
          replace h0 := h0.le hM_42
          replace hz_4 := hz_4.le hM_42
          replace hv_7 := hv_7.le hM_42
          replace hz_19 := hz_19.le hM_42
          replace hb_22 := hM_42.2 _ _ hb_22
          refine WL_guard_yes E rfl rfl ?_
          refine S_v E rfl (R_move E rfl) rfl ?_
          clear E a; intro a E
          refine WL_guard_yes E rfl rfl ?_
          refine S_v E rfl (R_gtr E rfl rfl) rfl ?_
          clear E a; intro a E
          refine WL_guard_yes E rfl rfl ?_
          refine S_v E rfl (R_eqlB E rfl rfl Try.underlying4) rfl ?_
          clear E a; intro a E
          refine S_v E rfl (R_pickT E rfl rfl) rfl ?_
          clear E a; intro a E
          refine S_v E rfl (R_move E rfl) rfl ?_
          clear E a; intro a E
          have hc_43 : ((decide (x1 ∈ l0)) == (decide (0 < (((l0).count x1 : Nat) : Int)))) = true := by (clear S E; (try simp only [predx, etk]); first | (simp; done) | decide | exact none_cnt _ _ | exact (none_cnt _ _).symm | (rw [fi_any_neg]; simp; done) | (rw [hg0]; first | done | rfl | (simp; done)) | (rw [fiV_eqx hg1]; simp; done) | (rw [laV_eqx hg1]; simp; done) | (rw [mem_cnt]; simp; done) | (rw [mem_cnt]; first | done | rfl) | (simp [mem_cnt]; done) | (have := mem_cnt l0 x1; simp_all; done) | (have h9 := mem_cnt l0 x1; by_cases hz : l0.count x1 = 0 <;> simp_all <;> omega))
          replace E := E.val (t := 137) rfl hc_43
          replace E := E.val (t := 138) rfl hc_43
          replace E := E.val (t := 139) rfl hc_43
          refine WL_guard_yes E rfl rfl ?_
          refine S_v E rfl (R_move E rfl) rfl ?_
          clear E a; intro a E
          refine WL_guard_yes E rfl rfl ?_
          refine S_v E rfl (R_move E rfl) rfl ?_
          clear E a; intro a E
          refine WL_guard_yes E rfl rfl ?_
          refine S_x (X_pu E S rfl rfl rfl (impl_IndexOf h0) (Hp.le.refl _) ?_)
          clear E a S; rintro a _ w M_44 hM_44 rfl S E
          replace h0 := h0.le hM_44
          replace hz_4 := hz_4.le hM_44
          replace hv_7 := hv_7.le hM_44
          replace hz_19 := hz_19.le hM_44
          replace hb_22 := hM_44.2 _ _ hb_22
          refine WL_guard_yes E rfl rfl ?_
          refine S_v E rfl (R_move E rfl) rfl ?_
          clear E a; intro a E
          refine WL_guard_yes E rfl rfl ?_
          refine S_v E rfl (R_eql E rfl rfl) rfl ?_
          clear E a; intro a E
          refine S_v E rfl (R_pickT E rfl rfl) rfl ?_
          clear E a; intro a E
          refine S_v E rfl (R_move E rfl) rfl ?_
          clear E a; intro a E
          have hc_45 : (decide (fiI (eqx x1) l0 = fiI (eqx x1) (l0.take k))) = true := by (clear S E; (try simp only [predx, etk]); first | (simp; done) | decide | exact none_cnt _ _ | exact (none_cnt _ _).symm | (rw [fi_any_neg]; simp; done) | (rw [hg0]; first | done | rfl | (simp; done)) | (rw [fiV_eqx hg1]; simp; done) | (rw [laV_eqx hg1]; simp; done) | (rw [mem_cnt]; simp; done) | (rw [mem_cnt]; first | done | rfl) | (simp [mem_cnt]; done) | (have := mem_cnt l0 x1; simp_all; done) | (have h9 := mem_cnt l0 x1; by_cases hz : l0.count x1 = 0 <;> simp_all <;> omega))
          replace E := E.val (t := 144) rfl hc_45
          replace E := E.val (t := 145) rfl hc_45
          replace E := E.val (t := 146) rfl hc_45
          refine WL_guard_yes E rfl rfl ?_
          refine S_v E rfl (R_move E rfl) rfl ?_
          clear E a; intro a E
          refine WL_guard_yes E rfl rfl ?_
          refine S_v E rfl (R_move E rfl) rfl ?_
          clear E a; intro a E
          refine WL_guard_yes E rfl rfl ?_
          refine S_x (X_pu E S rfl rfl rfl (impl_LastIndexOf h0) (Hp.le.refl _) ?_)
          clear E a S; rintro a _ w M_46 hM_46 rfl S E
          replace h0 := h0.le hM_46
          replace hz_4 := hz_4.le hM_46
          replace hv_7 := hv_7.le hM_46
          replace hz_19 := hz_19.le hM_46
          replace hb_22 := hM_46.2 _ _ hb_22
          refine WL_guard_yes E rfl rfl ?_
          refine S_v E rfl (R_move E rfl) rfl ?_
          clear E a; intro a E
          refine WL_guard_yes E rfl rfl ?_
          refine S_v E rfl (R_eql E rfl rfl) rfl ?_
          clear E a; intro a E
          refine S_v E rfl (R_pickT E rfl rfl) rfl ?_
          clear E a; intro a E
          refine S_v E rfl (R_move E rfl) rfl ?_
          clear E a; intro a E
          have hc_47 : (decide (laI (eqx x1) l0 = laI (eqx x1) (l0.take k))) = true := by (clear S E; (try simp only [predx, etk]); first | (simp; done) | decide | exact none_cnt _ _ | exact (none_cnt _ _).symm | (rw [fi_any_neg]; simp; done) | (rw [hg0]; first | done | rfl | (simp; done)) | (rw [fiV_eqx hg1]; simp; done) | (rw [laV_eqx hg1]; simp; done) | (rw [mem_cnt]; simp; done) | (rw [mem_cnt]; first | done | rfl) | (simp [mem_cnt]; done) | (have := mem_cnt l0 x1; simp_all; done) | (have h9 := mem_cnt l0 x1; by_cases hz : l0.count x1 = 0 <;> simp_all <;> omega))
          replace E := E.val (t := 151) rfl hc_47
          replace E := E.val (t := 152) rfl hc_47
          replace E := E.val (t := 153) rfl hc_47
          refine WL_guard_yes E rfl rfl ?_
          refine S_v E rfl (R_move E rfl) rfl ?_
          clear E a; intro a E
          refine WL_guard_yes E rfl rfl ?_
          refine S_v E rfl (R_move E rfl) rfl ?_
          clear E a; intro a E
          refine WL_guard_yes E rfl rfl ?_
          refine S_x (X_pu E S rfl rfl rfl (impl_IndexOfSeq h0) (Hp.le.refl _) ?_)
          clear E a S; rintro a _ w M_48 hM_48 rfl S E
          replace h0 := h0.le hM_48
          replace hz_4 := hz_4.le hM_48
          replace hv_7 := hv_7.le hM_48
          replace hz_19 := hz_19.le hM_48
          replace hb_22 := hM_48.2 _ _ hb_22
          refine WL_guard_yes E rfl rfl ?_
          refine S_v E rfl (R_move E rfl) rfl ?_
          clear E a; intro a E
          refine WL_guard_yes E rfl rfl ?_
          refine S_v E rfl (R_eql E rfl rfl) rfl ?_
          clear E a; intro a E
          refine S_v E rfl (R_pickT E rfl rfl) rfl ?_
          clear E a; intro a E
          refine S_v E rfl (R_move E rfl) rfl ?_
          clear E a; intro a E
          have hc_49 : (decide (fiI (eqx x1) l0 = fiI (eqx x1) (l0.take k))) = true := by (clear S E; (try simp only [predx, etk]); first | (simp; done) | decide | exact none_cnt _ _ | exact (none_cnt _ _).symm | (rw [fi_any_neg]; simp; done) | (rw [hg0]; first | done | rfl | (simp; done)) | (rw [fiV_eqx hg1]; simp; done) | (rw [laV_eqx hg1]; simp; done) | (rw [mem_cnt]; simp; done) | (rw [mem_cnt]; first | done | rfl) | (simp [mem_cnt]; done) | (have := mem_cnt l0 x1; simp_all; done) | (have h9 := mem_cnt l0 x1; by_cases hz : l0.count x1 = 0 <;> simp_all <;> omega))
          replace E := E.val (t := 158) rfl hc_49
          replace E := E.val (t := 159) rfl hc_49
          replace E := E.val (t := 160) rfl hc_49
          refine WL_guard_yes E rfl rfl ?_
          refine S_v E rfl (R_move E rfl) rfl ?_
          clear E a; intro a E
          refine WL_guard_yes E rfl rfl ?_
          refine S_v E rfl (R_move E rfl) rfl ?_
          clear E a; intro a E
          refine WL_guard_yes E rfl rfl ?_
          refine S_x (X_pu E S rfl rfl rfl (impl_LastIndexOfSeq h0) (Hp.le.refl _) ?_)
          clear E a S; rintro a _ w M_50 hM_50 rfl S E
          replace h0 := h0.le hM_50
          replace hz_4 := hz_4.le hM_50
          replace hv_7 := hv_7.le hM_50
          replace hz_19 := hz_19.le hM_50
          replace hb_22 := hM_50.2 _ _ hb_22
          refine WL_guard_yes E rfl rfl ?_
          refine S_v E rfl (R_move E rfl) rfl ?_
          clear E a; intro a E
          refine WL_guard_yes E rfl rfl ?_
          refine S_v E rfl (R_eql E rfl rfl) rfl ?_
          clear E a; intro a E
          refine S_v E rfl (R_pickT E rfl rfl) rfl ?_
          clear E a; intro a E
          refine S_v E rfl (R_move E rfl) rfl ?_
          clear E a; intro a E
          have hc_51 : (decide (laI (eqx x1) l0 = laI (eqx x1) (l0.take k))) = true := by (clear S E; (try simp only [predx, etk]); first | (simp; done) | decide | exact none_cnt _ _ | exact (none_cnt _ _).symm | (rw [fi_any_neg]; simp; done) | (rw [hg0]; first | done | rfl | (simp; done)) | (rw [fiV_eqx hg1]; simp; done) | (rw [laV_eqx hg1]; simp; done) | (rw [mem_cnt]; simp; done) | (rw [mem_cnt]; first | done | rfl) | (simp [mem_cnt]; done) | (have := mem_cnt l0 x1; simp_all; done) | (have h9 := mem_cnt l0 x1; by_cases hz : l0.count x1 = 0 <;> simp_all <;> omega))
          replace E := E.val (t := 165) rfl hc_51
          replace E := E.val (t := 166) rfl hc_51
          replace E := E.val (t := 167) rfl hc_51
          refine WL_guard_yes E rfl rfl ?_
          refine S_v E rfl (R_move E rfl) rfl ?_
          clear E a; intro a E
          refine WL_guard_yes E rfl rfl ?_
          refine S_v E rfl (R_move E rfl) rfl ?_
          clear E a; intro a E
          refine WL_guard_yes E rfl rfl ?_
          refine S_x (X_pu E S rfl rfl rfl (impl_Count h0) (Hp.le.refl _) ?_)
          clear E a S; rintro a _ w M_52 hM_52 rfl S E
          replace h0 := h0.le hM_52
          replace hz_4 := hz_4.le hM_52
          replace hv_7 := hv_7.le hM_52
          replace hz_19 := hz_19.le hM_52
          replace hb_22 := hM_52.2 _ _ hb_22
          refine WL_guard_yes E rfl rfl ?_
          refine S_v E rfl (R_move E rfl) rfl ?_
          clear E a; intro a E
          refine WL_guard_yes E rfl rfl ?_
          refine S_v E rfl (R_eql E rfl rfl) rfl ?_
          clear E a; intro a E
          refine S_v E rfl (R_pickT E rfl rfl) rfl ?_
          clear E a; intro a E
          refine S_v E rfl (R_move E rfl) rfl ?_
          clear E a; intro a E
          have hc_53 : (decide ((((l0).count x1 : Nat) : Int) = (((l0).count x1 : Nat) : Int))) = true := by (clear S E; (try simp only [predx, etk]); first | (simp; done) | decide | exact none_cnt _ _ | exact (none_cnt _ _).symm | (rw [fi_any_neg]; simp; done) | (rw [hg0]; first | done | rfl | (simp; done)) | (rw [fiV_eqx hg1]; simp; done) | (rw [laV_eqx hg1]; simp; done) | (rw [mem_cnt]; simp; done) | (rw [mem_cnt]; first | done | rfl) | (simp [mem_cnt]; done) | (have := mem_cnt l0 x1; simp_all; done) | (have h9 := mem_cnt l0 x1; by_cases hz : l0.count x1 = 0 <;> simp_all <;> omega))
          replace E := E.val (t := 172) rfl hc_53
          replace E := E.val (t := 173) rfl hc_53
          replace E := E.val (t := 174) rfl hc_53
          refine WL_guard_yes E rfl rfl ?_
          refine S_v E rfl (R_move E rfl) rfl ?_
          clear E a; intro a E
          refine WL_guard_yes E rfl rfl ?_
          refine S_v E rfl (R_move E rfl) rfl ?_
          clear E a; intro a E
          refine WL_guard_yes E rfl rfl ?_
          refine S_x (X_pu E S rfl rfl rfl (impl_CountSeq h0 (by (first | omega | (simp; omega) | (simp; done) | (simp_all; omega) | grind))) (Hp.le.refl _) ?_)
          clear E a S; rintro a _ w M_54 hM_54 rfl S E
          replace h0 := h0.le hM_54
          replace hz_4 := hz_4.le hM_54
          replace hv_7 := hv_7.le hM_54
          replace hz_19 := hz_19.le hM_54
          replace hb_22 := hM_54.2 _ _ hb_22
          refine WL_guard_yes E rfl rfl ?_
          refine S_v E rfl (R_move E rfl) rfl ?_
          clear E a; intro a E
          refine WL_guard_yes E rfl rfl ?_
          refine S_v E rfl (R_eql E rfl rfl) rfl ?_
          clear E a; intro a E
          refine S_v E rfl (R_pickT E rfl rfl) rfl ?_
          clear E a; intro a E
          refine S_v E rfl (R_move E rfl) rfl ?_
          clear E a; intro a E
          have hc_55 : (decide ((((l0).count x1 : Nat) : Int) = (((l0).count x1 : Nat) : Int))) = true := by (clear S E; (try simp only [predx, etk]); first | (simp; done) | decide | exact none_cnt _ _ | exact (none_cnt _ _).symm | (rw [fi_any_neg]; simp; done) | (rw [hg0]; first | done | rfl | (simp; done)) | (rw [fiV_eqx hg1]; simp; done) | (rw [laV_eqx hg1]; simp; done) | (rw [mem_cnt]; simp; done) | (rw [mem_cnt]; first | done | rfl) | (simp [mem_cnt]; done) | (have := mem_cnt l0 x1; simp_all; done) | (have h9 := mem_cnt l0 x1; by_cases hz : l0.count x1 = 0 <;> simp_all <;> omega))
          replace E := E.val (t := 179) rfl hc_55
          replace E := E.val (t := 180) rfl hc_55
          replace E := E.val (t := 181) rfl hc_55
          refine WL_guard_yes E rfl rfl ?_
          refine S_v E rfl (R_move E rfl) rfl ?_
          clear E a; intro a E
          refine WL_guard_yes E rfl rfl ?_
          refine S_v E rfl (R_move E rfl) rfl ?_
          clear E a; intro a E
          refine WL_guard_yes E rfl rfl ?_
          refine S_x (X_pu E S rfl rfl rfl (impl_Contains h0) (Hp.le.refl _) ?_)
          clear E a S; rintro a _ w M_56 hM_56 rfl S E
          replace h0 := h0.le hM_56
          replace hz_4 := hz_4.le hM_56
          replace hv_7 := hv_7.le hM_56
          replace hz_19 := hz_19.le hM_56
          replace hb_22 := hM_56.2 _ _ hb_22
          refine WL_guard_yes E rfl rfl ?_
          refine S_v E rfl (R_move E rfl) rfl ?_
          clear E a; intro a E
          refine WL_guard_yes E rfl rfl ?_
          refine S_v E rfl (R_gtr E rfl rfl) rfl ?_
          clear E a; intro a E
          refine WL_guard_yes E rfl rfl ?_
          refine S_v E rfl (R_eqlB E rfl rfl Try.underlying4) rfl ?_
          clear E a; intro a E
          refine S_v E rfl (R_pickT E rfl rfl) rfl ?_
          clear E a; intro a E
          refine S_v E rfl (R_move E rfl) rfl ?_
          clear E a; intro a E
          have hc_57 : ((decide (x1 ∈ l0)) == (decide (0 < (((l0).count x1 : Nat) : Int)))) = true := by (clear S E; (try simp only [predx, etk]); first | (simp; done) | decide | exact none_cnt _ _ | exact (none_cnt _ _).symm | (rw [fi_any_neg]; simp; done) | (rw [hg0]; first | done | rfl | (simp; done)) | (rw [fiV_eqx hg1]; simp; done) | (rw [laV_eqx hg1]; simp; done) | (rw [mem_cnt]; simp; done) | (rw [mem_cnt]; first | done | rfl) | (simp [mem_cnt]; done) | (have := mem_cnt l0 x1; simp_all; done) | (have h9 := mem_cnt l0 x1; by_cases hz : l0.count x1 = 0 <;> simp_all <;> omega))
          replace E := E.val (t := 187) rfl hc_57
          replace E := E.val (t := 188) rfl hc_57
          replace E := E.val (t := 189) rfl hc_57
          refine WL_guard_yes E rfl rfl ?_
          refine S_v E rfl (R_move E rfl) rfl ?_
          clear E a; intro a E
          refine WL_guard_yes E rfl rfl ?_
          refine S_v E rfl (R_move E rfl) rfl ?_
          clear E a; intro a E
          refine WL_guard_yes E rfl rfl ?_
          refine S_x (X_pu E S rfl rfl rfl (impl_ContainsSeq h0) (Hp.le.refl _) ?_)
          clear E a S; rintro a _ w M_58 hM_58 rfl S E
          replace h0 := h0.le hM_58
          replace hz_4 := hz_4.le hM_58
          replace hv_7 := hv_7.le hM_58
          replace hz_19 := hz_19.le hM_58
          replace hb_22 := hM_58.2 _ _ hb_22
          refine WL_guard_yes E rfl rfl ?_
          refine S_v E rfl (R_move E rfl) rfl ?_
          clear E a; intro a E
          refine WL_guard_yes E rfl rfl ?_
          refine S_v E rfl (R_gtr E rfl rfl) rfl ?_
          clear E a; intro a E
          refine WL_guard_yes E rfl rfl ?_
          refine S_v E rfl (R_eqlB E rfl rfl Try.underlying4) rfl ?_
          clear E a; intro a E
          refine S_v E rfl (R_pickT E rfl rfl) rfl ?_
          clear E a; intro a E
          refine S_v E rfl (R_move E rfl) rfl ?_
          clear E a; intro a E
          have hc_59 : ((decide (x1 ∈ l0)) == (decide (0 < (((l0).count x1 : Nat) : Int)))) = true := by (clear S E; (try simp only [predx, etk]); first | (simp; done) | decide | exact none_cnt _ _ | exact (none_cnt _ _).symm | (rw [fi_any_neg]; simp; done) | (rw [hg0]; first | done | rfl | (simp; done)) | (rw [fiV_eqx hg1]; simp; done) | (rw [laV_eqx hg1]; simp; done) | (rw [mem_cnt]; simp; done) | (rw [mem_cnt]; first | done | rfl) | (simp [mem_cnt]; done) | (have := mem_cnt l0 x1; simp_all; done) | (have h9 := mem_cnt l0 x1; by_cases hz : l0.count x1 = 0 <;> simp_all <;> omega))
          replace E := E.val (t := 195) rfl hc_59
          replace E := E.val (t := 196) rfl hc_59
          replace E := E.val (t := 197) rfl hc_59
          refine WL_guard_yes E rfl rfl ?_
          refine S_v E rfl (R_move E rfl) rfl ?_
          clear E a; intro a E
          refine WL_guard_yes E rfl rfl ?_
          refine S_v E rfl (R_move E rfl) rfl ?_
          clear E a; intro a E
          refine WL_guard_yes E rfl rfl ?_
          refine S_x (X_buildI (ys := [x1]) E S rfl T22 rfl rfl rfl ?_)
          clear E a S; rintro a w v_60 E S
          have S0 := S; clear S
          obtain ⟨M_61, hM_61, hz_62, S⟩ := S0.freezeI (by (first | omega | (simp; omega) | (simp; done) | (simp_all; omega) | grind))
          clear S0
          replace h0 := h0.le hM_61
          replace hz_4 := hz_4.le hM_61
          replace hv_7 := hv_7.le hM_61
          replace hz_19 := hz_19.le hM_61
          replace hb_22 := hM_61.2 _ _ hb_22
          refine WL_guard_yes E rfl rfl ?_
          refine S_x (X_pu E S rfl rfl rfl (impl_Every h0 hz_62) (Hp.le.refl _) ?_)
          clear E a S; rintro a _ w M_63 hM_63 rfl S E
          replace h0 := h0.le hM_63
          replace hz_4 := hz_4.le hM_63
          replace hv_7 := hv_7.le hM_63
          replace hz_19 := hz_19.le hM_63
          replace hb_22 := hM_63.2 _ _ hb_22
          replace hz_62 := hz_62.le hM_63
          refine WL_guard_yes E rfl rfl ?_
          refine S_v E rfl (R_move E rfl) rfl ?_
          clear E a; intro a E
          refine WL_guard_yes E rfl rfl ?_
          refine S_v E rfl (R_gtr E rfl rfl) rfl ?_
          clear E a; intro a E
          refine WL_guard_yes E rfl rfl ?_
          refine S_v E rfl (R_eqlB E rfl rfl Try.underlying4) rfl ?_
          clear E a; intro a E
          refine S_v E rfl (R_pickT E rfl rfl) rfl ?_
          clear E a; intro a E
          refine S_v E rfl (R_move E rfl) rfl ?_
          clear E a; intro a E
          have hc_64 : ((([x1]).all (fun y => decide (y ∈ l0))) == (decide (0 < (((l0).count x1 : Nat) : Int)))) = true := by (clear S E; (try simp only [predx, etk]); first | (simp; done) | decide | exact none_cnt _ _ | exact (none_cnt _ _).symm | (rw [fi_any_neg]; simp; done) | (rw [hg0]; first | done | rfl | (simp; done)) | (rw [fiV_eqx hg1]; simp; done) | (rw [laV_eqx hg1]; simp; done) | (rw [mem_cnt]; simp; done) | (rw [mem_cnt]; first | done | rfl) | (simp [mem_cnt]; done) | (have := mem_cnt l0 x1; simp_all; done) | (have h9 := mem_cnt l0 x1; by_cases hz : l0.count x1 = 0 <;> simp_all <;> omega))
          replace E := E.val (t := 204) rfl hc_64
          replace E := E.val (t := 205) rfl hc_64
          replace E := E.val (t := 206) rfl hc_64
          refine WL_guard_yes E rfl rfl ?_
          refine S_v E rfl (R_move E rfl) rfl ?_
          clear E a; intro a E
          refine WL_guard_yes E rfl rfl ?_
          refine S_v E rfl (R_move E rfl) rfl ?_
          clear E a; intro a E
          refine WL_guard_yes E rfl rfl ?_
          refine S_x (X_buildI (ys := [x1]) E S rfl T22 rfl rfl rfl ?_)
          clear E a S; rintro a w v_65 E S
          have S0 := S; clear S
          obtain ⟨M_66, hM_66, hz_67, S⟩ := S0.freezeI (by (first | omega | (simp; omega) | (simp; done) | (simp_all; omega) | grind))
          clear S0
          replace h0 := h0.le hM_66
          replace hz_4 := hz_4.le hM_66
          replace hv_7 := hv_7.le hM_66
          replace hz_19 := hz_19.le hM_66
          replace hb_22 := hM_66.2 _ _ hb_22
          replace hz_62 := hz_62.le hM_66
          refine WL_guard_yes E rfl rfl ?_
          refine S_x (X_pu E S rfl rfl rfl (impl_Some h0 hz_67) (Hp.le.refl _) ?_)
          clear E a S; rintro a _ w M_68 hM_68 rfl S E
          replace h0 := h0.le hM_68
          replace hz_4 := hz_4.le hM_68
          replace hv_7 := hv_7.le hM_68
          replace hz_19 := hz_19.le hM_68
          replace hb_22 := hM_68.2 _ _ hb_22
          replace hz_62 := hz_62.le hM_68
          replace hz_67 := hz_67.le hM_68
          refine WL_guard_yes E rfl rfl ?_
          refine S_v E rfl (R_move E rfl) rfl ?_
          clear E a; intro a E
          refine WL_guard_yes E rfl rfl ?_
          refine S_v E rfl (R_gtr E rfl rfl) rfl ?_
          clear E a; intro a E
          refine WL_guard_yes E rfl rfl ?_
          refine S_v E rfl (R_eqlB E rfl rfl Try.underlying4) rfl ?_
          clear E a; intro a E
          refine S_v E rfl (R_pickT E rfl rfl) rfl ?_
          clear E a; intro a E
          refine S_v E rfl (R_move E rfl) rfl ?_
          clear E a; intro a E
          have hc_69 : ((([x1]).any (fun y => decide (y ∈ l0))) == (decide (0 < (((l0).count x1 : Nat) : Int)))) = true := by (clear S E; (try simp only [predx, etk]); first | (simp; done) | decide | exact none_cnt _ _ | exact (none_cnt _ _).symm | (rw [fi_any_neg]; simp; done) | (rw [hg0]; first | done | rfl | (simp; done)) | (rw [fiV_eqx hg1]; simp; done) | (rw [laV_eqx hg1]; simp; done) | (rw [mem_cnt]; simp; done) | (rw [mem_cnt]; first | done | rfl) | (simp [mem_cnt]; done) | (have := mem_cnt l0 x1; simp_all; done) | (have h9 := mem_cnt l0 x1; by_cases hz : l0.count x1 = 0 <;> simp_all <;> omega))
          replace E := E.val (t := 213) rfl hc_69
          replace E := E.val (t := 214) rfl hc_69
          replace E := E.val (t := 215) rfl hc_69
          refine WL_guard_yes E rfl rfl ?_
          refine S_v E rfl (R_move E rfl) rfl ?_
          clear E a; intro a E
          refine WL_guard_yes E rfl rfl ?_
          refine S_v E rfl (R_move E rfl) rfl ?_
          clear E a; intro a E
          refine WL_guard_yes E rfl rfl ?_
          refine S_x (X_buildI (ys := [x1]) E S rfl T22 rfl rfl rfl ?_)
          clear E a S; rintro a w v_70 E S
          have S0 := S; clear S
          obtain ⟨M_71, hM_71, hz_72, S⟩ := S0.freezeI (by (first | omega | (simp; omega) | (simp; done) | (simp_all; omega) | grind))
          clear S0
          replace h0 := h0.le hM_71
          replace hz_4 := hz_4.le hM_71
          replace hv_7 := hv_7.le hM_71
          replace hz_19 := hz_19.le hM_71
          replace hb_22 := hM_71.2 _ _ hb_22
          replace hz_62 := hz_62.le hM_71
          replace hz_67 := hz_67.le hM_71
          refine WL_guard_yes E rfl rfl ?_
          refine S_x (X_pu E S rfl rfl rfl (impl_None h0 hz_72) (Hp.le.refl _) ?_)
          clear E a S; rintro a _ w M_73 hM_73 rfl S E
          replace h0 := h0.le hM_73
          replace hz_4 := hz_4.le hM_73
          replace hv_7 := hv_7.le hM_73
          replace hz_19 := hz_19.le hM_73
          replace hb_22 := hM_73.2 _ _ hb_22
          replace hz_62 := hz_62.le hM_73
          replace hz_67 := hz_67.le hM_73
          replace hz_72 := hz_72.le hM_73
          refine WL_guard_yes E rfl rfl ?_
          refine S_v E rfl (R_move E rfl) rfl ?_
          clear E a; intro a E
          refine WL_guard_yes E rfl rfl ?_
          refine S_v E rfl (R_eql E rfl rfl) rfl ?_
          clear E a; intro a E
          refine WL_guard_yes E rfl rfl ?_
          refine S_v E rfl (R_eqlB E rfl rfl Try.underlying4) rfl ?_
          clear E a; intro a E
          refine S_v E rfl (R_pickT E rfl rfl) rfl ?_
          clear E a; intro a E
          refine S_v E rfl (R_assign E rfl) rfl ?_
          clear E a; intro a E
          refine WL_nil ?_
          refine T_n ?_
          refine WP_ret ?_
          exact F_ret1 E Try.results5 rfl ⟨_, rfl, M_73, (hM_3.trans (hM_5.trans (hM_8.trans (hM_9.trans (hM_11.trans (hM_18.trans (hM_21.trans (hM_23.trans (hM_24.trans (hM_25.trans (hM_26.trans (hM_36.trans (hM_38.trans (hM_40.trans (hM_42.trans (hM_44.trans (hM_46.trans (hM_48.trans (hM_50.trans (hM_52.trans (hM_54.trans (hM_56.trans (hM_58.trans (hM_61.trans (hM_63.trans (hM_66.trans (hM_68.trans (hM_71.trans hM_73)))))))))))))))))))))))))))), (congrArg Value.bool (by (clear S E; (try simp only [predx, etk]); first | (simp; done) | decide | exact none_cnt _ _ | exact (none_cnt _ _).symm | (rw [fi_any_neg]; simp; done) | (rw [hg0]; first | done | rfl | (simp; done)) | (rw [fiV_eqx hg1]; simp; done) | (rw [laV_eqx hg1]; simp; done) | (rw [mem_cnt]; simp; done) | (rw [mem_cnt]; first | done | rfl) | (simp [mem_cnt]; done) | (have := mem_cnt l0 x1; simp_all; done) | (have h9 := mem_cnt l0 x1; by_cases hz : l0.count x1 = 0 <;> simp_all <;> omega)))), S⟩
        · replace E := E.val (t := 53) rfl hc_32
          replace E := E.val (t := 12) rfl hc_32
          replace E := E.val (t := 60) rfl hc_32
          replace E := E.val (t := 15) rfl hc_32
          replace E := E.val (t := 66) rfl hc_32
          replace E := E.val (t := 17) rfl hc_32
          replace E := E.val (t := 79) rfl hc_32
          replace E := E.val (t := 85) rfl hc_32
          replace E := E.val (t := 86) rfl hc_32
          replace E := E.val (t := 90) rfl hc_32
          replace E := E.val (t := 91) rfl hc_32
          replace E := E.val (t := 95) rfl hc_32
          replace E := E.val (t := 96) rfl hc_32
          have hg0 := hc_32
          refine WL_guard_no E rfl rfl rfl rfl fun a E => ?_
          refine WL_guard_no E rfl rfl rfl rfl fun a E => ?_
          refine WL_guard_no E rfl rfl rfl rfl fun a E => ?_
          refine WL_guard_no E rfl rfl rfl rfl fun a E => ?_
          refine WL_guard_un E rfl rfl rfl fun a E => ?_
          refine WL_guard_un E rfl rfl rfl fun a E => ?_
          refine WL_guard_un E rfl rfl rfl fun a E => ?_
          refine WL_guard_no E rfl rfl rfl rfl fun a E => ?_
          refine WL_guard_no E rfl rfl rfl rfl fun a E => ?_
          refine WL_guard_un E rfl rfl rfl fun a E => ?_
          refine WL_guard_un E rfl rfl rfl fun a E => ?_
          refine WL_guard_un E rfl rfl rfl fun a E => ?_
          refine WL_guard_no E rfl rfl rfl rfl fun a E => ?_
          refine WL_guard_yes E rfl rfl ?_
          refine S_v E rfl (R_pickF E rfl rfl) rfl ?_
          clear E a; intro a E
          refine S_v E rfl (R_pickF E rfl rfl) rfl ?_
          clear E a; intro a E
          refine WL_nil ?_
          refine T_n ?_
          refine WP_condF E rfl rfl ?_
          refine WP_skip ?_
          refine T_n ?_
          refine WP_seq ?_
          refine WP_region ?_
          refine S_v E rfl (R_move E rfl) rfl ?_
          clear E a; intro a E
          refine S_v E rfl (R_move E rfl) rfl ?_
          clear E a; intro a E
          refine S_x (X_pu E S rfl rfl rfl (spec_IndexOf h0) (Hp.le.refl _) ?_)
          clear E a S; rintro a _ w M_74 hM_74 rfl S E
          replace h0 := h0.le hM_74
          replace hz_4 := hz_4.le hM_74
          replace hv_7 := hv_7.le hM_74
          replace hz_19 := hz_19.le hM_74
          replace hb_22 := hM_74.2 _ _ hb_22
          refine S_v E rfl (R_move E rfl) rfl ?_
          clear E a; intro a E
          refine S_v E rfl (R_eql E rfl rfl) rfl ?_
          clear E a; intro a E
          refine S_v E rfl (R_move E rfl) rfl ?_
          clear E a; intro a E
          have hc_75 : (decide (fiI (eqx x1) l0 = fiI (eqx x1) (l0.take k))) = true := by (clear S E; (try simp only [predx, etk]); first | (simp; done) | decide | exact none_cnt _ _ | exact (none_cnt _ _).symm | (rw [fi_any_neg]; simp; done) | (rw [hg0]; first | done | rfl | (simp; done)) | (rw [fiV_eqx hg1]; simp; done) | (rw [laV_eqx hg1]; simp; done) | (rw [mem_cnt]; simp; done) | (rw [mem_cnt]; first | done | rfl) | (simp [mem_cnt]; done) | (have := mem_cnt l0 x1; simp_all; done) | (have h9 := mem_cnt l0 x1; by_cases hz : l0.count x1 = 0 <;> simp_all <;> omega))
          replace E := E.val (t := 116) rfl hc_75
          replace E := E.val (t := 117) rfl hc_75
          refine WL_guard_yes E rfl rfl ?_
          refine S_v E rfl (R_move E rfl) rfl ?_
          clear E a; intro a E
          refine WL_guard_yes E rfl rfl ?_
          refine S_v E rfl (R_move E rfl) rfl ?_
          clear E a; intro a E
          refine WL_guard_yes E rfl rfl ?_
          refine S_x (X_pu E S rfl rfl rfl (spec_LastIndexOf h0) (Hp.le.refl _) ?_)
          clear E a S; rintro a _ w M_76 hM_76 rfl S E
          replace h0 := h0.le hM_76
          replace hz_4 := hz_4.le hM_76
          replace hv_7 := hv_7.le hM_76
          replace hz_19 := hz_19.le hM_76
          replace hb_22 := hM_76.2 _ _ hb_22
          refine WL_guard_yes E rfl rfl ?_
          refine S_v E rfl (R_move E rfl) rfl ?_
          clear E a; intro a E
          refine WL_guard_yes E rfl rfl ?_
          refine S_v E rfl (R_eql E rfl rfl) rfl ?_
          clear E a; intro a E
          refine S_v E rfl (R_pickT E rfl rfl) rfl ?_
          clear E a; intro a E
          refine S_v E rfl (R_move E rfl) rfl ?_
          clear E a; intro a E
          have hc_77 : (decide (laI (eqx x1) l0 = laI (eqx x1) (l0.take k))) = true := by (clear S E; (try simp only [predx, etk]); first | (simp; done) | decide | exact none_cnt _ _ | exact (none_cnt _ _).symm | (rw [fi_any_neg]; simp; done) | (rw [hg0]; first | done | rfl | (simp; done)) | (rw [fiV_eqx hg1]; simp; done) | (rw [laV_eqx hg1]; simp; done) | (rw [mem_cnt]; simp; done) | (rw [mem_cnt]; first | done | rfl) | (simp [mem_cnt]; done) | (have := mem_cnt l0 x1; simp_all; done) | (have h9 := mem_cnt l0 x1; by_cases hz : l0.count x1 = 0 <;> simp_all <;> omega))
          replace E := E.val (t := 122) rfl hc_77
          replace E := E.val (t := 123) rfl hc_77
          replace E := E.val (t := 124) rfl hc_77
          refine WL_guard_yes E rfl rfl ?_
          refine S_v E rfl (R_move E rfl) rfl ?_
          clear E a; intro a E
          refine WL_guard_yes E rfl rfl ?_
          refine S_v E rfl (R_move E rfl) rfl ?_
          clear E a; intro a E
          refine WL_guard_yes E rfl rfl ?_
          refine S_x (X_pu E S rfl rfl rfl (spec_Count h0) (Hp.le.refl _) ?_)
          clear E a S; rintro a _ w M_78 hM_78 rfl S E
          replace h0 := h0.le hM_78
          replace hz_4 := hz_4.le hM_78
          replace hv_7 := hv_7.le hM_78
          replace hz_19 := hz_19.le hM_78
          replace hb_22 := hM_78.2 _ _ hb_22
          refine WL_guard_yes E rfl rfl ?_
          refine S_v E rfl (R_move E rfl) rfl ?_
          clear E a; intro a E
          refine WL_guard_yes E rfl rfl ?_
          refine S_v E rfl (R_eql E rfl rfl) rfl ?_
          clear E a; intro a E
          refine S_v E rfl (R_pickT E rfl rfl) rfl ?_
          clear E a; intro a E
          refine S_v E rfl (R_move E rfl) rfl ?_
          clear E a; intro a E
          have hc_79 : (decide ((((l0).count x1 : Nat) : Int) = (((l0).count x1 : Nat) : Int))) = true := by (clear S E; (try simp only [predx, etk]); first | (simp; done) | decide | exact none_cnt _ _ | exact (none_cnt _ _).symm | (rw [fi_any_neg]; simp; done) | (rw [hg0]; first | done | rfl | (simp; done)) | (rw [fiV_eqx hg1]; simp; done) | (rw [laV_eqx hg1]; simp; done) | (rw [mem_cnt]; simp; done) | (rw [mem_cnt]; first | done | rfl) | (simp [mem_cnt]; done) | (have := mem_cnt l0 x1; simp_all; done) | (have h9 := mem_cnt l0 x1; by_cases hz : l0.count x1 = 0 <;> simp_all <;> omega))
          replace E := E.val (t := 129) rfl hc_79
          replace E := E.val (t := 130) rfl hc_79
          replace E := E.val (t := 131) rfl hc_79
          refine WL_guard_yes E rfl rfl ?_
          refine S_v E rfl (R_move E rfl) rfl ?_
          clear E a; intro a E
          refine WL_guard_yes E rfl rfl ?_
          refine S_v E rfl (R_move E rfl) rfl ?_
          clear E a; intro a E
          refine WL_guard_yes E rfl rfl ?_
          refine S_x (X_pu E S rfl rfl rfl (spec_Contains h0) (Hp.le.refl _) ?_)
          clear E a S; rintro a _ w M_80 hM_80 rfl S E
          replace h0 := h0.le hM_80
          replace hz_4 := hz_4.le hM_80
          replace hv_7 := hv_7.le hM_80
          replace hz_19 := hz_19.le hM_80
          replace hb_22 := hM_80.2 _ _ hb_22
          refine WL_guard_yes E rfl rfl ?_
          refine S_v E rfl (R_move E rfl) rfl ?_
          clear E a; intro a E
          refine WL_guard_yes E rfl rfl ?_
          refine S_v E rfl (R_gtr E rfl rfl) rfl ?_
          clear E a; intro a E
          refine WL_guard_yes E rfl rfl ?_
          refine S_v E rfl (R_eqlB E rfl rfl Try.underlying4) rfl ?_
          clear E a; intro a E
          refine S_v E rfl (R_pickT E rfl rfl) rfl ?_
          clear E a; intro a E
          refine S_v E rfl (R_move E rfl) rfl ?_
          clear E a; intro a E
          have hc_81 : ((decide (x1 ∈ l0)) == (decide (0 < (((l0).count x1 : Nat) : Int)))) = true := by (clear S E; (try simp only [predx, etk]); first | (simp; done) | decide | exact none_cnt _ _ | exact (none_cnt _ _).symm | (rw [fi_any_neg]; simp; done) | (rw [hg0]; first | done | rfl | (simp; done)) | (rw [fiV_eqx hg1]; simp; done) | (rw [laV_eqx hg1]; simp; done) | (rw [mem_cnt]; simp; done) | (rw [mem_cnt]; first | done | rfl) | (simp [mem_cnt]; done) | (have := mem_cnt l0 x1; simp_all; done) | (have h9 := mem_cnt l0 x1; by_cases hz : l0.count x1 = 0 <;> simp_all <;> omega))
          replace E := E.val (t := 137) rfl hc_81
          replace E := E.val (t := 138) rfl hc_81
          replace E := E.val (t := 139) rfl hc_81
          refine WL_guard_yes E rfl rfl ?_
          refine S_v E rfl (R_move E rfl) rfl ?_
          clear E a; intro a E
          refine WL_guard_yes E rfl rfl ?_
          refine S_v E rfl (R_move E rfl) rfl ?_
          clear E a; intro a E
          refine WL_guard_yes E rfl rfl ?_
          refine S_x (X_pu E S rfl rfl rfl (impl_IndexOf h0) (Hp.le.refl _) ?_)
          clear E a S; rintro a _ w M_82 hM_82 rfl S E
          replace h0 := h0.le hM_82
          replace hz_4 := hz_4.le hM_82
          replace hv_7 := hv_7.le hM_82
          replace hz_19 := hz_19.le hM_82
          replace hb_22 := hM_82.2 _ _ hb_22
          refine WL_guard_yes E rfl rfl ?_
          refine S_v E rfl (R_move E rfl) rfl ?_
          clear E a; intro a E
          refine WL_guard_yes E rfl rfl ?_
          refine S_v E rfl (R_eql E rfl rfl) rfl ?_
          clear E a; intro a E
          refine S_v E rfl (R_pickT E rfl rfl) rfl ?_
          clear E a; intro a E
          refine S_v E rfl (R_move E rfl) rfl ?_
          clear E a; intro a E
          have hc_83 : (decide (fiI (eqx x1) l0 = fiI (eqx x1) (l0.take k))) = true := by (clear S E; (try simp only [predx, etk]); first | (simp; done) | decide | exact none_cnt _ _ | exact (none_cnt _ _).symm | (rw [fi_any_neg]; simp; done) | (rw [hg0]; first | done | rfl | (simp; done)) | (rw [fiV_eqx hg1]; simp; done) | (rw [laV_eqx hg1]; simp; done) | (rw [mem_cnt]; simp; done) | (rw [mem_cnt]; first | done | rfl) | (simp [mem_cnt]; done) | (have := mem_cnt l0 x1; simp_all; done) | (have h9 := mem_cnt l0 x1; by_cases hz : l0.count x1 = 0 <;> simp_all <;> omega))
          replace E := E.val (t := 144) rfl hc_83
          replace E := E.val (t := 145) rfl hc_83
          replace E := E.val (t := 146) rfl hc_83
          refine WL_guard_yes E rfl rfl ?_
          refine S_v E rfl (R_move E rfl) rfl ?_
          clear E a; intro a E
          refine WL_guard_yes E rfl rfl ?_
          refine S_v E rfl (R_move E rfl) rfl ?_
          clear E a; intro a E
          refine WL_guard_yes E rfl rfl ?_
          refine S_x (X_pu E S rfl rfl rfl (impl_LastIndexOf h0) (Hp.le.refl _) ?_)
          clear E a S; rintro a _ w M_84 hM_84 rfl S E
          replace h0 := h0.le hM_84
          replace hz_4 := hz_4.le hM_84
          replace hv_7 := hv_7.le hM_84
          replace hz_19 := hz_19.le hM_84
          replace hb_22 := hM_84.2 _ _ hb_22
          refine WL_guard_yes E rfl rfl ?_
          refine S_v E rfl (R_move E rfl) rfl ?_
          clear E a; intro a E
          refine WL_guard_yes E rfl rfl ?_
          refine S_v E rfl (R_eql E rfl rfl) rfl ?_
          clear E a; intro a E
          refine S_v E rfl (R_pickT E rfl rfl) rfl ?_
          clear E a; intro a E
          refine S_v E rfl (R_move E rfl) rfl ?_
          clear E a; intro a E
          have hc_85 : (decide (laI (eqx x1) l0 = laI (eqx x1) (l0.take k))) = true := by (clear S E; (try simp only [predx, etk]); first | (simp; done) | decide | exact none_cnt _ _ | exact (none_cnt _ _).symm | (rw [fi_any_neg]; simp; done) | (rw [hg0]; first | done | rfl | (simp; done)) | (rw [fiV_eqx hg1]; simp; done) | (rw [laV_eqx hg1]; simp; done) | (rw [mem_cnt]; simp; done) | (rw [mem_cnt]; first | done | rfl) | (simp [mem_cnt]; done) | (have := mem_cnt l0 x1; simp_all; done) | (have h9 := mem_cnt l0 x1; by_cases hz : l0.count x1 = 0 <;> simp_all <;> omega))
          replace E := E.val (t := 151) rfl hc_85
          replace E := E.val (t := 152) rfl hc_85
          replace E := E.val (t := 153) rfl hc_85
          refine WL_guard_yes E rfl rfl ?_
          refine S_v E rfl (R_move E rfl) rfl ?_
          clear E a; intro a E
          refine WL_guard_yes E rfl rfl ?_
          refine S_v E rfl (R_move E rfl) rfl ?_
          clear E a; intro a E
          refine WL_guard_yes E rfl rfl ?_
          refine S_x (X_pu E S rfl rfl rfl (impl_IndexOfSeq h0) (Hp.le.refl _) ?_)
          clear E a S; rintro a _ w M_86 hM_86 rfl S E
          replace h0 := h0.le hM_86
          replace hz_4 := hz_4.le hM_86
          replace hv_7 := hv_7.le hM_86
          replace hz_19 := hz_19.le hM_86
          replace hb_22 := hM_86.2 _ _ hb_22
          refine WL_guard_yes E rfl rfl ?_
          refine S_v E rfl (R_move E rfl) rfl ?_
          clear E a; intro a E
          refine WL_guard_yes E rfl rfl ?_
          refine S_v E rfl (R_eql E rfl rfl) rfl ?_
          clear E a; intro a E
          refine S_v E rfl (R_pickT E rfl rfl) rfl ?_
          clear E a; intro a E
          refine S_v E rfl (R_move E rfl) rfl ?_
          clear E a; intro a E
          have hc_87 : (decide (fiI (eqx x1) l0 = fiI (eqx x1) (l0.take k))) = true := by (clear S E; (try simp only [predx, etk]); first | (simp; done) | decide | exact none_cnt _ _ | exact (none_cnt _ _).symm | (rw [fi_any_neg]; simp; done) | (rw [hg0]; first | done | rfl | (simp; done)) | (rw [fiV_eqx hg1]; simp; done) | (rw [laV_eqx hg1]; simp; done) | (rw [mem_cnt]; simp; done) | (rw [mem_cnt]; first | done | rfl) | (simp [mem_cnt]; done) | (have := mem_cnt l0 x1; simp_all; done) | (have h9 := mem_cnt l0 x1; by_cases hz : l0.count x1 = 0 <;> simp_all <;> omega))
          replace E := E.val (t := 158) rfl hc_87
          replace E := E.val (t := 159) rfl hc_87
          replace E := E.val (t := 160) rfl hc_87
          refine WL_guard_yes E rfl rfl ?_
          refine S_v E rfl (R_move E rfl) rfl ?_
          clear E a; intro a E
          refine WL_guard_yes E rfl rfl ?_
          refine S_v E rfl (R_move E rfl) rfl ?_
          clear E a; intro a E
          refine WL_guard_yes E rfl rfl ?_
          refine S_x (X_pu E S rfl rfl rfl (impl_LastIndexOfSeq h0) (Hp.le.refl _) ?_)
          clear E a S; rintro a _ w M_88 hM_88 rfl S E
          replace h0 := h0.le hM_88
          replace hz_4 := hz_4.le hM_88
          replace hv_7 := hv_7.le hM_88
          replace hz_19 := hz_19.le hM_88
          replace hb_22 := hM_88.2 _ _ hb_22
          refine WL_guard_yes E rfl rfl ?_
          refine S_v E rfl (R_move E rfl) rfl ?_
          clear E a; intro a E
          refine WL_guard_yes E rfl rfl ?_
          refine S_v E rfl (R_eql E rfl rfl) rfl ?_
          clear E a; intro a E
          refine S_v E rfl (R_pickT E rfl rfl) rfl ?_
          clear E a; intro a E
          refine S_v E rfl (R_move E rfl) rfl ?_
          clear E a; intro a E
          have hc_89 : (decide (laI (eqx x1) l0 = laI (eqx x1) (l0.take k))) = true := by (clear S E; (try simp only [predx, etk]); first | (simp; done) | decide | exact none_cnt _ _ | exact (none_cnt _ _).symm | (rw [fi_any_neg]; simp; done) | (rw [hg0]; first | done | rfl | (simp; done)) | (rw [fiV_eqx hg1]; simp; done) | (rw [laV_eqx hg1]; simp; done) | (rw [mem_cnt]; simp; done) | (rw [mem_cnt]; first | done | rfl) | (simp [mem_cnt]; done) | (have := mem_cnt l0 x1; simp_all; done) | (have h9 := mem_cnt l0 x1; by_cases hz : l0.count x1 = 0 <;> simp_all <;> omega))
          replace E := E.val (t := 165) rfl hc_89
          replace E := E.val (t := 166) rfl hc_89
          replace E := E.val (t := 167) rfl hc_89
          refine WL_guard_yes E rfl rfl ?_
          refine S_v E rfl (R_move E rfl) rfl ?_
          clear E a; intro a E
          refine WL_guard_yes E rfl rfl ?_
          refine S_v E rfl (R_move E rfl) rfl ?_
          clear E a; intro a E
          refine WL_guard_yes E rfl rfl ?_
          refine S_x (X_pu E S rfl rfl rfl (impl_Count h0) (Hp.le.refl _) ?_)
          clear E a S; rintro a _ w M_90 hM_90 rfl S E
          replace h0 := h0.le hM_90
          replace hz_4 := hz_4.le hM_90
          replace hv_7 := hv_7.le hM_90
          replace hz_19 := hz_19.le hM_90
          replace hb_22 := hM_90.2 _ _ hb_22
          refine WL_guard_yes E rfl rfl ?_
          refine S_v E rfl (R_move E rfl) rfl ?_
          clear E a; intro a E
          refine WL_guard_yes E rfl rfl ?_
          refine S_v E rfl (R_eql E rfl rfl) rfl ?_
          clear E a; intro a E
          refine S_v E rfl (R_pickT E rfl rfl) rfl ?_
          clear E a; intro a E
          refine S_v E rfl (R_move E rfl) rfl ?_
          clear E a; intro a E
          have hc_91 : (decide ((((l0).count x1 : Nat) : Int) = (((l0).count x1 : Nat) : Int))) = true := by (clear S E; (try simp only [predx, etk]); first | (simp; done) | decide | exact none_cnt _ _ | exact (none_cnt _ _).symm | (rw [fi_any_neg]; simp; done) | (rw [hg0]; first | done | rfl | (simp; done)) | (rw [fiV_eqx hg1]; simp; done) | (rw [laV_eqx hg1]; simp; done) | (rw [mem_cnt]; simp; done) | (rw [mem_cnt]; first | done | rfl) | (simp [mem_cnt]; done) | (have := mem_cnt l0 x1; simp_all; done) | (have h9 := mem_cnt l0 x1; by_cases hz : l0.count x1 = 0 <;> simp_all <;> omega))
          replace E := E.val (t := 172) rfl hc_91
          replace E := E.val (t := 173) rfl hc_91
          replace E := E.val (t := 174) rfl hc_91
          refine WL_guard_yes E rfl rfl ?_
          refine S_v E rfl (R_move E rfl) rfl ?_
          clear E a; intro a E
          refine WL_guard_yes E rfl rfl ?_
          refine S_v E rfl (R_move E rfl) rfl ?_
          clear E a; intro a E
          refine WL_guard_yes E rfl rfl ?_
          refine S_x (X_pu E S rfl rfl rfl (impl_CountSeq h0 (by (first | omega | (simp; omega) | (simp; done) | (simp_all; omega) | grind))) (Hp.le.refl _) ?_)
          clear E a S; rintro a _ w M_92 hM_92 rfl S E
          replace h0 := h0.le hM_92
          replace hz_4 := hz_4.le hM_92
          replace hv_7 := hv_7.le hM_92
          replace hz_19 := hz_19.le hM_92
          replace hb_22 := hM_92.2 _ _ hb_22
          refine WL_guard_yes E rfl rfl ?_
          refine S_v E rfl (R_move E rfl) rfl ?_
          clear E a; intro a E
          refine WL_guard_yes E rfl rfl ?_
          refine S_v E rfl (R_eql E rfl rfl) rfl ?_
          clear E a; intro a E
          refine S_v E rfl (R_pickT E rfl rfl) rfl ?_
          clear E a; intro a E
          refine S_v E rfl (R_move E rfl) rfl ?_
          clear E a; intro a E
          have hc_93 : (decide ((((l0).count x1 : Nat) : Int) = (((l0).count x1 : Nat) : Int))) = true := by (clear S E; (try simp only [predx, etk]); first | (simp; done) | decide | exact none_cnt _ _ | exact (none_cnt _ _).symm | (rw [fi_any_neg]; simp; done) | (rw [hg0]; first | done | rfl | (simp; done)) | (rw [fiV_eqx hg1]; simp; done) | (rw [laV_eqx hg1]; simp; done) | (rw [mem_cnt]; simp; done) | (rw [mem_cnt]; first | done | rfl) | (simp [mem_cnt]; done) | (have := mem_cnt l0 x1; simp_all; done) | (have h9 := mem_cnt l0 x1; by_cases hz : l0.count x1 = 0 <;> simp_all <;> omega))
          replace E := E.val (t := 179) rfl hc_93
          replace E := E.val (t := 180) rfl hc_93
          replace E := E.val (t := 181) rfl hc_93
          refine WL_guard_yes E rfl rfl ?_
          refine S_v E rfl (R_move E rfl) rfl ?_
          clear E a; intro a E
          refine WL_guard_yes E rfl rfl ?_
          refine S_v E rfl (R_move E rfl) rfl ?_
          clear E a; intro a E
          refine WL_guard_yes E rfl rfl ?_
          refine S_x (X_pu E S rfl rfl rfl (impl_Contains h0) (Hp.le.refl _) ?_)
          clear E a S; rintro a _ w M_94 hM_94 rfl S E
          replace h0 := h0.le hM_94
          replace hz_4 := hz_4.le hM_94
          replace hv_7 := hv_7.le hM_94
          replace hz_19 := hz_19.le hM_94
          replace hb_22 := hM_94.2 _ _ hb_22
          refine WL_guard_yes E rfl rfl ?_
          refine S_v E rfl (R_move E rfl) rfl ?_
          clear E a; intro a E
          refine WL_guard_yes E rfl rfl ?_
          refine S_v E rfl (R_gtr E rfl rfl) rfl ?_
          clear E a; intro a E
          refine WL_guard_yes E rfl rfl ?_
          refine S_v E rfl (R_eqlB E rfl rfl Try.underlying4) rfl ?_
          clear E a; intro a E
          refine S_v E rfl (R_pickT E rfl rfl) rfl ?_
          clear E a; intro a E
          refine S_v E rfl (R_move E rfl) rfl ?_
          clear E a; intro a E
          have hc_95 : ((decide (x1 ∈ l0)) == (decide (0 < (((l0).count x1 : Nat) : Int)))) = true := by (clear S E; (try simp only [predx, etk]); first | (simp; done) | decide | exact none_cnt _ _ | exact (none_cnt _ _).symm | (rw [fi_any_neg]; simp; done) | (rw [hg0]; first | done | rfl | (simp; done)) | (rw [fiV_eqx hg1]; simp; done) | (rw [laV_eqx hg1]; simp; done) | (rw [mem_cnt]; simp; done) | (rw [mem_cnt]; first | done | rfl) | (simp [mem_cnt]; done) | (have := mem_cnt l0 x1; simp_all; done) | (have h9 := mem_cnt l0 x1; by_cases hz : l0.count x1 = 0 <;> simp_all <;> omega))
          replace E := E.val (t := 187) rfl hc_95
          replace E := E.val (t := 188) rfl hc_95
          replace E := E.val (t := 189) rfl hc_95
          refine WL_guard_yes E rfl rfl ?_
          refine S_v E rfl (R_move E rfl) rfl ?_
          clear E a; intro a E
          refine WL_guard_yes E rfl rfl ?_
          refine S_v E rfl (R_move E rfl) rfl ?_
          clear E a; intro a E
          refine WL_guard_yes E rfl rfl ?_
          refine S_x (X_pu E S rfl rfl rfl (impl_ContainsSeq h0) (Hp.le.refl _) ?_)
          clear E a S; rintro a _ w M_96 hM_96 rfl S E
          replace h0 := h0.le hM_96
          replace hz_4 := hz_4.le hM_96
          replace hv_7 := hv_7.le hM_96
          replace hz_19 := hz_19.le hM_96
          replace hb_22 := hM_96.2 _ _ hb_22
          refine WL_guard_yes E rfl rfl ?_
          refine S_v E rfl (R_move E rfl) rfl ?_
          clear E a; intro a E
          refine WL_guard_yes E rfl rfl ?_
          refine S_v E rfl (R_gtr E rfl rfl) rfl ?_
          clear E a; intro a E
          refine WL_guard_yes E rfl rfl ?_
          refine S_v E rfl (R_eqlB E rfl rfl Try.underlying4) rfl ?_
          clear E a; intro a E
          refine S_v E rfl (R_pickT E rfl rfl) rfl ?_
          clear E a; intro a E
          refine S_v E rfl (R_move E rfl) rfl ?_
          clear E a; intro a E
          have hc_97 : ((decide (x1 ∈ l0)) == (decide (0 < (((l0).count x1 : Nat) : Int)))) = true := by (clear S E; (try simp only [predx, etk]); first | (simp; done) | decide | exact none_cnt _ _ | exact (none_cnt _ _).symm | (rw [fi_any_neg]; simp; done) | (rw [hg0]; first | done | rfl | (simp; done)) | (rw [fiV_eqx hg1]; simp; done) | (rw [laV_eqx hg1]; simp; done) | (rw [mem_cnt]; simp; done) | (rw [mem_cnt]; first | done | rfl) | (simp [mem_cnt]; done) | (have := mem_cnt l0 x1; simp_all; done) | (have h9 := mem_cnt l0 x1; by_cases hz : l0.count x1 = 0 <;> simp_all <;> omega))
          replace E := E.val (t := 195) rfl hc_97
          replace E := E.val (t := 196) rfl hc_97
          replace E := E.val (t := 197) rfl hc_97
          refine WL_guard_yes E rfl rfl ?_
          refine S_v E rfl (R_move E rfl) rfl ?_
          clear E a; intro a E
          refine WL_guard_yes E rfl rfl ?_
          refine S_v E rfl (R_move E rfl) rfl ?_
          clear E a; intro a E
          refine WL_guard_yes E rfl rfl ?_
          refine S_x (X_buildI (ys := [x1]) E S rfl T22 rfl rfl rfl ?_)
          clear E a S; rintro a w v_98 E S
          have S0 := S; clear S
          obtain ⟨M_99, hM_99, hz_100, S⟩ := S0.freezeI (by (first | omega | (simp; omega) | (simp; done) | (simp_all; omega) | grind))
          clear S0
          replace h0 := h0.le hM_99
          replace hz_4 := hz_4.le hM_99
          replace hv_7 := hv_7.le hM_99
          replace hz_19 := hz_19.le hM_99
          replace hb_22 := hM_99.2 _ _ hb_22
          refine WL_guard_yes E rfl rfl ?_
          refine S_x (X_pu E S rfl rfl rfl (impl_Every h0 hz_100) (Hp.le.refl _) ?_)
          clear E a S; rintro a _ w M_101 hM_101 rfl S E
          replace h0 := h0.le hM_101
          replace hz_4 := hz_4.le hM_101
          replace hv_7 := hv_7.le hM_101
          replace hz_19 := hz_19.le hM_101
          replace hb_22 := hM_101.2 _ _ hb_22
          replace hz_100 := hz_100.le hM_101
          refine WL_guard_yes E rfl rfl ?_
          refine S_v E rfl (R_move E rfl) rfl ?_
          clear E a; intro a E
          refine WL_guard_yes E rfl rfl ?_
          refine S_v E rfl (R_gtr E rfl rfl) rfl ?_
          clear E a; intro a E
          refine WL_guard_yes E rfl rfl ?_
          refine S_v E rfl (R_eqlB E rfl rfl Try.underlying4) rfl ?_
          clear E a; intro a E
          refine S_v E rfl (R_pickT E rfl rfl) rfl ?_
          clear E a; intro a E
          refine S_v E rfl (R_move E rfl) rfl ?_
          clear E a; intro a E
          have hc_102 : ((([x1]).all (fun y => decide (y ∈ l0))) == (decide (0 < (((l0).count x1 : Nat) : Int)))) = true := by (clear S E; (try simp only [predx, etk]); first | (simp; done) | decide | exact none_cnt _ _ | exact (none_cnt _ _).symm | (rw [fi_any_neg]; simp; done) | (rw [hg0]; first | done | rfl | (simp; done)) | (rw [fiV_eqx hg1]; simp; done) | (rw [laV_eqx hg1]; simp; done) | (rw [mem_cnt]; simp; done) | (rw [mem_cnt]; first | done | rfl) | (simp [mem_cnt]; done) | (have := mem_cnt l0 x1; simp_all; done) | (have h9 := mem_cnt l0 x1; by_cases hz : l0.count x1 = 0 <;> simp_all <;> omega))
          replace E := E.val (t := 204) rfl hc_102
          replace E := E.val (t := 205) rfl hc_102
          replace E := E.val (t := 206) rfl hc_102
          refine WL_guard_yes E rfl rfl ?_
          refine S_v E rfl (R_move E rfl) rfl ?_
          clear E a; intro a E
          refine WL_guard_yes E rfl rfl ?_
          refine S_v E rfl (R_move E rfl) rfl ?_
          clear E a; intro a E
          refine WL_guard_yes E rfl rfl ?_
          refine S_x (X_buildI (ys := [x1]) E S rfl T22 rfl rfl rfl ?_)
          clear E a S; rintro a w v_103 E S
          have S0 := S; clear S
          obtain ⟨M_104, hM_104, hz_105, S⟩ := S0.freezeI (by (first | omega | (simp; omega) | (simp; done) | (simp_all; omega) | grind))
          clear S0
          replace h0 := h0.le hM_104
          replace hz_4 := hz_4.le hM_104
          replace hv_7 := hv_7.le hM_104
          replace hz_19 := hz_19.le hM_104
          replace hb_22 := hM_104.2 _ _ hb_22
          replace hz_100 := hz_100.le hM_104
          refine WL_guard_yes E rfl rfl ?_
          refine S_x (X_pu E S rfl rfl rfl (impl_Some h0 hz_105) (Hp.le.refl _) ?_)
          clear E a S; rintro a _ w M_106 hM_106 rfl S E
          replace h0 := h0.le hM_106
          replace hz_4 := hz_4.le hM_106
          replace hv_7 := hv_7.le hM_106
          replace hz_19 := hz_19.le hM_106
          replace hb_22 := hM_106.2 _ _ hb_22
          replace hz_100 := hz_100.le hM_106
          replace hz_105 := hz_105.le hM_106
          refine WL_guard_yes E rfl rfl ?_
          refine S_v E rfl (R_move E rfl) rfl ?_
          clear E a; intro a E
          refine WL_guard_yes E rfl rfl ?_
          refine S_v E rfl (R_gtr E rfl rfl) rfl ?_
          clear E a; intro a E
          refine WL_guard_yes E rfl rfl ?_
          refine S_v E rfl (R_eqlB E rfl rfl Try.underlying4) rfl ?_
          clear E a; intro a E
          refine S_v E rfl (R_pickT E rfl rfl) rfl ?_
          clear E a; intro a E
          refine S_v E rfl (R_move E rfl) rfl ?_
          clear E a; intro a E
          have hc_107 : ((([x1]).any (fun y => decide (y ∈ l0))) == (decide (0 < (((l0).count x1 : Nat) : Int)))) = true := by (clear S E; (try simp only [predx, etk]); first | (simp; done) | decide | exact none_cnt _ _ | exact (none_cnt _ _).symm | (rw [fi_any_neg]; simp; done) | (rw [hg0]; first | done | rfl | (simp; done)) | (rw [fiV_eqx hg1]; simp; done) | (rw [laV_eqx hg1]; simp; done) | (rw [mem_cnt]; simp; done) | (rw [mem_cnt]; first | done | rfl) | (simp [mem_cnt]; done) | (have := mem_cnt l0 x1; simp_all; done) | (have h9 := mem_cnt l0 x1; by_cases hz : l0.count x1 = 0 <;> simp_all <;> omega))
          replace E := E.val (t := 213) rfl hc_107
          replace E := E.val (t := 214) rfl hc_107
          replace E := E.val (t := 215) rfl hc_107
          refine WL_guard_yes E rfl rfl ?_
          refine S_v E rfl (R_move E rfl) rfl ?_
          clear E a; intro a E
          refine WL_guard_yes E rfl rfl ?_
          refine S_v E rfl (R_move E rfl) rfl ?_
          clear E a; intro a E
          refine WL_guard_yes E rfl rfl ?_
          refine S_x (X_buildI (ys := [x1]) E S rfl T22 rfl rfl rfl ?_)
          clear E a S; rintro a w v_108 E S
          have S0 := S; clear S
          obtain ⟨M_109, hM_109, hz_110, S⟩ := S0.freezeI (by (first | omega | (simp; omega) | (simp; done) | (simp_all; omega) | grind))
          clear S0
          replace h0 := h0.le hM_109
          replace hz_4 := hz_4.le hM_109
          replace hv_7 := hv_7.le hM_109
          replace hz_19 := hz_19.le hM_109
          replace hb_22 := hM_109.2 _ _ hb_22
          replace hz_100 := hz_100.le hM_109
          replace hz_105 := hz_105.le hM_109
          refine WL_guard_yes E rfl rfl ?_
          refine S_x (X_pu E S rfl rfl rfl (impl_None h0 hz_110) (Hp.le.refl _) ?_)
          clear E a S; rintro a _ w M_111 hM_111 rfl S E
          replace h0 := h0.le hM_111
          replace hz_4 := hz_4.le hM_111
          replace hv_7 := hv_7.le hM_111
          replace hz_19 := hz_19.le hM_111
          replace hb_22 := hM_111.2 _ _ hb_22
          replace hz_100 := hz_100.le hM_111
          replace hz_105 := hz_105.le hM_111
          replace hz_110 := hz_110.le hM_111
          refine WL_guard_yes E rfl rfl ?_
          refine S_v E rfl (R_move E rfl) rfl ?_
          clear E a; intro a E
          refine WL_guard_yes E rfl rfl ?_
          refine S_v E rfl (R_eql E rfl rfl) rfl ?_
          clear E a; intro a E
          refine WL_guard_yes E rfl rfl ?_
          refine S_v E rfl (R_eqlB E rfl rfl Try.underlying4) rfl ?_
          clear E a; intro a E
          refine S_v E rfl (R_pickT E rfl rfl) rfl ?_
          clear E a; intro a E
          refine S_v E rfl (R_assign E rfl) rfl ?_
          clear E a; intro a E
          refine WL_nil ?_
          refine T_n ?_
          refine WP_ret ?_
          exact F_ret1 E Try.results5 rfl ⟨_, rfl, M_111, (hM_3.trans (hM_5.trans (hM_8.trans (hM_9.trans (hM_11.trans (hM_18.trans (hM_21.trans (hM_23.trans (hM_24.trans (hM_25.trans (hM_26.trans (hM_74.trans (hM_76.trans (hM_78.trans (hM_80.trans (hM_82.trans (hM_84.trans (hM_86.trans (hM_88.trans (hM_90.trans (hM_92.trans (hM_94.trans (hM_96.trans (hM_99.trans (hM_101.trans (hM_104.trans (hM_106.trans (hM_109.trans hM_111)))))))))))))))))))))))))))), (congrArg Value.bool (by (clear S E; (try simp only [predx, etk]); first | (simp; done) | decide | exact none_cnt _ _ | exact (none_cnt _ _).symm | (rw [fi_any_neg]; simp; done) | (rw [hg0]; first | done | rfl | (simp; done)) | (rw [fiV_eqx hg1]; simp; done) | (rw [laV_eqx hg1]; simp; done) | (rw [mem_cnt]; simp; done) | (rw [mem_cnt]; first | done | rfl) | (simp [mem_cnt]; done) | (have := mem_cnt l0 x1; simp_all; done) | (have h9 := mem_cnt l0 x1; by_cases hz : l0.count x1 = 0 <;> simp_all <;> omega)))), S⟩

end Go.Proofs.Ytgljcnmakpnamaa.wFnPlaces
