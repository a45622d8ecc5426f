/- Walks through the functions that laws.FnMapRoads reaches: what each computes; no conditions beyond what each theorem states. -/
import Derived.Test.YtealhfcckjdclaaWFnMapRoadsa
set_option linter.unusedVariables false
set_option linter.unusedSimpArgs false
namespace Go.Proofs.Ytealhfcckjdclaa.wFnMapRoads
open Go Go.Sl
set_option maxRecDepth 100000 in
set_option maxHeartbeats 4000000 in
theorem laws_FnMapRoads {M : Hp} {v0 : Value} {l0 : List Int} (h0 : RdI M v0 l0){kk1 kn1 : Int} (gk1 : -9223372036854775808 ≤ kn1 ∧ kn1 ≤ 9223372036854775807) (hr0 : (∀ x ∈ l0, -9223372036854775808 ≤ x ∧ x ≤ 9223372036854775807)) :
    PuC Try.prog 9 M [v0, .agg #[.int .i64 kk1, .int .i64 kn1]] (fun r M' => r = .bool true) := by
  refine PuC_enter Try.func9 rfl Try.ntmps9 rfl ?_
  intro a w M1 H hM1 S E
  replace h0 := h0.le hM1
  have b0 := h0.bound
  refine WP_seq ?_
  refine WP_region ?_
  refine S_x (X_box (cs := #[.int .i64 kk1, .int .i64 kn1]) E S rfl rfl rfl ?_)
  clear E a S; rintro a w b_1 E S
  obtain ⟨M_2, hM_2, hb_1, S⟩ := S.freezeB
  replace h0 := h0.le hM_2
  refine S_v E rfl (R_assign E rfl) rfl ?_
  clear E a; intro a E
  refine WL_nil ?_
  refine T_n ?_
  refine WP_seq ?_
  refine WP_seq ?_
  refine WP_region ?_
  refine S_v E rfl (R_move E rfl) rfl ?_
  clear E a; intro a E
  refine S_v E rfl (R_lenV E rfl T22 h0.len) rfl ?_
  clear E a; intro a E
  refine S_v E rfl (R_gtr E rfl rfl) rfl ?_
  clear E a; intro a E
  refine WL_nil ?_
  refine T_n ?_
  refine WP_cond E rfl (fun hc_3 => ?_) (fun hc_3 => ?_)
  · replace hc_3 := of_decide_eq_true hc_3
    refine WP_seq ?_
    refine WP_region ?_
    refine S_v E rfl (R_assign E rfl) rfl ?_
    clear E a; intro a E
    refine WL_nil ?_
    refine T_n ?_
    refine WP_ret ?_
    refine T_r ?_
    exact F_ret1 E Try.results9 rfl ⟨_, rfl, M_2, hM_2, rfl, S⟩
  · replace hc_3 := of_decide_eq_false hc_3
    refine WP_skip ?_
    refine T_n ?_
    refine WP_seq ?_
    refine WP_seq ?_
    refine WP_region ?_
    refine S_x (X_buildI (ys := [1]) E S rfl T22 rfl rfl rfl ?_)
    clear E a S; rintro a w v_4 E S
    refine S_v E rfl (R_loadGM E rfl (Try.isAgg34 _) (Try.sizeOf34 _) S.imm hb_1) rfl ?_
    clear E a; intro a E
    have S0 := S; clear S
    obtain ⟨M_5, hM_5, hz_6, S⟩ := S0.freezeI (by (first | omega | (simp; omega) | (simp; done) | (simp_all; omega) | grind))
    clear S0
    replace h0 := h0.le hM_5
    replace hb_1 := hM_5.2 _ _ hb_1
    refine S_x (X_pu E S rfl rfl rfl (impl_Map hz_6 (by omega) (by (first | omega | (simp; omega) | (simp; done) | (simp_all; omega) | grind))) (Hp.le.refl _) ?_)
    clear E a S; rintro a v_8 w M_7 hM_7 hv_8 S E
    replace h0 := h0.le hM_7
    replace hb_1 := hM_7.2 _ _ hb_1
    replace hz_6 := hz_6.le hM_7
    refine S_v E rfl (R_lenV E rfl T22 hv_8.len) rfl ?_
    clear E a; intro a E
    refine S_v E rfl (R_neq E rfl rfl) rfl ?_
    clear E a; intro a E
    refine WL_nil ?_
    refine T_n ?_
    have hc_9 : (decide ((((mapI (keyAt kk1 kn1) 0 [1]).length : Nat) : Int) ≠ 1)) = false := by first | rfl | (simp [mapI]; done)
    refine WP_condF E rfl hc_9 ?_
    refine WP_skip ?_
    refine T_n ?_
    refine WP_seq ?_
    refine WP_seq ?_
    refine WP_region ?_
    refine S_v E rfl (R_move E rfl) rfl ?_
    clear E a; intro a E
    refine S_x (X_buildM (R := RSl 1 RInt) (vs := [v0]) (xs := [l0]) (RSl_mono RInt_mono) E S rfl T36 rfl rfl rfl (by intro u hu; simp only [List.mem_cons, List.not_mem_nil, or_false] at hu; rcases hu with rfl <;> first | exact RdI.one h0 | rfl) rfl (rowsC (R := RSl 1 RInt) (RdI.row h0) rowsN) ?_)
    clear E a S; rintro a v_10 w M_11 hM_11 hv_10 S E
    replace hv_10 : RdII M_11 v_10 [l0] := hv_10
    replace h0 := h0.le hM_11
    replace hb_1 := hM_11.2 _ _ hb_1
    replace hz_6 := hz_6.le hM_11
    replace hv_8 := hv_8.le hM_11
    refine S_x (X_pu E S rfl rfl rfl (laws_few hv_10) (Hp.le.refl _) ?_)
    clear E a S; rintro a _ w M_12 hM_12 rfl S E
    replace h0 := h0.le hM_12
    replace hb_1 := hM_12.2 _ _ hb_1
    replace hz_6 := hz_6.le hM_12
    replace hv_8 := hv_8.le hM_12
    replace hv_10 := hv_10.le hM_12
    refine S_v E rfl (R_not E rfl) rfl ?_
    clear E a; intro a E
    refine S_v E rfl (R_move E rfl) rfl ?_
    clear E a; intro a E
    refine split_bool (!(decide (∀ x ∈ [l0], x.length ≤ 300))) (fun hc_13 => ?_) (fun hc_13 => ?_)
    · replace E := E.val (t := 21) rfl hc_13
      replace E := E.val (t := 22) rfl hc_13
      refine WL_guard_no E rfl rfl rfl rfl fun a E => ?_
      refine WL_guard_no E rfl rfl rfl rfl fun a E => ?_
      refine WL_guard_no E rfl rfl rfl rfl fun a E => ?_
      refine S_v E rfl (R_pickT E rfl rfl) rfl ?_
      clear E a; intro a E
      refine WL_nil ?_
      refine T_n ?_
      refine WP_condT E rfl rfl ?_
      refine WP_seq ?_
      refine WP_region ?_
      refine S_v E rfl (R_assign E rfl) rfl ?_
      clear E a; intro a E
      refine WL_nil ?_
      refine T_n ?_
      refine WP_ret ?_
      refine T_r ?_
      exact F_ret1 E Try.results9 rfl ⟨_, rfl, M_12, (hM_2.trans (hM_5.trans (hM_7.trans (hM_11.trans hM_12)))), rfl, S⟩
    · replace E := E.val (t := 21) rfl hc_13
      replace E := E.val (t := 22) rfl hc_13
      refine WL_guard_yes E rfl rfl ?_
      refine S_v E rfl (R_loadGM E rfl (Try.isAgg34 _) (Try.sizeOf34 _) S.imm hb_1) rfl ?_
      clear E a; intro a E
      refine WL_guard_yes E rfl rfl ?_
      refine S_x (X_pu E S rfl rfl rfl (laws_just (by omega)) (Hp.le.refl _) ?_)
      clear E a S; rintro a _ w M_14 hM_14 rfl S E
      replace h0 := h0.le hM_14
      replace hb_1 := hM_14.2 _ _ hb_1
      replace hz_6 := hz_6.le hM_14
      replace hv_8 := hv_8.le hM_14
      replace hv_10 := hv_10.le hM_14
      refine WL_guard_yes E rfl rfl ?_
      refine S_v E rfl (R_not E rfl) rfl ?_
      clear E a; intro a E
      refine S_v E rfl (R_pickF E rfl rfl) rfl ?_
      clear E a; intro a E
      refine WL_nil ?_
      refine T_n ?_
      refine WP_cond E rfl (fun hc_15 => ?_) (fun hc_15 => ?_)
      · refine WP_seq ?_
        refine WP_region ?_
        refine S_v E rfl (R_assign E rfl) rfl ?_
        clear E a; intro a E
        refine WL_nil ?_
        refine T_n ?_
        refine WP_ret ?_
        refine T_r ?_
        exact F_ret1 E Try.results9 rfl ⟨_, rfl, M_14, (hM_2.trans (hM_5.trans (hM_7.trans (hM_11.trans (hM_12.trans hM_14))))), rfl, S⟩
      · have hkj : -1099511627776 < kn1 ∧ kn1 < 1099511627776 := (by simp_all)
        refine WP_skip ?_
        refine T_n ?_
        refine WP_seq ?_
        refine WP_region ?_
        refine S_v E rfl (R_assign E rfl) rfl ?_
        clear E a; intro a E
        refine S_v E rfl (R_assign E rfl) rfl ?_
        clear E a; intro a E
        refine WL_nil ?_
        refine T_n ?_
        refine WP_seq ?_
        refine WP_seq ?_
        refine WP_region ?_
        refine S_v E rfl (R_move E rfl) rfl ?_
        clear E a; intro a E
        refine S_v E rfl (R_lenV E rfl T22 h0.len) rfl ?_
        clear E a; intro a E
        refine S_v E rfl (R_move E rfl) rfl ?_
        clear E a; intro a E
        refine WL_nil ?_
        refine T_n ?_
        refine WP_block ?_
        replace S := (S.ownNil (e := 3) (sz := 1)).made0
        replace S := (S.ownNil (e := 3) (sz := 1)).made0
        replace S := S.front1
        replace S := S.re1 (l' := flatI (fun x i => [x, keyAt kk1 kn1 x i]) 0 (l0.take 0)) (by first | (simp [mapI]; done) | (simp [flatI]; done) | (rw [mapI_succ (by assumption)]; done) | (rw [flatI_succ (by assumption)]; done))
        replace S := S.front1
        replace S := S.re1 (l' := mapI (keyAt kk1 kn1) 0 (l0.take 0)) (by first | (simp [mapI]; done) | (simp [flatI]; done) | (rw [mapI_succ (by assumption)]; done) | (rw [flatI_succ (by assumption)]; done))
        refine WP_loop (γ := Nat) (fun (k : Nat) a w => ∃ (M_18 : Hp) (u5 : Value) (u6 : Value), Hp.le M_14 M_18 ∧ St w M_18 (OwnI 3 u5 (mapI (keyAt kk1 kn1) 0 (l0.take k)) :: OwnI 3 u6 (flatI (fun x i => [x, keyAt kk1 kn1 x i]) 0 (l0.take k)) :: H) ∧ Env a 114 [] [(0, v0), (3, .pointer (some ⟨b_1, 0, none⟩)), (5, u5), (6, u6), (27, v0), (28, .int .i64 (((l0).length : Nat) : Int)), (29, .int .i64 ((k : Nat) : Int))] ∧ (k ≤ (l0).length)) (fun k => ((l0).length) - k) 0 ⟨M_14, _, _, Hp.le.refl _, S, E.keep ⟨rfl, rfl, rfl, rfl, rfl, rfl, rfl, trivial⟩, by ((try clear S); (try clear E); first | assumption | omega | rfl | (simp; done) | (simp_all; done) | (simp [List.take_add_one, *]; done) | grind [List.take_add_one])⟩ ?_
        try clear E
        try clear S
        try clear a
        try clear w
        rintro k a w ⟨M_18, u5, u6, hM_18, S, E, hL0_0⟩
        replace h0 := h0.le hM_18
        replace hb_1 := hM_18.2 _ _ hb_1
        replace hz_6 := hz_6.le hM_18
        replace hv_8 := hv_8.le hM_18
        replace hv_10 := hv_10.le hM_18
        have hml := mapI_len (keyAt kk1 kn1) (l0.take k) 0; simp only [List.length_take] at hml; have hfl := flatI_len (f := (fun x i => [x, keyAt kk1 kn1 x i])) (fun _ _ => rfl) (l0.take k) 0; simp only [List.length_take] at hfl
        refine WP_seq ?_
        refine WP_region ?_
        refine S_v E rfl (R_lss E rfl rfl) rfl ?_
        clear E a; intro a E
        refine WL_nil ?_
        refine T_n ?_
        refine WP_seq ?_
        refine WP_cond E rfl (fun hc_19 => ?_) (fun hc_19 => ?_)
        · replace hc_19 := of_decide_eq_true hc_19
          refine WP_skip ?_
          refine T_n ?_
          refine WP_seq ?_
          refine WP_block ?_
          refine WP_seq ?_
          refine WP_region ?_
          refine S_v E rfl (R_move E rfl) rfl ?_
          clear E a; intro a E
          obtain ⟨x_20, hx_20⟩ : ∃ x, (l0)[k]? = some x := ⟨_, List.getElem?_eq_getElem (by first | omega | (simp; done) | (simp; omega) | (simp_all; omega))⟩
          obtain ⟨p_21, hp_21, qp_21⟩ := h0.at hx_20
          refine S_v E rfl (R_idx E rfl rfl T22 hp_21 rfl) rfl ?_
          clear E a; intro a E
          refine S_v E rfl (R_loadM E rfl Try.isAgg3 S.imm qp_21) rfl ?_
          clear E a; intro a E
          refine S_v E rfl (R_assign E rfl) rfl ?_
          clear E a; intro a E
          refine S_v E rfl (R_assign E rfl) rfl ?_
          clear E a; intro a E
          refine WL_nil ?_
          refine T_n ?_
          refine WP_seq ?_
          refine WP_region ?_
          refine S_v E rfl (R_move E rfl) rfl ?_
          clear E a; intro a E
          refine S_v E rfl (R_loadGM E rfl (Try.isAgg34 _) (Try.sizeOf34 _) S.imm hb_1) rfl ?_
          clear E a; intro a E
          refine S_v E rfl (R_move E rfl) rfl ?_
          clear E a; intro a E
          refine S_v E rfl (R_move E rfl) rfl ?_
          clear E a; intro a E
          refine S_x (X_pu E S rfl rfl rfl (laws_stands (by omega)) (Hp.le.refl _) ?_)
          clear E a S; rintro a _ w M_22 hM_22 rfl S E
          replace h0 := h0.le hM_22
          replace hb_1 := hM_22.2 _ _ hb_1
          replace hz_6 := hz_6.le hM_22
          replace hv_8 := hv_8.le hM_22
          replace hv_10 := hv_10.le hM_22
          refine S_x (X_buildI (ys := [keyAt kk1 kn1 x_20 ((k : Nat) : Int)]) E S rfl T22 rfl rfl rfl ?_)
          clear E a S; rintro a w v_23 E S
          replace S := S.front1
          replace S := S.front1
          refine S_x (X_appendB (xs := mapI (keyAt kk1 kn1) 0 (l0.take k)) (ys := [keyAt kk1 kn1 x_20 ((k : Nat) : Int)]) E S rfl rfl rfl T22 (by first | omega | (simp; done) | (simp; omega) | (simp_all; omega)) ?_)
          clear E a S; rintro a w v_24 E S
          refine S_v E rfl (R_assign E rfl) rfl ?_
          clear E a; intro a E
          refine WL_nil ?_
          refine T_n ?_
          refine WP_region ?_
          refine S_v E rfl (R_move E rfl) rfl ?_
          clear E a; intro a E
          refine S_v E rfl (R_move E rfl) rfl ?_
          clear E a; intro a E
          refine S_v E rfl (R_loadGM E rfl (Try.isAgg34 _) (Try.sizeOf34 _) S.imm hb_1) rfl ?_
          clear E a; intro a E
          refine S_v E rfl (R_move E rfl) rfl ?_
          clear E a; intro a E
          refine S_v E rfl (R_move E rfl) rfl ?_
          clear E a; intro a E
          refine S_x (X_pu E S rfl rfl rfl (laws_stands (by omega)) (Hp.le.refl _) ?_)
          clear E a S; rintro a _ w M_25 hM_25 rfl S E
          replace h0 := h0.le hM_25
          replace hb_1 := hM_25.2 _ _ hb_1
          replace hz_6 := hz_6.le hM_25
          replace hv_8 := hv_8.le hM_25
          replace hv_10 := hv_10.le hM_25
          refine S_x (X_buildI (ys := [x_20, keyAt kk1 kn1 x_20 ((k : Nat) : Int)]) E S rfl T22 rfl rfl rfl ?_)
          clear E a S; rintro a w v_26 E S
          replace S := S.front2
          replace S := S.front1
          refine S_x (X_appendB (xs := flatI (fun x i => [x, keyAt kk1 kn1 x i]) 0 (l0.take k)) (ys := [x_20, keyAt kk1 kn1 x_20 ((k : Nat) : Int)]) E S rfl rfl rfl T22 (by first | omega | (simp; done) | (simp; omega) | (simp_all; omega)) ?_)
          clear E a S; rintro a w v_27 E S
          refine S_v E rfl (R_assign E rfl) rfl ?_
          clear E a; intro a E
          refine WL_nil ?_
          refine B_n ?_
          refine T_n ?_
          refine WP_region ?_
          refine S_v E rfl (R_addx (m := ((k + 1 : Nat) : Int)) E rfl rfl (by omega) (by omega)) rfl ?_
          clear E a; intro a E
          refine S_v E rfl (R_move E rfl) rfl ?_
          clear E a; intro a E
          refine WL_nil ?_
          refine T_n ?_
          replace S := S.front1
          replace S := S.front1
          replace S := S.re1 (l' := flatI (fun x i => [x, keyAt kk1 kn1 x i]) 0 (l0.take (k + 1))) (by first | (simp [mapI]; done) | (simp [flatI]; done) | (rw [mapI_succ (by assumption)]; done) | (rw [flatI_succ (by assumption)]; done))
          replace S := S.front1
          replace S := S.re1 (l' := mapI (keyAt kk1 kn1) 0 (l0.take (k + 1))) (by first | (simp [mapI]; done) | (simp [flatI]; done) | (rw [mapI_succ (by assumption)]; done) | (rw [flatI_succ (by assumption)]; done))
          exact ⟨k + 1, ⟨M_25, _, _, (hM_18.trans (hM_22.trans hM_25)), S, E.keep ⟨rfl, rfl, rfl, rfl, rfl, rfl, rfl, trivial⟩, by ((try clear S); (try clear E); first | assumption | omega | rfl | (simp; done) | (simp_all; done) | (simp [List.take_add_one, *]; done) | grind [List.take_add_one])⟩, by omega⟩
        · replace hc_19 := of_decide_eq_false hc_19
          have etk : l0.take k = l0 := List.take_of_length_le (by omega)
          refine WP_exit ?_
          refine T_x ?_
          refine T_x ?_
          refine B_x ?_
          refine T_n ?_
          refine WP_seq ?_
          refine WP_region ?_
          refine S_v E rfl (R_build (u := .agg #[.int .i64 4, .int .i64 0, .slice none 0 0]) (vs := [.int .i64 4]) E rfl (fun w => FB29_0_i 4 w)) rfl ?_
          clear E a; intro a E
          refine S_x (X_alloc (cs := #[.int .i64 0, .int .i64 0, .slice none 0 0]) E S rfl Try.zeroValue29 rfl ?_)
          clear E a S; rintro a w b_28 E S
          refine S_x0 (X_storeG (us := [.int .i64 4, .int .i64 0, .slice none 0 0]) E S rfl rfl (Try.sizeOf29 _) rfl (by intro u hu; simp only [List.mem_cons, List.not_mem_nil, or_false] at hu; rcases hu with rfl | rfl | rfl <;> first | exact rfl | exact rfl | exact rfl) ?_)
          clear E a S; rintro a w E S
          replace S : St w M_18 (blk b_28 (.cells #[.int .i64 4, .int .i64 0, .slice none 0 0] 29) :: _) := S
          have S0 := S; clear S
          obtain ⟨M_29, hM_29, hb_30, S⟩ := S0.freezeB
          clear S0
          replace h0 := h0.le hM_29
          replace hb_1 := hM_29.2 _ _ hb_1
          replace hz_6 := hz_6.le hM_29
          replace hv_8 := hv_8.le hM_29
          replace hv_10 := hv_10.le hM_29
          refine WL_nil ?_
          refine T_n ?_
          refine WP_seq ?_
          refine WP_region ?_
          refine S_v E rfl (R_move E rfl) rfl ?_
          clear E a; intro a E
          refine S_v E rfl (R_loadGM E rfl (Try.isAgg34 _) (Try.sizeOf34 _) S.imm hb_1) rfl ?_
          clear E a; intro a E
          refine S_x (X_pu E S rfl rfl rfl (spec_Map h0 (by omega) (by (first | omega | (simp; omega) | (simp; done) | (simp_all; omega) | grind)) (by first | assumption | exact (fun x hx => by rcases List.mem_append.1 hx with h | h; exact hr0 x h; exact hr1 x h))) (Hp.le.refl _) ?_)
          clear E a S; rintro a v_32 w M_31 hM_31 hv_32 S E
          replace h0 := h0.le hM_31
          replace hb_1 := hM_31.2 _ _ hb_1
          replace hz_6 := hz_6.le hM_31
          replace hv_8 := hv_8.le hM_31
          replace hv_10 := hv_10.le hM_31
          replace hb_30 := hM_31.2 _ _ hb_30
          refine S_v E rfl (R_move E rfl) rfl ?_
          clear E a; intro a E
          have S0 := S; clear S
          obtain ⟨M_33, hM_33, hz_34, S⟩ := S0.freezeI (by (have hml := mapI_len (keyAt kk1 kn1) (l0.take k) 0; simp only [List.length_take] at hml; have hfl := flatI_len (f := (fun x i => [x, keyAt kk1 kn1 x i])) (fun _ _ => rfl) (l0.take k) 0; simp only [List.length_take] at hfl; omega))
          clear S0
          replace h0 := h0.le hM_33
          replace hb_1 := hM_33.2 _ _ hb_1
          replace hz_6 := hz_6.le hM_33
          replace hv_8 := hv_8.le hM_33
          replace hv_10 := hv_10.le hM_33
          replace hb_30 := hM_33.2 _ _ hb_30
          replace hv_32 := hv_32.le hM_33
          refine S_x (X_pu E S rfl rfl rfl (laws_eq hv_32 hz_34) (Hp.le.refl _) ?_)
          clear E a S; rintro a _ w M_35 hM_35 rfl S E
          replace h0 := h0.le hM_35
          replace hb_1 := hM_35.2 _ _ hb_1
          replace hz_6 := hz_6.le hM_35
          replace hv_8 := hv_8.le hM_35
          replace hv_10 := hv_10.le hM_35
          replace hb_30 := hM_35.2 _ _ hb_30
          replace hv_32 := hv_32.le hM_35
          replace hz_34 := hz_34.le hM_35
          refine S_v E rfl (R_move E rfl) rfl ?_
          clear E a; intro a E
          have hc_36 : (decide (mapI (keyAt kk1 kn1) 0 l0 = mapI (keyAt kk1 kn1) 0 (l0.take k))) = true := by (clear S E; rw [etk]; first | (simp; done) | (rw [fmapI_all]; simp; done))
          replace E := E.val (t := 55) rfl hc_36
          replace E := E.val (t := 56) rfl hc_36
          refine WL_guard_yes E rfl rfl ?_
          refine S_v E rfl (R_move E rfl) rfl ?_
          clear E a; intro a E
          refine WL_guard_yes E rfl rfl ?_
          refine S_v E rfl (R_loadGM E rfl (Try.isAgg34 _) (Try.sizeOf34 _) S.imm hb_1) rfl ?_
          clear E a; intro a E
          refine WL_guard_yes E rfl rfl ?_
          refine S_x (X_pu E S rfl rfl rfl (spec_FlatMap h0 (by omega) (by (first | omega | (simp; omega) | (simp; done) | (simp_all; omega) | grind)) (by first | assumption | exact (fun x hx => by rcases List.mem_append.1 hx with h | h; exact hr0 x h; exact hr1 x h))) (Hp.le.refl _) ?_)
          clear E a S; rintro a v_38 w M_37 hM_37 hv_38 S E
          replace h0 := h0.le hM_37
          replace hb_1 := hM_37.2 _ _ hb_1
          replace hz_6 := hz_6.le hM_37
          replace hv_8 := hv_8.le hM_37
          replace hv_10 := hv_10.le hM_37
          replace hb_30 := hM_37.2 _ _ hb_30
          replace hv_32 := hv_32.le hM_37
          replace hz_34 := hz_34.le hM_37
          refine WL_guard_yes E rfl rfl ?_
          refine S_v E rfl (R_move E rfl) rfl ?_
          clear E a; intro a E
          have S0 := S; clear S
          obtain ⟨M_39, hM_39, hz_40, S⟩ := S0.freezeI (by (have hml := mapI_len (keyAt kk1 kn1) (l0.take k) 0; simp only [List.length_take] at hml; have hfl := flatI_len (f := (fun x i => [x, keyAt kk1 kn1 x i])) (fun _ _ => rfl) (l0.take k) 0; simp only [List.length_take] at hfl; omega))
          clear S0
          replace h0 := h0.le hM_39
          replace hb_1 := hM_39.2 _ _ hb_1
          replace hz_6 := hz_6.le hM_39
          replace hv_8 := hv_8.le hM_39
          replace hv_10 := hv_10.le hM_39
          replace hb_30 := hM_39.2 _ _ hb_30
          replace hv_32 := hv_32.le hM_39
          replace hz_34 := hz_34.le hM_39
          replace hv_38 := hv_38.le hM_39
          refine WL_guard_yes E rfl rfl ?_
          refine S_x (X_pu E S rfl rfl rfl (laws_eq hv_38 hz_40) (Hp.le.refl _) ?_)
          clear E a S; rintro a _ w M_41 hM_41 rfl S E
          replace h0 := h0.le hM_41
          replace hb_1 := hM_41.2 _ _ hb_1
          replace hz_6 := hz_6.le hM_41
          replace hv_8 := hv_8.le hM_41
          replace hv_10 := hv_10.le hM_41
          replace hb_30 := hM_41.2 _ _ hb_30
          replace hv_32 := hv_32.le hM_41
          replace hz_34 := hz_34.le hM_41
          replace hv_38 := hv_38.le hM_41
          replace hz_40 := hz_40.le hM_41
          refine S_v E rfl (R_pickT E rfl rfl) rfl ?_
          clear E a; intro a E
          refine S_v E rfl (R_move E rfl) rfl ?_
          clear E a; intro a E
          have hc_42 : (decide (flatI (fun x i => [x, keyAt kk1 kn1 x i]) 0 l0 = flatI (fun x i => [x, keyAt kk1 kn1 x i]) 0 (l0.take k))) = true := by (clear S E; rw [etk]; first | (simp; done) | (rw [fmapI_all]; simp; done))
          replace E := E.val (t := 61) rfl hc_42
          replace E := E.val (t := 62) rfl hc_42
          replace E := E.val (t := 63) rfl hc_42
          refine WL_guard_yes E rfl rfl ?_
          refine S_v E rfl (R_move E rfl) rfl ?_
          clear E a; intro a E
          refine WL_guard_yes E rfl rfl ?_
          refine S_v E rfl (R_loadGM E rfl (Try.isAgg34 _) (Try.sizeOf34 _) S.imm hb_1) rfl ?_
          clear E a; intro a E
          refine WL_guard_yes E rfl rfl ?_
          refine S_x (X_pu E S rfl rfl rfl (impl_Map h0 (by omega) (by (first | omega | (simp; omega) | (simp; done) | (simp_all; omega) | grind))) (Hp.le.refl _) ?_)
          clear E a S; rintro a v_44 w M_43 hM_43 hv_44 S E
          replace h0 := h0.le hM_43
          replace hb_1 := hM_43.2 _ _ hb_1
          replace hz_6 := hz_6.le hM_43
          replace hv_8 := hv_8.le hM_43
          replace hv_10 := hv_10.le hM_43
          replace hb_30 := hM_43.2 _ _ hb_30
          replace hv_32 := hv_32.le hM_43
          replace hz_34 := hz_34.le hM_43
          replace hv_38 := hv_38.le hM_43
          replace hz_40 := hz_40.le hM_43
          refine WL_guard_yes E rfl rfl ?_
          refine S_v E rfl (R_move E rfl) rfl ?_
          clear E a; intro a E
          refine WL_guard_yes E rfl rfl ?_
          refine S_x (X_pu E S rfl rfl rfl (laws_eq hv_44 hz_34) (Hp.le.refl _) ?_)
          clear E a S; rintro a _ w M_45 hM_45 rfl S E
          replace h0 := h0.le hM_45
          replace hb_1 := hM_45.2 _ _ hb_1
          replace hz_6 := hz_6.le hM_45
          replace hv_8 := hv_8.le hM_45
          replace hv_10 := hv_10.le hM_45
          replace hb_30 := hM_45.2 _ _ hb_30
          replace hv_32 := hv_32.le hM_45
          replace hz_34 := hz_34.le hM_45
          replace hv_38 := hv_38.le hM_45
          replace hz_40 := hz_40.le hM_45
          replace hv_44 := hv_44.le hM_45
          refine S_v E rfl (R_pickT E rfl rfl) rfl ?_
          clear E a; intro a E
          refine S_v E rfl (R_move E rfl) rfl ?_
          clear E a; intro a E
          have hc_46 : (decide (mapI (keyAt kk1 kn1) 0 l0 = mapI (keyAt kk1 kn1) 0 (l0.take k))) = true := by (clear S E; rw [etk]; first | (simp; done) | (rw [fmapI_all]; simp; done))
          replace E := E.val (t := 68) rfl hc_46
          replace E := E.val (t := 69) rfl hc_46
          replace E := E.val (t := 70) rfl hc_46
          refine WL_guard_yes E rfl rfl ?_
          refine S_v E rfl (R_move E rfl) rfl ?_
          clear E a; intro a E
          refine WL_guard_yes E rfl rfl ?_
          refine S_v E rfl (R_loadGM E rfl (Try.isAgg34 _) (Try.sizeOf34 _) S.imm hb_1) rfl ?_
          clear E a; intro a E
          refine WL_guard_yes E rfl rfl ?_
          refine S_x (X_pu E S rfl rfl rfl (impl_MapInPlace h0 (by omega) (by (first | omega | (simp; omega) | (simp; done) | (simp_all; omega) | grind))) (Hp.le.refl _) ?_)
          clear E a S; rintro a v_48 w M_47 hM_47 hv_48 S E
          replace h0 := h0.le hM_47
          replace hb_1 := hM_47.2 _ _ hb_1
          replace hz_6 := hz_6.le hM_47
          replace hv_8 := hv_8.le hM_47
          replace hv_10 := hv_10.le hM_47
          replace hb_30 := hM_47.2 _ _ hb_30
          replace hv_32 := hv_32.le hM_47
          replace hz_34 := hz_34.le hM_47
          replace hv_38 := hv_38.le hM_47
          replace hz_40 := hz_40.le hM_47
          replace hv_44 := hv_44.le hM_47
          refine WL_guard_yes E rfl rfl ?_
          refine S_v E rfl (R_move E rfl) rfl ?_
          clear E a; intro a E
          refine WL_guard_yes E rfl rfl ?_
          refine S_x (X_pu E S rfl rfl rfl (laws_eq hv_48 hz_34) (Hp.le.refl _) ?_)
          clear E a S; rintro a _ w M_49 hM_49 rfl S E
          replace h0 := h0.le hM_49
          replace hb_1 := hM_49.2 _ _ hb_1
          replace hz_6 := hz_6.le hM_49
          replace hv_8 := hv_8.le hM_49
          replace hv_10 := hv_10.le hM_49
          replace hb_30 := hM_49.2 _ _ hb_30
          replace hv_32 := hv_32.le hM_49
          replace hz_34 := hz_34.le hM_49
          replace hv_38 := hv_38.le hM_49
          replace hz_40 := hz_40.le hM_49
          replace hv_44 := hv_44.le hM_49
          replace hv_48 := hv_48.le hM_49
          refine S_v E rfl (R_pickT E rfl rfl) rfl ?_
          clear E a; intro a E
          refine S_v E rfl (R_move E rfl) rfl ?_
          clear E a; intro a E
          have hc_50 : (decide (mapI (keyAt kk1 kn1) 0 l0 = mapI (keyAt kk1 kn1) 0 (l0.take k))) = true := by (clear S E; rw [etk]; first | (simp; done) | (rw [fmapI_all]; simp; done))
          replace E := E.val (t := 75) rfl hc_50
          replace E := E.val (t := 76) rfl hc_50
          replace E := E.val (t := 77) rfl hc_50
          refine WL_guard_yes E rfl rfl ?_
          refine S_v E rfl (R_move E rfl) rfl ?_
          clear E a; intro a E
          refine WL_guard_yes E rfl rfl ?_
          refine S_v E rfl (R_loadGM E rfl (Try.isAgg34 _) (Try.sizeOf34 _) S.imm hb_1) rfl ?_
          clear E a; intro a E
          refine WL_guard_yes E rfl rfl ?_
          refine S_x (X_pu E S rfl rfl rfl (impl_MapSeq h0 (by omega) (by (first | omega | (simp; omega) | (simp; done) | (simp_all; omega) | grind))) (Hp.le.refl _) ?_)
          clear E a S; rintro a v_52 w M_51 hM_51 hv_52 S E
          replace h0 := h0.le hM_51
          replace hb_1 := hM_51.2 _ _ hb_1
          replace hz_6 := hz_6.le hM_51
          replace hv_8 := hv_8.le hM_51
          replace hv_10 := hv_10.le hM_51
          replace hb_30 := hM_51.2 _ _ hb_30
          replace hv_32 := hv_32.le hM_51
          replace hz_34 := hz_34.le hM_51
          replace hv_38 := hv_38.le hM_51
          replace hz_40 := hz_40.le hM_51
          replace hv_44 := hv_44.le hM_51
          replace hv_48 := hv_48.le hM_51
          refine WL_guard_yes E rfl rfl ?_
          refine S_v E rfl (R_move E rfl) rfl ?_
          clear E a; intro a E
          refine WL_guard_yes E rfl rfl ?_
          refine S_x (X_pu E S rfl rfl rfl (laws_eq hv_52 hz_34) (Hp.le.refl _) ?_)
          clear E a S; rintro a _ w M_53 hM_53 rfl S E
          replace h0 := h0.le hM_53
          replace hb_1 := hM_53.2 _ _ hb_1
          replace hz_6 := hz_6.le hM_53
          replace hv_8 := hv_8.le hM_53
          replace hv_10 := hv_10.le hM_53
          replace hb_30 := hM_53.2 _ _ hb_30
          replace hv_32 := hv_32.le hM_53
          replace hz_34 := hz_34.le hM_53
          replace hv_38 := hv_38.le hM_53
          replace hz_40 := hz_40.le hM_53
          replace hv_44 := hv_44.le hM_53
          replace hv_48 := hv_48.le hM_53
          replace hv_52 := hv_52.le hM_53
          refine S_v E rfl (R_pickT E rfl rfl) rfl ?_
          clear E a; intro a E
          refine S_v E rfl (R_move E rfl) rfl ?_
          clear E a; intro a E
          have hc_54 : (decide (mapI (keyAt kk1 kn1) 0 l0 = mapI (keyAt kk1 kn1) 0 (l0.take k))) = true := by (clear S E; rw [etk]; first | (simp; done) | (rw [fmapI_all]; simp; done))
          replace E := E.val (t := 82) rfl hc_54
          replace E := E.val (t := 83) rfl hc_54
          replace E := E.val (t := 84) rfl hc_54
          refine WL_guard_yes E rfl rfl ?_
          refine S_v E rfl (R_move E rfl) rfl ?_
          clear E a; intro a E
          refine WL_guard_yes E rfl rfl ?_
          refine S_v E rfl (R_loadGM E rfl (Try.isAgg29 _) (Try.sizeOf29 _) S.imm hb_30) rfl ?_
          clear E a; intro a E
          refine WL_guard_yes E rfl rfl ?_
          refine S_v E rfl (R_loadGM E rfl (Try.isAgg34 _) (Try.sizeOf34 _) S.imm hb_1) rfl ?_
          clear E a; intro a E
          refine WL_guard_yes E rfl rfl ?_
          refine S_x (X_pu E S rfl rfl rfl (impl_FilterMap h0 (RdS.nil _) (by omega) (by omega) (by (first | omega | (simp; omega) | (simp; done) | (simp_all; omega) | grind))) (Hp.le.refl _) ?_)
          clear E a S; rintro a v_56 w M_55 hM_55 hv_56 S E
          replace h0 := h0.le hM_55
          replace hb_1 := hM_55.2 _ _ hb_1
          replace hz_6 := hz_6.le hM_55
          replace hv_8 := hv_8.le hM_55
          replace hv_10 := hv_10.le hM_55
          replace hb_30 := hM_55.2 _ _ hb_30
          replace hv_32 := hv_32.le hM_55
          replace hz_34 := hz_34.le hM_55
          replace hv_38 := hv_38.le hM_55
          replace hz_40 := hz_40.le hM_55
          replace hv_44 := hv_44.le hM_55
          replace hv_48 := hv_48.le hM_55
          replace hv_52 := hv_52.le hM_55
          refine WL_guard_yes E rfl rfl ?_
          refine S_v E rfl (R_move E rfl) rfl ?_
          clear E a; intro a E
          refine WL_guard_yes E rfl rfl ?_
          refine S_x (X_pu E S rfl rfl rfl (laws_eq hv_56 hz_34) (Hp.le.refl _) ?_)
          clear E a S; rintro a _ w M_57 hM_57 rfl S E
          replace h0 := h0.le hM_57
          replace hb_1 := hM_57.2 _ _ hb_1
          replace hz_6 := hz_6.le hM_57
          replace hv_8 := hv_8.le hM_57
          replace hv_10 := hv_10.le hM_57
          replace hb_30 := hM_57.2 _ _ hb_30
          replace hv_32 := hv_32.le hM_57
          replace hz_34 := hz_34.le hM_57
          replace hv_38 := hv_38.le hM_57
          replace hz_40 := hz_40.le hM_57
          replace hv_44 := hv_44.le hM_57
          replace hv_48 := hv_48.le hM_57
          replace hv_52 := hv_52.le hM_57
          replace hv_56 := hv_56.le hM_57
          refine S_v E rfl (R_pickT E rfl rfl) rfl ?_
          clear E a; intro a E
          refine S_v E rfl (R_move E rfl) rfl ?_
          clear E a; intro a E
          have hc_58 : (decide (fmapI (fun x i => (keyAt kk1 kn1 x i, predAt 4 0 ([] : List Int) x i)) 0 l0 = mapI (keyAt kk1 kn1) 0 (l0.take k))) = true := by (clear S E; rw [etk]; first | (simp; done) | (rw [fmapI_all]; simp; done))
          replace E := E.val (t := 90) rfl hc_58
          replace E := E.val (t := 91) rfl hc_58
          replace E := E.val (t := 92) rfl hc_58
          refine WL_guard_yes E rfl rfl ?_
          refine S_v E rfl (R_move E rfl) rfl ?_
          clear E a; intro a E
          refine WL_guard_yes E rfl rfl ?_
          refine S_v E rfl (R_loadGM E rfl (Try.isAgg29 _) (Try.sizeOf29 _) S.imm hb_30) rfl ?_
          clear E a; intro a E
          refine WL_guard_yes E rfl rfl ?_
          refine S_v E rfl (R_loadGM E rfl (Try.isAgg34 _) (Try.sizeOf34 _) S.imm hb_1) rfl ?_
          clear E a; intro a E
          refine WL_guard_yes E rfl rfl ?_
          refine S_x (X_pu E S rfl rfl rfl (impl_FilterMapSeq h0 (RdS.nil _) (by omega) (by omega) (by (first | omega | (simp; omega) | (simp; done) | (simp_all; omega) | grind))) (Hp.le.refl _) ?_)
          clear E a S; rintro a v_60 w M_59 hM_59 hv_60 S E
          replace h0 := h0.le hM_59
          replace hb_1 := hM_59.2 _ _ hb_1
          replace hz_6 := hz_6.le hM_59
          replace hv_8 := hv_8.le hM_59
          replace hv_10 := hv_10.le hM_59
          replace hb_30 := hM_59.2 _ _ hb_30
          replace hv_32 := hv_32.le hM_59
          replace hz_34 := hz_34.le hM_59
          replace hv_38 := hv_38.le hM_59
          replace hz_40 := hz_40.le hM_59
          replace hv_44 := hv_44.le hM_59
          replace hv_48 := hv_48.le hM_59
          replace hv_52 := hv_52.le hM_59
          replace hv_56 := hv_56.le hM_59
          refine WL_guard_yes E rfl rfl ?_
          refine S_v E rfl (R_move E rfl) rfl ?_
          clear E a; intro a E
          refine WL_guard_yes E rfl rfl ?_
          refine S_x (X_pu E S rfl rfl rfl (laws_eq hv_60 hz_34) (Hp.le.refl _) ?_)
          clear E a S; rintro a _ w M_61 hM_61 rfl S E
          replace h0 := h0.le hM_61
          replace hb_1 := hM_61.2 _ _ hb_1
          replace hz_6 := hz_6.le hM_61
          replace hv_8 := hv_8.le hM_61
          replace hv_10 := hv_10.le hM_61
          replace hb_30 := hM_61.2 _ _ hb_30
          replace hv_32 := hv_32.le hM_61
          replace hz_34 := hz_34.le hM_61
          replace hv_38 := hv_38.le hM_61
          replace hz_40 := hz_40.le hM_61
          replace hv_44 := hv_44.le hM_61
          replace hv_48 := hv_48.le hM_61
          replace hv_52 := hv_52.le hM_61
          replace hv_56 := hv_56.le hM_61
          replace hv_60 := hv_60.le hM_61
          refine S_v E rfl (R_pickT E rfl rfl) rfl ?_
          clear E a; intro a E
          refine S_v E rfl (R_move E rfl) rfl ?_
          clear E a; intro a E
          have hc_62 : (decide (fmapI (fun x i => (keyAt kk1 kn1 x i, predAt 4 0 ([] : List Int) x i)) 0 l0 = mapI (keyAt kk1 kn1) 0 (l0.take k))) = true := by (clear S E; rw [etk]; first | (simp; done) | (rw [fmapI_all]; simp; done))
          replace E := E.val (t := 98) rfl hc_62
          replace E := E.val (t := 99) rfl hc_62
          replace E := E.val (t := 100) rfl hc_62
          refine WL_guard_yes E rfl rfl ?_
          refine S_v E rfl (R_move E rfl) rfl ?_
          clear E a; intro a E
          refine WL_guard_yes E rfl rfl ?_
          refine S_v E rfl (R_loadGM E rfl (Try.isAgg34 _) (Try.sizeOf34 _) S.imm hb_1) rfl ?_
          clear E a; intro a E
          refine WL_guard_yes E rfl rfl ?_
          refine S_x (X_pu E S rfl rfl rfl (impl_FlatMap h0 (by omega) (by (first | omega | (simp; omega) | (simp; done) | (simp_all; omega) | grind))) (Hp.le.refl _) ?_)
          clear E a S; rintro a v_64 w M_63 hM_63 hv_64 S E
          replace h0 := h0.le hM_63
          replace hb_1 := hM_63.2 _ _ hb_1
          replace hz_6 := hz_6.le hM_63
          replace hv_8 := hv_8.le hM_63
          replace hv_10 := hv_10.le hM_63
          replace hb_30 := hM_63.2 _ _ hb_30
          replace hv_32 := hv_32.le hM_63
          replace hz_34 := hz_34.le hM_63
          replace hv_38 := hv_38.le hM_63
          replace hz_40 := hz_40.le hM_63
          replace hv_44 := hv_44.le hM_63
          replace hv_48 := hv_48.le hM_63
          replace hv_52 := hv_52.le hM_63
          replace hv_56 := hv_56.le hM_63
          replace hv_60 := hv_60.le hM_63
          refine WL_guard_yes E rfl rfl ?_
          refine S_v E rfl (R_move E rfl) rfl ?_
          clear E a; intro a E
          refine WL_guard_yes E rfl rfl ?_
          refine S_x (X_pu E S rfl rfl rfl (laws_eq hv_64 hz_40) (Hp.le.refl _) ?_)
          clear E a S; rintro a _ w M_65 hM_65 rfl S E
          replace h0 := h0.le hM_65
          replace hb_1 := hM_65.2 _ _ hb_1
          replace hz_6 := hz_6.le hM_65
          replace hv_8 := hv_8.le hM_65
          replace hv_10 := hv_10.le hM_65
          replace hb_30 := hM_65.2 _ _ hb_30
          replace hv_32 := hv_32.le hM_65
          replace hz_34 := hz_34.le hM_65
          replace hv_38 := hv_38.le hM_65
          replace hz_40 := hz_40.le hM_65
          replace hv_44 := hv_44.le hM_65
          replace hv_48 := hv_48.le hM_65
          replace hv_52 := hv_52.le hM_65
          replace hv_56 := hv_56.le hM_65
          replace hv_60 := hv_60.le hM_65
          replace hv_64 := hv_64.le hM_65
          refine S_v E rfl (R_pickT E rfl rfl) rfl ?_
          clear E a; intro a E
          refine S_v E rfl (R_move E rfl) rfl ?_
          clear E a; intro a E
          have hc_66 : (decide (flatI (fun x i => [x, keyAt kk1 kn1 x i]) 0 l0 = flatI (fun x i => [x, keyAt kk1 kn1 x i]) 0 (l0.take k))) = true := by (clear S E; rw [etk]; first | (simp; done) | (rw [fmapI_all]; simp; done))
          replace E := E.val (t := 105) rfl hc_66
          replace E := E.val (t := 106) rfl hc_66
          replace E := E.val (t := 107) rfl hc_66
          refine WL_guard_yes E rfl rfl ?_
          refine S_v E rfl (R_move E rfl) rfl ?_
          clear E a; intro a E
          refine WL_guard_yes E rfl rfl ?_
          refine S_v E rfl (R_loadGM E rfl (Try.isAgg34 _) (Try.sizeOf34 _) S.imm hb_1) rfl ?_
          clear E a; intro a E
          refine WL_guard_yes E rfl rfl ?_
          refine S_x (X_pu E S rfl rfl rfl (impl_FlatMapSeq h0 (by omega) (by (first | omega | (simp; omega) | (simp; done) | (simp_all; omega) | grind))) (Hp.le.refl _) ?_)
          clear E a S; rintro a v_68 w M_67 hM_67 hv_68 S E
          replace h0 := h0.le hM_67
          replace hb_1 := hM_67.2 _ _ hb_1
          replace hz_6 := hz_6.le hM_67
          replace hv_8 := hv_8.le hM_67
          replace hv_10 := hv_10.le hM_67
          replace hb_30 := hM_67.2 _ _ hb_30
          replace hv_32 := hv_32.le hM_67
          replace hz_34 := hz_34.le hM_67
          replace hv_38 := hv_38.le hM_67
          replace hz_40 := hz_40.le hM_67
          replace hv_44 := hv_44.le hM_67
          replace hv_48 := hv_48.le hM_67
          replace hv_52 := hv_52.le hM_67
          replace hv_56 := hv_56.le hM_67
          replace hv_60 := hv_60.le hM_67
          replace hv_64 := hv_64.le hM_67
          refine WL_guard_yes E rfl rfl ?_
          refine S_v E rfl (R_move E rfl) rfl ?_
          clear E a; intro a E
          refine WL_guard_yes E rfl rfl ?_
          refine S_x (X_pu E S rfl rfl rfl (laws_eq hv_68 hz_40) (Hp.le.refl _) ?_)
          clear E a S; rintro a _ w M_69 hM_69 rfl S E
          replace h0 := h0.le hM_69
          replace hb_1 := hM_69.2 _ _ hb_1
          replace hz_6 := hz_6.le hM_69
          replace hv_8 := hv_8.le hM_69
          replace hv_10 := hv_10.le hM_69
          replace hb_30 := hM_69.2 _ _ hb_30
          replace hv_32 := hv_32.le hM_69
          replace hz_34 := hz_34.le hM_69
          replace hv_38 := hv_38.le hM_69
          replace hz_40 := hz_40.le hM_69
          replace hv_44 := hv_44.le hM_69
          replace hv_48 := hv_48.le hM_69
          replace hv_52 := hv_52.le hM_69
          replace hv_56 := hv_56.le hM_69
          replace hv_60 := hv_60.le hM_69
          replace hv_64 := hv_64.le hM_69
          replace hv_68 := hv_68.le hM_69
          refine S_v E rfl (R_pickT E rfl rfl) rfl ?_
          clear E a; intro a E
          refine S_v E rfl (R_assign E rfl) rfl ?_
          clear E a; intro a E
          refine WL_nil ?_
          refine T_n ?_
          refine WP_ret ?_
          exact F_ret1 E Try.results9 rfl ⟨_, rfl, M_69, (hM_2.trans (hM_5.trans (hM_7.trans (hM_11.trans (hM_12.trans (hM_14.trans (hM_18.trans (hM_29.trans (hM_31.trans (hM_33.trans (hM_35.trans (hM_37.trans (hM_39.trans (hM_41.trans (hM_43.trans (hM_45.trans (hM_47.trans (hM_49.trans (hM_51.trans (hM_53.trans (hM_55.trans (hM_57.trans (hM_59.trans (hM_61.trans (hM_63.trans (hM_65.trans (hM_67.trans hM_69))))))))))))))))))))))))))), (congrArg Value.bool (by (clear S E; rw [etk]; first | (simp; done) | (rw [fmapI_all]; simp; done)))), S⟩

end Go.Proofs.Ytealhfcckjdclaa.wFnMapRoads
