/- Walks through the functions that laws.FnUniquesBy reaches: what each computes; no conditions beyond what each theorem states. -/
import Derived.Test.YtahbobhbookehaaWFnUniquesByc
set_option linter.unusedVariables false
set_option linter.unusedSimpArgs false
namespace Go.Proofs.Ytahbobhbookehaa.wFnUniquesBy
open Go Go.Sl
set_option maxRecDepth 100000 in
set_option maxHeartbeats 4000000 in
theorem laws_eqPairs {M : Hp} {v0 : Value} {l0 : List (Int × Int)} (h0 : RdS 2 RP2 M v0 l0) {v1 : Value} {l1 : List (Int × Int)} (h1 : RdS 2 RP2 M v1 l1) :
    Pu Try.prog (.func (.func 26) #[] #[]) M [v0, v1] (fun r M' => r = .bool (decide (l0 = l1))) := by
  refine Pu_enter Try.func26 rfl Try.ntmps26 rfl Try.call26 ?_
  intro a w M1 H hM1 S E
  replace h0 := h0.le RP2_mono hM1
  replace h1 := h1.le RP2_mono hM1
  have b0 := h0.bound
  have b1 := h1.bound
  refine WP_seq ?_
  refine WP_region ?_
  refine S_v E rfl (R_assign E rfl) rfl ?_
  clear E a; intro a E
  refine WL_nil ?_
  refine T_n ?_
  refine WP_seq ?_
  refine WP_seq ?_
  refine WP_region ?_
  refine S_v E rfl (R_move E rfl) rfl ?_
  clear E a; intro a E
  refine S_v E rfl (R_lenV E rfl T33 h0.len) rfl ?_
  clear E a; intro a E
  refine S_v E rfl (R_move E rfl) rfl ?_
  clear E a; intro a E
  refine S_v E rfl (R_lenV E rfl T33 h1.len) rfl ?_
  clear E a; intro a E
  refine S_v E rfl (R_neq E rfl rfl) rfl ?_
  clear E a; intro a E
  refine WL_nil ?_
  refine T_n ?_
  refine WP_cond E rfl (fun hc_1 => ?_) (fun hc_1 => ?_)
  · replace hc_1 := of_decide_eq_true hc_1
    refine WP_seq ?_
    refine WP_region ?_
    refine S_v E rfl (R_assign E rfl) rfl ?_
    clear E a; intro a E
    refine WL_nil ?_
    refine T_n ?_
    refine WP_ret ?_
    refine T_r ?_
    exact F_ret1 E Try.results26 rfl ⟨_, rfl, M1, (Hp.le.refl _), (bF (by (first | (simp; done) | exact eqp_no (by assumption) (by assumption) (p2_ne (by assumption)) | (have h9 : l0.take k = l1.take k := (by assumption); rwa [List.take_of_length_le (by omega), List.take_of_length_le (by omega)] at h9) | (intro h9; subst h9; omega) | (intro h9; subst h9; simp_all; done)))), S⟩
  · replace hc_1 := of_decide_eq_false hc_1
    refine WP_skip ?_
    refine T_n ?_
    refine WP_seq ?_
    refine WP_seq ?_
    refine WP_region ?_
    refine S_v E rfl (R_move E rfl) rfl ?_
    clear E a; intro a E
    refine S_v E rfl (R_lenV E rfl T33 h0.len) rfl ?_
    clear E a; intro a E
    refine S_v E rfl (R_move E rfl) rfl ?_
    clear E a; intro a E
    refine WL_nil ?_
    refine T_n ?_
    refine WP_block ?_
    refine WP_loop (γ := Nat) (fun (k : Nat) a w => ∃ (M_2 : Hp), Hp.le M1 M_2 ∧ St w M_2 (H) ∧ Env a 26 [] [(0, v0), (1, v1), (12, .int .i64 (((l0).length : Nat) : Int)), (13, .int .i64 ((k : Nat) : Int))] ∧ (k ≤ (l0).length) ∧ (l0.length = l1.length) ∧ (l0.take k = l1.take k)) (fun k => ((l0).length) - k) 0 ⟨M1, Hp.le.refl _, S, E.keep ⟨rfl, rfl, rfl, rfl, trivial⟩, by ((try clear S); (try clear E); first | assumption | omega | rfl | (simp; done) | (simp_all; done) | (simp [List.take_add_one, *]; done) | grind [List.take_add_one]), by ((try clear S); (try clear E); first | assumption | omega | rfl | (simp; done) | (simp_all; done) | (simp [List.take_add_one, *]; done) | grind [List.take_add_one]), by ((try clear S); (try clear E); first | assumption | omega | rfl | (simp; done) | (simp_all; done) | (simp [List.take_add_one, *]; done) | grind [List.take_add_one])⟩ ?_
    try clear E
    try clear S
    try clear a
    try clear w
    rintro k a w ⟨M_2, hM_2, S, E, hL0_0, hL0_1, hL0_2⟩
    replace h0 := h0.le RP2_mono hM_2
    replace h1 := h1.le RP2_mono hM_2
    refine WP_seq ?_
    refine WP_region ?_
    refine S_v E rfl (R_lss E rfl rfl) rfl ?_
    clear E a; intro a E
    refine WL_nil ?_
    refine T_n ?_
    refine WP_seq ?_
    refine WP_cond E rfl (fun hc_3 => ?_) (fun hc_3 => ?_)
    · replace hc_3 := of_decide_eq_true hc_3
      refine WP_skip ?_
      refine T_n ?_
      refine WP_seq ?_
      refine WP_block ?_
      refine WP_seq ?_
      refine WP_region ?_
      refine S_v E rfl (R_move E rfl) rfl ?_
      clear E a; intro a E
      refine S_v E rfl (R_assign E rfl) rfl ?_
      clear E a; intro a E
      refine WL_nil ?_
      refine T_n ?_
      refine WP_seq ?_
      replace S := S.mono_heap (w' := World.drew _) rfl
      refine WP_drawn (C := fun x w => agree M_2 w) (bf := (fun i => [])) [0, 1, 2, 3, 4, 5, 6, 7, 8] [0, 1, 2, 3, 4, 5, 6, 7, 8] Try.mixed (by kernel_rfl) (fun x hq => S.imm) ?_
      refine D_v E rfl rfl rfl (fun w hC => (R_move E rfl)) ?_
      clear E a; intro a E
      refine D_v E rfl rfl rfl (fun w hC => (R_move E rfl)) ?_
      clear E a; intro a E
      obtain ⟨x_4, hx_4⟩ : ∃ x, (l0)[k]? = some x := ⟨_, List.getElem?_eq_getElem (by first | omega | (simp; done) | (simp; omega) | (simp_all; omega))⟩
      obtain ⟨p_5, hp_5, qp_5⟩ := RdP2.at h0 hx_4
      refine D_v E rfl rfl rfl (fun w hC => (R_idx E rfl rfl T33 hp_5 rfl)) ?_
      clear E a; intro a E
      refine D_v E rfl rfl rfl (fun w hC => (R_loadA (cs := [.int .i64 x_4.1, .int .i64 x_4.2]) E rfl (Try.isAgg59 _) (Try.sizeOf59 _) hC qp_5)) ?_
      clear E a; intro a E
      refine D_v E rfl rfl rfl (fun w hC => (R_move E rfl)) ?_
      clear E a; intro a E
      refine D_v E rfl rfl rfl (fun w hC => (R_move E rfl)) ?_
      clear E a; intro a E
      obtain ⟨x_6, hx_6⟩ : ∃ x, (l1)[k]? = some x := ⟨_, List.getElem?_eq_getElem (by first | omega | (simp; done) | (simp; omega) | (simp_all; omega))⟩
      obtain ⟨p_7, hp_7, qp_7⟩ := RdP2.at h1 hx_6
      refine D_v E rfl rfl rfl (fun w hC => (R_idx E rfl rfl T33 hp_7 rfl)) ?_
      clear E a; intro a E
      refine D_v E rfl rfl rfl (fun w hC => (R_loadA (cs := [.int .i64 x_6.1, .int .i64 x_6.2]) E rfl (Try.isAgg59 _) (Try.sizeOf59 _) hC qp_7)) ?_
      clear E a; intro a E
      refine D_v E rfl rfl rfl (fun w hC => (R_neqA E rfl rfl (by kernel_rfl) (EQ59 x_4.1 x_4.2 x_6.1 x_6.2 _))) ?_
      clear E a; intro a E
      refine D_end (NoP_n ?_)
      refine T_n ?_
      refine WP_cond E rfl (fun hc_8 => ?_) (fun hc_8 => ?_)
      · replace hc_8 := of_decide_eq_true hc_8
        refine WP_seq ?_
        refine WP_region ?_
        refine S_v E rfl (R_assign E rfl) rfl ?_
        clear E a; intro a E
        refine WL_nil ?_
        refine T_n ?_
        refine WP_ret ?_
        refine B_r ?_
        refine T_r ?_
        refine T_r ?_
        refine B_r ?_
        refine T_r ?_
        exact F_ret1 E Try.results26 rfl ⟨_, rfl, M_2, hM_2, (bF (by (first | (simp; done) | exact eqp_no (by assumption) (by assumption) (p2_ne (by assumption)) | (have h9 : l0.take k = l1.take k := (by assumption); rwa [List.take_of_length_le (by omega), List.take_of_length_le (by omega)] at h9) | (intro h9; subst h9; omega) | (intro h9; subst h9; simp_all; done)))), S⟩
      · replace hc_8 := of_decide_eq_false hc_8
        refine WP_skip ?_
        refine B_n ?_
        refine T_n ?_
        refine WP_region ?_
        refine S_v E rfl (R_addx (m := ((k + 1 : Nat) : Int)) E rfl rfl (by omega) (by omega)) rfl ?_
        clear E a; intro a E
        refine S_v E rfl (R_move E rfl) rfl ?_
        clear E a; intro a E
        refine WL_nil ?_
        refine T_n ?_
        exact ⟨k + 1, ⟨M_2, hM_2, S, E.keep ⟨rfl, rfl, rfl, rfl, trivial⟩, by ((try clear S); (try clear E); first | assumption | omega | rfl | (simp; done) | (simp_all; done) | (simp [List.take_add_one, *]; done) | grind [List.take_add_one]), by ((try clear S); (try clear E); first | assumption | omega | rfl | (simp; done) | (simp_all; done) | (simp [List.take_add_one, *]; done) | grind [List.take_add_one]), (by exact eqp_step (by assumption) (by assumption) (by assumption) (p2_eq (by first | assumption | exact Decidable.not_not.1 (by assumption))))⟩, by omega⟩
    · replace hc_3 := of_decide_eq_false hc_3
      refine WP_exit ?_
      refine T_x ?_
      refine T_x ?_
      refine B_x ?_
      refine T_n ?_
      refine WP_seq ?_
      refine WP_region ?_
      refine S_v E rfl (R_assign E rfl) rfl ?_
      clear E a; intro a E
      refine WL_nil ?_
      refine T_n ?_
      refine WP_ret ?_
      exact F_ret1 E Try.results26 rfl ⟨_, rfl, M_2, hM_2, (bT (by (first | (simp; done) | exact eqp_no (by assumption) (by assumption) (p2_ne (by assumption)) | (have h9 : l0.take k = l1.take k := (by assumption); rwa [List.take_of_length_le (by omega), List.take_of_length_le (by omega)] at h9) | (intro h9; subst h9; omega) | (intro h9; subst h9; simp_all; done)))), S⟩

set_option maxRecDepth 100000 in
set_option maxHeartbeats 4000000 in
theorem laws_FnUniquesBy {M : Hp} {v0 : Value} {l0 : List Int} (h0 : RdI M v0 l0){kk1 kn1 : Int} (gk1 : -9223372036854775808 ≤ kn1 ∧ kn1 ≤ 9223372036854775807) (hr0 : (∀ x ∈ l0, -9223372036854775808 ≤ x ∧ x ≤ 9223372036854775807)) :
    PuC Try.prog 3 M [v0, .agg #[.int .i64 kk1, .int .i64 kn1]] (fun r M' => r = .bool true) := by
  refine PuC_enter Try.func3 rfl Try.ntmps3 rfl ?_
  intro a w M1 H hM1 S E
  replace h0 := h0.le hM1
  have b0 := h0.bound
  refine WP_seq ?_
  refine WP_region ?_
  refine S_x (X_box (cs := #[.int .i64 kk1, .int .i64 kn1]) E S rfl rfl rfl ?_)
  clear E a S; rintro a w b_1 E S
  obtain ⟨M_2, hM_2, hb_1, S⟩ := S.freezeB
  replace h0 := h0.le hM_2
  refine S_v E rfl (R_assign E rfl) rfl ?_
  clear E a; intro a E
  refine WL_nil ?_
  refine T_n ?_
  refine WP_seq ?_
  refine WP_seq ?_
  refine WP_region ?_
  refine S_v E rfl (R_move E rfl) rfl ?_
  clear E a; intro a E
  refine S_v E rfl (R_lenV E rfl T22 h0.len) rfl ?_
  clear E a; intro a E
  refine S_v E rfl (R_gtr E rfl rfl) rfl ?_
  clear E a; intro a E
  refine WL_nil ?_
  refine T_n ?_
  refine WP_cond E rfl (fun hc_3 => ?_) (fun hc_3 => ?_)
  · replace hc_3 := of_decide_eq_true hc_3
    refine WP_seq ?_
    refine WP_region ?_
    refine S_v E rfl (R_assign E rfl) rfl ?_
    clear E a; intro a E
    refine WL_nil ?_
    refine T_n ?_
    refine WP_ret ?_
    refine T_r ?_
    exact F_ret1 E Try.results3 rfl ⟨_, rfl, M_2, hM_2, rfl, S⟩
  · replace hc_3 := of_decide_eq_false hc_3
    refine WP_skip ?_
    refine T_n ?_
    refine WP_seq ?_
    refine WP_seq ?_
    refine WP_region ?_
    refine S_x (X_buildI (ys := [1, 1]) E S rfl T22 rfl rfl rfl ?_)
    clear E a S; rintro a w v_4 E S
    refine S_v E rfl (R_build (u := .agg #[.int .i64 0, .int .i64 0]) (vs := []) E rfl (fun w => FB24__  w)) rfl ?_
    clear E a; intro a E
    have S0 := S; clear S
    obtain ⟨M_5, hM_5, hz_6, S⟩ := S0.freezeI (by (first | (simp; done) | omega | (have hul := uqS_len (fun x => keyAt kk1 kn1 x 0) (l0.take k); rw [List.length_take] at hul; omega)))
    clear S0
    replace h0 := h0.le hM_5
    replace hb_1 := hM_5.2 _ _ hb_1
    refine S_x (X_pu E S rfl rfl rfl (impl_UniqBy hz_6 (by omega) (by (first | omega | (simp; omega) | (simp; done) | (simp_all; omega) | grind))) (Hp.le.refl _) ?_)
    clear E a S; rintro a v_8 w M_7 hM_7 hv_8 S E
    replace h0 := h0.le hM_7
    replace hb_1 := hM_7.2 _ _ hb_1
    replace hz_6 := hz_6.le hM_7
    refine S_v E rfl (R_lenV E rfl T22 hv_8.len) rfl ?_
    clear E a; intro a E
    refine S_v E rfl (R_neq E rfl rfl) rfl ?_
    clear E a; intro a E
    refine WL_nil ?_
    refine T_n ?_
    have hc_9 : (decide (((((uqS (fun x => keyAt 0 0 x 0) [1, 1]).2).length : Nat) : Int) ≠ 1)) = false := by (clear S E; first | (simp; done) | decide | (simp only [uq_two]; decide) | (first | refine dec_t ?_ | refine dec_f ?_ | skip); first | rfl | exact uq_self hr0 | exact (uq_self hr0).symm | exact fu_self hr0 | exact fd_self hr0 | exact same_pq (List.Perm.refl _) | exact td_same _ _ | exact same_pq (td_fd _ _) | (rw [List.take_of_length_le (by omega)]; done) | (rw [List.take_of_length_le (by omega)]; rfl))
    refine WP_condF E rfl hc_9 ?_
    refine WP_skip ?_
    refine T_n ?_
    refine WP_seq ?_
    refine WP_seq ?_
    refine WP_region ?_
    refine S_v E rfl (R_move E rfl) rfl ?_
    clear E a; intro a E
    refine S_x (X_buildM (R := RSl 1 RInt) (vs := [v0]) (xs := [l0]) (RSl_mono RInt_mono) E S rfl T39 rfl rfl rfl (by intro u hu; simp only [List.mem_cons, List.not_mem_nil, or_false] at hu; rcases hu with rfl <;> first | exact RdI.one h0 | rfl) rfl (rowsC (R := RSl 1 RInt) (RdI.row h0) rowsN) ?_)
    clear E a S; rintro a v_10 w M_11 hM_11 hv_10 S E
    replace hv_10 : RdII M_11 v_10 [l0] := hv_10
    replace h0 := h0.le hM_11
    replace hb_1 := hM_11.2 _ _ hb_1
    replace hz_6 := hz_6.le hM_11
    replace hv_8 := hv_8.le hM_11
    refine S_x (X_pu E S rfl rfl rfl (laws_few hv_10) (Hp.le.refl _) ?_)
    clear E a S; rintro a _ w M_12 hM_12 rfl S E
    replace h0 := h0.le hM_12
    replace hb_1 := hM_12.2 _ _ hb_1
    replace hz_6 := hz_6.le hM_12
    replace hv_8 := hv_8.le hM_12
    replace hv_10 := hv_10.le hM_12
    refine S_v E rfl (R_not E rfl) rfl ?_
    clear E a; intro a E
    refine S_v E rfl (R_move E rfl) rfl ?_
    clear E a; intro a E
    refine split_bool (!(decide (∀ x ∈ [l0], x.length ≤ 300))) (fun hc_13 => ?_) (fun hc_13 => ?_)
    · replace E := E.val (t := 22) rfl hc_13
      replace E := E.val (t := 23) rfl hc_13
      refine WL_guard_no E rfl rfl rfl rfl fun a E => ?_
      refine WL_guard_no E rfl rfl rfl rfl fun a E => ?_
      refine WL_guard_no E rfl rfl rfl rfl fun a E => ?_
      refine S_v E rfl (R_pickT E rfl rfl) rfl ?_
      clear E a; intro a E
      refine WL_nil ?_
      refine T_n ?_
      refine WP_condT E rfl rfl ?_
      refine WP_seq ?_
      refine WP_region ?_
      refine S_v E rfl (R_assign E rfl) rfl ?_
      clear E a; intro a E
      refine WL_nil ?_
      refine T_n ?_
      refine WP_ret ?_
      refine T_r ?_
      exact F_ret1 E Try.results3 rfl ⟨_, rfl, M_12, (hM_2.trans (hM_5.trans (hM_7.trans (hM_11.trans hM_12)))), rfl, S⟩
    · replace E := E.val (t := 22) rfl hc_13
      replace E := E.val (t := 23) rfl hc_13
      refine WL_guard_yes E rfl rfl ?_
      refine S_v E rfl (R_loadGM E rfl (Try.isAgg24 _) (Try.sizeOf24 _) S.imm hb_1) rfl ?_
      clear E a; intro a E
      refine WL_guard_yes E rfl rfl ?_
      refine S_x (X_pu E S rfl rfl rfl (laws_just (by omega)) (Hp.le.refl _) ?_)
      clear E a S; rintro a _ w M_14 hM_14 rfl S E
      replace h0 := h0.le hM_14
      replace hb_1 := hM_14.2 _ _ hb_1
      replace hz_6 := hz_6.le hM_14
      replace hv_8 := hv_8.le hM_14
      replace hv_10 := hv_10.le hM_14
      refine WL_guard_yes E rfl rfl ?_
      refine S_v E rfl (R_not E rfl) rfl ?_
      clear E a; intro a E
      refine S_v E rfl (R_pickF E rfl rfl) rfl ?_
      clear E a; intro a E
      refine WL_nil ?_
      refine T_n ?_
      refine WP_cond E rfl (fun hc_15 => ?_) (fun hc_15 => ?_)
      · refine WP_seq ?_
        refine WP_region ?_
        refine S_v E rfl (R_assign E rfl) rfl ?_
        clear E a; intro a E
        refine WL_nil ?_
        refine T_n ?_
        refine WP_ret ?_
        refine T_r ?_
        exact F_ret1 E Try.results3 rfl ⟨_, rfl, M_14, (hM_2.trans (hM_5.trans (hM_7.trans (hM_11.trans (hM_12.trans hM_14))))), rfl, S⟩
      · have hln : l0.length ≤ 300 := (by simp_all)
        have hkj : -1099511627776 < kn1 ∧ kn1 < 1099511627776 := (by simp_all)
        refine WP_skip ?_
        refine T_n ?_
        refine WP_seq ?_
        refine WP_region ?_
        refine S_v E rfl (R_assign E rfl) rfl ?_
        clear E a; intro a E
        refine S_v E rfl (R_assign E rfl) rfl ?_
        clear E a; intro a E
        refine WL_nil ?_
        refine T_n ?_
        refine WP_seq ?_
        refine WP_seq ?_
        refine WP_region ?_
        refine S_v E rfl (R_move E rfl) rfl ?_
        clear E a; intro a E
        refine S_v E rfl (R_lenV E rfl T22 h0.len) rfl ?_
        clear E a; intro a E
        refine S_v E rfl (R_move E rfl) rfl ?_
        clear E a; intro a E
        refine WL_nil ?_
        refine T_n ?_
        refine WP_block ?_
        replace S := (S.ownNil (e := 3) (sz := 1)).made0
        replace S := (S.ownNil (e := 3) (sz := 1)).made0
        replace S := S.front1
        replace S := S.re1 (l' := (uqS (fun x => keyAt kk1 kn1 x 0) (l0.take 0)).2) (by first | (simp [uqS]; done) | (rw [uq1_in (f := (fun x => keyAt kk1 kn1 x 0)) (by assumption) (by first | assumption | (simp_all; done))]; done) | (rw [uq1_out (f := (fun x => keyAt kk1 kn1 x 0)) (by assumption) (by first | assumption | (simp_all; done))]; done))
        replace S := S.front1
        replace S := S.re1 (l' := (uqS (fun x => keyAt kk1 kn1 x 0) (l0.take 0)).1) (by first | (simp [uqS]; done) | (rw [uq1_in (f := (fun x => keyAt kk1 kn1 x 0)) (by assumption) (by first | assumption | (simp_all; done))]; done) | (rw [uq1_out (f := (fun x => keyAt kk1 kn1 x 0)) (by assumption) (by first | assumption | (simp_all; done))]; done))
        refine WP_loop (γ := Nat) (fun (k : Nat) a w => ∃ (M_18 : Hp) (u5 : Value) (u6 : Value), Hp.le M_14 M_18 ∧ St w M_18 (OwnI 3 u5 ((uqS (fun x => keyAt kk1 kn1 x 0) (l0.take k)).1) :: OwnI 3 u6 ((uqS (fun x => keyAt kk1 kn1 x 0) (l0.take k)).2) :: H) ∧ Env a 114 [] [(0, v0), (3, .pointer (some ⟨b_1, 0, none⟩)), (5, u5), (6, u6), (28, v0), (29, .int .i64 (((l0).length : Nat) : Int)), (30, .int .i64 ((k : Nat) : Int))] ∧ (k ≤ (l0).length)) (fun k => ((l0).length) - k) 0 ⟨M_14, _, _, Hp.le.refl _, S, E.keep ⟨rfl, rfl, rfl, rfl, rfl, rfl, rfl, trivial⟩, by ((try clear S); (try clear E); first | assumption | omega | rfl | (simp; done) | (simp_all; done) | (simp [List.take_add_one, *]; done) | grind [List.take_add_one])⟩ ?_
        try clear E
        try clear S
        try clear a
        try clear w
        rintro k a w ⟨M_18, u5, u6, hM_18, S, E, hL0_0⟩
        replace h0 := h0.le hM_18
        replace hb_1 := hM_18.2 _ _ hb_1
        replace hz_6 := hz_6.le hM_18
        replace hv_8 := hv_8.le hM_18
        replace hv_10 := hv_10.le hM_18
        have hul := uqS_len (fun x => keyAt kk1 kn1 x 0) (l0.take k); rw [List.length_take] at hul
        refine WP_seq ?_
        refine WP_region ?_
        refine S_v E rfl (R_lss E rfl rfl) rfl ?_
        clear E a; intro a E
        refine WL_nil ?_
        refine T_n ?_
        refine WP_seq ?_
        refine WP_cond E rfl (fun hc_19 => ?_) (fun hc_19 => ?_)
        · replace hc_19 := of_decide_eq_true hc_19
          refine WP_skip ?_
          refine T_n ?_
          refine WP_seq ?_
          refine WP_block ?_
          refine WP_seq ?_
          refine WP_region ?_
          obtain ⟨x_20, hx_20⟩ : ∃ x, (l0)[k]? = some x := ⟨_, List.getElem?_eq_getElem (by first | omega | (simp; done) | (simp; omega) | (simp_all; omega))⟩
          obtain ⟨p_21, hp_21, qp_21⟩ := h0.at hx_20
          refine S_v E rfl (R_idx E rfl rfl T22 hp_21 rfl) rfl ?_
          clear E a; intro a E
          refine S_v E rfl (R_loadM E rfl Try.isAgg3 S.imm qp_21) rfl ?_
          clear E a; intro a E
          refine S_v E rfl (R_assign E rfl) rfl ?_
          clear E a; intro a E
          refine WL_nil ?_
          refine T_n ?_
          refine WP_seq ?_
          refine WP_region ?_
          refine S_v E rfl (R_loadGM E rfl (Try.isAgg24 _) (Try.sizeOf24 _) S.imm hb_1) rfl ?_
          clear E a; intro a E
          refine S_v E rfl (R_move E rfl) rfl ?_
          clear E a; intro a E
          refine S_x (X_pu E S rfl rfl rfl (laws_stands (by omega)) (Hp.le.refl _) ?_)
          clear E a S; rintro a _ w M_22 hM_22 rfl S E
          replace h0 := h0.le hM_22
          replace hb_1 := hM_22.2 _ _ hb_1
          replace hz_6 := hz_6.le hM_22
          replace hv_8 := hv_8.le hM_22
          replace hv_10 := hv_10.le hM_22
          refine S_v E rfl (R_assign E rfl) rfl ?_
          clear E a; intro a E
          refine WL_nil ?_
          refine T_n ?_
          refine WP_seq ?_
          refine WP_region ?_
          refine S_v E rfl (R_move E rfl) rfl ?_
          clear E a; intro a E
          refine S_v E rfl (R_move E rfl) rfl ?_
          clear E a; intro a E
          obtain ⟨ML_23, hl_24, hv_25, S1, back⟩ := S.lendI (by (have hul := uqS_len (fun x => keyAt kk1 kn1 x 0) (l0.take k); rw [List.length_take] at hul; omega))
          refine S_x (X_pu E S1 rfl rfl rfl (laws_in hv_25) (Hp.le.refl _) ?_)
          clear E a S; rintro a _ w M_26 hM_27 rfl S E
          replace S := back _ _ hM_27 S
          clear back S1
          refine S_v E rfl (R_not E rfl) rfl ?_
          clear E a; intro a E
          refine WL_nil ?_
          refine T_n ?_
          refine WP_cond E rfl (fun hc_28 => ?_) (fun hc_28 => ?_)
          · refine WP_region ?_
            refine S_v E rfl (R_move E rfl) rfl ?_
            clear E a; intro a E
            refine S_v E rfl (R_move E rfl) rfl ?_
            clear E a; intro a E
            refine S_x (X_buildI (ys := [keyAt kk1 kn1 x_20 0]) E S rfl T22 rfl rfl rfl ?_)
            clear E a S; rintro a w v_29 E S
            replace S := S.front1
            replace S := S.front1
            refine S_x (X_appendB (xs := (uqS (fun x => keyAt kk1 kn1 x 0) (l0.take k)).1) (ys := [keyAt kk1 kn1 x_20 0]) E S rfl rfl rfl T22 (by (simp only [List.length_cons, List.length_nil] at *; omega)) ?_)
            clear E a S; rintro a w v_30 E S
            refine S_v E rfl (R_move E rfl) rfl ?_
            clear E a; intro a E
            refine S_v E rfl (R_move E rfl) rfl ?_
            clear E a; intro a E
            refine S_x (X_buildI (ys := [x_20]) E S rfl T22 rfl rfl rfl ?_)
            clear E a S; rintro a w v_31 E S
            replace S := S.front2
            replace S := S.front1
            refine S_x (X_appendB (xs := (uqS (fun x => keyAt kk1 kn1 x 0) (l0.take k)).2) (ys := [x_20]) E S rfl rfl rfl T22 (by (simp only [List.length_cons, List.length_nil] at *; omega)) ?_)
            clear E a S; rintro a w v_32 E S
            refine S_v E rfl (R_assign E rfl) rfl ?_
            clear E a; intro a E
            refine S_v E rfl (R_assign E rfl) rfl ?_
            clear E a; intro a E
            refine WL_nil ?_
            refine B_n ?_
            refine T_n ?_
            refine WP_region ?_
            refine S_v E rfl (R_addx (m := ((k + 1 : Nat) : Int)) E rfl rfl (by omega) (by omega)) rfl ?_
            clear E a; intro a E
            refine S_v E rfl (R_move E rfl) rfl ?_
            clear E a; intro a E
            refine WL_nil ?_
            refine T_n ?_
            replace S := S.front1
            replace S := S.front1
            replace S := S.re1 (l' := (uqS (fun x => keyAt kk1 kn1 x 0) (l0.take (k + 1))).2) (by first | (simp [uqS]; done) | (rw [uq1_in (f := (fun x => keyAt kk1 kn1 x 0)) (by assumption) (by first | assumption | (simp_all; done))]; done) | (rw [uq1_out (f := (fun x => keyAt kk1 kn1 x 0)) (by assumption) (by first | assumption | (simp_all; done))]; done))
            replace S := S.front1
            replace S := S.re1 (l' := (uqS (fun x => keyAt kk1 kn1 x 0) (l0.take (k + 1))).1) (by first | (simp [uqS]; done) | (rw [uq1_in (f := (fun x => keyAt kk1 kn1 x 0)) (by assumption) (by first | assumption | (simp_all; done))]; done) | (rw [uq1_out (f := (fun x => keyAt kk1 kn1 x 0)) (by assumption) (by first | assumption | (simp_all; done))]; done))
            exact ⟨k + 1, ⟨M_22, _, _, (hM_18.trans hM_22), S, E.keep ⟨rfl, rfl, rfl, rfl, rfl, rfl, rfl, trivial⟩, by ((try clear S); (try clear E); first | assumption | omega | rfl | (simp; done) | (simp_all; done) | (simp [List.take_add_one, *]; done) | grind [List.take_add_one])⟩, by omega⟩
          · refine WP_skip ?_
            refine B_n ?_
            refine T_n ?_
            refine WP_region ?_
            refine S_v E rfl (R_addx (m := ((k + 1 : Nat) : Int)) E rfl rfl (by omega) (by omega)) rfl ?_
            clear E a; intro a E
            refine S_v E rfl (R_move E rfl) rfl ?_
            clear E a; intro a E
            refine WL_nil ?_
            refine T_n ?_
            replace S := S.front1
            replace S := S.re1 (l' := (uqS (fun x => keyAt kk1 kn1 x 0) (l0.take (k + 1))).2) (by first | (simp [uqS]; done) | (rw [uq1_in (f := (fun x => keyAt kk1 kn1 x 0)) (by assumption) (by first | assumption | (simp_all; done))]; done) | (rw [uq1_out (f := (fun x => keyAt kk1 kn1 x 0)) (by assumption) (by first | assumption | (simp_all; done))]; done))
            replace S := S.front1
            replace S := S.re1 (l' := (uqS (fun x => keyAt kk1 kn1 x 0) (l0.take (k + 1))).1) (by first | (simp [uqS]; done) | (rw [uq1_in (f := (fun x => keyAt kk1 kn1 x 0)) (by assumption) (by first | assumption | (simp_all; done))]; done) | (rw [uq1_out (f := (fun x => keyAt kk1 kn1 x 0)) (by assumption) (by first | assumption | (simp_all; done))]; done))
            exact ⟨k + 1, ⟨M_22, _, _, (hM_18.trans hM_22), S, E.keep ⟨rfl, rfl, rfl, rfl, rfl, rfl, rfl, trivial⟩, by ((try clear S); (try clear E); first | assumption | omega | rfl | (simp; done) | (simp_all; done) | (simp [List.take_add_one, *]; done) | grind [List.take_add_one])⟩, by omega⟩
        · replace hc_19 := of_decide_eq_false hc_19
          refine WP_exit ?_
          refine T_x ?_
          refine T_x ?_
          refine B_x ?_
          refine T_n ?_
          refine WP_seq ?_
          refine WP_region ?_
          refine S_v E rfl (R_build (u := .agg #[.int .i64 0, .int .i64 0]) (vs := []) E rfl (fun w => FB24__  w)) rfl ?_
          clear E a; intro a E
          refine S_x (X_alloc (cs := #[.int .i64 0, .int .i64 0]) E S rfl Try.zeroValue24 rfl ?_)
          clear E a S; rintro a w b_33 E S
          refine S_x0 (X_storeG (us := [.int .i64 0, .int .i64 0]) E S rfl rfl (Try.sizeOf24 _) rfl (by intro u hu; simp only [List.mem_cons, List.not_mem_nil, or_false] at hu; rcases hu with rfl | rfl <;> first | exact rfl | exact rfl) ?_)
          clear E a S; rintro a w E S
          replace S : St w M_18 (blk b_33 (.cells #[.int .i64 0, .int .i64 0] 24) :: _) := S
          have S0 := S; clear S
          obtain ⟨M_34, hM_34, hb_35, S⟩ := S0.freezeB
          clear S0
          replace h0 := h0.le hM_34
          replace hb_1 := hM_34.2 _ _ hb_1
          replace hz_6 := hz_6.le hM_34
          replace hv_8 := hv_8.le hM_34
          replace hv_10 := hv_10.le hM_34
          refine WL_nil ?_
          refine T_n ?_
          refine WP_seq ?_
          have hb_1k35 := hb_1
          have hb_35k35 := hb_35
          replace S := S.mono_heap (w' := World.drew _) rfl
          refine WP_drawn (C := fun x w => agree M_34 w) (bf := (fun i => [])) [0, 1, 3, 5, 6, 7, 9, 11, 12, 13, 14, 16, 19, 20, 21, 22, 24, 27, 28, 29, 30, 32, 35, 36, 37, 38, 40, 41, 44, 45, 46, 47, 49, 50, 53, 54, 55, 56, 58, 59, 62, 63] [0, 1, 3, 2, 4, 5, 6, 7, 9, 8, 10, 11, 12, 13, 14, 16, 15, 17, 18, 19, 20, 21, 22, 24, 23, 25, 26, 27, 28, 29, 30, 32, 31, 33, 34, 35, 36, 37, 38, 40, 41, 39, 42, 43, 44, 45, 46, 47, 49, 50, 48, 51, 52, 53, 54, 55, 56, 58, 59, 57, 60, 61, 62, 63] Try.mixed (by kernel_rfl) (fun x hq => S.imm) ?_
          refine D_v E rfl rfl rfl (fun w hC => (R_move E rfl)) ?_
          clear E a; intro a E
          refine D_v E rfl rfl rfl (fun w hC => (R_loadGM E rfl (Try.isAgg24 _) (Try.sizeOf24 _) hC hb_1k35)) ?_
          clear E a; intro a E
          refine D_v E rfl rfl rfl (fun w hC => (R_move E rfl)) ?_
          clear E a; intro a E
          refine D_x rfl rfl rfl (X_pu E S rfl rfl rfl (impl_UniqBy h0 (by omega) (by (first | omega | (simp; omega) | (simp; done) | (simp_all; omega) | grind))) (Hp.le.refl _) ?_)
          clear E a S; rintro a v_37 w M_36 hM_36 hv_37 S E
          replace h0 := h0.le hM_36
          replace hb_1 := hM_36.2 _ _ hb_1
          replace hz_6 := hz_6.le hM_36
          replace hv_8 := hv_8.le hM_36
          replace hv_10 := hv_10.le hM_36
          replace hb_35 := hM_36.2 _ _ hb_35
          refine ⟨fun x hq hb => (agree_le hM_36 S.imm), ?_⟩
          replace S := S.front1
          have S0 := S; clear S
          obtain ⟨M_38, hM_38, hz_39, S⟩ := S0.freezeI (by (first | (simp; done) | omega | (have hul := uqS_len (fun x => keyAt kk1 kn1 x 0) (l0.take k); rw [List.length_take] at hul; omega)))
          clear S0
          replace h0 := h0.le hM_38
          replace hb_1 := hM_38.2 _ _ hb_1
          replace hz_6 := hz_6.le hM_38
          replace hv_8 := hv_8.le hM_38
          replace hv_10 := hv_10.le hM_38
          replace hb_35 := hM_38.2 _ _ hb_35
          replace hv_37 := hv_37.le hM_38
          refine D_x rfl rfl rfl (X_pu E S rfl rfl rfl (laws_eq hv_37 hz_39) (Hp.le.refl _) ?_)
          clear E a S; rintro a _ w M_40 hM_40 rfl S E
          replace h0 := h0.le hM_40
          replace hb_1 := hM_40.2 _ _ hb_1
          replace hz_6 := hz_6.le hM_40
          replace hv_8 := hv_8.le hM_40
          replace hv_10 := hv_10.le hM_40
          replace hb_35 := hM_40.2 _ _ hb_35
          replace hv_37 := hv_37.le hM_40
          replace hz_39 := hz_39.le hM_40
          refine ⟨fun x hq hb => (agree_le (hM_36.trans (hM_38.trans hM_40)) S.imm), ?_⟩
          refine D_v E rfl rfl rfl (fun w hC => (R_move E rfl)) ?_
          clear E a; intro a E
          have hc_41 : (decide ((uqS (fun x => keyAt kk1 kn1 x 0) l0).2 = (uqS (fun x => keyAt kk1 kn1 x 0) (l0.take k)).2)) = true := by (clear S E; first | (simp; done) | decide | (simp only [uq_two]; decide) | (first | refine dec_t ?_ | refine dec_f ?_ | skip); first | rfl | exact uq_self hr0 | exact (uq_self hr0).symm | exact fu_self hr0 | exact fd_self hr0 | exact same_pq (List.Perm.refl _) | exact td_same _ _ | exact same_pq (td_fd _ _) | (rw [List.take_of_length_le (by omega)]; done) | (rw [List.take_of_length_le (by omega)]; rfl))
          replace E := E.val (t := 55) rfl hc_41
          replace E := E.val (t := 56) rfl hc_41
          refine D_vyes E rfl rfl rfl rfl rfl (fun w hC => (R_move E rfl)) ?_
          clear E a; intro a E
          refine D_vyes E rfl rfl rfl rfl rfl (fun w hC => (R_loadGM E rfl (Try.isAgg24 _) (Try.sizeOf24 _) hC hb_1k35)) ?_
          clear E a; intro a E
          refine D_vyes E rfl rfl rfl rfl rfl (fun w hC => (R_move E rfl)) ?_
          clear E a; intro a E
          refine D_yes E rfl rfl rfl rfl (X_pu E S rfl rfl rfl (impl_UniqBySeq h0 (by omega) (by (first | omega | (simp; omega) | (simp; done) | (simp_all; omega) | grind))) (Hp.le.refl _) ?_)
          clear E a S; rintro a v_43 w M_42 hM_42 hv_43 S E
          replace h0 := h0.le hM_42
          replace hb_1 := hM_42.2 _ _ hb_1
          replace hz_6 := hz_6.le hM_42
          replace hv_8 := hv_8.le hM_42
          replace hv_10 := hv_10.le hM_42
          replace hb_35 := hM_42.2 _ _ hb_35
          replace hv_37 := hv_37.le hM_42
          replace hz_39 := hz_39.le hM_42
          refine ⟨fun x hq hb => (agree_le (hM_36.trans (hM_38.trans (hM_40.trans hM_42))) S.imm), ?_⟩
          refine D_yes E rfl rfl rfl rfl (X_pu E S rfl rfl rfl (laws_eq hv_43 hz_39) (Hp.le.refl _) ?_)
          clear E a S; rintro a _ w M_44 hM_44 rfl S E
          replace h0 := h0.le hM_44
          replace hb_1 := hM_44.2 _ _ hb_1
          replace hz_6 := hz_6.le hM_44
          replace hv_8 := hv_8.le hM_44
          replace hv_10 := hv_10.le hM_44
          replace hb_35 := hM_44.2 _ _ hb_35
          replace hv_37 := hv_37.le hM_44
          replace hz_39 := hz_39.le hM_44
          replace hv_43 := hv_43.le hM_44
          refine ⟨fun x hq hb => (agree_le (hM_36.trans (hM_38.trans (hM_40.trans (hM_42.trans hM_44)))) S.imm), ?_⟩
          refine D_v E rfl rfl rfl (fun w hC => (R_pickT E rfl rfl)) ?_
          clear E a; intro a E
          refine D_v E rfl rfl rfl (fun w hC => (R_move E rfl)) ?_
          clear E a; intro a E
          have hc_45 : (decide ((uqS (fun x => keyAt kk1 kn1 x 0) l0).2 = (uqS (fun x => keyAt kk1 kn1 x 0) (l0.take k)).2)) = true := by (clear S E; first | (simp; done) | decide | (simp only [uq_two]; decide) | (first | refine dec_t ?_ | refine dec_f ?_ | skip); first | rfl | exact uq_self hr0 | exact (uq_self hr0).symm | exact fu_self hr0 | exact fd_self hr0 | exact same_pq (List.Perm.refl _) | exact td_same _ _ | exact same_pq (td_fd _ _) | (rw [List.take_of_length_le (by omega)]; done) | (rw [List.take_of_length_le (by omega)]; rfl))
          replace E := E.val (t := 61) rfl hc_45
          replace E := E.val (t := 62) rfl hc_45
          replace E := E.val (t := 63) rfl hc_45
          refine D_vyes E rfl rfl rfl rfl rfl (fun w hC => (R_move E rfl)) ?_
          clear E a; intro a E
          refine D_vyes E rfl rfl rfl rfl rfl (fun w hC => (R_loadGM E rfl (Try.isAgg24 _) (Try.sizeOf24 _) hC hb_35k35)) ?_
          clear E a; intro a E
          refine D_vyes E rfl rfl rfl rfl rfl (fun w hC => (R_move E rfl)) ?_
          clear E a; intro a E
          refine D_yes E rfl rfl rfl rfl (X_pu E S rfl rfl rfl (impl_UniqBy h0 (by omega) (by (first | omega | (simp; omega) | (simp; done) | (simp_all; omega) | grind))) (Hp.le.refl _) ?_)
          clear E a S; rintro a v_47 w M_46 hM_46 hv_47 S E
          replace h0 := h0.le hM_46
          replace hb_1 := hM_46.2 _ _ hb_1
          replace hz_6 := hz_6.le hM_46
          replace hv_8 := hv_8.le hM_46
          replace hv_10 := hv_10.le hM_46
          replace hb_35 := hM_46.2 _ _ hb_35
          replace hv_37 := hv_37.le hM_46
          replace hz_39 := hz_39.le hM_46
          replace hv_43 := hv_43.le hM_46
          refine ⟨fun x hq hb => (agree_le (hM_36.trans (hM_38.trans (hM_40.trans (hM_42.trans (hM_44.trans hM_46))))) S.imm), ?_⟩
          refine D_yes E rfl rfl rfl rfl (X_pu E S rfl rfl rfl (impl_Uniq h0 (by (first | omega | (simp; omega) | (simp; done) | (simp_all; omega) | grind))) (Hp.le.refl _) ?_)
          clear E a S; rintro a v_49 w M_48 hM_48 hv_49 S E
          replace h0 := h0.le hM_48
          replace hb_1 := hM_48.2 _ _ hb_1
          replace hz_6 := hz_6.le hM_48
          replace hv_8 := hv_8.le hM_48
          replace hv_10 := hv_10.le hM_48
          replace hb_35 := hM_48.2 _ _ hb_35
          replace hv_37 := hv_37.le hM_48
          replace hz_39 := hz_39.le hM_48
          replace hv_43 := hv_43.le hM_48
          replace hv_47 := hv_47.le hM_48
          refine ⟨fun x hq hb => (agree_le (hM_36.trans (hM_38.trans (hM_40.trans (hM_42.trans (hM_44.trans (hM_46.trans hM_48)))))) S.imm), ?_⟩
          refine D_yes E rfl rfl rfl rfl (X_pu E S rfl rfl rfl (laws_eq hv_47 hv_49) (Hp.le.refl _) ?_)
          clear E a S; rintro a _ w M_50 hM_50 rfl S E
          replace h0 := h0.le hM_50
          replace hb_1 := hM_50.2 _ _ hb_1
          replace hz_6 := hz_6.le hM_50
          replace hv_8 := hv_8.le hM_50
          replace hv_10 := hv_10.le hM_50
          replace hb_35 := hM_50.2 _ _ hb_35
          replace hv_37 := hv_37.le hM_50
          replace hz_39 := hz_39.le hM_50
          replace hv_43 := hv_43.le hM_50
          replace hv_47 := hv_47.le hM_50
          replace hv_49 := hv_49.le hM_50
          refine ⟨fun x hq hb => (agree_le (hM_36.trans (hM_38.trans (hM_40.trans (hM_42.trans (hM_44.trans (hM_46.trans (hM_48.trans hM_50))))))) S.imm), ?_⟩
          refine D_v E rfl rfl rfl (fun w hC => (R_pickT E rfl rfl)) ?_
          clear E a; intro a E
          refine D_v E rfl rfl rfl (fun w hC => (R_move E rfl)) ?_
          clear E a; intro a E
          have hc_51 : (decide ((uqS (fun x => keyAt 0 0 x 0) l0).2 = keyL l0)) = true := by (clear S E; first | (simp; done) | decide | (simp only [uq_two]; decide) | (first | refine dec_t ?_ | refine dec_f ?_ | skip); first | rfl | exact uq_self hr0 | exact (uq_self hr0).symm | exact fu_self hr0 | exact fd_self hr0 | exact same_pq (List.Perm.refl _) | exact td_same _ _ | exact same_pq (td_fd _ _) | (rw [List.take_of_length_le (by omega)]; done) | (rw [List.take_of_length_le (by omega)]; rfl))
          replace E := E.val (t := 69) rfl hc_51
          replace E := E.val (t := 70) rfl hc_51
          replace E := E.val (t := 71) rfl hc_51
          refine D_vyes E rfl rfl rfl rfl rfl (fun w hC => (R_move E rfl)) ?_
          clear E a; intro a E
          refine D_vyes E rfl rfl rfl rfl rfl (fun w hC => (R_loadGM E rfl (Try.isAgg24 _) (Try.sizeOf24 _) hC hb_35k35)) ?_
          clear E a; intro a E
          refine D_vyes E rfl rfl rfl rfl rfl (fun w hC => (R_move E rfl)) ?_
          clear E a; intro a E
          refine D_yes E rfl rfl rfl rfl (X_pu E S rfl rfl rfl (impl_FindUniquesBy h0 (by omega) (by (first | omega | (simp; omega) | (simp; done) | (simp_all; omega) | grind))) (Hp.le.refl _) ?_)
          clear E a S; rintro a v_53 w M_52 hM_52 hv_53 S E
          replace h0 := h0.le hM_52
          replace hb_1 := hM_52.2 _ _ hb_1
          replace hz_6 := hz_6.le hM_52
          replace hv_8 := hv_8.le hM_52
          replace hv_10 := hv_10.le hM_52
          replace hb_35 := hM_52.2 _ _ hb_35
          replace hv_37 := hv_37.le hM_52
          replace hz_39 := hz_39.le hM_52
          replace hv_43 := hv_43.le hM_52
          replace hv_47 := hv_47.le hM_52
          replace hv_49 := hv_49.le hM_52
          refine ⟨fun x hq hb => (agree_le (hM_36.trans (hM_38.trans (hM_40.trans (hM_42.trans (hM_44.trans (hM_46.trans (hM_48.trans (hM_50.trans hM_52)))))))) S.imm), ?_⟩
          refine D_yes E rfl rfl rfl rfl (X_pu E S rfl rfl rfl (impl_FindUniques h0 (by (first | omega | (simp; omega) | (simp; done) | (simp_all; omega) | grind))) (Hp.le.refl _) ?_)
          clear E a S; rintro a v_55 w M_54 hM_54 hv_55 S E
          replace h0 := h0.le hM_54
          replace hb_1 := hM_54.2 _ _ hb_1
          replace hz_6 := hz_6.le hM_54
          replace hv_8 := hv_8.le hM_54
          replace hv_10 := hv_10.le hM_54
          replace hb_35 := hM_54.2 _ _ hb_35
          replace hv_37 := hv_37.le hM_54
          replace hz_39 := hz_39.le hM_54
          replace hv_43 := hv_43.le hM_54
          replace hv_47 := hv_47.le hM_54
          replace hv_49 := hv_49.le hM_54
          replace hv_53 := hv_53.le hM_54
          refine ⟨fun x hq hb => (agree_le (hM_36.trans (hM_38.trans (hM_40.trans (hM_42.trans (hM_44.trans (hM_46.trans (hM_48.trans (hM_50.trans (hM_52.trans hM_54))))))))) S.imm), ?_⟩
          refine D_yes E rfl rfl rfl rfl (X_pu E S rfl rfl rfl (laws_eq hv_53 hv_55) (Hp.le.refl _) ?_)
          clear E a S; rintro a _ w M_56 hM_56 rfl S E
          replace h0 := h0.le hM_56
          replace hb_1 := hM_56.2 _ _ hb_1
          replace hz_6 := hz_6.le hM_56
          replace hv_8 := hv_8.le hM_56
          replace hv_10 := hv_10.le hM_56
          replace hb_35 := hM_56.2 _ _ hb_35
          replace hv_37 := hv_37.le hM_56
          replace hz_39 := hz_39.le hM_56
          replace hv_43 := hv_43.le hM_56
          replace hv_47 := hv_47.le hM_56
          replace hv_49 := hv_49.le hM_56
          replace hv_53 := hv_53.le hM_56
          replace hv_55 := hv_55.le hM_56
          refine ⟨fun x hq hb => (agree_le (hM_36.trans (hM_38.trans (hM_40.trans (hM_42.trans (hM_44.trans (hM_46.trans (hM_48.trans (hM_50.trans (hM_52.trans (hM_54.trans hM_56)))))))))) S.imm), ?_⟩
          refine D_v E rfl rfl rfl (fun w hC => (R_pickT E rfl rfl)) ?_
          clear E a; intro a E
          refine D_v E rfl rfl rfl (fun w hC => (R_move E rfl)) ?_
          clear E a; intro a E
          have hc_57 : (decide ((l0).filter (fun x => !getK false (dupM (fun x => keyAt 0 0 x 0) l0) ((fun x => keyAt 0 0 x 0) x)) = (l0).filter (fun x => !getK false (dupM (fun x => x) l0) ((fun x => x) x)))) = true := by (clear S E; first | (simp; done) | decide | (simp only [uq_two]; decide) | (first | refine dec_t ?_ | refine dec_f ?_ | skip); first | rfl | exact uq_self hr0 | exact (uq_self hr0).symm | exact fu_self hr0 | exact fd_self hr0 | exact same_pq (List.Perm.refl _) | exact td_same _ _ | exact same_pq (td_fd _ _) | (rw [List.take_of_length_le (by omega)]; done) | (rw [List.take_of_length_le (by omega)]; rfl))
          replace E := E.val (t := 77) rfl hc_57
          replace E := E.val (t := 78) rfl hc_57
          replace E := E.val (t := 79) rfl hc_57
          refine D_vyes E rfl rfl rfl rfl rfl (fun w hC => (R_move E rfl)) ?_
          clear E a; intro a E
          refine D_vyes E rfl rfl rfl rfl rfl (fun w hC => (R_loadGM E rfl (Try.isAgg24 _) (Try.sizeOf24 _) hC hb_35k35)) ?_
          clear E a; intro a E
          refine D_vyes E rfl rfl rfl rfl rfl (fun w hC => (R_move E rfl)) ?_
          clear E a; intro a E
          refine D_yes E rfl rfl rfl rfl (X_pu E S rfl rfl rfl (impl_FindDuplicatesBy h0 (by omega) (by (first | omega | (simp; omega) | (simp; done) | (simp_all; omega) | grind))) (Hp.le.refl _) ?_)
          clear E a S; rintro a v_59 w M_58 hM_58 hv_59 S E
          replace h0 := h0.le hM_58
          replace hb_1 := hM_58.2 _ _ hb_1
          replace hz_6 := hz_6.le hM_58
          replace hv_8 := hv_8.le hM_58
          replace hv_10 := hv_10.le hM_58
          replace hb_35 := hM_58.2 _ _ hb_35
          replace hv_37 := hv_37.le hM_58
          replace hz_39 := hz_39.le hM_58
          replace hv_43 := hv_43.le hM_58
          replace hv_47 := hv_47.le hM_58
          replace hv_49 := hv_49.le hM_58
          replace hv_53 := hv_53.le hM_58
          replace hv_55 := hv_55.le hM_58
          refine ⟨fun x hq hb => (agree_le (hM_36.trans (hM_38.trans (hM_40.trans (hM_42.trans (hM_44.trans (hM_46.trans (hM_48.trans (hM_50.trans (hM_52.trans (hM_54.trans (hM_56.trans hM_58))))))))))) S.imm), ?_⟩
          refine D_yes E rfl rfl rfl rfl (X_pu E S rfl rfl rfl (impl_FindDuplicates h0 (by (first | omega | (simp; omega) | (simp; done) | (simp_all; omega) | grind))) (Hp.le.refl _) ?_)
          clear E a S; rintro a v_61 w M_60 hM_60 hv_61 S E
          replace h0 := h0.le hM_60
          replace hb_1 := hM_60.2 _ _ hb_1
          replace hz_6 := hz_6.le hM_60
          replace hv_8 := hv_8.le hM_60
          replace hv_10 := hv_10.le hM_60
          replace hb_35 := hM_60.2 _ _ hb_35
          replace hv_37 := hv_37.le hM_60
          replace hz_39 := hz_39.le hM_60
          replace hv_43 := hv_43.le hM_60
          replace hv_47 := hv_47.le hM_60
          replace hv_49 := hv_49.le hM_60
          replace hv_53 := hv_53.le hM_60
          replace hv_55 := hv_55.le hM_60
          replace hv_59 := hv_59.le hM_60
          refine ⟨fun x hq hb => (agree_le (hM_36.trans (hM_38.trans (hM_40.trans (hM_42.trans (hM_44.trans (hM_46.trans (hM_48.trans (hM_50.trans (hM_52.trans (hM_54.trans (hM_56.trans (hM_58.trans hM_60)))))))))))) S.imm), ?_⟩
          refine D_yes E rfl rfl rfl rfl (X_pu E S rfl rfl rfl (laws_eq hv_59 hv_61) (Hp.le.refl _) ?_)
          clear E a S; rintro a _ w M_62 hM_62 rfl S E
          replace h0 := h0.le hM_62
          replace hb_1 := hM_62.2 _ _ hb_1
          replace hz_6 := hz_6.le hM_62
          replace hv_8 := hv_8.le hM_62
          replace hv_10 := hv_10.le hM_62
          replace hb_35 := hM_62.2 _ _ hb_35
          replace hv_37 := hv_37.le hM_62
          replace hz_39 := hz_39.le hM_62
          replace hv_43 := hv_43.le hM_62
          replace hv_47 := hv_47.le hM_62
          replace hv_49 := hv_49.le hM_62
          replace hv_53 := hv_53.le hM_62
          replace hv_55 := hv_55.le hM_62
          replace hv_59 := hv_59.le hM_62
          replace hv_61 := hv_61.le hM_62
          refine ⟨fun x hq hb => (agree_le (hM_36.trans (hM_38.trans (hM_40.trans (hM_42.trans (hM_44.trans (hM_46.trans (hM_48.trans (hM_50.trans (hM_52.trans (hM_54.trans (hM_56.trans (hM_58.trans (hM_60.trans hM_62))))))))))))) S.imm), ?_⟩
          refine D_v E rfl rfl rfl (fun w hC => (R_pickT E rfl rfl)) ?_
          clear E a; intro a E
          refine D_v E rfl rfl rfl (fun w hC => (R_move E rfl)) ?_
          clear E a; intro a E
          have hc_63 : (decide ((fdS (fun x => keyAt 0 0 x 0) (dupM (fun x => keyAt 0 0 x 0) l0) l0).2 = (fdS (fun x => x) (dupM (fun x => x) l0) l0).2)) = true := by (clear S E; first | (simp; done) | decide | (simp only [uq_two]; decide) | (first | refine dec_t ?_ | refine dec_f ?_ | skip); first | rfl | exact uq_self hr0 | exact (uq_self hr0).symm | exact fu_self hr0 | exact fd_self hr0 | exact same_pq (List.Perm.refl _) | exact td_same _ _ | exact same_pq (td_fd _ _) | (rw [List.take_of_length_le (by omega)]; done) | (rw [List.take_of_length_le (by omega)]; rfl))
          replace E := E.val (t := 85) rfl hc_63
          replace E := E.val (t := 86) rfl hc_63
          replace E := E.val (t := 87) rfl hc_63
          refine D_vyes E rfl rfl rfl rfl rfl (fun w hC => (R_move E rfl)) ?_
          clear E a; intro a E
          refine D_vyes E rfl rfl rfl rfl rfl (fun w hC => (R_loadGM E rfl (Try.isAgg24 _) (Try.sizeOf24 _) hC hb_1k35)) ?_
          clear E a; intro a E
          refine D_vyes E rfl rfl rfl rfl rfl (fun w hC => (R_move E rfl)) ?_
          clear E a; intro a E
          refine D_vyes E rfl rfl rfl rfl rfl (fun w hC => (R_loadGM E rfl (Try.isAgg24 _) (Try.sizeOf24 _) hC hb_1k35)) ?_
          clear E a; intro a E
          refine D_yes E rfl rfl rfl rfl (X_pu E S rfl rfl rfl (impl_FindUniquesBySeq h0 (by omega) (by (first | omega | (simp; omega) | (simp; done) | (simp_all; omega) | grind))) (Hp.le.refl _) ?_)
          clear E a S; rintro a v_65 w M_64 hM_64 hv_65 S E
          replace h0 := h0.le hM_64
          replace hb_1 := hM_64.2 _ _ hb_1
          replace hz_6 := hz_6.le hM_64
          replace hv_8 := hv_8.le hM_64
          replace hv_10 := hv_10.le hM_64
          replace hb_35 := hM_64.2 _ _ hb_35
          replace hv_37 := hv_37.le hM_64
          replace hz_39 := hz_39.le hM_64
          replace hv_43 := hv_43.le hM_64
          replace hv_47 := hv_47.le hM_64
          replace hv_49 := hv_49.le hM_64
          replace hv_53 := hv_53.le hM_64
          replace hv_55 := hv_55.le hM_64
          replace hv_59 := hv_59.le hM_64
          replace hv_61 := hv_61.le hM_64
          refine ⟨fun x hq hb => (agree_le (hM_36.trans (hM_38.trans (hM_40.trans (hM_42.trans (hM_44.trans (hM_46.trans (hM_48.trans (hM_50.trans (hM_52.trans (hM_54.trans (hM_56.trans (hM_58.trans (hM_60.trans (hM_62.trans hM_64)))))))))))))) S.imm), ?_⟩
          refine D_yes E rfl rfl rfl rfl (X_pu E S rfl rfl rfl (impl_FindUniquesBy h0 (by omega) (by (first | omega | (simp; omega) | (simp; done) | (simp_all; omega) | grind))) (Hp.le.refl _) ?_)
          clear E a S; rintro a v_67 w M_66 hM_66 hv_67 S E
          replace h0 := h0.le hM_66
          replace hb_1 := hM_66.2 _ _ hb_1
          replace hz_6 := hz_6.le hM_66
          replace hv_8 := hv_8.le hM_66
          replace hv_10 := hv_10.le hM_66
          replace hb_35 := hM_66.2 _ _ hb_35
          replace hv_37 := hv_37.le hM_66
          replace hz_39 := hz_39.le hM_66
          replace hv_43 := hv_43.le hM_66
          replace hv_47 := hv_47.le hM_66
          replace hv_49 := hv_49.le hM_66
          replace hv_53 := hv_53.le hM_66
          replace hv_55 := hv_55.le hM_66
          replace hv_59 := hv_59.le hM_66
          replace hv_61 := hv_61.le hM_66
          replace hv_65 := hv_65.le hM_66
          refine ⟨fun x hq hb => (agree_le (hM_36.trans (hM_38.trans (hM_40.trans (hM_42.trans (hM_44.trans (hM_46.trans (hM_48.trans (hM_50.trans (hM_52.trans (hM_54.trans (hM_56.trans (hM_58.trans (hM_60.trans (hM_62.trans (hM_64.trans hM_66))))))))))))))) S.imm), ?_⟩
          refine D_yes E rfl rfl rfl rfl (X_pu E S rfl rfl rfl (laws_same hv_65 hv_67) (Hp.le.refl _) ?_)
          clear E a S; rintro a _ w M_68 hM_68 rfl S E
          replace h0 := h0.le hM_68
          replace hb_1 := hM_68.2 _ _ hb_1
          replace hz_6 := hz_6.le hM_68
          replace hv_8 := hv_8.le hM_68
          replace hv_10 := hv_10.le hM_68
          replace hb_35 := hM_68.2 _ _ hb_35
          replace hv_37 := hv_37.le hM_68
          replace hz_39 := hz_39.le hM_68
          replace hv_43 := hv_43.le hM_68
          replace hv_47 := hv_47.le hM_68
          replace hv_49 := hv_49.le hM_68
          replace hv_53 := hv_53.le hM_68
          replace hv_55 := hv_55.le hM_68
          replace hv_59 := hv_59.le hM_68
          replace hv_61 := hv_61.le hM_68
          replace hv_65 := hv_65.le hM_68
          replace hv_67 := hv_67.le hM_68
          refine ⟨fun x hq hb => (agree_le (hM_36.trans (hM_38.trans (hM_40.trans (hM_42.trans (hM_44.trans (hM_46.trans (hM_48.trans (hM_50.trans (hM_52.trans (hM_54.trans (hM_56.trans (hM_58.trans (hM_60.trans (hM_62.trans (hM_64.trans (hM_66.trans hM_68)))))))))))))))) S.imm), ?_⟩
          refine D_v E rfl rfl rfl (fun w hC => (R_pickT E rfl rfl)) ?_
          clear E a; intro a E
          refine D_v E rfl rfl rfl (fun w hC => (R_move E rfl)) ?_
          clear E a; intro a E
          have hc_69 : (decide (((l0).filter (fun x => !getK false (dupM (fun x => keyAt kk1 kn1 x 0) l0) ((fun x => keyAt kk1 kn1 x 0) x))).length = ((l0).filter (fun x => !getK false (dupM (fun x => keyAt kk1 kn1 x 0) l0) ((fun x => keyAt kk1 kn1 x 0) x))).length ∧ ∀ x ∈ (l0).filter (fun x => !getK false (dupM (fun x => keyAt kk1 kn1 x 0) l0) ((fun x => keyAt kk1 kn1 x 0) x)), ((l0).filter (fun x => !getK false (dupM (fun x => keyAt kk1 kn1 x 0) l0) ((fun x => keyAt kk1 kn1 x 0) x))).count x = ((l0).filter (fun x => !getK false (dupM (fun x => keyAt kk1 kn1 x 0) l0) ((fun x => keyAt kk1 kn1 x 0) x))).count x)) = true := by (clear S E; first | (simp; done) | decide | (simp only [uq_two]; decide) | (first | refine dec_t ?_ | refine dec_f ?_ | skip); first | rfl | exact uq_self hr0 | exact (uq_self hr0).symm | exact fu_self hr0 | exact fd_self hr0 | exact same_pq (List.Perm.refl _) | exact td_same _ _ | exact same_pq (td_fd _ _) | (rw [List.take_of_length_le (by omega)]; done) | (rw [List.take_of_length_le (by omega)]; rfl))
          replace E := E.val (t := 94) rfl hc_69
          replace E := E.val (t := 95) rfl hc_69
          replace E := E.val (t := 96) rfl hc_69
          refine D_vyes E rfl rfl rfl rfl rfl (fun w hC => (R_move E rfl)) ?_
          clear E a; intro a E
          refine D_vyes E rfl rfl rfl rfl rfl (fun w hC => (R_loadGM E rfl (Try.isAgg24 _) (Try.sizeOf24 _) hC hb_1k35)) ?_
          clear E a; intro a E
          refine D_vyes E rfl rfl rfl rfl rfl (fun w hC => (R_move E rfl)) ?_
          clear E a; intro a E
          refine D_vyes E rfl rfl rfl rfl rfl (fun w hC => (R_loadGM E rfl (Try.isAgg24 _) (Try.sizeOf24 _) hC hb_1k35)) ?_
          clear E a; intro a E
          refine D_yes E rfl rfl rfl rfl (X_pu E S rfl rfl rfl (impl_FindDuplicatesBySeq h0 (by omega) (by (first | omega | (simp; omega) | (simp; done) | (simp_all; omega) | grind))) (Hp.le.refl _) ?_)
          clear E a S; rintro a v_71 w M_70 hM_70 hv_71 S E
          replace h0 := h0.le hM_70
          replace hb_1 := hM_70.2 _ _ hb_1
          replace hz_6 := hz_6.le hM_70
          replace hv_8 := hv_8.le hM_70
          replace hv_10 := hv_10.le hM_70
          replace hb_35 := hM_70.2 _ _ hb_35
          replace hv_37 := hv_37.le hM_70
          replace hz_39 := hz_39.le hM_70
          replace hv_43 := hv_43.le hM_70
          replace hv_47 := hv_47.le hM_70
          replace hv_49 := hv_49.le hM_70
          replace hv_53 := hv_53.le hM_70
          replace hv_55 := hv_55.le hM_70
          replace hv_59 := hv_59.le hM_70
          replace hv_61 := hv_61.le hM_70
          replace hv_65 := hv_65.le hM_70
          replace hv_67 := hv_67.le hM_70
          refine ⟨fun x hq hb => (agree_le (hM_36.trans (hM_38.trans (hM_40.trans (hM_42.trans (hM_44.trans (hM_46.trans (hM_48.trans (hM_50.trans (hM_52.trans (hM_54.trans (hM_56.trans (hM_58.trans (hM_60.trans (hM_62.trans (hM_64.trans (hM_66.trans (hM_68.trans hM_70))))))))))))))))) S.imm), ?_⟩
          refine D_yes E rfl rfl rfl rfl (X_pu E S rfl rfl rfl (impl_FindDuplicatesBy h0 (by omega) (by (first | omega | (simp; omega) | (simp; done) | (simp_all; omega) | grind))) (Hp.le.refl _) ?_)
          clear E a S; rintro a v_73 w M_72 hM_72 hv_73 S E
          replace h0 := h0.le hM_72
          replace hb_1 := hM_72.2 _ _ hb_1
          replace hz_6 := hz_6.le hM_72
          replace hv_8 := hv_8.le hM_72
          replace hv_10 := hv_10.le hM_72
          replace hb_35 := hM_72.2 _ _ hb_35
          replace hv_37 := hv_37.le hM_72
          replace hz_39 := hz_39.le hM_72
          replace hv_43 := hv_43.le hM_72
          replace hv_47 := hv_47.le hM_72
          replace hv_49 := hv_49.le hM_72
          replace hv_53 := hv_53.le hM_72
          replace hv_55 := hv_55.le hM_72
          replace hv_59 := hv_59.le hM_72
          replace hv_61 := hv_61.le hM_72
          replace hv_65 := hv_65.le hM_72
          replace hv_67 := hv_67.le hM_72
          replace hv_71 := hv_71.le hM_72
          refine ⟨fun x hq hb => (agree_le (hM_36.trans (hM_38.trans (hM_40.trans (hM_42.trans (hM_44.trans (hM_46.trans (hM_48.trans (hM_50.trans (hM_52.trans (hM_54.trans (hM_56.trans (hM_58.trans (hM_60.trans (hM_62.trans (hM_64.trans (hM_66.trans (hM_68.trans (hM_70.trans hM_72)))))))))))))))))) S.imm), ?_⟩
          refine D_yes E rfl rfl rfl rfl (X_pu E S rfl rfl rfl (laws_same hv_71 hv_73) (Hp.le.refl _) ?_)
          clear E a S; rintro a _ w M_74 hM_74 rfl S E
          replace h0 := h0.le hM_74
          replace hb_1 := hM_74.2 _ _ hb_1
          replace hz_6 := hz_6.le hM_74
          replace hv_8 := hv_8.le hM_74
          replace hv_10 := hv_10.le hM_74
          replace hb_35 := hM_74.2 _ _ hb_35
          replace hv_37 := hv_37.le hM_74
          replace hz_39 := hz_39.le hM_74
          replace hv_43 := hv_43.le hM_74
          replace hv_47 := hv_47.le hM_74
          replace hv_49 := hv_49.le hM_74
          replace hv_53 := hv_53.le hM_74
          replace hv_55 := hv_55.le hM_74
          replace hv_59 := hv_59.le hM_74
          replace hv_61 := hv_61.le hM_74
          replace hv_65 := hv_65.le hM_74
          replace hv_67 := hv_67.le hM_74
          replace hv_71 := hv_71.le hM_74
          replace hv_73 := hv_73.le hM_74
          refine ⟨fun x hq hb => (agree_le (hM_36.trans (hM_38.trans (hM_40.trans (hM_42.trans (hM_44.trans (hM_46.trans (hM_48.trans (hM_50.trans (hM_52.trans (hM_54.trans (hM_56.trans (hM_58.trans (hM_60.trans (hM_62.trans (hM_64.trans (hM_66.trans (hM_68.trans (hM_70.trans (hM_72.trans hM_74))))))))))))))))))) S.imm), ?_⟩
          refine D_v E rfl rfl rfl (fun w hC => (R_pickT E rfl rfl)) ?_
          clear E a; intro a E
          refine D_v E rfl rfl rfl (fun w hC => (R_move E rfl)) ?_
          clear E a; intro a E
          have hc_75 : (decide (((tdS (fun x => keyAt kk1 kn1 x 0) l0).2).length = ((fdS (fun x => keyAt kk1 kn1 x 0) (dupM (fun x => keyAt kk1 kn1 x 0) l0) l0).2).length ∧ ∀ x ∈ (tdS (fun x => keyAt kk1 kn1 x 0) l0).2, ((tdS (fun x => keyAt kk1 kn1 x 0) l0).2).count x = ((fdS (fun x => keyAt kk1 kn1 x 0) (dupM (fun x => keyAt kk1 kn1 x 0) l0) l0).2).count x)) = true := by (clear S E; first | (simp; done) | decide | (simp only [uq_two]; decide) | (first | refine dec_t ?_ | refine dec_f ?_ | skip); first | rfl | exact uq_self hr0 | exact (uq_self hr0).symm | exact fu_self hr0 | exact fd_self hr0 | exact same_pq (List.Perm.refl _) | exact td_same _ _ | exact same_pq (td_fd _ _) | (rw [List.take_of_length_le (by omega)]; done) | (rw [List.take_of_length_le (by omega)]; rfl))
          replace E := E.val (t := 103) rfl hc_75
          replace E := E.val (t := 104) rfl hc_75
          replace E := E.val (t := 105) rfl hc_75
          refine D_vyes E rfl rfl rfl rfl rfl (fun w hC => (R_move E rfl)) ?_
          clear E a; intro a E
          refine D_vyes E rfl rfl rfl rfl rfl (fun w hC => (R_loadGM E rfl (Try.isAgg24 _) (Try.sizeOf24 _) hC hb_1k35)) ?_
          clear E a; intro a E
          refine D_vyes E rfl rfl rfl rfl rfl (fun w hC => (R_move E rfl)) ?_
          clear E a; intro a E
          refine D_vyes E rfl rfl rfl rfl rfl (fun w hC => (R_loadGM E rfl (Try.isAgg24 _) (Try.sizeOf24 _) hC hb_1k35)) ?_
          clear E a; intro a E
          refine D_yes E rfl rfl rfl rfl (X_pu E S rfl rfl rfl (impl_CountValuesBySeq h0 (by omega) (by (first | omega | (simp; omega) | (simp; done) | (simp_all; omega) | grind))) (Hp.le.refl _) ?_)
          clear E a S; rintro a v_77 w M_76 hM_76 hv_77 S E
          replace h0 := h0.le hM_76
          replace hb_1 := hM_76.2 _ _ hb_1
          replace hz_6 := hz_6.le hM_76
          replace hv_8 := hv_8.le hM_76
          replace hv_10 := hv_10.le hM_76
          replace hb_35 := hM_76.2 _ _ hb_35
          replace hv_37 := hv_37.le hM_76
          replace hz_39 := hz_39.le hM_76
          replace hv_43 := hv_43.le hM_76
          replace hv_47 := hv_47.le hM_76
          replace hv_49 := hv_49.le hM_76
          replace hv_53 := hv_53.le hM_76
          replace hv_55 := hv_55.le hM_76
          replace hv_59 := hv_59.le hM_76
          replace hv_61 := hv_61.le hM_76
          replace hv_65 := hv_65.le hM_76
          replace hv_67 := hv_67.le hM_76
          replace hv_71 := hv_71.le hM_76
          replace hv_73 := hv_73.le hM_76
          refine ⟨fun x hq hb => (agree_le (hM_36.trans (hM_38.trans (hM_40.trans (hM_42.trans (hM_44.trans (hM_46.trans (hM_48.trans (hM_50.trans (hM_52.trans (hM_54.trans (hM_56.trans (hM_58.trans (hM_60.trans (hM_62.trans (hM_64.trans (hM_66.trans (hM_68.trans (hM_70.trans (hM_72.trans (hM_74.trans hM_76)))))))))))))))))))) S.imm), ?_⟩
          refine D_yes E rfl rfl rfl rfl (X_pu E S rfl rfl rfl (impl_CountValuesBy h0 (by omega) (by (first | omega | (simp; omega) | (simp; done) | (simp_all; omega) | grind))) (Hp.le.refl _) ?_)
          clear E a S; rintro a v_79 w M_78 hM_78 hv_79 S E
          replace h0 := h0.le hM_78
          replace hb_1 := hM_78.2 _ _ hb_1
          replace hz_6 := hz_6.le hM_78
          replace hv_8 := hv_8.le hM_78
          replace hv_10 := hv_10.le hM_78
          replace hb_35 := hM_78.2 _ _ hb_35
          replace hv_37 := hv_37.le hM_78
          replace hz_39 := hz_39.le hM_78
          replace hv_43 := hv_43.le hM_78
          replace hv_47 := hv_47.le hM_78
          replace hv_49 := hv_49.le hM_78
          replace hv_53 := hv_53.le hM_78
          replace hv_55 := hv_55.le hM_78
          replace hv_59 := hv_59.le hM_78
          replace hv_61 := hv_61.le hM_78
          replace hv_65 := hv_65.le hM_78
          replace hv_67 := hv_67.le hM_78
          replace hv_71 := hv_71.le hM_78
          replace hv_73 := hv_73.le hM_78
          replace hv_77 := hv_77.le RP2_mono hM_78
          refine ⟨fun x hq hb => (agree_le (hM_36.trans (hM_38.trans (hM_40.trans (hM_42.trans (hM_44.trans (hM_46.trans (hM_48.trans (hM_50.trans (hM_52.trans (hM_54.trans (hM_56.trans (hM_58.trans (hM_60.trans (hM_62.trans (hM_64.trans (hM_66.trans (hM_68.trans (hM_70.trans (hM_72.trans (hM_74.trans (hM_76.trans hM_78))))))))))))))))))))) S.imm), ?_⟩
          refine D_yes E rfl rfl rfl rfl (X_pu E S rfl rfl rfl (laws_eqPairs hv_77 hv_79) (Hp.le.refl _) ?_)
          clear E a S; rintro a _ w M_80 hM_80 rfl S E
          replace h0 := h0.le hM_80
          replace hb_1 := hM_80.2 _ _ hb_1
          replace hz_6 := hz_6.le hM_80
          replace hv_8 := hv_8.le hM_80
          replace hv_10 := hv_10.le hM_80
          replace hb_35 := hM_80.2 _ _ hb_35
          replace hv_37 := hv_37.le hM_80
          replace hz_39 := hz_39.le hM_80
          replace hv_43 := hv_43.le hM_80
          replace hv_47 := hv_47.le hM_80
          replace hv_49 := hv_49.le hM_80
          replace hv_53 := hv_53.le hM_80
          replace hv_55 := hv_55.le hM_80
          replace hv_59 := hv_59.le hM_80
          replace hv_61 := hv_61.le hM_80
          replace hv_65 := hv_65.le hM_80
          replace hv_67 := hv_67.le hM_80
          replace hv_71 := hv_71.le hM_80
          replace hv_73 := hv_73.le hM_80
          replace hv_77 := hv_77.le RP2_mono hM_80
          replace hv_79 := hv_79.le RP2_mono hM_80
          refine ⟨fun x hq hb => (agree_le (hM_36.trans (hM_38.trans (hM_40.trans (hM_42.trans (hM_44.trans (hM_46.trans (hM_48.trans (hM_50.trans (hM_52.trans (hM_54.trans (hM_56.trans (hM_58.trans (hM_60.trans (hM_62.trans (hM_64.trans (hM_66.trans (hM_68.trans (hM_70.trans (hM_72.trans (hM_74.trans (hM_76.trans (hM_78.trans hM_80)))))))))))))))))))))) S.imm), ?_⟩
          refine D_v E rfl rfl rfl (fun w hC => (R_pickT E rfl rfl)) ?_
          clear E a; intro a E
          refine D_v E rfl rfl rfl (fun w hC => (R_assign E rfl)) ?_
          clear E a; intro a E
          refine D_end (NoP_n ?_)
          refine T_n ?_
          refine WP_ret ?_
          exact F_ret1 E Try.results3 rfl ⟨_, rfl, M_80, (hM_2.trans (hM_5.trans (hM_7.trans (hM_11.trans (hM_12.trans (hM_14.trans (hM_18.trans (hM_34.trans (hM_36.trans (hM_38.trans (hM_40.trans (hM_42.trans (hM_44.trans (hM_46.trans (hM_48.trans (hM_50.trans (hM_52.trans (hM_54.trans (hM_56.trans (hM_58.trans (hM_60.trans (hM_62.trans (hM_64.trans (hM_66.trans (hM_68.trans (hM_70.trans (hM_72.trans (hM_74.trans (hM_76.trans (hM_78.trans hM_80)))))))))))))))))))))))))))))), (congrArg Value.bool (by (clear S E; first | (simp; done) | decide | (simp only [uq_two]; decide) | (first | refine dec_t ?_ | refine dec_f ?_ | skip); first | rfl | exact uq_self hr0 | exact (uq_self hr0).symm | exact fu_self hr0 | exact fd_self hr0 | exact same_pq (List.Perm.refl _) | exact td_same _ _ | exact same_pq (td_fd _ _) | (rw [List.take_of_length_le (by omega)]; done) | (rw [List.take_of_length_le (by omega)]; rfl)))), S.drop⟩

end Go.Proofs.Ytahbobhbookehaa.wFnUniquesBy
