/- Walks through the functions that laws.FnGroups reaches: what each computes; no conditions beyond what each theorem states. -/
import Derived.Test.YtpncgdecfhfjmaaWFnGroupsa
set_option linter.unusedVariables false
set_option linter.unusedSimpArgs false
namespace Go.Proofs.Ytpncgdecfhfjmaa.wFnGroups
open Go Go.Sl
set_option maxRecDepth 100000 in
set_option maxHeartbeats 4000000 in
theorem lo_GroupBy {M : Hp} {v0 : Value} {l0 : List Int} (h0 : RdI M v0 l0){v1 : Value} {f1 : Int → Int} (h1 : PF1I Try.prog v1 M f1) (hb : l0.length ≤ 1000000000000) :
    Pu Try.prog (.func (.func 54) #[] #[]) M [v0, v1] (fun r M' => RdML M' r (grpE (fun x => (f1 x, x)) l0)) := by
  refine Pu_enter Try.func54 rfl Try.ntmps54 rfl Try.call54 ?_
  intro a w M1 H hM1 S E
  replace h0 := h0.le hM1
  replace h1 := h1.le hM1
  have b0 := h0.bound
  refine WP_seq ?_
  refine WP_region ?_
  refine S_v E rfl (R_assign E rfl) rfl ?_
  clear E a; intro a E
  refine WL_nil ?_
  refine T_n ?_
  refine WP_seq ?_
  refine WP_region ?_
  refine S_x (X_makeMap E S rfl ?_)
  clear E a S; rintro a w b_1 E S
  replace S : St w M1 (OwnML 3 b_1 ([] : List (Int × List Int)) :: _) := newML S
  refine S_v E rfl (R_assign E rfl) rfl ?_
  clear E a; intro a E
  refine WL_nil ?_
  refine T_n ?_
  refine WP_seq ?_
  refine WP_seq ?_
  refine WP_region ?_
  refine S_v E rfl (R_move E rfl) rfl ?_
  clear E a; intro a E
  refine S_v E rfl (R_lenV E rfl T22 h0.len) rfl ?_
  clear E a; intro a E
  refine S_v E rfl (R_move E rfl) rfl ?_
  clear E a; intro a E
  refine WL_nil ?_
  refine T_n ?_
  refine WP_block ?_
  replace S := reML S (show ([] : List (Int × List Int)) = grpE (fun x => (f1 x, x)) (l0.take 0) by first | rfl | (simp [grpE]; done) | exact grpE_step (f := fun x => (f1 x, x)) (by assumption))
  refine WP_loop (γ := Nat) (fun (k : Nat) a w => ∃ (M_2 : Hp), Hp.le M1 M_2 ∧ St w M_2 (OwnML 3 b_1 (grpE (fun x => (f1 x, x)) (l0.take k)) :: H) ∧ Env a 33 [] [(0, v0), (1, v1), (5, .map (some b_1)), (10, .int .i64 (((l0).length : Nat) : Int)), (11, .int .i64 ((k : Nat) : Int))] ∧ (k ≤ (l0).length)) (fun k => ((l0).length) - k) 0 ⟨M1, Hp.le.refl _, S, E.keep ⟨rfl, rfl, rfl, rfl, rfl, trivial⟩, by ((try clear S); (try clear E); first | assumption | omega | rfl | (simp; done) | (simp_all; done) | (simp [List.take_add_one, *]; done) | grind [List.take_add_one])⟩ ?_
  try clear E
  try clear S
  try clear a
  try clear w
  rintro k a w ⟨M_2, hM_2, S, E, hL0_0⟩
  replace h0 := h0.le hM_2
  replace h1 := h1.le hM_2
  refine WP_seq ?_
  refine WP_region ?_
  refine S_v E rfl (R_lss E rfl rfl) rfl ?_
  clear E a; intro a E
  refine WL_nil ?_
  refine T_n ?_
  refine WP_seq ?_
  refine WP_cond E rfl (fun hc_3 => ?_) (fun hc_3 => ?_)
  · replace hc_3 := of_decide_eq_true hc_3
    refine WP_skip ?_
    refine T_n ?_
    refine WP_seq ?_
    refine WP_block ?_
    refine WP_seq ?_
    refine WP_region ?_
    refine S_v E rfl (R_move E rfl) rfl ?_
    clear E a; intro a E
    refine S_v E rfl (R_assign E rfl) rfl ?_
    clear E a; intro a E
    refine WL_nil ?_
    refine T_n ?_
    refine WP_seq ?_
    refine WP_region ?_
    refine S_v E rfl (R_move E rfl) rfl ?_
    clear E a; intro a E
    refine S_v E rfl (R_move E rfl) rfl ?_
    clear E a; intro a E
    refine S_v E rfl (R_move E rfl) rfl ?_
    clear E a; intro a E
    obtain ⟨x_4, hx_4⟩ : ∃ x, (l0)[k]? = some x := ⟨_, List.getElem?_eq_getElem (by first | omega | (simp; done) | (simp; omega) | (simp_all; omega))⟩
    obtain ⟨p_5, hp_5, qp_5⟩ := h0.at hx_4
    refine S_v E rfl (R_idx E rfl rfl T22 hp_5 rfl) rfl ?_
    clear E a; intro a E
    refine S_v E rfl (R_loadM E rfl Try.isAgg3 S.imm qp_5) rfl ?_
    clear E a; intro a E
    refine S_x (X_pu E S rfl rfl rfl (h1.2 x_4) (Hp.le.refl _) ?_)
    clear E a S; rintro a _ w M_6 hM_6 rfl S E
    replace h0 := h0.le hM_6
    replace h1 := h1.le hM_6
    refine S_v E rfl (R_assign E rfl) rfl ?_
    clear E a; intro a E
    refine WL_nil ?_
    refine T_n ?_
    refine DG_start Try.mixed ?_
    refine DG_split2 4 9 (by decide) (by kernel_rfl) ?_ ?_
    · have qp_5k6 := qp_5
      have h0k6 := h0
      replace S := S.mono_heap (w' := World.drew _) rfl
      refine DG_end (C := fun x w => agree M_6 w) (bf := (fun i => [])) [0, 1, 2, 3, 5, 6, 7, 8] [0, 1, 2, 3, 5, 6, 7, 8, 4, 9, 10, 11] (by kernel_rfl) (fun x hq => S.imm) ?_
      refine D_v E rfl rfl rfl (fun w hC => (R_move E rfl)) ?_
      clear E a; intro a E
      refine D_v E rfl rfl rfl (fun w hC => (R_move E rfl)) ?_
      clear E a; intro a E
      refine D_v E rfl rfl rfl (fun w hC => (R_move E rfl)) ?_
      clear E a; intro a E
      refine D_v E rfl rfl rfl (fun w hC => (R_move E rfl)) ?_
      clear E a; intro a E
      refine D_v E rfl rfl rfl (fun w hC => (R_move E rfl)) ?_
      clear E a; intro a E
      refine D_v E rfl rfl rfl (fun w hC => (R_move E rfl)) ?_
      clear E a; intro a E
      obtain ⟨p_7, hp_7, qp_7⟩ := h0.at hx_4
      refine D_v E rfl rfl rfl (fun w hC => (R_idx E rfl rfl T22 hp_7 rfl)) ?_
      clear E a; intro a E
      refine D_v E rfl rfl rfl (fun w hC => (R_loadM E rfl Try.isAgg3 hC qp_7)) ?_
      clear E a; intro a E
      have S0 := S; clear S
      obtain ⟨t_8, rest_9, v_10, hv_11, ht_12, hrest_13, S⟩ := lookML (f1 x_4) S0
      clear S0
      refine D_x rfl rfl rfl (X_lookupE1 (vf := Prod.fst) (zb := nilL) E S rfl MT65 rfl rfl ?_)
      clear E a S; rintro a w E S
      replace S : St w M_6 (OwnM b_1 (encE Prod.fst t_8) :: _) := S
      rw [← hv_11] at E
      refine ⟨fun x hq hb => (agree_le (Hp.le.refl _) S.imm), ?_⟩
      refine D_x rfl rfl rfl (X_buildI (ys := [x_4]) E S rfl T22 rfl rfl rfl ?_)
      clear E a S; rintro a w v_14 E S
      refine ⟨fun x hq hb => (agree_le (Hp.le.refl _) S.imm), ?_⟩
      replace S := S.front2
      replace S := S.front1
      refine D_x rfl rfl rfl (X_appendB (xs := getK [] (grpE (fun x => (f1 x, x)) (l0.take k)) (f1 x_4)) (ys := [x_4]) E S rfl rfl rfl T22 (by (first | omega | (simp only [List.length_cons, List.length_nil]; first | omega | (refine Nat.le_trans (Nat.add_le_add_right (grpE_glen f1 _ pre) _) ?_; omega) | (refine Nat.le_trans (Nat.mul_le_mul_right _ (Nat.add_le_add_right (Nat.le_trans (grpE_glen _ _ _) (List.length_take_le ..)) _)) ?_; omega) | (refine Nat.le_trans (Nat.add_le_add_right (Nat.le_trans (grpE_glen _ _ _) (List.length_take_le ..)) _) ?_; omega)))) ?_)
      clear E a S; rintro a w v_15 E S
      refine ⟨fun x hq hb => (agree_le (Hp.le.refl _) S.imm), ?_⟩
      replace S := S.front1
      replace S := S.front2
      replace S := S.front2
      replace S := S.front2
      refine D_x rfl rfl rfl (X_updateE (vf := Prod.fst) (u := (v_15, ((getK [] (grpE (fun x => (f1 x, x)) (l0.take k)) (f1 x_4)) ++ [x_4]))) E S MT65 rfl rfl rfl ?_)
      clear E a S; rintro a w E S
      replace S := updML ht_12 hrest_13 S
      refine ⟨fun x hq hb => (agree_le (Hp.le.refl _) S.imm), ?_⟩
      refine D_end (NoP_n ?_)
      refine B_n ?_
      refine T_n ?_
      refine WP_region ?_
      refine S_v E rfl (R_addx (m := ((k + 1 : Nat) : Int)) E rfl rfl (by omega) (by omega)) rfl ?_
      clear E a; intro a E
      refine S_v E rfl (R_move E rfl) rfl ?_
      clear E a; intro a E
      refine WL_nil ?_
      refine T_n ?_
      replace S := reML S (show putK (grpE (fun x => (f1 x, x)) (l0.take k)) (f1 x_4) ((getK [] (grpE (fun x => (f1 x, x)) (l0.take k)) (f1 x_4)) ++ [x_4]) = grpE (fun x => (f1 x, x)) (l0.take (k + 1)) by first | rfl | (simp [grpE]; done) | exact grpE_step (f := fun x => (f1 x, x)) (by assumption))
      exact ⟨k + 1, ⟨M_6, (hM_2.trans hM_6), S, E.keep ⟨rfl, rfl, rfl, rfl, rfl, trivial⟩, by ((try clear S); (try clear E); first | assumption | omega | rfl | (simp; done) | (simp_all; done) | (simp [List.take_add_one, *]; done) | grind [List.take_add_one])⟩, by omega⟩
    · have qp_5k15 := qp_5
      have h0k15 := h0
      replace S := S.mono_heap (w' := World.drew _) rfl
      refine DG_end (C := fun x w => agree M_6 w) (bf := (fun i => [])) [0, 1, 2, 3, 5, 6, 7, 8] [0, 1, 2, 3, 5, 6, 7, 8, 9, 4, 10, 11] (by kernel_rfl) (fun x hq => S.imm) ?_
      refine D_v E rfl rfl rfl (fun w hC => (R_move E rfl)) ?_
      clear E a; intro a E
      refine D_v E rfl rfl rfl (fun w hC => (R_move E rfl)) ?_
      clear E a; intro a E
      refine D_v E rfl rfl rfl (fun w hC => (R_move E rfl)) ?_
      clear E a; intro a E
      refine D_v E rfl rfl rfl (fun w hC => (R_move E rfl)) ?_
      clear E a; intro a E
      refine D_v E rfl rfl rfl (fun w hC => (R_move E rfl)) ?_
      clear E a; intro a E
      refine D_v E rfl rfl rfl (fun w hC => (R_move E rfl)) ?_
      clear E a; intro a E
      obtain ⟨p_16, hp_16, qp_16⟩ := h0.at hx_4
      refine D_v E rfl rfl rfl (fun w hC => (R_idx E rfl rfl T22 hp_16 rfl)) ?_
      clear E a; intro a E
      refine D_v E rfl rfl rfl (fun w hC => (R_loadM E rfl Try.isAgg3 hC qp_16)) ?_
      clear E a; intro a E
      refine D_x rfl rfl rfl (X_buildI (ys := [x_4]) E S rfl T22 rfl rfl rfl ?_)
      clear E a S; rintro a w v_17 E S
      refine ⟨fun x hq hb => (agree_le (Hp.le.refl _) S.imm), ?_⟩
      replace S := S.front1
      have S0 := S; clear S
      obtain ⟨t_18, rest_19, v_20, hv_21, ht_22, hrest_23, S⟩ := lookML (f1 x_4) S0
      clear S0
      refine D_x rfl rfl rfl (X_lookupE1 (vf := Prod.fst) (zb := nilL) E S rfl MT65 rfl rfl ?_)
      clear E a S; rintro a w E S
      replace S : St w M_6 (OwnM b_1 (encE Prod.fst t_18) :: _) := S
      rw [← hv_21] at E
      refine ⟨fun x hq hb => (agree_le (Hp.le.refl _) S.imm), ?_⟩
      replace S := S.front1
      replace S := S.front3
      refine D_x rfl rfl rfl (X_appendB (xs := getK [] (grpE (fun x => (f1 x, x)) (l0.take k)) (f1 x_4)) (ys := [x_4]) E S rfl rfl rfl T22 (by (first | omega | (simp only [List.length_cons, List.length_nil]; first | omega | (refine Nat.le_trans (Nat.add_le_add_right (grpE_glen f1 _ pre) _) ?_; omega) | (refine Nat.le_trans (Nat.mul_le_mul_right _ (Nat.add_le_add_right (Nat.le_trans (grpE_glen _ _ _) (List.length_take_le ..)) _)) ?_; omega) | (refine Nat.le_trans (Nat.add_le_add_right (Nat.le_trans (grpE_glen _ _ _) (List.length_take_le ..)) _) ?_; omega)))) ?_)
      clear E a S; rintro a w v_24 E S
      refine ⟨fun x hq hb => (agree_le (Hp.le.refl _) S.imm), ?_⟩
      replace S := S.front1
      replace S := S.front2
      replace S := S.front2
      replace S := S.front2
      refine D_x rfl rfl rfl (X_updateE (vf := Prod.fst) (u := (v_24, ((getK [] (grpE (fun x => (f1 x, x)) (l0.take k)) (f1 x_4)) ++ [x_4]))) E S MT65 rfl rfl rfl ?_)
      clear E a S; rintro a w E S
      replace S := updML ht_22 hrest_23 S
      refine ⟨fun x hq hb => (agree_le (Hp.le.refl _) S.imm), ?_⟩
      refine D_end (NoP_n ?_)
      refine B_n ?_
      refine T_n ?_
      refine WP_region ?_
      refine S_v E rfl (R_addx (m := ((k + 1 : Nat) : Int)) E rfl rfl (by omega) (by omega)) rfl ?_
      clear E a; intro a E
      refine S_v E rfl (R_move E rfl) rfl ?_
      clear E a; intro a E
      refine WL_nil ?_
      refine T_n ?_
      replace S := reML S (show putK (grpE (fun x => (f1 x, x)) (l0.take k)) (f1 x_4) ((getK [] (grpE (fun x => (f1 x, x)) (l0.take k)) (f1 x_4)) ++ [x_4]) = grpE (fun x => (f1 x, x)) (l0.take (k + 1)) by first | rfl | (simp [grpE]; done) | exact grpE_step (f := fun x => (f1 x, x)) (by assumption))
      exact ⟨k + 1, ⟨M_6, (hM_2.trans hM_6), S, E.keep ⟨rfl, rfl, rfl, rfl, rfl, trivial⟩, by ((try clear S); (try clear E); first | assumption | omega | rfl | (simp; done) | (simp_all; done) | (simp [List.take_add_one, *]; done) | grind [List.take_add_one])⟩, by omega⟩
  · replace hc_3 := of_decide_eq_false hc_3
    refine WP_exit ?_
    refine T_x ?_
    refine T_x ?_
    refine B_x ?_
    refine T_n ?_
    refine WP_seq ?_
    refine WP_region ?_
    refine S_v E rfl (R_move E rfl) rfl ?_
    clear E a; intro a E
    refine S_v E rfl (R_assign E rfl) rfl ?_
    clear E a; intro a E
    refine WL_nil ?_
    refine T_n ?_
    refine WP_ret ?_
    have S0 := S; clear S
    obtain ⟨M_25, hM_25, hm_26, S⟩ := frzML2 S0 (by (exact fun e he => Nat.le_trans (grpE_elen e he) (by first | omega | (rw [List.length_take]; omega))))
    clear S0
    replace h0 := h0.le hM_25
    replace h1 := h1.le hM_25
    exact F_ret1 E Try.results54 rfl ⟨_, rfl, M_25, (hM_2.trans hM_25), (by rw [show (grpE (fun x => (f1 x, x)) l0) = (grpE (fun x => (f1 x, x)) (l0.take k)) from by (rw [List.take_of_length_le (by omega)])]; exact hm_26), S⟩

set_option maxRecDepth 100000 in
set_option maxHeartbeats 4000000 in
theorem impl_mod {M : Hp} {x0 x1 : Int} (hn : x1 ≠ 0) (g1 : -9223372036854775808 ≤ x1 ∧ x1 ≤ 9223372036854775807) :
    Pu Try.prog (.func (.func 111) #[] #[]) M [.int .i64 x0, .int .i64 x1] (fun r M' => r = .int .i64 (x0 % x1)) := by
  refine Pu_enter Try.func111 rfl Try.ntmps111 rfl Try.call111 ?_
  intro a w M1 H hM1 S E
  have ht := tmod_emod x0 x1 hn
  refine WP_seq ?_
  refine WP_region ?_
  refine S_v E rfl (R_assign E rfl) rfl ?_
  clear E a; intro a E
  refine WL_nil ?_
  refine T_n ?_
  refine WP_seq ?_
  refine WP_region ?_
  refine S_v E rfl (R_move E rfl) rfl ?_
  clear E a; intro a E
  refine S_v E rfl (R_move E rfl) rfl ?_
  clear E a; intro a E
  refine S_v E rfl (R_rem E rfl rfl (by first | decide | omega)) rfl ?_
  clear E a; intro a E
  refine S_v E rfl (R_assign E rfl) rfl ?_
  clear E a; intro a E
  refine WL_nil ?_
  refine T_n ?_
  refine WP_seq ?_
  refine WP_seq ?_
  refine WP_region ?_
  refine S_v E rfl (R_move E rfl) rfl ?_
  clear E a; intro a E
  refine S_v E rfl (R_lss E rfl rfl) rfl ?_
  clear E a; intro a E
  refine WL_nil ?_
  refine T_n ?_
  refine WP_cond E rfl (fun hc_1 => ?_) (fun hc_1 => ?_)
  · replace hc_1 := of_decide_eq_true hc_1
    refine WP_seq ?_
    refine WP_seq ?_
    refine WP_region ?_
    refine S_v E rfl (R_move E rfl) rfl ?_
    clear E a; intro a E
    refine S_v E rfl (R_lss E rfl rfl) rfl ?_
    clear E a; intro a E
    refine WL_nil ?_
    refine T_n ?_
    refine WP_cond E rfl (fun hc_2 => ?_) (fun hc_2 => ?_)
    · replace hc_2 := of_decide_eq_true hc_2
      refine WP_seq ?_
      refine WP_region ?_
      refine S_v E rfl (R_move E rfl) rfl ?_
      clear E a; intro a E
      refine S_v E rfl (R_move E rfl) rfl ?_
      clear E a; intro a E
      refine S_v E rfl (R_subx (m := (Int.tmod x0 x1) - x1) E rfl rfl (by omega) (by omega)) rfl ?_
      clear E a; intro a E
      refine S_v E rfl (R_assign E rfl) rfl ?_
      clear E a; intro a E
      refine WL_nil ?_
      refine T_n ?_
      refine WP_ret ?_
      refine T_r ?_
      refine T_r ?_
      exact F_ret1 E Try.results111 rfl ⟨_, rfl, M1, (Hp.le.refl _), (congrArg (Value.int .i64) (by omega)), S⟩
    · replace hc_2 := of_decide_eq_false hc_2
      refine WP_skip ?_
      refine T_n ?_
      refine WP_seq ?_
      refine WP_region ?_
      refine S_v E rfl (R_move E rfl) rfl ?_
      clear E a; intro a E
      refine S_v E rfl (R_move E rfl) rfl ?_
      clear E a; intro a E
      refine S_v E rfl (R_addx (m := (Int.tmod x0 x1) + x1) E rfl rfl (by omega) (by omega)) rfl ?_
      clear E a; intro a E
      refine S_v E rfl (R_assign E rfl) rfl ?_
      clear E a; intro a E
      refine WL_nil ?_
      refine T_n ?_
      refine WP_ret ?_
      refine T_r ?_
      exact F_ret1 E Try.results111 rfl ⟨_, rfl, M1, (Hp.le.refl _), (congrArg (Value.int .i64) (by omega)), S⟩
  · replace hc_1 := of_decide_eq_false hc_1
    refine WP_skip ?_
    refine T_n ?_
    refine WP_seq ?_
    refine WP_region ?_
    refine S_v E rfl (R_move E rfl) rfl ?_
    clear E a; intro a E
    refine S_v E rfl (R_assign E rfl) rfl ?_
    clear E a; intro a E
    refine WL_nil ?_
    refine T_n ?_
    refine WP_ret ?_
    exact F_ret1 E Try.results111 rfl ⟨_, rfl, M1, (Hp.le.refl _), (congrArg (Value.int .i64) (by omega)), S⟩

set_option maxRecDepth 100000 in
set_option maxHeartbeats 4000000 in
theorem Key_at_c {M : Hp} {kk0 kn0 : Int} (gk0 : -9223372036854775808 ≤ kn0 ∧ kn0 ≤ 9223372036854775807){x1 x2 : Int} :
    PuC Try.prog 93 M [.agg #[.int .i64 kk0, .int .i64 kn0], .int .i64 x1, .int .i64 x2] (fun r M' => r = .int .i64 (keyAt kk0 kn0 x1 x2)) := by
  refine PuC_enter Try.func93 rfl Try.ntmps93 rfl ?_
  intro a w M1 H hM1 S E
  refine WP_seq ?_
  refine WP_region ?_
  refine S_x (X_box (cs := #[.int .i64 kk0, .int .i64 kn0]) E S rfl rfl rfl ?_)
  clear E a S; rintro a w b_1 E S
  obtain ⟨M_2, hM_2, hb_1, S⟩ := S.freezeB
  refine S_v E rfl (R_assign E rfl) rfl ?_
  clear E a; intro a E
  refine WL_nil ?_
  refine T_n ?_
  refine WP_seq ?_
  refine WP_seq ?_
  refine WP_region ?_
  refine S_v E rfl (R_fieldAddr E rfl (FA24_0 _)) rfl ?_
  clear E a; intro a E
  refine S_v E rfl (R_loadM E rfl Try.isAgg3 S.imm (cellM_boxo hb_1 rfl)) rfl ?_
  clear E a; intro a E
  refine WL_nil ?_
  refine T_n ?_
  refine WP_block ?_
  refine WP_seq ?_
  refine WP_region ?_
  refine S_v E rfl (R_eql E rfl rfl) rfl ?_
  clear E a; intro a E
  refine S_v E rfl (R_assign E rfl) rfl ?_
  clear E a; intro a E
  refine WL_nil ?_
  refine T_n ?_
  refine WP_cond E rfl (fun hc_3 => ?_) (fun hc_3 => ?_)
  · replace hc_3 := of_decide_eq_true hc_3
    refine WP_seq ?_
    refine WP_region ?_
    refine S_v E rfl (R_move E rfl) rfl ?_
    clear E a; intro a E
    refine S_v E rfl (R_fieldAddr E rfl (FA24_1 _)) rfl ?_
    clear E a; intro a E
    refine S_v E rfl (R_loadM E rfl Try.isAgg3 S.imm (cellM_boxo hb_1 rfl)) rfl ?_
    clear E a; intro a E
    refine S_v E rfl (R_add E rfl rfl) rfl ?_
    clear E a; intro a E
    refine S_v E rfl (R_assign E rfl) rfl ?_
    clear E a; intro a E
    refine WL_nil ?_
    refine T_n ?_
    refine WP_ret ?_
    refine B_r ?_
    refine T_r ?_
    exact F_ret1 E Try.results93 rfl ⟨_, rfl, M_2, hM_2, (congrArg (Value.int .i64) (by (clear E S; unfold keyAt w64; first | (simp [*]; done) | (simp_all; done)))), S⟩
  · replace hc_3 := of_decide_eq_false hc_3
    refine WP_seq ?_
    refine WP_region ?_
    refine S_v E rfl (R_eql E rfl rfl) rfl ?_
    clear E a; intro a E
    refine S_v E rfl (R_assign E rfl) rfl ?_
    clear E a; intro a E
    refine WL_nil ?_
    refine T_n ?_
    refine WP_cond E rfl (fun hc_4 => ?_) (fun hc_4 => ?_)
    · replace hc_4 := of_decide_eq_true hc_4
      refine WP_seq ?_
      refine WP_region ?_
      refine S_v E rfl (R_move E rfl) rfl ?_
      clear E a; intro a E
      refine S_v E rfl (R_fieldAddr E rfl (FA24_1 _)) rfl ?_
      clear E a; intro a E
      refine S_v E rfl (R_loadM E rfl Try.isAgg3 S.imm (cellM_boxo hb_1 rfl)) rfl ?_
      clear E a; intro a E
      refine S_v E rfl (R_mul E rfl rfl) rfl ?_
      clear E a; intro a E
      refine S_v E rfl (R_assign E rfl) rfl ?_
      clear E a; intro a E
      refine WL_nil ?_
      refine T_n ?_
      refine WP_ret ?_
      refine B_r ?_
      refine T_r ?_
      exact F_ret1 E Try.results93 rfl ⟨_, rfl, M_2, hM_2, (congrArg (Value.int .i64) (by (clear E S; unfold keyAt w64; first | (simp [*]; done) | (simp_all; done)))), S⟩
    · replace hc_4 := of_decide_eq_false hc_4
      refine WP_seq ?_
      refine WP_region ?_
      refine S_v E rfl (R_eql E rfl rfl) rfl ?_
      clear E a; intro a E
      refine S_v E rfl (R_assign E rfl) rfl ?_
      clear E a; intro a E
      refine WL_nil ?_
      refine T_n ?_
      refine WP_cond E rfl (fun hc_5 => ?_) (fun hc_5 => ?_)
      · replace hc_5 := of_decide_eq_true hc_5
        refine WP_seq ?_
        refine WP_region ?_
        refine S_v E rfl (R_fieldAddr E rfl (FA24_1 _)) rfl ?_
        clear E a; intro a E
        refine S_v E rfl (R_loadM E rfl Try.isAgg3 S.imm (cellM_boxo hb_1 rfl)) rfl ?_
        clear E a; intro a E
        refine S_v E rfl (R_neq E rfl rfl) rfl ?_
        clear E a; intro a E
        refine WL_nil ?_
        refine T_n ?_
        refine WP_cond E rfl (fun hc_6 => ?_) (fun hc_6 => ?_)
        · replace hc_6 := of_decide_eq_true hc_6
          refine WP_seq ?_
          refine WP_region ?_
          refine S_v E rfl (R_move E rfl) rfl ?_
          clear E a; intro a E
          refine S_v E rfl (R_fieldAddr E rfl (FA24_1 _)) rfl ?_
          clear E a; intro a E
          refine S_v E rfl (R_loadM E rfl Try.isAgg3 S.imm (cellM_boxo hb_1 rfl)) rfl ?_
          clear E a; intro a E
          refine S_x (X_pu E S rfl rfl rfl (impl_mod (by first | omega | assumption) (by omega)) (Hp.le.refl _) ?_)
          clear E a S; rintro a _ w M_7 hM_7 rfl S E
          replace hb_1 := hM_7.2 _ _ hb_1
          refine S_v E rfl (R_assign E rfl) rfl ?_
          clear E a; intro a E
          refine WL_nil ?_
          refine T_n ?_
          refine WP_ret ?_
          refine B_r ?_
          refine T_r ?_
          exact F_ret1 E Try.results93 rfl ⟨_, rfl, M_7, (hM_2.trans hM_7), (congrArg (Value.int .i64) (by (clear E S; unfold keyAt w64; first | (simp [*]; done) | (simp_all; done)))), S⟩
        · replace hc_6 := of_decide_eq_false hc_6
          refine WP_skip ?_
          refine B_n ?_
          refine T_n ?_
          refine WP_seq ?_
          refine WP_region ?_
          refine S_v E rfl (R_move E rfl) rfl ?_
          clear E a; intro a E
          refine S_v E rfl (R_assign E rfl) rfl ?_
          clear E a; intro a E
          refine WL_nil ?_
          refine T_n ?_
          refine WP_ret ?_
          exact F_ret1 E Try.results93 rfl ⟨_, rfl, M_2, hM_2, (congrArg (Value.int .i64) (by (clear E S; unfold keyAt w64; first | (simp [*]; done) | (simp_all; done)))), S⟩
      · replace hc_5 := of_decide_eq_false hc_5
        refine WP_seq ?_
        refine WP_region ?_
        refine S_v E rfl (R_eql E rfl rfl) rfl ?_
        clear E a; intro a E
        refine S_v E rfl (R_assign E rfl) rfl ?_
        clear E a; intro a E
        refine WL_nil ?_
        refine T_n ?_
        refine WP_cond E rfl (fun hc_8 => ?_) (fun hc_8 => ?_)
        · replace hc_8 := of_decide_eq_true hc_8
          refine WP_seq ?_
          refine WP_region ?_
          refine S_v E rfl (R_fieldAddr E rfl (FA24_1 _)) rfl ?_
          clear E a; intro a E
          refine S_v E rfl (R_loadM E rfl Try.isAgg3 S.imm (cellM_boxo hb_1 rfl)) rfl ?_
          clear E a; intro a E
          refine S_v E rfl (R_assign E rfl) rfl ?_
          clear E a; intro a E
          refine WL_nil ?_
          refine T_n ?_
          refine WP_ret ?_
          refine B_r ?_
          refine T_r ?_
          exact F_ret1 E Try.results93 rfl ⟨_, rfl, M_2, hM_2, (congrArg (Value.int .i64) (by (clear E S; unfold keyAt w64; first | (simp [*]; done) | (simp_all; done)))), S⟩
        · replace hc_8 := of_decide_eq_false hc_8
          refine WP_seq ?_
          refine WP_region ?_
          refine S_v E rfl (R_eql E rfl rfl) rfl ?_
          clear E a; intro a E
          refine S_v E rfl (R_assign E rfl) rfl ?_
          clear E a; intro a E
          refine WL_nil ?_
          refine T_n ?_
          refine WP_cond E rfl (fun hc_9 => ?_) (fun hc_9 => ?_)
          · replace hc_9 := of_decide_eq_true hc_9
            refine WP_seq ?_
            refine WP_region ?_
            refine S_v E rfl (R_move E rfl) rfl ?_
            clear E a; intro a E
            refine S_v E rfl (R_assign E rfl) rfl ?_
            clear E a; intro a E
            refine WL_nil ?_
            refine T_n ?_
            refine WP_ret ?_
            refine B_r ?_
            refine T_r ?_
            exact F_ret1 E Try.results93 rfl ⟨_, rfl, M_2, hM_2, (congrArg (Value.int .i64) (by (clear E S; unfold keyAt w64; first | (simp [*]; done) | (simp_all; done)))), S⟩
          · replace hc_9 := of_decide_eq_false hc_9
            refine WP_skip ?_
            refine B_n ?_
            refine T_n ?_
            refine WP_seq ?_
            refine WP_region ?_
            refine S_v E rfl (R_move E rfl) rfl ?_
            clear E a; intro a E
            refine S_v E rfl (R_assign E rfl) rfl ?_
            clear E a; intro a E
            refine WL_nil ?_
            refine T_n ?_
            refine WP_ret ?_
            exact F_ret1 E Try.results93 rfl ⟨_, rfl, M_2, hM_2, (congrArg (Value.int .i64) (by (clear E S; unfold keyAt w64; first | (simp [*]; done) | (simp_all; done)))), S⟩
theorem Key_at {M : Hp} {kk0 kn0 : Int} (gk0 : -9223372036854775808 ≤ kn0 ∧ kn0 ≤ 9223372036854775807){x1 x2 : Int} :
    Pu Try.prog (.func (.func 93) #[.agg #[.int .i64 kk0, .int .i64 kn0]] #[]) M [.int .i64 x1, .int .i64 x2] (fun r M' => r = .int .i64 (keyAt kk0 kn0 x1 x2)) := PuC.pu Try.call93 rfl (Key_at_c gk0)
theorem Key_at_d {M : Hp} {kk0 kn0 : Int} (gk0 : -9223372036854775808 ≤ kn0 ∧ kn0 ≤ 9223372036854775807){x1 x2 : Int} :
    Pu Try.prog (.func (.func 93) #[] #[]) M [.agg #[.int .i64 kk0, .int .i64 kn0], .int .i64 x1, .int .i64 x2] (fun r M' => r = .int .i64 (keyAt kk0 kn0 x1 x2)) := PuC.pu Try.call93 rfl (Key_at_c gk0)

set_option maxRecDepth 100000 in
set_option maxHeartbeats 4000000 in
theorem Key_of_c {M : Hp} {kk0 kn0 : Int} (gk0 : -9223372036854775808 ≤ kn0 ∧ kn0 ≤ 9223372036854775807){x1 : Int} :
    PuC Try.prog 55 M [.agg #[.int .i64 kk0, .int .i64 kn0], .int .i64 x1] (fun r M' => r = .int .i64 (keyAt kk0 kn0 x1 0)) := by
  refine PuC_enter Try.func55 rfl Try.ntmps55 rfl ?_
  intro a w M1 H hM1 S E
  refine WP_seq ?_
  refine WP_region ?_
  refine S_x (X_box (cs := #[.int .i64 kk0, .int .i64 kn0]) E S rfl rfl rfl ?_)
  clear E a S; rintro a w b_1 E S
  obtain ⟨M_2, hM_2, hb_1, S⟩ := S.freezeB
  refine S_v E rfl (R_assign E rfl) rfl ?_
  clear E a; intro a E
  refine WL_nil ?_
  refine T_n ?_
  refine WP_seq ?_
  refine WP_region ?_
  refine S_v E rfl (R_loadGM E rfl (Try.isAgg24 _) (Try.sizeOf24 _) S.imm hb_1) rfl ?_
  clear E a; intro a E
  refine S_v E rfl (R_move E rfl) rfl ?_
  clear E a; intro a E
  refine S_x (X_pu E S rfl rfl rfl (Key_at_d (by omega)) (Hp.le.refl _) ?_)
  clear E a S; rintro a _ w M_3 hM_3 rfl S E
  replace hb_1 := hM_3.2 _ _ hb_1
  refine S_v E rfl (R_assign E rfl) rfl ?_
  clear E a; intro a E
  refine WL_nil ?_
  refine T_n ?_
  refine WP_ret ?_
  exact F_ret1 E Try.results55 rfl ⟨_, rfl, M_3, (hM_2.trans hM_3), rfl, S⟩
theorem Key_of {M : Hp} {kk0 kn0 : Int} (gk0 : -9223372036854775808 ≤ kn0 ∧ kn0 ≤ 9223372036854775807){x1 : Int} :
    Pu Try.prog (.func (.func 55) #[.agg #[.int .i64 kk0, .int .i64 kn0]] #[]) M [.int .i64 x1] (fun r M' => r = .int .i64 (keyAt kk0 kn0 x1 0)) := PuC.pu Try.call55 rfl (Key_of_c gk0)
theorem Key_of_d {M : Hp} {kk0 kn0 : Int} (gk0 : -9223372036854775808 ≤ kn0 ∧ kn0 ≤ 9223372036854775807){x1 : Int} :
    Pu Try.prog (.func (.func 55) #[] #[]) M [.agg #[.int .i64 kk0, .int .i64 kn0], .int .i64 x1] (fun r M' => r = .int .i64 (keyAt kk0 kn0 x1 0)) := PuC.pu Try.call55 rfl (Key_of_c gk0)

set_option maxRecDepth 100000 in
set_option maxHeartbeats 4000000 in
def Try.gsv6_ren : Go.Shelf.Ren := ⟨fun | 6 => 95 | 10 => 112 | 11 => 113 | 12 => 114 | 13 => 115 | 14 => 116 | 24 => 129 | 25 => 130 | 26 => 131 | 27 => 132 | 28 => 133 | 29 => 134 | 30 => 135 | 31 => 136 | 32 => 137 | 33 => 138 | 34 => 140 | 35 => 141 | 36 => 142 | 37 => 143 | 38 => 144 | 39 => 154 | n => n, fun | 20 => 20 | 26 => 97 | 35 => 114 | 0 => 0 | 37 => 116 | 3 => 3 | 41 => 107 | 44 => 122 | 49 => 128 | 51 => 123 | 4 => 4 | 54 => 132 | 53 => 131 | 58 => 104 | 5 => 5 | 9 => 9 | 60 => 138 | 64 => 142 | 66 => 151 | 67 => 102 | 17 => 17 | 32 => 111 | 33 => 112 | 82 => 171 | 12 => 12 | 75 => 164 | 76 => 165 | 77 => 166 | 78 => 167 | 79 => 168 | 80 => 169 | n => n, fun | n => n⟩
set_option maxRecDepth 100000 in
set_option maxHeartbeats 4000000 in
theorem Try.gsv6 : Go.Proofs.LaysGg.n6 Try.prog Try.gsv6_ren := {
  mixed := by kernel_rfl,
  f6 := Try.func95.trans (congrArg some (by kernel_rfl)),
  f10 := Try.func112.trans (congrArg some (by kernel_rfl)),
  f11 := Try.func113.trans (congrArg some (by kernel_rfl)),
  f12 := Try.func114.trans (congrArg some (by kernel_rfl)),
  f13 := Try.func115.trans (congrArg some (by kernel_rfl)),
  f14 := Try.func116.trans (congrArg some (by kernel_rfl)),
  f24 := Try.func129.trans (congrArg some (by kernel_rfl)),
  f25 := Try.func130.trans (congrArg some (by kernel_rfl)),
  f26 := Try.func131.trans (congrArg some (by kernel_rfl)),
  f27 := Try.func132.trans (congrArg some (by kernel_rfl)),
  f28 := Try.func133.trans (congrArg some (by kernel_rfl)),
  f29 := Try.func134.trans (congrArg some (by kernel_rfl)),
  f30 := Try.func135.trans (congrArg some (by kernel_rfl)),
  f31 := Try.func136.trans (congrArg some (by kernel_rfl)),
  f32 := Try.func137.trans (congrArg some (by kernel_rfl)),
  f33 := Try.func138.trans (congrArg some (by kernel_rfl)),
  f34 := Try.func140.trans (congrArg some (by kernel_rfl)),
  f35 := Try.func141.trans (congrArg some (by kernel_rfl)),
  f36 := Try.func142.trans (congrArg some (by kernel_rfl)),
  f37 := Try.func143.trans (congrArg some (by kernel_rfl)),
  f38 := Try.func144.trans (congrArg some (by kernel_rfl)),
  f39 := Try.func154.trans (congrArg some (by kernel_rfl)),
  t0 := Try.underlying0,
  a0 := Try.isAgg0,
  z0 := Try.sizeOf0,
  v0 := Try.zeroValue0,
  i0 := by kernel_rfl,
  t3 := Try.underlying3,
  a3 := Try.isAgg3,
  z3 := Try.sizeOf3,
  v3 := Try.zeroValue3,
  i3 := by kernel_rfl,
  t4 := Try.underlying4,
  a4 := Try.isAgg4,
  z4 := Try.sizeOf4,
  v4 := Try.zeroValue4,
  i4 := by kernel_rfl,
  t5 := Try.underlying5,
  a5 := Try.isAgg5,
  z5 := Try.sizeOf5,
  v5 := Try.zeroValue5,
  i5 := by kernel_rfl,
  t9 := Try.underlying9,
  a9 := Try.isAgg9,
  z9 := Try.sizeOf9,
  v9 := Try.zeroValue9,
  i9 := by kernel_rfl,
  t12 := Try.underlying12,
  a12 := Try.isAgg12,
  z12 := Try.sizeOf12,
  v12 := Try.zeroValue12,
  i12 := by kernel_rfl,
  t17 := Try.underlying17,
  a17 := Try.isAgg17,
  z17 := Try.sizeOf17,
  v17 := Try.zeroValue17,
  i17 := by kernel_rfl,
  t20 := Try.underlying20,
  a20 := Try.isAgg20,
  z20 := Try.sizeOf20,
  v20 := Try.zeroValue20,
  i20 := by kernel_rfl,
  t26 := Try.underlying97,
  a26 := Try.isAgg97,
  z26 := Try.sizeOf97,
  v26 := Try.zeroValue97,
  i26 := by kernel_rfl,
  t32 := Try.underlying111,
  a32 := Try.isAgg111,
  z32 := Try.sizeOf111,
  v32 := Try.zeroValue111,
  i32 := by kernel_rfl,
  t33 := Try.underlying112,
  a33 := Try.isAgg112,
  z33 := Try.sizeOf112,
  v33 := Try.zeroValue112,
  i33 := by kernel_rfl,
  t35 := Try.underlying114,
  a35 := Try.isAgg114,
  z35 := Try.sizeOf114,
  v35 := Try.zeroValue114,
  i35 := by kernel_rfl,
  t37 := Try.underlying116,
  a37 := Try.isAgg116,
  z37 := Try.sizeOf116,
  v37 := Try.zeroValue116,
  i37 := by kernel_rfl,
  t41 := Try.underlying107,
  a41 := Try.isAgg107,
  z41 := Try.sizeOf107,
  v41 := Try.zeroValue107,
  i41 := by kernel_rfl,
  t44 := Try.underlying122,
  a44 := Try.isAgg122,
  z44 := Try.sizeOf122,
  v44 := Try.zeroValue122,
  i44 := by kernel_rfl,
  t49 := Try.underlying128,
  a49 := Try.isAgg128,
  z49 := Try.sizeOf128,
  v49 := Try.zeroValue128,
  i49 := by kernel_rfl,
  t51 := Try.underlying123,
  a51 := Try.isAgg123,
  z51 := Try.sizeOf123,
  v51 := Try.zeroValue123,
  i51 := by kernel_rfl,
  t53 := Try.underlying131,
  a53 := Try.isAgg131,
  z53 := Try.sizeOf131,
  v53 := Try.zeroValue131,
  i53 := by kernel_rfl,
  t54 := Try.underlying132,
  a54 := Try.isAgg132,
  z54 := Try.sizeOf132,
  v54 := Try.zeroValue132,
  i54 := by kernel_rfl,
  t58 := Try.underlying104,
  a58 := Try.isAgg104,
  z58 := Try.sizeOf104,
  v58 := Try.zeroValue104,
  i58 := by kernel_rfl,
  t60 := Try.underlying138,
  a60 := Try.isAgg138,
  z60 := Try.sizeOf138,
  v60 := Try.zeroValue138,
  i60 := by kernel_rfl,
  t64 := Try.underlying142,
  a64 := Try.isAgg142,
  z64 := Try.sizeOf142,
  v64 := Try.zeroValue142,
  i64 := by kernel_rfl,
  t66 := Try.underlying151,
  a66 := Try.isAgg151,
  z66 := Try.sizeOf151,
  v66 := Try.zeroValue151,
  i66 := by kernel_rfl,
  t67 := Try.underlying102,
  a67 := Try.isAgg102,
  z67 := Try.sizeOf102,
  v67 := Try.zeroValue102,
  i67 := by kernel_rfl,
  t75 := Try.underlying164,
  a75 := Try.isAgg164,
  z75 := Try.sizeOf164,
  v75 := Try.zeroValue164,
  i75 := by kernel_rfl,
  t76 := Try.underlying165,
  a76 := Try.isAgg165,
  z76 := Try.sizeOf165,
  v76 := Try.zeroValue165,
  i76 := by kernel_rfl,
  t77 := Try.underlying166,
  a77 := Try.isAgg166,
  z77 := Try.sizeOf166,
  v77 := Try.zeroValue166,
  i77 := by kernel_rfl,
  t78 := Try.underlying167,
  a78 := Try.isAgg167,
  z78 := Try.sizeOf167,
  v78 := Try.zeroValue167,
  i78 := by kernel_rfl,
  t79 := Try.underlying168,
  a79 := Try.isAgg168,
  z79 := Try.sizeOf168,
  v79 := Try.zeroValue168,
  i79 := by kernel_rfl,
  t80 := Try.underlying169,
  a80 := Try.isAgg169,
  z80 := Try.sizeOf169,
  v80 := Try.zeroValue169,
  i80 := by kernel_rfl,
  t82 := Try.underlying171,
  a82 := Try.isAgg171,
  z82 := Try.sizeOf171,
  v82 := Try.zeroValue171,
  i82 := by kernel_rfl }

set_option maxRecDepth 100000 in
set_option maxHeartbeats 4000000 in
section
open Go Go.Proofs Go.Shelf Go.RowKit Go.Lib Go.Sort
noncomputable def sort_groupsT : TypeInfo := (Try.prog.info? 25).get (by kernel_rfl)
noncomputable def sort_groupsE : TypeInfo := (Try.prog.info? 31).get (by kernel_rfl)
set_option maxHeartbeats 2000000 in
theorem sort_groups_less (Bs blk off c size : Nat) (W : World) (G : Nat → Int) (hs : W.cell? ⟨Bs, 0, none⟩ = some (.slice (some ⟨blk, off, none⟩) size c))
    (hc : ∀ t, t < size → W.cell? ⟨blk, off + t * 2, none⟩ = some (.int .i64 (G t))) (i j : Nat) (hi : i < size) (hj : j < size) (_hsz : size < 4611686018427387904) :
    Calls Try.prog 96 #[.int .i64 i, .int .i64 j, .pointer (some ⟨Bs, 0, none⟩)] W fun e w' => e = .returned (.bool (decide (G i < G j))) ∧ ∃ q, w' = W.drewN q := by
  have ci := hc i hi
  have cj := hc j hj
  go_enter Try.func96, Try.ntmps96
  go_wp2
  go_quiet (fail)
  go_wp2
  go_ret
  exact ⟨rfl, nq, rfl⟩
theorem sort_groups_sw2 (n : Nat) (h : 2 ≤ n) : Lib.swapperK n sort_groupsE 25 = 9 := by
  have c : (n == 0) = false := by simp; omega
  have d : (n == 1) = false := by simp; omega
  have e : sort_groupsE.hasPointers = true := by kernel_rfl
  have b : sort_groupsE.bytes = 32 := by kernel_rfl
  simp [Lib.swapperK, c, d, e, b]
theorem sort_groups_sw1 : Lib.swapperK 1 sort_groupsE 25 = 2 := rfl
theorem sort_groups_sw0 : Lib.swapperK 0 sort_groupsE 25 = 1 := rfl
theorem sort_groups {Bs : Nat} {M : Hp} {v : Value} {l : List (Int × List Int)} {xs : List Value} (hr : RowsR RG2 2 M l xs) (hn : (l.map Prod.fst).Nodup) (hb : l.length ≤ 1000000000000) :
    Sp Try.prog (.func (.func 95) #[] #[]) M [.iface 25 v, .func (.func 96) #[] #[.pointer (some ⟨Bs, 0, none⟩)]] [OwnC 31 2 v l.length xs, Go.Sl.blk Bs (.cells #[v] 25)]
      (fun r M' C' => ∃ xs', RowsR RG2 2 M' (srtK Prod.fst l) xs' ∧ C' = [OwnC 31 2 v (srtK Prod.fst l).length xs', Go.Sl.blk Bs (.cells #[v] 25)]) :=
  sortK_sp Try.call95 (fun blk off c size W G a b i j c1 c2 c3 => sort_groups_less Bs blk off c size W G a b i j c1 c2 c3)
    (fun blk c d w h2 hsz hless hH hblk => Any.sort_Slice_cells_sorted Try.gsv6 25 31 sort_groupsT sort_groupsE (by kernel_rfl) (by kernel_rfl) (by kernel_rfl) (by kernel_rfl) 25 (fun _ => by kernel_rfl) encK 2 (fun _ => rfl) (by kernel_rfl) (fun _ => by kernel_rfl)
      encK_one ltK swo_ltK 96 _ (enters_of Try.func96 (by kernel_rfl) rfl) blk 0 c d h2 hsz 128 (by rw [sort_groups_sw2 _ h2]; kernel_rfl) false
      (fun args W => run_callFunc_extern Try.func128 (by kernel_rfl) (by kernel_rfl) (by kernel_rfl) (e := Extern.ReflectliteSwapper.swap false) (by kernel_rfl) args W) w hless hH hblk)
    (fun p n c w h1 => by
      rcases (show n = 0 ∨ n = 1 by omega) with rfl | rfl
      · exact Any.sort_Slice_tiny Try.gsv6 25 31 sort_groupsT sort_groupsE (by kernel_rfl) (by kernel_rfl) (by kernel_rfl) (by kernel_rfl) 25 (fun _ => by kernel_rfl) p 0 c h1 120 (by rw [sort_groups_sw0]; kernel_rfl) _ _ _ w
      · exact Any.sort_Slice_tiny Try.gsv6 25 31 sort_groupsT sort_groupsE (by kernel_rfl) (by kernel_rfl) (by kernel_rfl) (by kernel_rfl) 25 (fun _ => by kernel_rfl) p 1 c h1 121 (by rw [sort_groups_sw1]; kernel_rfl) _ _ _ w)
    (fun M cs x h => RG2_K h) RG2_mono hr hn hb
end

set_option maxRecDepth 100000 in
set_option maxHeartbeats 4000000 in
theorem impl_fresh {M : Hp} {v0 : Value} {l0 : List Int} (h0 : RdI M v0 l0)(hb : l0.length ≤ 1000000000000) :
    Sp Try.prog (.func (.func 94) #[] #[]) M [v0] [] (fun r M' C' => C' = [OwnI 3 r l0]) := by
  refine Sp_enter Try.func94 rfl Try.ntmps94 rfl Try.call94 ?_
  intro a w M1 H hM1 S E
  replace h0 := h0.le hM1
  have b0 := h0.bound
  refine WP_seq ?_
  refine WP_region ?_
  refine S_v E rfl (R_assign E rfl) rfl ?_
  clear E a; intro a E
  refine WL_nil ?_
  refine T_n ?_
  refine WP_seq ?_
  refine WP_region ?_
  refine S_x (X_buildI (ys := []) E S rfl T22 rfl rfl rfl ?_)
  clear E a S; rintro a w v_1 E S
  refine S_v E rfl (R_move E rfl) rfl ?_
  clear E a; intro a E
  refine S_x (X_appendI (xs := ([] : List Int)) E S rfl rfl rfl T22 h0 (by first | omega | (simp; done) | (simp; omega) | (simp_all; omega)) ?_)
  clear E a S; rintro a w v_2 E S
  refine S_v E rfl (R_assign E rfl) rfl ?_
  clear E a; intro a E
  refine WL_nil ?_
  refine T_n ?_
  refine WP_ret ?_
  replace S := S.re1 (l' := l0) (by ((try clear S); (try clear E); first | assumption | omega | rfl | (simp; done) | (simp_all; done) | (simp [List.take_add_one, *]; done) | grind [List.take_add_one]))
  exact F_ret1 E Try.results94 rfl ⟨_, rfl, M1, _, (Hp.le.refl _), rfl, S⟩

set_option maxRecDepth 100000 in
set_option maxHeartbeats 4000000 in
theorem impl_groups {M : Hp} {m0 : Value} {q0 : List (Int × List Int)} (hm0 : RdML M m0 q0) (hb : q0.length ≤ 1000000000000) (hbl : ∀ x ∈ q0, x.2.length ≤ 1000000000000) :
    Pu Try.prog (.func (.func 53) #[] #[]) M [m0] (fun r M' => RdS 2 RG2 M' r (srtK Prod.fst q0)) := by
  refine Pu_enter Try.func53 rfl Try.ntmps53 rfl Try.call53 ?_
  intro a w M1 H hM1 S E
  replace hm0 := hm0.le hM1
  have hnq : (q0.map Prod.fst).Nodup := hm0.nodup
  refine WP_seq ?_
  refine WP_region ?_
  refine S_v E rfl (R_assign E rfl) rfl ?_
  clear E a; intro a E
  refine WL_nil ?_
  refine T_n ?_
  refine WP_seq ?_
  refine WP_region ?_
  refine S_x (X_alloc (cs := #[.slice none 0 0]) E S rfl Try.zeroValue25 rfl ?_)
  clear E a S; rintro a w b_1 E S
  refine WL_nil ?_
  refine T_n ?_
  refine WP_seq ?_
  refine WP_seq ?_
  refine WP_region ?_
  refine S_v E rfl (R_move E rfl) rfl ?_
  clear E a; intro a E
  have hmm0 := hm0
  obtain ⟨tm, htm, hmm, hlm⟩ := hmm0
  have htl : tm.length = q0.length := (by have := congrArg List.length htm; rwa [List.length_map] at this)
  refine S_x (X_range E S rfl MT65 hmm rfl ?_)
  clear E a S; rintro a w i_2 es_3 ck_4 E hf_5 S
  replace S : St w M1 (ItO m0 es_3 ck_4 i_2 (encE Prod.fst ([] : List (Int × (Value × List Int)))) :: _) := S
  refine WL_nil ?_
  refine T_n ?_
  refine WP_block ?_
  replace S : St w M1 (OwnC 31 2 (.slice none 0 0) ([] : List (Int × List Int)).length [] :: _) := S.ownNil
  have hr_7 : RowsR RG2 2 M1 ([] : List (Int × List Int)) [] := RowsR.nil
  replace S := S.front1
  replace S := S.front1
  have hre : ([] : List (Int × List Int)) = vis [] := by first | rfl | (rw [vis_app]; done) | (simp; done)
  replace S := S.reR hre
  replace hr_7 := hr_7.eq hre
  clear hre
  replace S := S.front1
  replace S := S.reIt (p' := (encE Prod.fst [])) (congrArg (encE Prod.fst) (show ([] : List (Int × (Value × List Int))) = [] by first | rfl | (rw [vis_app]; done) | (simp; done)))
  refine WP_loop (γ := MLE) (fun (p : MLE) a w => ∃ (M_8 : Hp) (u3 : Value) (xs3 : List Value), Hp.le M1 M_8 ∧ St w M_8 (ItO m0 es_3 ck_4 i_2 (encE Prod.fst p) :: OwnC 31 2 u3 (vis p).length xs3 :: blk b_1 (.cells #[u3] 25) :: H) ∧ Env a 25 [] [(3, .pointer (some ⟨b_1, 0, none⟩)), (7, .pointer (some ⟨i_2, 0, none⟩))] ∧ ((p.map Prod.fst).Nodup) ∧ (∀ z ∈ p, z ∈ tm) ∧ (p.length ≤ tm.length) ∧ RowsR RG2 2 M_8 (vis p) xs3) (fun p => tm.length - p.length) [] ⟨M1, _, _, Hp.le.refl _, S, E.keep ⟨rfl, rfl, trivial⟩, (by simp), (by simp), (by simp), hr_7⟩ ?_
  try clear E
  try clear S
  try clear a
  try clear w
  rintro p a w ⟨M_8, u3, xs3, hM_8, S, E, hL0_0, hL0_1, hL0_2, hr3⟩
  replace hm0 := hm0.le hM_8
  replace hlm := fun x hx => (hlm x hx).le hM_8
  replace hf_5 := hf_5.le hM_8
  refine WP_seq ?_
  refine WP_region ?_
  refine S_x (X_nextE (vf := Prod.fst) E S rfl hf_5 rfl (by assumption) (by assumption) ?_ ?_)
  · clear E a S; rintro a E hpm_9 S
    refine S_v E rfl (R_extract E rfl rfl) rfl ?_
    clear E a; intro a E
    refine WL_nil ?_
    refine T_n ?_
    refine WP_seq ?_
    refine WP_condF E rfl rfl ?_
    refine WP_exit ?_
    refine T_x ?_
    refine T_x ?_
    refine B_x ?_
    refine T_n ?_
    refine WP_seq ?_
    refine WP_region ?_
    refine S_v E rfl (R_load E rfl (Try.isAgg25 _) (cell_blk (S.mem (.tail _ (.tail _ (.head _)))))) rfl ?_
    clear E a; intro a E
    refine S_v E rfl (R_iface E rfl T25.und) rfl ?_
    clear E a; intro a E
    refine S_v E rfl (R_makeFunc E rfl rfl) rfl ?_
    clear E a; intro a E
    replace S := S.front2
    replace S := S.front2
    refine S_x (X_sp (p := [OwnC 31 2 u3 (vis p).length xs3, blk b_1 (.cells #[u3] 25)]) E S rfl rfl rfl (sort_groups hr3 (by first | assumption | (rw [vis_keys]; assumption)) (by (first | (rw [srtK_len, List.length_map]; omega) | omega | (simp; omega) | exact ml_len htm hbl (by assumption) | (have h9 := ml_len htm hbl (by assumption); simp; omega)))) (Hp.le.refl _) ?_)
    clear E a S; rintro a _ w M_10 _ hM_10 ⟨xs_11, hr_12, rfl⟩ S E
    replace S : St w M_10 (OwnC 31 2 u3 (srtK Prod.fst (vis p)).length xs_11 :: blk b_1 (.cells #[u3] 25) :: _) := S
    replace hm0 := hm0.le hM_10
    replace hlm := fun x hx => (hlm x hx).le hM_10
    replace hf_5 := hf_5.le hM_10
    refine WL_nil ?_
    refine T_n ?_
    refine WP_seq ?_
    refine WP_region ?_
    refine S_v E rfl (R_load E rfl (Try.isAgg25 _) (cell_blk (S.mem (.tail _ (.head _))))) rfl ?_
    clear E a; intro a E
    refine S_v E rfl (R_assign E rfl) rfl ?_
    clear E a; intro a E
    refine WL_nil ?_
    refine T_n ?_
    refine WP_ret ?_
    have S0 := S; clear S
    obtain ⟨M_13, hM_13, hz_14, S⟩ := S0.freezeR hr_12 RG2_mono (by (first | (rw [srtK_len, List.length_map]; omega) | omega | (simp; omega) | exact ml_len htm hbl (by assumption) | (have h9 := ml_len htm hbl (by assumption); simp; omega)))
    clear S0
    replace hm0 := hm0.le hM_13
    replace hlm := fun x hx => (hlm x hx).le hM_13
    replace hf_5 := hf_5.le hM_13
    exact F_ret1 E Try.results53 rfl ⟨_, rfl, M_13, (hM_8.trans (hM_10.trans hM_13)), (by rw [show (srtK Prod.fst q0) = (srtK Prod.fst (vis p)) from by (exact (srtKG_eq hnq (vis_perm (by assumption) htm)).symm)]; exact hz_14), S.drop.drop⟩
  · clear E a S w; rintro a w k_15 u_17 E hk_16 hk_16n hk_16l S
    have hu_18 : RdI M_8 u_17.1 u_17.2 := hlm _ hk_16
    refine S_v E rfl (R_extract E rfl rfl) rfl ?_
    clear E a; intro a E
    refine WL_nil ?_
    refine T_n ?_
    refine WP_seq ?_
    refine WP_condT E rfl rfl ?_
    refine WP_skip ?_
    refine T_n ?_
    refine WP_block ?_
    refine WP_seq ?_
    refine WP_region ?_
    refine S_v E rfl (R_entry (k := k_15) (v := u_17.1) E (by have S1 := S; simp only [encE, List.map_append, List.map_cons, List.map_nil] at S1; exact S1) hf_5 rfl) rfl ?_
    clear E a; intro a E
    refine S_v E rfl (R_extract E rfl rfl) rfl ?_
    clear E a; intro a E
    refine S_v E rfl (R_extract E rfl rfl) rfl ?_
    clear E a; intro a E
    refine S_v E rfl (R_assign E rfl) rfl ?_
    clear E a; intro a E
    refine S_v E rfl (R_assign E rfl) rfl ?_
    clear E a; intro a E
    refine WL_nil ?_
    refine T_n ?_
    replace S := S.mono_heap (w' := World.drew _) rfl
    refine WP_drawn (C := fun x w => agree M_8 w ∧ (x = 0 → w.heap[b_1]? = some (.cells #[u3] 25))) (bf := (fun i => bif Nat.beq i 3 then [] else bif Nat.beq i 5 then [] else bif Nat.beq i 6 then [0] else bif Nat.beq i 7 then [0] else [])) [0, 1, 2, 4] [0, 1, 2, 3, 4, 5, 6, 7] Try.mixed (by kernel_rfl) (fun x hq => ⟨S.imm, fun _ => (S.mem (.tail _ (.tail _ (.head _))))⟩) ?_
    refine D_v E rfl rfl rfl (fun w hC => (R_load E rfl (Try.isAgg25 _) (cell_blk (hC.2 rfl)))) ?_
    clear E a; intro a E
    refine D_v E rfl rfl rfl (fun w hC => (R_move E rfl)) ?_
    clear E a; intro a E
    refine D_v E rfl rfl rfl (fun w hC => (R_move E rfl)) ?_
    clear E a; intro a E
    refine D_x rfl rfl rfl (X_sp (p := []) E S rfl rfl rfl (impl_fresh hu_18 (by first | exact ml_len htm hbl (by assumption) | (first | omega | (simp; omega) | (simp; done) | (simp_all; omega) | grind))) (Hp.le.refl _) ?_)
    clear E a S; rintro a v_20 w M_19 _ hM_19 rfl S E
    replace S : St w M_19 (OwnI 3 v_20 u_17.2 :: _) := S
    replace hm0 := hm0.le hM_19
    replace hlm := fun x hx => (hlm x hx).le hM_19
    replace hf_5 := hf_5.le hM_19
    replace hr3 := hr3.le RG2_mono hM_19
    replace hu_18 := hu_18.le hM_19
    refine ⟨fun x hq hb => ⟨(agree_le hM_19 S.imm), (fun _ => (S.mem (.tail _ (.tail _ (.tail _ (.head _))))))⟩, ?_⟩
    have S0 := S; clear S
    obtain ⟨M_21, hM_21, hz_22, S⟩ := S0.freezeI (by (first | (rw [srtK_len, List.length_map]; omega) | omega | (simp; omega) | exact ml_len htm hbl (by assumption) | (have h9 := ml_len htm hbl (by assumption); simp; omega)))
    clear S0
    replace hm0 := hm0.le hM_21
    replace hlm := fun x hx => (hlm x hx).le hM_21
    replace hf_5 := hf_5.le hM_21
    replace hr3 := hr3.le RG2_mono hM_21
    replace hu_18 := hu_18.le hM_21
    refine D_v E rfl rfl rfl (fun w hC => (R_build (u := .agg #[.int .i64 k_15, v_20]) (vs := [.int .i64 k_15, v_20]) E rfl (fun w => by obtain ⟨A0, c0, e0, _⟩ := RdS.len hz_22; rw [e0]; exact FB31_0_1_is k_15 _ _ _ w))) ?_
    clear E a; intro a E
    refine D_x rfl rfl rfl (X_buildA1 (R := RG2) (cs := [.int .i64 k_15, v_20]) (x0 := (k_15, u_17.2)) RG2_mono E S rfl T25 rfl rfl rfl ⟨_, rfl, hz_22⟩ ?_)
    clear E a S; rintro a v_23 w M_24 hM_24 hv_23 S E
    replace hm0 := hm0.le hM_24
    replace hlm := fun x hx => (hlm x hx).le hM_24
    replace hf_5 := hf_5.le hM_24
    replace hr3 := hr3.le RG2_mono hM_24
    replace hu_18 := hu_18.le hM_24
    replace hz_22 := hz_22.le hM_24
    refine ⟨fun x hq hb => ⟨(agree_le (hM_19.trans (hM_21.trans hM_24)) S.imm), (fun _ => (S.mem (.tail _ (.tail _ (.head _)))))⟩, ?_⟩
    replace S := S.front1
    refine D_x rfl rfl rfl (X_appendR (R := RG2) (zs := vis p) (ys := [(k_15, u_17.2)]) E S hr3 rfl rfl rfl T25 hv_23 one_RG2 (by first | omega | (simp; done) | (simp; omega) | (simp_all; omega)) (by first | omega | (simp; done) | (simp; omega) | (simp_all; omega)) ?_)
    clear E a S; rintro a w v_25 xs_26 E hr_27 S
    refine ⟨fun x hq hb => ⟨(agree_le (hM_19.trans (hM_21.trans hM_24)) S.imm), (fun e => by subst e; exact absurd hb (by decide))⟩, ?_⟩
    have ho_28 := S.oneC
    replace S := S.front2
    refine D_x rfl rfl rfl (X_store E S rfl rfl (Try.sizeOf25 _) ho_28 ?_)
    clear E a S; rintro a w E S
    refine ⟨fun x hq hb => ⟨(agree_le (hM_19.trans (hM_21.trans hM_24)) S.imm), (fun e => by subst e; exact absurd hb (by decide))⟩, ?_⟩
    refine D_end (NoP_n ?_)
    refine B_n ?_
    refine T_n ?_
    replace S := S.front1
    replace S := S.front2
    replace S := S.front1
    have hre : (vis p) ++ [(k_15, u_17.2)] = vis (p ++ [(k_15, u_17)]) := by first | rfl | (rw [vis_app]; done) | (simp; done)
    replace S := S.reR hre
    replace hr_27 := hr_27.eq hre
    clear hre
    replace S := S.front1
    replace S := S.reIt (p' := (encE Prod.fst (p ++ [(k_15, u_17)]))) (congrArg (encE Prod.fst) (show p ++ [(k_15, u_17)] = (p ++ [(k_15, u_17)]) by first | rfl | (rw [vis_app]; done) | (simp; done)))
    exact ⟨(p ++ [(k_15, u_17)]), ⟨M_24, _, _, (hM_8.trans (hM_19.trans (hM_21.trans hM_24))), S, E.keep ⟨rfl, rfl, trivial⟩, (by exact snocNG (by assumption) (by assumption)), (by exact snocSG (by assumption) (by assumption)), (by simp; omega), hr_27⟩, (by simp; omega)⟩

set_option maxRecDepth 100000 in
set_option maxHeartbeats 4000000 in
theorem impl_GroupBy {M : Hp} {v0 : Value} {l0 : List Int} (h0 : RdI M v0 l0){kk1 kn1 : Int} (gk1 : -9223372036854775808 ≤ kn1 ∧ kn1 ≤ 9223372036854775807) (hb : l0.length ≤ 1000000000000) :
    Pu Try.prog (.func (.func 8) #[] #[]) M [v0, .agg #[.int .i64 kk1, .int .i64 kn1]] (fun r M' => RdS 2 RG2 M' r (grpS (fun x => (keyAt kk1 kn1 x 0, x)) l0)) := by
  refine Pu_enter Try.func8 rfl Try.ntmps8 rfl Try.call8 ?_
  intro a w M1 H hM1 S E
  replace h0 := h0.le hM1
  have b0 := h0.bound
  refine WP_seq ?_
  refine WP_region ?_
  refine S_x (X_box (cs := #[.int .i64 kk1, .int .i64 kn1]) E S rfl rfl rfl ?_)
  clear E a S; rintro a w b_1 E S
  obtain ⟨M_2, hM_2, hb_1, S⟩ := S.freezeB
  replace h0 := h0.le hM_2
  refine S_v E rfl (R_assign E rfl) rfl ?_
  clear E a; intro a E
  refine WL_nil ?_
  refine T_n ?_
  refine WP_seq ?_
  refine WP_region ?_
  refine S_v E rfl (R_move E rfl) rfl ?_
  clear E a; intro a E
  refine S_v E rfl (R_loadGM E rfl (Try.isAgg24 _) (Try.sizeOf24 _) S.imm hb_1) rfl ?_
  clear E a; intro a E
  refine S_v E rfl (R_makeFunc E rfl rfl) rfl ?_
  clear E a; intro a E
  refine S_x (X_pu E S rfl rfl rfl (lo_GroupBy h0 ⟨rfl, fun zx1 => Key_of (x1 := zx1) (by omega)⟩ (by (first | omega | (simp; omega) | (simp; done) | (simp_all; omega) | grind))) (Hp.le.refl _) ?_)
  clear E a S; rintro a v_4 w M_3 hM_3 hv_4 S E
  replace h0 := h0.le hM_3
  replace hb_1 := hM_3.2 _ _ hb_1
  refine S_x (X_pu E S rfl rfl rfl (impl_groups hv_4 (by first | omega | (exact Nat.le_trans (grpE_len _ _) (by first | omega | (simp; omega))) | (first | omega | (simp; omega) | (simp; done) | (simp_all; omega) | grind)) (by (exact fun e he => Nat.le_trans (grpE_elen e he) (by omega)))) (Hp.le.refl _) ?_)
  clear E a S; rintro a v_6 w M_5 hM_5 hv_6 S E
  replace h0 := h0.le hM_5
  replace hb_1 := hM_5.2 _ _ hb_1
  replace hv_4 := hv_4.le hM_5
  refine S_v E rfl (R_assign E rfl) rfl ?_
  clear E a; intro a E
  refine WL_nil ?_
  refine T_n ?_
  refine WP_ret ?_
  exact F_ret1 E Try.results8 rfl ⟨_, rfl, M_5, (hM_2.trans (hM_3.trans hM_5)), (by rw [show (grpS (fun x => (keyAt kk1 kn1 x 0, x)) l0) = (srtK Prod.fst (grpE (fun x => ((fun x => keyAt kk1 kn1 x 0) x, x)) l0)) from by rfl]; exact hv_6), S⟩

set_option maxRecDepth 100000 in
set_option maxHeartbeats 4000000 in
theorem laws_few {M : Hp} {v0 : Value} {l0 : List (List Int)} (h0 : RdII M v0 l0) :
    Pu Try.prog (.func (.func 9) #[] #[]) M [v0] (fun r M' => r = .bool (decide (∀ x ∈ l0, x.length ≤ 300))) := by
  refine Pu_enter Try.func9 rfl Try.ntmps9 rfl Try.call9 ?_
  intro a w M1 H hM1 S E
  replace h0 := h0.le hM1
  have b0 := h0.bound
  refine WP_seq ?_
  refine WP_region ?_
  refine S_v E rfl (R_assign E rfl) rfl ?_
  clear E a; intro a E
  refine WL_nil ?_
  refine T_n ?_
  refine WP_seq ?_
  refine WP_seq ?_
  refine WP_region ?_
  refine S_v E rfl (R_move E rfl) rfl ?_
  clear E a; intro a E
  refine S_v E rfl (R_lenV E rfl T54 h0.len) rfl ?_
  clear E a; intro a E
  refine S_v E rfl (R_move E rfl) rfl ?_
  clear E a; intro a E
  refine WL_nil ?_
  refine T_n ?_
  refine WP_block ?_
  refine WP_loop (γ := Nat) (fun (k : Nat) a w => ∃ (M_1 : Hp), Hp.le M1 M_1 ∧ St w M_1 (H) ∧ Env a 15 [] [(5, v0), (6, .int .i64 (((l0).length : Nat) : Int)), (7, .int .i64 ((k : Nat) : Int))] ∧ (k ≤ (l0).length) ∧ (∀ x ∈ l0.take k, x.length ≤ 300)) (fun k => ((l0).length) - k) 0 ⟨M1, Hp.le.refl _, S, E.keep ⟨rfl, rfl, rfl, trivial⟩, by ((try clear S); (try clear E); first | assumption | omega | rfl | (simp; done) | (simp_all; done) | (simp [List.take_add_one, *]; done) | grind [List.take_add_one]), by ((try clear S); (try clear E); first | assumption | omega | rfl | (simp; done) | (simp_all; done) | (simp [List.take_add_one, *]; done) | grind [List.take_add_one])⟩ ?_
  try clear E
  try clear S
  try clear a
  try clear w
  rintro k a w ⟨M_1, hM_1, S, E, hL0_0, hL0_1⟩
  replace h0 := h0.le hM_1
  refine WP_seq ?_
  refine WP_region ?_
  refine S_v E rfl (R_lss E rfl rfl) rfl ?_
  clear E a; intro a E
  refine WL_nil ?_
  refine T_n ?_
  refine WP_seq ?_
  refine WP_cond E rfl (fun hc_2 => ?_) (fun hc_2 => ?_)
  · replace hc_2 := of_decide_eq_true hc_2
    refine WP_skip ?_
    refine T_n ?_
    refine WP_seq ?_
    refine WP_block ?_
    refine WP_seq ?_
    refine WP_region ?_
    obtain ⟨x_3, hx_3⟩ : ∃ x, (l0)[k]? = some x := ⟨_, List.getElem?_eq_getElem (by first | omega | (simp; done) | (simp; omega) | (simp_all; omega))⟩
    obtain ⟨p_4, u_5, hp_4, qp_4, hu_5⟩ := h0.at hx_3
    have bu_5 := hu_5.bound
    refine S_v E rfl (R_idx E rfl rfl T54 hp_4 rfl) rfl ?_
    clear E a; intro a E
    refine S_v E rfl (R_loadM E rfl Try.isAgg22 S.imm qp_4) rfl ?_
    clear E a; intro a E
    refine S_v E rfl (R_assign E rfl) rfl ?_
    clear E a; intro a E
    refine WL_nil ?_
    refine T_n ?_
    refine WP_seq ?_
    refine WP_region ?_
    refine S_v E rfl (R_move E rfl) rfl ?_
    clear E a; intro a E
    refine S_v E rfl (R_lenV E rfl T22 hu_5.len) rfl ?_
    clear E a; intro a E
    refine S_v E rfl (R_gtr E rfl rfl) rfl ?_
    clear E a; intro a E
    refine WL_nil ?_
    refine T_n ?_
    refine WP_cond E rfl (fun hc_6 => ?_) (fun hc_6 => ?_)
    · replace hc_6 := of_decide_eq_true hc_6
      refine WP_seq ?_
      refine WP_region ?_
      refine S_v E rfl (R_assign E rfl) rfl ?_
      clear E a; intro a E
      refine WL_nil ?_
      refine T_n ?_
      refine WP_ret ?_
      refine B_r ?_
      refine T_r ?_
      refine T_r ?_
      refine B_r ?_
      refine T_r ?_
      exact F_ret1 E Try.results9 rfl ⟨_, rfl, M_1, hM_1, (bF (by ((try clear S); (try clear E); first | assumption | omega | rfl | (simp; done) | (simp_all; done) | (simp [List.take_add_one, *]; done) | grind [List.take_add_one]))), S⟩
    · replace hc_6 := of_decide_eq_false hc_6
      refine WP_skip ?_
      refine B_n ?_
      refine T_n ?_
      refine WP_region ?_
      refine S_v E rfl (R_addx (m := ((k + 1 : Nat) : Int)) E rfl rfl (by omega) (by omega)) rfl ?_
      clear E a; intro a E
      refine S_v E rfl (R_move E rfl) rfl ?_
      clear E a; intro a E
      refine WL_nil ?_
      refine T_n ?_
      exact ⟨k + 1, ⟨M_1, hM_1, S, E.keep ⟨rfl, rfl, rfl, trivial⟩, by ((try clear S); (try clear E); first | assumption | omega | rfl | (simp; done) | (simp_all; done) | (simp [List.take_add_one, *]; done) | grind [List.take_add_one]), by ((try clear S); (try clear E); first | assumption | omega | rfl | (simp; done) | (simp_all; done) | (simp [List.take_add_one, *]; done) | grind [List.take_add_one])⟩, by omega⟩
  · replace hc_2 := of_decide_eq_false hc_2
    refine WP_exit ?_
    refine T_x ?_
    refine T_x ?_
    refine B_x ?_
    refine T_n ?_
    refine WP_seq ?_
    refine WP_region ?_
    refine S_v E rfl (R_assign E rfl) rfl ?_
    clear E a; intro a E
    refine WL_nil ?_
    refine T_n ?_
    refine WP_ret ?_
    exact F_ret1 E Try.results9 rfl ⟨_, rfl, M_1, hM_1, (bT (by ((try clear S); (try clear E); first | assumption | omega | rfl | (simp; done) | (simp_all; done) | (simp [List.take_add_one, *]; done) | grind [List.take_add_one]))), S⟩

set_option maxRecDepth 100000 in
set_option maxHeartbeats 4000000 in
theorem laws_just {M : Hp} {kk0 kn0 : Int} (gk0 : -9223372036854775808 ≤ kn0 ∧ kn0 ≤ 9223372036854775807) :
    Pu Try.prog (.func (.func 10) #[] #[]) M [.agg #[.int .i64 kk0, .int .i64 kn0]] (fun r M' => r = .bool (decide (-1099511627776 < kn0 ∧ kn0 < 1099511627776))) := by
  refine Pu_enter Try.func10 rfl Try.ntmps10 rfl Try.call10 ?_
  intro a w M1 H hM1 S E
  refine WP_seq ?_
  refine WP_region ?_
  refine S_x (X_box (cs := #[.int .i64 kk0, .int .i64 kn0]) E S rfl rfl rfl ?_)
  clear E a S; rintro a w b_1 E S
  obtain ⟨M_2, hM_2, hb_1, S⟩ := S.freezeB
  refine S_v E rfl (R_assign E rfl) rfl ?_
  clear E a; intro a E
  refine WL_nil ?_
  refine T_n ?_
  refine WP_seq ?_
  refine WP_region ?_
  refine S_v E rfl (R_fieldAddr E rfl (FA24_1 _)) rfl ?_
  clear E a; intro a E
  refine S_v E rfl (R_loadM E rfl Try.isAgg3 S.imm (cellM_boxo hb_1 rfl)) rfl ?_
  clear E a; intro a E
  refine S_v E rfl (R_gtr E rfl rfl) rfl ?_
  clear E a; intro a E
  refine S_v E rfl (R_move E rfl) rfl ?_
  clear E a; intro a E
  refine split_bool (decide ((-1099511627776) < kn0)) (fun hc_3 => ?_) (fun hc_3 => ?_)
  · replace E := E.val (t := 5) rfl hc_3
    replace E := E.val (t := 6) rfl hc_3
    replace hc_3 := of_decide_eq_true hc_3
    refine WL_guard_yes E rfl rfl ?_
    refine S_v E rfl (R_fieldAddr E rfl (FA24_1 _)) rfl ?_
    clear E a; intro a E
    refine WL_guard_yes E rfl rfl ?_
    refine S_v E rfl (R_loadM E rfl Try.isAgg3 S.imm (cellM_boxo hb_1 rfl)) rfl ?_
    clear E a; intro a E
    refine WL_guard_yes E rfl rfl ?_
    refine S_v E rfl (R_lss E rfl rfl) rfl ?_
    clear E a; intro a E
    refine S_v E rfl (R_pickT E rfl rfl) rfl ?_
    clear E a; intro a E
    refine S_v E rfl (R_assign E rfl) rfl ?_
    clear E a; intro a E
    refine WL_nil ?_
    refine T_n ?_
    refine WP_ret ?_
    exact F_ret1 E Try.results10 rfl ⟨_, rfl, M_2, hM_2, (congrArg Value.bool (by ((try clear S); (try clear E); first | assumption | omega | rfl | (simp; done) | (simp_all; done) | (simp [List.take_add_one, *]; done) | grind [List.take_add_one]))), S⟩
  · replace E := E.val (t := 5) rfl hc_3
    replace E := E.val (t := 6) rfl hc_3
    replace hc_3 := of_decide_eq_false hc_3
    refine WL_guard_no E rfl rfl rfl rfl fun a E => ?_
    refine WL_guard_no E rfl rfl rfl rfl fun a E => ?_
    refine WL_guard_no E rfl rfl rfl rfl fun a E => ?_
    refine S_v E rfl (R_pickF E rfl rfl) rfl ?_
    clear E a; intro a E
    refine S_v E rfl (R_assign E rfl) rfl ?_
    clear E a; intro a E
    refine WL_nil ?_
    refine T_n ?_
    refine WP_ret ?_
    exact F_ret1 E Try.results10 rfl ⟨_, rfl, M_2, hM_2, (bF (by ((try clear S); (try clear E); first | assumption | omega | rfl | (simp; done) | (simp_all; done) | (simp [List.take_add_one, *]; done) | grind [List.take_add_one]))), S⟩

set_option maxRecDepth 100000 in
set_option maxHeartbeats 4000000 in
theorem laws_modulo {M : Hp} {x0 x1 : Int} (hn : x1 ≠ 0) (g1 : -1099511627776 < x1 ∧ x1 < 1099511627776) :
    Pu Try.prog (.func (.func 69) #[] #[]) M [.int .i64 x0, .int .i64 x1] (fun r M' => r = .int .i64 (x0 % x1)) := by
  refine Pu_enter Try.func69 rfl Try.ntmps69 rfl Try.call69 ?_
  intro a w M1 H hM1 S E
  have ht := tmod_emod x0 x1 hn
  have ht2 := tmod_emod x0 (-x1) (by omega)
  have he : x0 % (-x1) = x0 % x1 := Int.emod_neg ..
  refine WP_seq ?_
  refine WP_region ?_
  refine S_v E rfl (R_assign E rfl) rfl ?_
  clear E a; intro a E
  refine WL_nil ?_
  refine T_n ?_
  refine WP_seq ?_
  refine WP_seq ?_
  refine WP_region ?_
  refine S_v E rfl (R_move E rfl) rfl ?_
  clear E a; intro a E
  refine S_v E rfl (R_lss E rfl rfl) rfl ?_
  clear E a; intro a E
  refine WL_nil ?_
  refine T_n ?_
  refine WP_cond E rfl (fun hc_1 => ?_) (fun hc_1 => ?_)
  · replace hc_1 := of_decide_eq_true hc_1
    refine WP_region ?_
    refine S_v E rfl (R_move E rfl) rfl ?_
    clear E a; intro a E
    refine S_v E rfl (R_negx (m := -x1) E rfl rfl (by omega)) rfl ?_
    clear E a; intro a E
    refine S_v E rfl (R_assign E rfl) rfl ?_
    clear E a; intro a E
    refine WL_nil ?_
    refine T_n ?_
    refine WP_seq ?_
    refine WP_region ?_
    refine S_v E rfl (R_move E rfl) rfl ?_
    clear E a; intro a E
    refine S_v E rfl (R_move E rfl) rfl ?_
    clear E a; intro a E
    refine S_v E rfl (R_rem E rfl rfl (by first | decide | omega)) rfl ?_
    clear E a; intro a E
    refine S_v E rfl (R_assign E rfl) rfl ?_
    clear E a; intro a E
    refine WL_nil ?_
    refine T_n ?_
    refine WP_seq ?_
    refine WP_seq ?_
    refine WP_region ?_
    refine S_v E rfl (R_move E rfl) rfl ?_
    clear E a; intro a E
    refine S_v E rfl (R_lss E rfl rfl) rfl ?_
    clear E a; intro a E
    refine WL_nil ?_
    refine T_n ?_
    refine WP_cond E rfl (fun hc_2 => ?_) (fun hc_2 => ?_)
    · replace hc_2 := of_decide_eq_true hc_2
      refine WP_region ?_
      refine S_v E rfl (R_move E rfl) rfl ?_
      clear E a; intro a E
      refine S_v E rfl (R_move E rfl) rfl ?_
      clear E a; intro a E
      refine S_v E rfl (R_addx (m := (Int.tmod x0 (-x1)) + (-x1)) E rfl rfl (by omega) (by omega)) rfl ?_
      clear E a; intro a E
      refine S_v E rfl (R_assign E rfl) rfl ?_
      clear E a; intro a E
      refine WL_nil ?_
      refine T_n ?_
      refine WP_seq ?_
      refine WP_region ?_
      refine S_v E rfl (R_move E rfl) rfl ?_
      clear E a; intro a E
      refine S_v E rfl (R_assign E rfl) rfl ?_
      clear E a; intro a E
      refine WL_nil ?_
      refine T_n ?_
      refine WP_ret ?_
      exact F_ret1 E Try.results69 rfl ⟨_, rfl, M1, (Hp.le.refl _), (congrArg (Value.int .i64) (by omega)), S⟩
    · replace hc_2 := of_decide_eq_false hc_2
      refine WP_skip ?_
      refine T_n ?_
      refine WP_seq ?_
      refine WP_region ?_
      refine S_v E rfl (R_move E rfl) rfl ?_
      clear E a; intro a E
      refine S_v E rfl (R_assign E rfl) rfl ?_
      clear E a; intro a E
      refine WL_nil ?_
      refine T_n ?_
      refine WP_ret ?_
      exact F_ret1 E Try.results69 rfl ⟨_, rfl, M1, (Hp.le.refl _), (congrArg (Value.int .i64) (by omega)), S⟩
  · replace hc_1 := of_decide_eq_false hc_1
    refine WP_skip ?_
    refine T_n ?_
    refine WP_seq ?_
    refine WP_region ?_
    refine S_v E rfl (R_move E rfl) rfl ?_
    clear E a; intro a E
    refine S_v E rfl (R_move E rfl) rfl ?_
    clear E a; intro a E
    refine S_v E rfl (R_rem E rfl rfl (by first | decide | omega)) rfl ?_
    clear E a; intro a E
    refine S_v E rfl (R_assign E rfl) rfl ?_
    clear E a; intro a E
    refine WL_nil ?_
    refine T_n ?_
    refine WP_seq ?_
    refine WP_seq ?_
    refine WP_region ?_
    refine S_v E rfl (R_move E rfl) rfl ?_
    clear E a; intro a E
    refine S_v E rfl (R_lss E rfl rfl) rfl ?_
    clear E a; intro a E
    refine WL_nil ?_
    refine T_n ?_
    refine WP_cond E rfl (fun hc_3 => ?_) (fun hc_3 => ?_)
    · replace hc_3 := of_decide_eq_true hc_3
      refine WP_region ?_
      refine S_v E rfl (R_move E rfl) rfl ?_
      clear E a; intro a E
      refine S_v E rfl (R_move E rfl) rfl ?_
      clear E a; intro a E
      refine S_v E rfl (R_addx (m := (Int.tmod x0 x1) + x1) E rfl rfl (by omega) (by omega)) rfl ?_
      clear E a; intro a E
      refine S_v E rfl (R_assign E rfl) rfl ?_
      clear E a; intro a E
      refine WL_nil ?_
      refine T_n ?_
      refine WP_seq ?_
      refine WP_region ?_
      refine S_v E rfl (R_move E rfl) rfl ?_
      clear E a; intro a E
      refine S_v E rfl (R_assign E rfl) rfl ?_
      clear E a; intro a E
      refine WL_nil ?_
      refine T_n ?_
      refine WP_ret ?_
      exact F_ret1 E Try.results69 rfl ⟨_, rfl, M1, (Hp.le.refl _), (congrArg (Value.int .i64) (by omega)), S⟩
    · replace hc_3 := of_decide_eq_false hc_3
      refine WP_skip ?_
      refine T_n ?_
      refine WP_seq ?_
      refine WP_region ?_
      refine S_v E rfl (R_move E rfl) rfl ?_
      clear E a; intro a E
      refine S_v E rfl (R_assign E rfl) rfl ?_
      clear E a; intro a E
      refine WL_nil ?_
      refine T_n ?_
      refine WP_ret ?_
      exact F_ret1 E Try.results69 rfl ⟨_, rfl, M1, (Hp.le.refl _), (congrArg (Value.int .i64) (by omega)), S⟩

set_option maxRecDepth 100000 in
set_option maxHeartbeats 4000000 in
theorem laws_stands {M : Hp} {kk0 kn0 : Int} (gk0 : -1099511627776 < kn0 ∧ kn0 < 1099511627776){x1 x2 : Int} :
    Pu Try.prog (.func (.func 23) #[] #[]) M [.agg #[.int .i64 kk0, .int .i64 kn0], .int .i64 x1, .int .i64 x2] (fun r M' => r = .int .i64 (keyAt kk0 kn0 x1 x2)) := by
  refine Pu_enter Try.func23 rfl Try.ntmps23 rfl Try.call23 ?_
  intro a w M1 H hM1 S E
  refine WP_seq ?_
  refine WP_region ?_
  refine S_x (X_box (cs := #[.int .i64 kk0, .int .i64 kn0]) E S rfl rfl rfl ?_)
  clear E a S; rintro a w b_1 E S
  obtain ⟨M_2, hM_2, hb_1, S⟩ := S.freezeB
  refine S_v E rfl (R_assign E rfl) rfl ?_
  clear E a; intro a E
  refine WL_nil ?_
  refine T_n ?_
  refine WP_seq ?_
  refine WP_seq ?_
  refine WP_region ?_
  refine S_v E rfl (R_fieldAddr E rfl (FA24_0 _)) rfl ?_
  clear E a; intro a E
  refine S_v E rfl (R_loadM E rfl Try.isAgg3 S.imm (cellM_boxo hb_1 rfl)) rfl ?_
  clear E a; intro a E
  refine WL_nil ?_
  refine T_n ?_
  refine WP_block ?_
  refine WP_seq ?_
  refine WP_region ?_
  refine S_v E rfl (R_eql E rfl rfl) rfl ?_
  clear E a; intro a E
  refine S_v E rfl (R_assign E rfl) rfl ?_
  clear E a; intro a E
  refine WL_nil ?_
  refine T_n ?_
  refine WP_cond E rfl (fun hc_3 => ?_) (fun hc_3 => ?_)
  · replace hc_3 := of_decide_eq_true hc_3
    refine WP_seq ?_
    refine WP_region ?_
    refine S_v E rfl (R_move E rfl) rfl ?_
    clear E a; intro a E
    refine S_v E rfl (R_fieldAddr E rfl (FA24_1 _)) rfl ?_
    clear E a; intro a E
    refine S_v E rfl (R_loadM E rfl Try.isAgg3 S.imm (cellM_boxo hb_1 rfl)) rfl ?_
    clear E a; intro a E
    refine S_v E rfl (R_add E rfl rfl) rfl ?_
    clear E a; intro a E
    refine S_v E rfl (R_assign E rfl) rfl ?_
    clear E a; intro a E
    refine WL_nil ?_
    refine T_n ?_
    refine WP_ret ?_
    refine B_r ?_
    refine T_r ?_
    exact F_ret1 E Try.results23 rfl ⟨_, rfl, M_2, hM_2, (congrArg (Value.int .i64) (by (clear E S; unfold keyAt w64; first | (simp [*]; done) | (simp_all; done)))), S⟩
  · replace hc_3 := of_decide_eq_false hc_3
    refine WP_seq ?_
    refine WP_region ?_
    refine S_v E rfl (R_eql E rfl rfl) rfl ?_
    clear E a; intro a E
    refine S_v E rfl (R_assign E rfl) rfl ?_
    clear E a; intro a E
    refine WL_nil ?_
    refine T_n ?_
    refine WP_cond E rfl (fun hc_4 => ?_) (fun hc_4 => ?_)
    · replace hc_4 := of_decide_eq_true hc_4
      refine WP_seq ?_
      refine WP_region ?_
      refine S_v E rfl (R_move E rfl) rfl ?_
      clear E a; intro a E
      refine S_v E rfl (R_fieldAddr E rfl (FA24_1 _)) rfl ?_
      clear E a; intro a E
      refine S_v E rfl (R_loadM E rfl Try.isAgg3 S.imm (cellM_boxo hb_1 rfl)) rfl ?_
      clear E a; intro a E
      refine S_v E rfl (R_mul E rfl rfl) rfl ?_
      clear E a; intro a E
      refine S_v E rfl (R_assign E rfl) rfl ?_
      clear E a; intro a E
      refine WL_nil ?_
      refine T_n ?_
      refine WP_ret ?_
      refine B_r ?_
      refine T_r ?_
      exact F_ret1 E Try.results23 rfl ⟨_, rfl, M_2, hM_2, (congrArg (Value.int .i64) (by (clear E S; unfold keyAt w64; first | (simp [*]; done) | (simp_all; done)))), S⟩
    · replace hc_4 := of_decide_eq_false hc_4
      refine WP_seq ?_
      refine WP_region ?_
      refine S_v E rfl (R_eql E rfl rfl) rfl ?_
      clear E a; intro a E
      refine S_v E rfl (R_assign E rfl) rfl ?_
      clear E a; intro a E
      refine WL_nil ?_
      refine T_n ?_
      refine WP_cond E rfl (fun hc_5 => ?_) (fun hc_5 => ?_)
      · replace hc_5 := of_decide_eq_true hc_5
        refine WP_seq ?_
        refine WP_region ?_
        refine S_v E rfl (R_fieldAddr E rfl (FA24_1 _)) rfl ?_
        clear E a; intro a E
        refine S_v E rfl (R_loadM E rfl Try.isAgg3 S.imm (cellM_boxo hb_1 rfl)) rfl ?_
        clear E a; intro a E
        refine S_v E rfl (R_neq E rfl rfl) rfl ?_
        clear E a; intro a E
        refine WL_nil ?_
        refine T_n ?_
        refine WP_cond E rfl (fun hc_6 => ?_) (fun hc_6 => ?_)
        · replace hc_6 := of_decide_eq_true hc_6
          refine WP_seq ?_
          refine WP_region ?_
          refine S_v E rfl (R_move E rfl) rfl ?_
          clear E a; intro a E
          refine S_v E rfl (R_fieldAddr E rfl (FA24_1 _)) rfl ?_
          clear E a; intro a E
          refine S_v E rfl (R_loadM E rfl Try.isAgg3 S.imm (cellM_boxo hb_1 rfl)) rfl ?_
          clear E a; intro a E
          refine S_x (X_pu E S rfl rfl rfl (laws_modulo (by first | omega | assumption) (by omega)) (Hp.le.refl _) ?_)
          clear E a S; rintro a _ w M_7 hM_7 rfl S E
          replace hb_1 := hM_7.2 _ _ hb_1
          refine S_v E rfl (R_assign E rfl) rfl ?_
          clear E a; intro a E
          refine WL_nil ?_
          refine T_n ?_
          refine WP_ret ?_
          refine B_r ?_
          refine T_r ?_
          exact F_ret1 E Try.results23 rfl ⟨_, rfl, M_7, (hM_2.trans hM_7), (congrArg (Value.int .i64) (by (clear E S; unfold keyAt w64; first | (simp [*]; done) | (simp_all; done)))), S⟩
        · replace hc_6 := of_decide_eq_false hc_6
          refine WP_skip ?_
          refine B_n ?_
          refine T_n ?_
          refine WP_seq ?_
          refine WP_region ?_
          refine S_v E rfl (R_move E rfl) rfl ?_
          clear E a; intro a E
          refine S_v E rfl (R_assign E rfl) rfl ?_
          clear E a; intro a E
          refine WL_nil ?_
          refine T_n ?_
          refine WP_ret ?_
          exact F_ret1 E Try.results23 rfl ⟨_, rfl, M_2, hM_2, (congrArg (Value.int .i64) (by (clear E S; unfold keyAt w64; first | (simp [*]; done) | (simp_all; done)))), S⟩
      · replace hc_5 := of_decide_eq_false hc_5
        refine WP_seq ?_
        refine WP_region ?_
        refine S_v E rfl (R_eql E rfl rfl) rfl ?_
        clear E a; intro a E
        refine S_v E rfl (R_assign E rfl) rfl ?_
        clear E a; intro a E
        refine WL_nil ?_
        refine T_n ?_
        refine WP_cond E rfl (fun hc_8 => ?_) (fun hc_8 => ?_)
        · replace hc_8 := of_decide_eq_true hc_8
          refine WP_seq ?_
          refine WP_region ?_
          refine S_v E rfl (R_fieldAddr E rfl (FA24_1 _)) rfl ?_
          clear E a; intro a E
          refine S_v E rfl (R_loadM E rfl Try.isAgg3 S.imm (cellM_boxo hb_1 rfl)) rfl ?_
          clear E a; intro a E
          refine S_v E rfl (R_assign E rfl) rfl ?_
          clear E a; intro a E
          refine WL_nil ?_
          refine T_n ?_
          refine WP_ret ?_
          refine B_r ?_
          refine T_r ?_
          exact F_ret1 E Try.results23 rfl ⟨_, rfl, M_2, hM_2, (congrArg (Value.int .i64) (by (clear E S; unfold keyAt w64; first | (simp [*]; done) | (simp_all; done)))), S⟩
        · replace hc_8 := of_decide_eq_false hc_8
          refine WP_seq ?_
          refine WP_region ?_
          refine S_v E rfl (R_eql E rfl rfl) rfl ?_
          clear E a; intro a E
          refine S_v E rfl (R_assign E rfl) rfl ?_
          clear E a; intro a E
          refine WL_nil ?_
          refine T_n ?_
          refine WP_cond E rfl (fun hc_9 => ?_) (fun hc_9 => ?_)
          · replace hc_9 := of_decide_eq_true hc_9
            refine WP_seq ?_
            refine WP_region ?_
            refine S_v E rfl (R_move E rfl) rfl ?_
            clear E a; intro a E
            refine S_v E rfl (R_assign E rfl) rfl ?_
            clear E a; intro a E
            refine WL_nil ?_
            refine T_n ?_
            refine WP_ret ?_
            refine B_r ?_
            refine T_r ?_
            exact F_ret1 E Try.results23 rfl ⟨_, rfl, M_2, hM_2, (congrArg (Value.int .i64) (by (clear E S; unfold keyAt w64; first | (simp [*]; done) | (simp_all; done)))), S⟩
          · replace hc_9 := of_decide_eq_false hc_9
            refine WP_skip ?_
            refine B_n ?_
            refine T_n ?_
            refine WP_seq ?_
            refine WP_region ?_
            refine S_v E rfl (R_move E rfl) rfl ?_
            clear E a; intro a E
            refine S_v E rfl (R_assign E rfl) rfl ?_
            clear E a; intro a E
            refine WL_nil ?_
            refine T_n ?_
            refine WP_ret ?_
            exact F_ret1 E Try.results23 rfl ⟨_, rfl, M_2, hM_2, (congrArg (Value.int .i64) (by (clear E S; unfold keyAt w64; first | (simp [*]; done) | (simp_all; done)))), S⟩

set_option maxRecDepth 100000 in
set_option maxHeartbeats 4000000 in
theorem laws_in {M : Hp} {v0 : Value} {l0 : List Int} (h0 : RdI M v0 l0){x1 : Int} :
    Pu Try.prog (.func (.func 29) #[] #[]) M [v0, .int .i64 x1] (fun r M' => r = .bool (decide (x1 ∈ l0))) := by
  refine Pu_enter Try.func29 rfl Try.ntmps29 rfl Try.call29 ?_
  intro a w M1 H hM1 S E
  replace h0 := h0.le hM1
  have b0 := h0.bound
  refine WP_seq ?_
  refine WP_region ?_
  refine S_v E rfl (R_assign E rfl) rfl ?_
  clear E a; intro a E
  refine WL_nil ?_
  refine T_n ?_
  refine WP_seq ?_
  refine WP_seq ?_
  refine WP_region ?_
  refine S_v E rfl (R_move E rfl) rfl ?_
  clear E a; intro a E
  refine S_v E rfl (R_lenV E rfl T22 h0.len) rfl ?_
  clear E a; intro a E
  refine S_v E rfl (R_move E rfl) rfl ?_
  clear E a; intro a E
  refine WL_nil ?_
  refine T_n ?_
  refine WP_block ?_
  refine WP_loop (γ := Nat) (fun (k : Nat) a w => ∃ (M_1 : Hp), Hp.le M1 M_1 ∧ St w M_1 (H) ∧ Env a 17 [] [(1, .int .i64 x1), (7, v0), (8, .int .i64 (((l0).length : Nat) : Int)), (9, .int .i64 ((k : Nat) : Int))] ∧ (k ≤ (l0).length) ∧ (x1 ∉ l0.take k)) (fun k => ((l0).length) - k) 0 ⟨M1, Hp.le.refl _, S, E.keep ⟨rfl, rfl, rfl, rfl, trivial⟩, by ((try clear S); (try clear E); first | assumption | omega | rfl | (simp; done) | (simp_all; done) | (simp [List.take_add_one, *]; done) | grind [List.take_add_one]), by ((try clear S); (try clear E); first | assumption | omega | rfl | (simp; done) | (simp_all; done) | (simp [List.take_add_one, *]; done) | grind [List.take_add_one])⟩ ?_
  try clear E
  try clear S
  try clear a
  try clear w
  rintro k a w ⟨M_1, hM_1, S, E, hL0_0, hL0_1⟩
  replace h0 := h0.le hM_1
  refine WP_seq ?_
  refine WP_region ?_
  refine S_v E rfl (R_lss E rfl rfl) rfl ?_
  clear E a; intro a E
  refine WL_nil ?_
  refine T_n ?_
  refine WP_seq ?_
  refine WP_cond E rfl (fun hc_2 => ?_) (fun hc_2 => ?_)
  · replace hc_2 := of_decide_eq_true hc_2
    refine WP_skip ?_
    refine T_n ?_
    refine WP_seq ?_
    refine WP_block ?_
    refine WP_seq ?_
    refine WP_region ?_
    obtain ⟨x_3, hx_3⟩ : ∃ x, (l0)[k]? = some x := ⟨_, List.getElem?_eq_getElem (by first | omega | (simp; done) | (simp; omega) | (simp_all; omega))⟩
    obtain ⟨p_4, hp_4, qp_4⟩ := h0.at hx_3
    refine S_v E rfl (R_idx E rfl rfl T22 hp_4 rfl) rfl ?_
    clear E a; intro a E
    refine S_v E rfl (R_loadM E rfl Try.isAgg3 S.imm qp_4) rfl ?_
    clear E a; intro a E
    refine S_v E rfl (R_assign E rfl) rfl ?_
    clear E a; intro a E
    refine WL_nil ?_
    refine T_n ?_
    refine WP_seq ?_
    refine WP_region ?_
    refine S_v E rfl (R_move E rfl) rfl ?_
    clear E a; intro a E
    refine S_v E rfl (R_move E rfl) rfl ?_
    clear E a; intro a E
    refine S_v E rfl (R_eql E rfl rfl) rfl ?_
    clear E a; intro a E
    refine WL_nil ?_
    refine T_n ?_
    refine WP_cond E rfl (fun hc_5 => ?_) (fun hc_5 => ?_)
    · replace hc_5 := of_decide_eq_true hc_5
      refine WP_seq ?_
      refine WP_region ?_
      refine S_v E rfl (R_assign E rfl) rfl ?_
      clear E a; intro a E
      refine WL_nil ?_
      refine T_n ?_
      refine WP_ret ?_
      refine B_r ?_
      refine T_r ?_
      refine T_r ?_
      refine B_r ?_
      refine T_r ?_
      exact F_ret1 E Try.results29 rfl ⟨_, rfl, M_1, hM_1, (bT (by (refine List.mem_of_getElem? (i := k) ?_; simp_all))), S⟩
    · replace hc_5 := of_decide_eq_false hc_5
      refine WP_skip ?_
      refine B_n ?_
      refine T_n ?_
      refine WP_region ?_
      refine S_v E rfl (R_addx (m := ((k + 1 : Nat) : Int)) E rfl rfl (by omega) (by omega)) rfl ?_
      clear E a; intro a E
      refine S_v E rfl (R_move E rfl) rfl ?_
      clear E a; intro a E
      refine WL_nil ?_
      refine T_n ?_
      exact ⟨k + 1, ⟨M_1, hM_1, S, E.keep ⟨rfl, rfl, rfl, rfl, trivial⟩, by ((try clear S); (try clear E); first | assumption | omega | rfl | (simp; done) | (simp_all; done) | (simp [List.take_add_one, *]; done) | grind [List.take_add_one]), by ((try clear S); (try clear E); first | assumption | omega | rfl | (simp; done) | (simp_all; done) | (simp [List.take_add_one, *]; done) | grind [List.take_add_one])⟩, by omega⟩
  · replace hc_2 := of_decide_eq_false hc_2
    refine WP_exit ?_
    refine T_x ?_
    refine T_x ?_
    refine B_x ?_
    refine T_n ?_
    refine WP_seq ?_
    refine WP_region ?_
    refine S_v E rfl (R_assign E rfl) rfl ?_
    clear E a; intro a E
    refine WL_nil ?_
    refine T_n ?_
    refine WP_ret ?_
    exact F_ret1 E Try.results29 rfl ⟨_, rfl, M_1, hM_1, (bF (by (rw [List.take_of_length_le (by omega)] at hL0_1; exact hL0_1))), S⟩

set_option maxRecDepth 100000 in
set_option maxHeartbeats 4000000 in
theorem laws_sorted {M : Hp} {v0 : Value} {l0 : List Int} (h0 : RdI M v0 l0) (hb : l0.length ≤ 1000000000000) :
    Pu Try.prog (.func (.func 24) #[] #[]) M [v0] (fun r M' => RdI M' r (setI l0)) := by
  refine Pu_enter Try.func24 rfl Try.ntmps24 rfl Try.call24 ?_
  intro a w M1 H hM1 S E
  replace h0 := h0.le hM1
  have b0 := h0.bound
  refine WP_seq ?_
  refine WP_region ?_
  refine S_v E rfl (R_assign E rfl) rfl ?_
  clear E a; intro a E
  refine WL_nil ?_
  refine T_n ?_
  refine WP_seq ?_
  refine WP_region ?_
  refine S_v E rfl (R_assign E rfl) rfl ?_
  clear E a; intro a E
  refine WL_nil ?_
  refine T_n ?_
  refine WP_seq ?_
  refine WP_seq ?_
  refine WP_region ?_
  refine S_v E rfl (R_move E rfl) rfl ?_
  clear E a; intro a E
  refine S_v E rfl (R_lenV E rfl T22 h0.len) rfl ?_
  clear E a; intro a E
  refine S_v E rfl (R_move E rfl) rfl ?_
  clear E a; intro a E
  refine WL_nil ?_
  refine T_n ?_
  refine WP_block ?_
  replace S := (S.ownNil (e := 3) (sz := 1)).made0
  replace S := S.re1 (l' := setI (l0.take 0)) (by first | (simp [setI]; done) | (rw [setI_take' (by assumption), insU_same (by rw [show l0[k]? = some _ by assumption]; assumption)]; done) | (rw [setI_take' (by assumption)]; exact set_bubble hsu.1 (by rw [show l0[k]? = some _ by assumption]; assumption) hL1_1 (by omega) (by first | (left; omega) | (right; exact ⟨_, bub_left (s := setI (l0.take k)) (x := (l0[k]?.getD 0)) (i := (setI (l0.take k)).length - j) (by omega) (by omega) (by assumption), by rw [← bub_at (s := setI (l0.take k)) (x := (l0[k]?.getD 0)) (i := (setI (l0.take k)).length - j) (by omega) (by assumption)]; assumption⟩))))
  refine WP_loop (γ := Nat) (fun (k : Nat) a w => ∃ (M_2 : Hp) (u3 : Value), Hp.le M1 M_2 ∧ St w M_2 (OwnI 3 u3 (setI (l0.take k)) :: H) ∧ Env a 57 [] [(3, u3), (7, v0), (8, .int .i64 (((l0).length : Nat) : Int)), (9, .int .i64 ((k : Nat) : Int))] ∧ (k ≤ (l0).length)) (fun k => ((l0).length) - k) 0 ⟨M1, _, Hp.le.refl _, S, E.keep ⟨rfl, rfl, rfl, rfl, trivial⟩, by ((try clear S); (try clear E); first | assumption | omega | rfl | (simp; done) | (simp_all; done) | (simp [List.take_add_one, *]; done) | grind [List.take_add_one])⟩ ?_
  try clear E
  try clear S
  try clear a
  try clear w
  rintro k a w ⟨M_2, u3, hM_2, S, E, hL0_0⟩
  replace h0 := h0.le hM_2
  have hsu := setI_spec (l0.take k); have hsl := hsu.2.2; simp only [List.length_take] at hsl
  refine WP_seq ?_
  refine WP_region ?_
  refine S_v E rfl (R_lss E rfl rfl) rfl ?_
  clear E a; intro a E
  refine WL_nil ?_
  refine T_n ?_
  refine WP_seq ?_
  refine WP_cond E rfl (fun hc_3 => ?_) (fun hc_3 => ?_)
  · replace hc_3 := of_decide_eq_true hc_3
    refine WP_skip ?_
    refine T_n ?_
    refine WP_seq ?_
    refine WP_block ?_
    refine WP_seq ?_
    refine WP_region ?_
    obtain ⟨x_4, hx_4⟩ : ∃ x, (l0)[k]? = some x := ⟨_, List.getElem?_eq_getElem (by first | omega | (simp; done) | (simp; omega) | (simp_all; omega))⟩
    obtain ⟨p_5, hp_5, qp_5⟩ := h0.at hx_4
    refine S_v E rfl (R_idx E rfl rfl T22 hp_5 rfl) rfl ?_
    clear E a; intro a E
    refine S_v E rfl (R_loadM E rfl Try.isAgg3 S.imm qp_5) rfl ?_
    clear E a; intro a E
    refine S_v E rfl (R_assign E rfl) rfl ?_
    clear E a; intro a E
    refine WL_nil ?_
    refine T_n ?_
    refine WP_seq ?_
    refine WP_seq ?_
    refine WP_region ?_
    refine S_v E rfl (R_move E rfl) rfl ?_
    clear E a; intro a E
    refine S_v E rfl (R_move E rfl) rfl ?_
    clear E a; intro a E
    obtain ⟨ML_6, hl_7, hv_8, S1, back⟩ := S.lendI (by omega)
    refine S_x (X_pu E S1 rfl rfl rfl (laws_in hv_8) (Hp.le.refl _) ?_)
    clear E a S; rintro a _ w M_9 hM_10 rfl S E
    replace S := back _ _ hM_10 S
    clear back S1
    refine WL_nil ?_
    refine T_n ?_
    refine WP_cond E rfl (fun hc_11 => ?_) (fun hc_11 => ?_)
    · replace hc_11 := of_decide_eq_true hc_11
      refine WP_exit ?_
      refine T_x ?_
      refine B_x ?_
      refine T_n ?_
      refine WP_region ?_
      refine S_v E rfl (R_addx (m := ((k + 1 : Nat) : Int)) E rfl rfl (by omega) (by omega)) rfl ?_
      clear E a; intro a E
      refine S_v E rfl (R_move E rfl) rfl ?_
      clear E a; intro a E
      refine WL_nil ?_
      refine T_n ?_
      replace S := S.re1 (l' := setI (l0.take (k + 1))) (by first | (simp [setI]; done) | (rw [setI_take' (by assumption), insU_same (by rw [show l0[k]? = some _ by assumption]; assumption)]; done) | (rw [setI_take' (by assumption)]; exact set_bubble hsu.1 (by rw [show l0[k]? = some _ by assumption]; assumption) hL1_1 (by omega) (by first | (left; omega) | (right; exact ⟨_, bub_left (s := setI (l0.take k)) (x := (l0[k]?.getD 0)) (i := (setI (l0.take k)).length - j) (by omega) (by omega) (by assumption), by rw [← bub_at (s := setI (l0.take k)) (x := (l0[k]?.getD 0)) (i := (setI (l0.take k)).length - j) (by omega) (by assumption)]; assumption⟩))))
      exact ⟨k + 1, ⟨M_2, _, hM_2, S, E.keep ⟨rfl, rfl, rfl, rfl, trivial⟩, by ((try clear S); (try clear E); first | assumption | omega | rfl | (simp; done) | (simp_all; done) | (simp [List.take_add_one, *]; done) | grind [List.take_add_one])⟩, by omega⟩
    · replace hc_11 := of_decide_eq_false hc_11
      refine WP_skip ?_
      refine T_n ?_
      refine WP_seq ?_
      refine WP_region ?_
      refine S_v E rfl (R_move E rfl) rfl ?_
      clear E a; intro a E
      refine S_v E rfl (R_move E rfl) rfl ?_
      clear E a; intro a E
      refine S_x (X_buildI (ys := [x_4]) E S rfl T22 rfl rfl rfl ?_)
      clear E a S; rintro a w v_12 E S
      replace S := S.front1
      replace S := S.front1
      refine S_x (X_appendB (xs := setI (l0.take k)) (ys := [x_4]) E S rfl rfl rfl T22 (by first | omega | (simp; done) | (simp; omega) | (simp_all; omega)) ?_)
      clear E a S; rintro a w v_13 E S
      refine S_v E rfl (R_assign E rfl) rfl ?_
      clear E a; intro a E
      refine WL_nil ?_
      refine T_n ?_
      refine WP_seq ?_
      refine WP_region ?_
      refine S_v E rfl (R_move E rfl) rfl ?_
      clear E a; intro a E
      refine S_v E rfl (R_lenV E rfl T22 S.lenC) rfl ?_
      clear E a; intro a E
      refine S_v E rfl (R_subx (m := ((((setI (l0.take k)) ++ [x_4]).length - 1 : Nat) : Int)) E rfl rfl (by first | omega | (simp; done) | (simp; omega)) (by first | omega | (simp; done) | (simp; omega))) rfl ?_
      clear E a; intro a E
      refine S_v E rfl (R_assign E rfl) rfl ?_
      clear E a; intro a E
      refine WL_nil ?_
      refine T_n ?_
      refine WP_block ?_
      replace S := S.re1 (l' := (setI (l0.take k)).take ((setI (l0.take k)).length - 0) ++ [(l0[k]?.getD 0)] ++ (setI (l0.take k)).drop ((setI (l0.take k)).length - 0)) (by first | (rw [show l0[k]? = some _ by assumption]; simp; done) | (have e1 := bub_at (s := setI (l0.take k)) (x := (l0[k]?.getD 0)) (i := (setI (l0.take k)).length - j) (by omega) (by assumption); have e2 := bub_left (s := setI (l0.take k)) (x := (l0[k]?.getD 0)) (i := (setI (l0.take k)).length - j) (by omega) (by omega) (by assumption); rw [show (setI (l0.take k)).length - (j + 1) = (setI (l0.take k)).length - j - 1 by omega, bubble_step (by omega) (by omega) e2, e1]))
      refine WP_loop (γ := Nat) (fun (j : Nat) a w => ∃ (M_14 : Hp), Hp.le M_2 M_14 ∧ St w M_14 (OwnI 3 v_13 ((setI (l0.take k)).take ((setI (l0.take k)).length - j) ++ [(l0[k]?.getD 0)] ++ (setI (l0.take k)).drop ((setI (l0.take k)).length - j)) :: H) ∧ Env a 57 [] [(3, v_13), (6, .int .i64 (((setI (l0.take k)).length - j : Nat) : Int)), (7, v0), (8, .int .i64 (((l0).length : Nat) : Int)), (9, .int .i64 ((k : Nat) : Int))] ∧ (j ≤ (setI (l0.take k)).length) ∧ (∀ y ∈ (setI (l0.take k)).drop ((setI (l0.take k)).length - j), (l0[k]?.getD 0) < y)) (fun j => (setI (l0.take k)).length - j) 0 ⟨M_2, Hp.le.refl _, S, E.keep ⟨rfl, look_nat (i := ((setI (l0.take k)) ++ [x_4]).length - 1) rfl (by (first | (simp; done) | (simp; omega))), rfl, rfl, rfl, trivial⟩, (by omega), (by simp)⟩ ?_
      try clear E
      try clear S
      try clear a
      try clear w
      rintro j a w ⟨M_14, hM_14, S, E, hL1_0, hL1_1⟩
      replace h0 := h0.le hM_14
      refine WP_seq ?_
      refine WP_seq ?_
      replace S := S.mono_heap (w' := World.drew _) rfl
      obtain ⟨p_15, hp_15⟩ := S.ptrC (k := (setI (l0.take k)).length - j) (by first | omega | (simp; done) | (simp; omega) | (simp_all; omega))
      obtain ⟨x_16, hx_16⟩ : ∃ x, ((setI (l0.take k)).take ((setI (l0.take k)).length - j) ++ [(l0[k]?.getD 0)] ++ (setI (l0.take k)).drop ((setI (l0.take k)).length - j))[(setI (l0.take k)).length - j]? = some x := ⟨_, List.getElem?_eq_getElem (by first | omega | (simp; done) | (simp; omega) | (simp_all; omega))⟩
      obtain ⟨p_17, hp_17⟩ := S.ptrC (k := (setI (l0.take k)).length - j - 1) (by first | omega | (simp; done) | (simp; omega) | (simp_all; omega))
      obtain ⟨x_18, hx_18⟩ : ∃ x, ((setI (l0.take k)).take ((setI (l0.take k)).length - j) ++ [(l0[k]?.getD 0)] ++ (setI (l0.take k)).drop ((setI (l0.take k)).length - j))[(setI (l0.take k)).length - j - 1]? = some x := ⟨_, List.getElem?_eq_getElem (by first | omega | (simp; done) | (simp; omega) | (simp_all; omega))⟩
      refine WP_drawn (C := fun x w => agree M_14 w ∧ (x = 6 → w.cell? p_15 = some (.int .i64 x_16)) ∧ (x = 11 → w.cell? p_17 = some (.int .i64 x_18))) (bf := (fun i => [])) [0, 1, 2, 3, 4, 5, 6, 7, 8, 9, 10, 11, 12, 13] [0, 1, 2, 3, 4, 5, 6, 7, 8, 9, 10, 11, 12, 13] Try.mixed (by kernel_rfl) (fun x hq => ⟨S.imm, fun _ => S.cellI hp_15 hx_16, fun _ => S.cellI hp_17 hx_18⟩) ?_
      refine D_v E rfl rfl rfl (fun w hC => (R_move E rfl)) ?_
      clear E a; intro a E
      refine D_v E rfl rfl rfl (fun w hC => (R_gtr E rfl rfl)) ?_
      clear E a; intro a E
      refine D_v E rfl rfl rfl (fun w hC => (R_move E rfl)) ?_
      clear E a; intro a E
      refine split_bool (decide (0 < (((setI (l0.take k)).length - j : Nat) : Int))) (fun hc_19 => ?_) (fun hc_19 => ?_)
      · replace E := E.val (t := 24) rfl hc_19
        replace E := E.val (t := 25) rfl hc_19
        replace hc_19 := of_decide_eq_true hc_19
        refine D_vyes E rfl rfl rfl rfl rfl (fun w hC => (R_move E rfl)) ?_
        clear E a; intro a E
        refine D_vyes E rfl rfl rfl rfl rfl (fun w hC => (R_move E rfl)) ?_
        clear E a; intro a E
        refine D_vyes E rfl rfl rfl rfl rfl (fun w hC => (R_idx E rfl rfl T22 hp_15 rfl)) ?_
        clear E a; intro a E
        refine D_vyes E rfl rfl rfl rfl rfl (fun w hC => (R_load E rfl (Try.isAgg3 _) (hC.2.1 rfl))) ?_
        clear E a; intro a E
        refine D_vyes E rfl rfl rfl rfl rfl (fun w hC => (R_move E rfl)) ?_
        clear E a; intro a E
        refine D_vyes E rfl rfl rfl rfl rfl (fun w hC => (R_move E rfl)) ?_
        clear E a; intro a E
        refine D_vyes E rfl rfl rfl rfl rfl (fun w hC => (R_subx (m := (((setI (l0.take k)).length - j - 1 : Nat) : Int)) E rfl rfl (by first | omega | (simp; done) | (simp; omega)) (by first | omega | (simp; done) | (simp; omega)))) ?_
        clear E a; intro a E
        refine D_vyes E rfl rfl rfl rfl rfl (fun w hC => (R_idx E rfl rfl T22 hp_17 rfl)) ?_
        clear E a; intro a E
        refine D_vyes E rfl rfl rfl rfl rfl (fun w hC => (R_load E rfl (Try.isAgg3 _) (hC.2.2 rfl))) ?_
        clear E a; intro a E
        refine D_vyes E rfl rfl rfl rfl rfl (fun w hC => (R_lss E rfl rfl)) ?_
        clear E a; intro a E
        refine D_v E rfl rfl rfl (fun w hC => (R_pickT E rfl rfl)) ?_
        clear E a; intro a E
        refine D_end (NoP_n ?_)
        refine T_n ?_
        refine WP_cond E rfl (fun hc_20 => ?_) (fun hc_20 => ?_)
        · replace hc_20 := of_decide_eq_true hc_20
          refine WP_skip ?_
          refine T_n ?_
          refine WP_seq ?_
          refine WP_block ?_
          replace S := S.mono_heap (w' := World.drew _) rfl
          refine WP_drawn (C := fun x w => agree M_14 w ∧ (x = 9 → w.cell? p_17 = some (.int .i64 x_18)) ∧ (x = 13 → w.cell? p_15 = some (.int .i64 x_16))) (bf := (fun i => bif Nat.beq i 15 then [9, 13] else bif Nat.beq i 17 then [9, 13] else [])) [0, 1, 2, 3, 4, 5, 6, 7, 8, 9, 10, 11, 12, 13, 14, 16] [0, 1, 2, 3, 4, 5, 6, 7, 8, 9, 10, 11, 12, 13, 14, 15, 16, 17] Try.mixed (by kernel_rfl) (fun x hq => ⟨S.imm, fun _ => S.cellI hp_17 hx_18, fun _ => S.cellI hp_15 hx_16⟩) ?_
          refine D_v E rfl rfl rfl (fun w hC => (R_move E rfl)) ?_
          clear E a; intro a E
          refine D_v E rfl rfl rfl (fun w hC => (R_move E rfl)) ?_
          clear E a; intro a E
          refine D_v E rfl rfl rfl (fun w hC => (R_move E rfl)) ?_
          clear E a; intro a E
          refine D_v E rfl rfl rfl (fun w hC => (R_move E rfl)) ?_
          clear E a; intro a E
          refine D_v E rfl rfl rfl (fun w hC => (R_subx (m := (((setI (l0.take k)).length - j - 1 : Nat) : Int)) E rfl rfl (by omega) (by omega))) ?_
          clear E a; intro a E
          refine D_v E rfl rfl rfl (fun w hC => (R_move E rfl)) ?_
          clear E a; intro a E
          refine D_v E rfl rfl rfl (fun w hC => (R_move E rfl)) ?_
          clear E a; intro a E
          refine D_v E rfl rfl rfl (fun w hC => (R_subx (m := (((setI (l0.take k)).length - j - 1 : Nat) : Int)) E rfl rfl (by omega) (by omega))) ?_
          clear E a; intro a E
          refine D_v E rfl rfl rfl (fun w hC => (R_idx E rfl rfl T22 hp_17 rfl)) ?_
          clear E a; intro a E
          refine D_v E rfl rfl rfl (fun w hC => (R_load E rfl (Try.isAgg3 _) (hC.2.1 rfl))) ?_
          clear E a; intro a E
          refine D_v E rfl rfl rfl (fun w hC => (R_move E rfl)) ?_
          clear E a; intro a E
          refine D_v E rfl rfl rfl (fun w hC => (R_move E rfl)) ?_
          clear E a; intro a E
          refine D_v E rfl rfl rfl (fun w hC => (R_idx E rfl rfl T22 hp_15 rfl)) ?_
          clear E a; intro a E
          refine D_v E rfl rfl rfl (fun w hC => (R_load E rfl (Try.isAgg3 _) (hC.2.2 rfl))) ?_
          clear E a; intro a E
          refine D_v E rfl rfl rfl (fun w hC => (R_idx E rfl rfl T22 hp_15 rfl)) ?_
          clear E a; intro a E
          refine D_x rfl rfl rfl (X_storeI E S rfl rfl (Try.sizeOf3 _) hp_15 ?_)
          clear E a S; rintro a w E S
          refine ⟨fun x hq hb => ⟨(agree_le (Hp.le.refl _) S.imm), (fun e => by subst e; exact absurd hb (by decide)), (fun e => by subst e; exact absurd hb (by decide))⟩, ?_⟩
          refine D_v E rfl rfl rfl (fun w hC => (R_idx E rfl rfl T22 hp_17 rfl)) ?_
          clear E a; intro a E
          refine D_x rfl rfl rfl (X_storeI E S rfl rfl (Try.sizeOf3 _) hp_17 ?_)
          clear E a S; rintro a w E S
          refine ⟨fun x hq hb => ⟨(agree_le (Hp.le.refl _) S.imm), (fun e => by subst e; exact absurd hb (by decide)), (fun e => by subst e; exact absurd hb (by decide))⟩, ?_⟩
          refine D_end (NoP_n ?_)
          refine B_n ?_
          refine T_n ?_
          refine WP_region ?_
          refine S_v E rfl (R_move E rfl) rfl ?_
          clear E a; intro a E
          refine S_v E rfl (R_subx (m := (((setI (l0.take k)).length - j - 1 : Nat) : Int)) E rfl rfl (by first | omega | (simp; done) | (simp; omega)) (by first | omega | (simp; done) | (simp; omega))) rfl ?_
          clear E a; intro a E
          refine S_v E rfl (R_assign E rfl) rfl ?_
          clear E a; intro a E
          refine WL_nil ?_
          refine T_n ?_
          replace S := S.re1 (l' := (setI (l0.take k)).take ((setI (l0.take k)).length - (j + 1)) ++ [(l0[k]?.getD 0)] ++ (setI (l0.take k)).drop ((setI (l0.take k)).length - (j + 1))) (by first | (rw [show l0[k]? = some _ by assumption]; simp; done) | (have e1 := bub_at (s := setI (l0.take k)) (x := (l0[k]?.getD 0)) (i := (setI (l0.take k)).length - j) (by omega) (by assumption); have e2 := bub_left (s := setI (l0.take k)) (x := (l0[k]?.getD 0)) (i := (setI (l0.take k)).length - j) (by omega) (by omega) (by assumption); rw [show (setI (l0.take k)).length - (j + 1) = (setI (l0.take k)).length - j - 1 by omega, bubble_step (by omega) (by omega) e2, e1]))
          exact ⟨j + 1, ⟨M_14, hM_14, S, E.keep ⟨rfl, look_nat (i := (setI (l0.take k)).length - j - 1) rfl (by (omega)), rfl, rfl, rfl, trivial⟩, (by omega), (by rw [show (setI (l0.take k)).length - (j + 1) = (setI (l0.take k)).length - j - 1 by omega]; exact drop_bub hL1_1 (by omega) (by omega) (bub_left (s := setI (l0.take k)) (x := (l0[k]?.getD 0)) (i := (setI (l0.take k)).length - j) (by omega) (by omega) (by assumption)) (by rw [← bub_at (s := setI (l0.take k)) (x := (l0[k]?.getD 0)) (i := (setI (l0.take k)).length - j) (by omega) (by assumption)]; assumption))⟩, by omega⟩
        · replace hc_20 := of_decide_eq_false hc_20
          refine WP_exit ?_
          refine T_x ?_
          refine T_x ?_
          refine B_x ?_
          refine B_n ?_
          refine T_n ?_
          refine WP_region ?_
          refine S_v E rfl (R_addx (m := ((k + 1 : Nat) : Int)) E rfl rfl (by omega) (by omega)) rfl ?_
          clear E a; intro a E
          refine S_v E rfl (R_move E rfl) rfl ?_
          clear E a; intro a E
          refine WL_nil ?_
          refine T_n ?_
          replace S := S.re1 (l' := setI (l0.take (k + 1))) (by first | (simp [setI]; done) | (rw [setI_take' (by assumption), insU_same (by rw [show l0[k]? = some _ by assumption]; assumption)]; done) | (rw [setI_take' (by assumption)]; exact set_bubble hsu.1 (by rw [show l0[k]? = some _ by assumption]; assumption) hL1_1 (by omega) (by first | (left; omega) | (right; exact ⟨_, bub_left (s := setI (l0.take k)) (x := (l0[k]?.getD 0)) (i := (setI (l0.take k)).length - j) (by omega) (by omega) (by assumption), by rw [← bub_at (s := setI (l0.take k)) (x := (l0[k]?.getD 0)) (i := (setI (l0.take k)).length - j) (by omega) (by assumption)]; assumption⟩))))
          exact ⟨k + 1, ⟨M_14, _, (hM_2.trans hM_14), S, E.keep ⟨rfl, rfl, rfl, rfl, trivial⟩, by ((try clear S); (try clear E); first | assumption | omega | rfl | (simp; done) | (simp_all; done) | (simp [List.take_add_one, *]; done) | grind [List.take_add_one])⟩, by omega⟩
      · replace E := E.val (t := 24) rfl hc_19
        replace E := E.val (t := 25) rfl hc_19
        replace hc_19 := of_decide_eq_false hc_19
        refine D_no E rfl rfl rfl rfl rfl fun a E => ?_
        refine D_no E rfl rfl rfl rfl rfl fun a E => ?_
        refine D_no E rfl rfl rfl rfl rfl fun a E => ?_
        refine D_no E rfl rfl rfl rfl rfl fun a E => ?_
        refine D_no E rfl rfl rfl rfl rfl fun a E => ?_
        refine D_no E rfl rfl rfl rfl rfl fun a E => ?_
        refine D_no E rfl rfl rfl rfl rfl fun a E => ?_
        refine D_no E rfl rfl rfl rfl rfl fun a E => ?_
        refine D_no E rfl rfl rfl rfl rfl fun a E => ?_
        refine D_no E rfl rfl rfl rfl rfl fun a E => ?_
        refine D_v E rfl rfl rfl (fun w hC => (R_pickF E rfl rfl)) ?_
        clear E a; intro a E
        refine D_end (NoP_n ?_)
        refine T_n ?_
        refine WP_condF E rfl rfl ?_
        refine WP_exit ?_
        refine T_x ?_
        refine T_x ?_
        refine B_x ?_
        refine B_n ?_
        refine T_n ?_
        refine WP_region ?_
        refine S_v E rfl (R_addx (m := ((k + 1 : Nat) : Int)) E rfl rfl (by omega) (by omega)) rfl ?_
        clear E a; intro a E
        refine S_v E rfl (R_move E rfl) rfl ?_
        clear E a; intro a E
        refine WL_nil ?_
        refine T_n ?_
        replace S := S.re1 (l' := setI (l0.take (k + 1))) (by first | (simp [setI]; done) | (rw [setI_take' (by assumption), insU_same (by rw [show l0[k]? = some _ by assumption]; assumption)]; done) | (rw [setI_take' (by assumption)]; exact set_bubble hsu.1 (by rw [show l0[k]? = some _ by assumption]; assumption) hL1_1 (by omega) (by first | (left; omega) | (right; exact ⟨_, bub_left (s := setI (l0.take k)) (x := (l0[k]?.getD 0)) (i := (setI (l0.take k)).length - j) (by omega) (by omega) (by assumption), by rw [← bub_at (s := setI (l0.take k)) (x := (l0[k]?.getD 0)) (i := (setI (l0.take k)).length - j) (by omega) (by assumption)]; assumption⟩))))
        exact ⟨k + 1, ⟨M_14, _, (hM_2.trans hM_14), S, E.keep ⟨rfl, rfl, rfl, rfl, trivial⟩, by ((try clear S); (try clear E); first | assumption | omega | rfl | (simp; done) | (simp_all; done) | (simp [List.take_add_one, *]; done) | grind [List.take_add_one])⟩, by omega⟩
  · replace hc_3 := of_decide_eq_false hc_3
    refine WP_exit ?_
    refine T_x ?_
    refine T_x ?_
    refine B_x ?_
    refine T_n ?_
    refine WP_seq ?_
    refine WP_region ?_
    refine S_v E rfl (R_move E rfl) rfl ?_
    clear E a; intro a E
    refine S_v E rfl (R_assign E rfl) rfl ?_
    clear E a; intro a E
    refine WL_nil ?_
    refine T_n ?_
    refine WP_ret ?_
    have S0 := S; clear S
    obtain ⟨M_21, hM_21, hz_22, S⟩ := S0.freezeI (by (first | omega | (simp; omega) | (simp; done) | (simp_all; omega) | grind))
    clear S0
    replace h0 := h0.le hM_21
    exact F_ret1 E Try.results24 rfl ⟨_, rfl, M_21, (hM_2.trans hM_21), (by rw [show (setI l0) = (setI (l0.take k)) from by (rw [List.take_of_length_le (by omega)])]; exact hz_22), S⟩

set_option maxRecDepth 100000 in
set_option maxHeartbeats 4000000 in
theorem laws_FnGroups1 {M : Hp} {v0 : Value} {l0 : List Int} (h0 : RdI M v0 l0) {bx1 : Nat} (hbx1 : M bx1 = some (.cells #[v0] 22)) {kk2 kn2 : Int} (gk2 : -9223372036854775808 ≤ kn2 ∧ kn2 ≤ 9223372036854775807) {bx2 : Nat} (hbx2 : M bx2 = some (.cells #[.int .i64 kk2, .int .i64 kn2] 24)) (gj : -1099511627776 < kn2 ∧ kn2 < 1099511627776) (hb : l0.length ≤ 1000000000000) {x0 : Int} :
    Pu Try.prog (.func (.func 30) #[] #[.pointer (some ⟨bx1, 0, none⟩), .pointer (some ⟨bx2, 0, none⟩)]) M [.int .i64 x0] (fun r M' => RdI M' r ((l0).filter (fun x => decide (keyAt kk2 kn2 x 0 = x0)))) := by
  refine Pu_enter Try.func30 rfl Try.ntmps30 rfl Try.call30 ?_
  intro a w M1 H hM1 S E
  replace h0 := h0.le hM1
  replace hbx1 := hM1.2 _ _ hbx1
  replace hbx2 := hM1.2 _ _ hbx2
  have b0 := h0.bound
  refine WP_seq ?_
  refine WP_region ?_
  refine S_v E rfl (R_assign E rfl) rfl ?_
  clear E a; intro a E
  refine WL_nil ?_
  refine T_n ?_
  refine WP_seq ?_
  refine WP_region ?_
  refine S_v E rfl (R_assign E rfl) rfl ?_
  clear E a; intro a E
  refine WL_nil ?_
  refine T_n ?_
  refine WP_seq ?_
  refine WP_seq ?_
  refine WP_region ?_
  refine S_v E rfl (R_loadM E rfl Try.isAgg22 S.imm (cellM_box hbx1)) rfl ?_
  clear E a; intro a E
  refine S_v E rfl (R_lenV E rfl T22 h0.len) rfl ?_
  clear E a; intro a E
  refine S_v E rfl (R_move E rfl) rfl ?_
  clear E a; intro a E
  refine WL_nil ?_
  refine T_n ?_
  refine WP_block ?_
  replace S := (S.ownNil (e := 3) (sz := 1)).made0
  replace S := S.re1 (l' := (l0.take 0).filter (fun x => decide ((fun x => keyAt kk2 kn2 x 0) x = x0))) (by first | (simp; done) | exact pl_yes (f := (fun x => keyAt kk2 kn2 x 0)) (by assumption) (by assumption) | exact pl_no (f := (fun x => keyAt kk2 kn2 x 0)) (by assumption) (by assumption))
  refine WP_loop (γ := Nat) (fun (k : Nat) a w => ∃ (M_2 : Hp) (u5 : Value), Hp.le M1 M_2 ∧ St w M_2 (OwnI 3 u5 ((l0.take k).filter (fun x => decide ((fun x => keyAt kk2 kn2 x 0) x = x0))) :: H) ∧ Env a 25 [] [(0, .int .i64 x0), (2, .pointer (some ⟨bx2, 0, none⟩)), (5, u5), (8, v0), (9, .int .i64 (((l0).length : Nat) : Int)), (10, .int .i64 ((k : Nat) : Int))] ∧ (k ≤ (l0).length)) (fun k => ((l0).length) - k) 0 ⟨M1, _, Hp.le.refl _, S, E.keep ⟨rfl, rfl, rfl, rfl, rfl, rfl, trivial⟩, by ((try clear S); (try clear E); first | assumption | omega | rfl | (simp; done) | (simp_all; done) | (simp [List.take_add_one, *]; done) | grind [List.take_add_one])⟩ ?_
  try clear E
  try clear S
  try clear a
  try clear w
  rintro k a w ⟨M_2, u5, hM_2, S, E, hL0_0⟩
  replace h0 := h0.le hM_2
  replace hbx1 := hM_2.2 _ _ hbx1
  replace hbx2 := hM_2.2 _ _ hbx2
  have hft := List.length_filter_le (fun x => decide ((fun x => keyAt kk2 kn2 x 0) x = x0)) (l0.take k)
  have hmt := List.length_take_le k l0
  refine WP_seq ?_
  refine WP_region ?_
  refine S_v E rfl (R_lss E rfl rfl) rfl ?_
  clear E a; intro a E
  refine WL_nil ?_
  refine T_n ?_
  refine WP_seq ?_
  refine WP_cond E rfl (fun hc_3 => ?_) (fun hc_3 => ?_)
  · replace hc_3 := of_decide_eq_true hc_3
    refine WP_skip ?_
    refine T_n ?_
    refine WP_seq ?_
    refine WP_block ?_
    refine WP_seq ?_
    refine WP_region ?_
    obtain ⟨x_4, hx_4⟩ : ∃ x, (l0)[k]? = some x := ⟨_, List.getElem?_eq_getElem (by first | omega | (simp; done) | (simp; omega) | (simp_all; omega))⟩
    obtain ⟨p_5, hp_5, qp_5⟩ := h0.at hx_4
    refine S_v E rfl (R_idx E rfl rfl T22 hp_5 rfl) rfl ?_
    clear E a; intro a E
    refine S_v E rfl (R_loadM E rfl Try.isAgg3 S.imm qp_5) rfl ?_
    clear E a; intro a E
    refine S_v E rfl (R_assign E rfl) rfl ?_
    clear E a; intro a E
    refine WL_nil ?_
    refine T_n ?_
    refine WP_seq ?_
    refine WP_region ?_
    refine S_v E rfl (R_loadGM E rfl (Try.isAgg24 _) (Try.sizeOf24 _) S.imm hbx2) rfl ?_
    clear E a; intro a E
    refine S_v E rfl (R_move E rfl) rfl ?_
    clear E a; intro a E
    refine S_x (X_pu E S rfl rfl rfl (laws_stands (by omega)) (Hp.le.refl _) ?_)
    clear E a S; rintro a _ w M_6 hM_6 rfl S E
    replace h0 := h0.le hM_6
    replace hbx1 := hM_6.2 _ _ hbx1
    replace hbx2 := hM_6.2 _ _ hbx2
    refine S_v E rfl (R_move E rfl) rfl ?_
    clear E a; intro a E
    refine S_v E rfl (R_eql E rfl rfl) rfl ?_
    clear E a; intro a E
    refine WL_nil ?_
    refine T_n ?_
    refine WP_cond E rfl (fun hc_7 => ?_) (fun hc_7 => ?_)
    · replace hc_7 := of_decide_eq_true hc_7
      refine WP_region ?_
      refine S_v E rfl (R_move E rfl) rfl ?_
      clear E a; intro a E
      refine S_v E rfl (R_move E rfl) rfl ?_
      clear E a; intro a E
      refine S_x (X_buildI (ys := [x_4]) E S rfl T22 rfl rfl rfl ?_)
      clear E a S; rintro a w v_8 E S
      replace S := S.front1
      replace S := S.front1
      refine S_x (X_appendB (xs := (l0.take k).filter (fun x => decide ((fun x => keyAt kk2 kn2 x 0) x = x0))) (ys := [x_4]) E S rfl rfl rfl T22 (by (first | omega | (simp only [List.length_cons, List.length_nil] at *; omega))) ?_)
      clear E a S; rintro a w v_9 E S
      refine S_v E rfl (R_assign E rfl) rfl ?_
      clear E a; intro a E
      refine WL_nil ?_
      refine B_n ?_
      refine T_n ?_
      refine WP_region ?_
      refine S_v E rfl (R_addx (m := ((k + 1 : Nat) : Int)) E rfl rfl (by omega) (by omega)) rfl ?_
      clear E a; intro a E
      refine S_v E rfl (R_move E rfl) rfl ?_
      clear E a; intro a E
      refine WL_nil ?_
      refine T_n ?_
      replace S := S.re1 (l' := (l0.take (k + 1)).filter (fun x => decide ((fun x => keyAt kk2 kn2 x 0) x = x0))) (by first | (simp; done) | exact pl_yes (f := (fun x => keyAt kk2 kn2 x 0)) (by assumption) (by assumption) | exact pl_no (f := (fun x => keyAt kk2 kn2 x 0)) (by assumption) (by assumption))
      exact ⟨k + 1, ⟨M_6, _, (hM_2.trans hM_6), S, E.keep ⟨rfl, rfl, rfl, rfl, rfl, rfl, trivial⟩, by ((try clear S); (try clear E); first | assumption | omega | rfl | (simp; done) | (simp_all; done) | (simp [List.take_add_one, *]; done) | grind [List.take_add_one])⟩, by omega⟩
    · replace hc_7 := of_decide_eq_false hc_7
      refine WP_skip ?_
      refine B_n ?_
      refine T_n ?_
      refine WP_region ?_
      refine S_v E rfl (R_addx (m := ((k + 1 : Nat) : Int)) E rfl rfl (by omega) (by omega)) rfl ?_
      clear E a; intro a E
      refine S_v E rfl (R_move E rfl) rfl ?_
      clear E a; intro a E
      refine WL_nil ?_
      refine T_n ?_
      replace S := S.re1 (l' := (l0.take (k + 1)).filter (fun x => decide ((fun x => keyAt kk2 kn2 x 0) x = x0))) (by first | (simp; done) | exact pl_yes (f := (fun x => keyAt kk2 kn2 x 0)) (by assumption) (by assumption) | exact pl_no (f := (fun x => keyAt kk2 kn2 x 0)) (by assumption) (by assumption))
      exact ⟨k + 1, ⟨M_6, _, (hM_2.trans hM_6), S, E.keep ⟨rfl, rfl, rfl, rfl, rfl, rfl, trivial⟩, by ((try clear S); (try clear E); first | assumption | omega | rfl | (simp; done) | (simp_all; done) | (simp [List.take_add_one, *]; done) | grind [List.take_add_one])⟩, by omega⟩
  · replace hc_3 := of_decide_eq_false hc_3
    refine WP_exit ?_
    refine T_x ?_
    refine T_x ?_
    refine B_x ?_
    refine T_n ?_
    refine WP_seq ?_
    refine WP_region ?_
    refine S_v E rfl (R_move E rfl) rfl ?_
    clear E a; intro a E
    refine S_v E rfl (R_assign E rfl) rfl ?_
    clear E a; intro a E
    refine WL_nil ?_
    refine T_n ?_
    refine WP_ret ?_
    have S0 := S; clear S
    obtain ⟨M_10, hM_10, hz_11, S⟩ := S0.freezeI (by (first | omega | exact Nat.le_trans (List.length_filter_le _ _) (Nat.le_trans (List.length_take_le ..) (by omega))))
    clear S0
    replace h0 := h0.le hM_10
    replace hbx1 := hM_10.2 _ _ hbx1
    replace hbx2 := hM_10.2 _ _ hbx2
    exact F_ret1 E Try.results30 rfl ⟨_, rfl, M_10, (hM_2.trans hM_10), (by rw [show ((l0).filter (fun x => decide (keyAt kk2 kn2 x 0 = x0))) = ((l0.take k).filter (fun x => decide ((fun x => keyAt kk2 kn2 x 0) x = x0))) from by (rw [List.take_of_length_le (by omega)])]; exact hz_11), S⟩

set_option maxRecDepth 100000 in
set_option maxHeartbeats 4000000 in
theorem spec_same {M : Hp}  :
    Pu Try.prog (.func (.func 74) #[] #[]) M [] (fun r M' => r = .agg #[.int .i64 5, .int .i64 0]) := by
  refine Pu_enter Try.func74 rfl Try.ntmps74 rfl Try.call74 ?_
  intro a w M1 H hM1 S E
  refine WP_seq ?_
  refine WP_region ?_
  refine S_x (X_alloc (cs := #[.int .i64 0, .int .i64 0]) E S rfl Try.zeroValue37 rfl ?_)
  clear E a S; rintro a w b_1 E S
  refine WL_nil ?_
  refine T_n ?_
  refine WP_seq ?_
  refine WP_region ?_
  refine S_v E rfl (R_build (u := .agg #[.int .i64 5, .int .i64 0]) (vs := [.int .i64 5]) E rfl (fun w => FB37_0_i 5 w)) rfl ?_
  clear E a; intro a E
  refine S_x0 (X_storeG (us := [.int .i64 5, .int .i64 0]) E S rfl rfl (Try.sizeOf37 _) rfl (by intro u hu; simp only [List.mem_cons, List.not_mem_nil, or_false] at hu; rcases hu with rfl | rfl <;> first | exact rfl | exact rfl) ?_)
  clear E a S; rintro a w E S
  replace S : St w M1 (blk b_1 (.cells #[.int .i64 5, .int .i64 0] 37) :: _) := S
  refine WL_nil ?_
  refine T_n ?_
  refine WP_ret ?_
  replace S : St w M1 (mks [] :: _) := S.empty
  replace E : Env a 2 (([] : List Nat).map mk) _ := E
  replace S := S.front1
  replace S := S.front1
  exact F_retCG1 (cs := [.int .i64 5, .int .i64 0]) E S Try.results74 rfl (fun w => Try.isAgg37 w) (fun w => Try.sizeOf37 w) (fun w S => ⟨_, rfl, M1, (Hp.le.refl _), rfl, S.drop⟩)

set_option maxRecDepth 100000 in
set_option maxHeartbeats 4000000 in
theorem spec_mod {M : Hp} {x0 x1 : Int} (hn : x1 ≠ 0) (g0 : -9223372036854775808 ≤ x0 ∧ x0 ≤ 9223372036854775807) (g1 : -9223372036854775808 ≤ x1 ∧ x1 ≤ 9223372036854775807) :
    Pu Try.prog (.func (.func 99) #[] #[]) M [.int .i64 x0, .int .i64 x1] (fun r M' => r = .int .i64 (x0 % x1)) := by
  refine Pu_enter Try.func99 rfl Try.ntmps99 rfl Try.call99 ?_
  intro a w M1 H hM1 S E
  refine WP_seq ?_
  refine WP_region ?_
  refine S_v E rfl (R_assign E rfl) rfl ?_
  clear E a; intro a E
  refine WL_nil ?_
  refine T_n ?_
  refine WP_seq ?_
  refine WP_region ?_
  refine S_v E rfl (R_move E rfl) rfl ?_
  clear E a; intro a E
  refine S_v E rfl (R_convm (m := x1 % 18446744073709551616) E rfl Try.underlying3 Try.underlying123 (by first | (rw [u64_wrap]; omega) | (rw [u64_wrap]; simp; omega) | rw [u64_wrap])) rfl ?_
  clear E a; intro a E
  refine S_v E rfl (R_assign E rfl) rfl ?_
  clear E a; intro a E
  refine WL_nil ?_
  refine T_n ?_
  refine WP_seq ?_
  refine WP_seq ?_
  refine WP_region ?_
  refine S_v E rfl (R_move E rfl) rfl ?_
  clear E a; intro a E
  refine S_v E rfl (R_lss E rfl rfl) rfl ?_
  clear E a; intro a E
  refine WL_nil ?_
  refine T_n ?_
  refine WP_cond E rfl (fun hc_1 => ?_) (fun hc_1 => ?_)
  · replace hc_1 := of_decide_eq_true hc_1
    refine WP_region ?_
    refine S_v E rfl (R_move E rfl) rfl ?_
    clear E a; intro a E
    refine S_v E rfl (R_negm (m := -x1) E rfl (by first | (rw [u64_wrap]; omega) | rw [u64_wrap])) rfl ?_
    clear E a; intro a E
    refine S_v E rfl (R_assign E rfl) rfl ?_
    clear E a; intro a E
    refine WL_nil ?_
    refine T_n ?_
    refine WP_seq ?_
    refine WP_seq ?_
    refine WP_region ?_
    refine S_v E rfl (R_move E rfl) rfl ?_
    clear E a; intro a E
    refine S_v E rfl (R_geq E rfl rfl) rfl ?_
    clear E a; intro a E
    refine WL_nil ?_
    refine T_n ?_
    refine WP_cond E rfl (fun hc_2 => ?_) (fun hc_2 => ?_)
    · replace hc_2 := of_decide_eq_true hc_2
      refine WP_seq ?_
      refine WP_region ?_
      refine S_v E rfl (R_move E rfl) rfl ?_
      clear E a; intro a E
      refine S_v E rfl (R_convm (m := x0) E rfl Try.underlying3 Try.underlying123 (by first | (rw [u64_wrap]; omega) | (rw [u64_wrap]; simp; omega) | rw [u64_wrap])) rfl ?_
      clear E a; intro a E
      refine S_v E rfl (R_move E rfl) rfl ?_
      clear E a; intro a E
      have hr_3 := tmod_nn (p := x0) (q := -x1) (by omega) (by omega)
      refine S_v E rfl (R_rem E rfl rfl (by first | decide | omega)) rfl ?_
      clear E a; intro a E
      refine S_v E rfl (R_convx E rfl Try.underlying123 Try.underlying3 (by omega)) rfl ?_
      clear E a; intro a E
      refine S_v E rfl (R_assign E rfl) rfl ?_
      clear E a; intro a E
      refine WL_nil ?_
      refine T_n ?_
      refine WP_ret ?_
      refine T_r ?_
      exact F_ret1 E Try.results99 rfl ⟨_, rfl, M1, (Hp.le.refl _), (congrArg (Value.int .i64) (by (clear E S; first | (have en : x1 < 0 := (by omega); have e3 : x0 % (-x1) = x0 % x1 := Int.emod_neg ..; have a1 := modA x0 (-x1) (by omega); omega) | (have e : x1 % 18446744073709551616 = x1 := (by omega); simp only [e] at *; have a1 := modA x0 x1 (by omega); omega)))), S⟩
    · replace hc_2 := of_decide_eq_false hc_2
      refine WP_skip ?_
      refine T_n ?_
      refine WP_seq ?_
      refine WP_region ?_
      refine S_v E rfl (R_move E rfl) rfl ?_
      clear E a; intro a E
      refine S_v E rfl (R_convm (m := x0 % 18446744073709551616) E rfl Try.underlying3 Try.underlying123 (by first | (rw [u64_wrap]; omega) | (rw [u64_wrap]; simp; omega) | rw [u64_wrap])) rfl ?_
      clear E a; intro a E
      refine S_v E rfl (R_negm (m := -x0) E rfl (by first | (rw [u64_wrap]; omega) | rw [u64_wrap])) rfl ?_
      clear E a; intro a E
      refine S_v E rfl (R_move E rfl) rfl ?_
      clear E a; intro a E
      have hr_4 := tmod_nn (p := -x0) (q := -x1) (by omega) (by omega)
      refine S_v E rfl (R_rem E rfl rfl (by first | decide | omega)) rfl ?_
      clear E a; intro a E
      refine S_v E rfl (R_assign E rfl) rfl ?_
      clear E a; intro a E
      refine WL_nil ?_
      refine T_n ?_
      refine WP_seq ?_
      refine WP_seq ?_
      refine WP_region ?_
      refine S_v E rfl (R_move E rfl) rfl ?_
      clear E a; intro a E
      refine S_v E rfl (R_gtr E rfl rfl) rfl ?_
      clear E a; intro a E
      refine WL_nil ?_
      refine T_n ?_
      refine WP_cond E rfl (fun hc_5 => ?_) (fun hc_5 => ?_)
      · replace hc_5 := of_decide_eq_true hc_5
        refine WP_region ?_
        refine S_v E rfl (R_move E rfl) rfl ?_
        clear E a; intro a E
        refine S_v E rfl (R_move E rfl) rfl ?_
        clear E a; intro a E
        refine S_v E rfl (R_subm (m := (-x1) - (Int.tmod (-x0) (-x1))) E rfl rfl (by first | (rw [u64_wrap]; omega) | rw [u64_wrap])) rfl ?_
        clear E a; intro a E
        refine S_v E rfl (R_assign E rfl) rfl ?_
        clear E a; intro a E
        refine WL_nil ?_
        refine T_n ?_
        refine WP_seq ?_
        refine WP_region ?_
        refine S_v E rfl (R_move E rfl) rfl ?_
        clear E a; intro a E
        refine S_v E rfl (R_convx E rfl Try.underlying123 Try.underlying3 (by omega)) rfl ?_
        clear E a; intro a E
        refine S_v E rfl (R_assign E rfl) rfl ?_
        clear E a; intro a E
        refine WL_nil ?_
        refine T_n ?_
        refine WP_ret ?_
        exact F_ret1 E Try.results99 rfl ⟨_, rfl, M1, (Hp.le.refl _), (congrArg (Value.int .i64) (by (clear E S; first | (have en : x1 < 0 := (by omega); have e3 : x0 % (-x1) = x0 % x1 := Int.emod_neg ..; have a1 := modA x0 (-x1) (by omega); omega) | (have e : x1 % 18446744073709551616 = x1 := (by omega); simp only [e] at *; have a1 := modA x0 x1 (by omega); omega)))), S⟩
      · replace hc_5 := of_decide_eq_false hc_5
        refine WP_skip ?_
        refine T_n ?_
        refine WP_seq ?_
        refine WP_region ?_
        refine S_v E rfl (R_move E rfl) rfl ?_
        clear E a; intro a E
        refine S_v E rfl (R_convx E rfl Try.underlying123 Try.underlying3 (by omega)) rfl ?_
        clear E a; intro a E
        refine S_v E rfl (R_assign E rfl) rfl ?_
        clear E a; intro a E
        refine WL_nil ?_
        refine T_n ?_
        refine WP_ret ?_
        exact F_ret1 E Try.results99 rfl ⟨_, rfl, M1, (Hp.le.refl _), (congrArg (Value.int .i64) (by (clear E S; first | (have en : x1 < 0 := (by omega); have e3 : x0 % (-x1) = x0 % x1 := Int.emod_neg ..; have a1 := modA x0 (-x1) (by omega); omega) | (have e : x1 % 18446744073709551616 = x1 := (by omega); simp only [e] at *; have a1 := modA x0 x1 (by omega); omega)))), S⟩
  · replace hc_1 := of_decide_eq_false hc_1
    refine WP_skip ?_
    refine T_n ?_
    refine WP_seq ?_
    refine WP_seq ?_
    refine WP_region ?_
    refine S_v E rfl (R_move E rfl) rfl ?_
    clear E a; intro a E
    refine S_v E rfl (R_geq E rfl rfl) rfl ?_
    clear E a; intro a E
    refine WL_nil ?_
    refine T_n ?_
    refine WP_cond E rfl (fun hc_6 => ?_) (fun hc_6 => ?_)
    · replace hc_6 := of_decide_eq_true hc_6
      refine WP_seq ?_
      refine WP_region ?_
      refine S_v E rfl (R_move E rfl) rfl ?_
      clear E a; intro a E
      refine S_v E rfl (R_convm (m := x0) E rfl Try.underlying3 Try.underlying123 (by first | (rw [u64_wrap]; omega) | (rw [u64_wrap]; simp; omega) | rw [u64_wrap])) rfl ?_
      clear E a; intro a E
      refine S_v E rfl (R_move E rfl) rfl ?_
      clear E a; intro a E
      have hr_7 := tmod_nn (p := x0) (q := x1 % 18446744073709551616) (by omega) (by omega)
      refine S_v E rfl (R_rem E rfl rfl (by first | decide | omega)) rfl ?_
      clear E a; intro a E
      refine S_v E rfl (R_convx E rfl Try.underlying123 Try.underlying3 (by omega)) rfl ?_
      clear E a; intro a E
      refine S_v E rfl (R_assign E rfl) rfl ?_
      clear E a; intro a E
      refine WL_nil ?_
      refine T_n ?_
      refine WP_ret ?_
      refine T_r ?_
      exact F_ret1 E Try.results99 rfl ⟨_, rfl, M1, (Hp.le.refl _), (congrArg (Value.int .i64) (by (clear E S; first | (have en : x1 < 0 := (by omega); have e3 : x0 % (-x1) = x0 % x1 := Int.emod_neg ..; have a1 := modA x0 (-x1) (by omega); omega) | (have e : x1 % 18446744073709551616 = x1 := (by omega); simp only [e] at *; have a1 := modA x0 x1 (by omega); omega)))), S⟩
    · replace hc_6 := of_decide_eq_false hc_6
      refine WP_skip ?_
      refine T_n ?_
      refine WP_seq ?_
      refine WP_region ?_
      refine S_v E rfl (R_move E rfl) rfl ?_
      clear E a; intro a E
      refine S_v E rfl (R_convm (m := x0 % 18446744073709551616) E rfl Try.underlying3 Try.underlying123 (by first | (rw [u64_wrap]; omega) | (rw [u64_wrap]; simp; omega) | rw [u64_wrap])) rfl ?_
      clear E a; intro a E
      refine S_v E rfl (R_negm (m := -x0) E rfl (by first | (rw [u64_wrap]; omega) | rw [u64_wrap])) rfl ?_
      clear E a; intro a E
      refine S_v E rfl (R_move E rfl) rfl ?_
      clear E a; intro a E
      have hr_8 := tmod_nn (p := -x0) (q := x1 % 18446744073709551616) (by omega) (by omega)
      refine S_v E rfl (R_rem E rfl rfl (by first | decide | omega)) rfl ?_
      clear E a; intro a E
      refine S_v E rfl (R_assign E rfl) rfl ?_
      clear E a; intro a E
      refine WL_nil ?_
      refine T_n ?_
      refine WP_seq ?_
      refine WP_seq ?_
      refine WP_region ?_
      refine S_v E rfl (R_move E rfl) rfl ?_
      clear E a; intro a E
      refine S_v E rfl (R_gtr E rfl rfl) rfl ?_
      clear E a; intro a E
      refine WL_nil ?_
      refine T_n ?_
      refine WP_cond E rfl (fun hc_9 => ?_) (fun hc_9 => ?_)
      · replace hc_9 := of_decide_eq_true hc_9
        refine WP_region ?_
        refine S_v E rfl (R_move E rfl) rfl ?_
        clear E a; intro a E
        refine S_v E rfl (R_move E rfl) rfl ?_
        clear E a; intro a E
        refine S_v E rfl (R_subm (m := (x1 % 18446744073709551616) - (Int.tmod (-x0) (x1 % 18446744073709551616))) E rfl rfl (by first | (rw [u64_wrap]; omega) | rw [u64_wrap])) rfl ?_
        clear E a; intro a E
        refine S_v E rfl (R_assign E rfl) rfl ?_
        clear E a; intro a E
        refine WL_nil ?_
        refine T_n ?_
        refine WP_seq ?_
        refine WP_region ?_
        refine S_v E rfl (R_move E rfl) rfl ?_
        clear E a; intro a E
        refine S_v E rfl (R_convx E rfl Try.underlying123 Try.underlying3 (by omega)) rfl ?_
        clear E a; intro a E
        refine S_v E rfl (R_assign E rfl) rfl ?_
        clear E a; intro a E
        refine WL_nil ?_
        refine T_n ?_
        refine WP_ret ?_
        exact F_ret1 E Try.results99 rfl ⟨_, rfl, M1, (Hp.le.refl _), (congrArg (Value.int .i64) (by (clear E S; first | (have en : x1 < 0 := (by omega); have e3 : x0 % (-x1) = x0 % x1 := Int.emod_neg ..; have a1 := modA x0 (-x1) (by omega); omega) | (have e : x1 % 18446744073709551616 = x1 := (by omega); simp only [e] at *; have a1 := modA x0 x1 (by omega); omega)))), S⟩
      · replace hc_9 := of_decide_eq_false hc_9
        refine WP_skip ?_
        refine T_n ?_
        refine WP_seq ?_
        refine WP_region ?_
        refine S_v E rfl (R_move E rfl) rfl ?_
        clear E a; intro a E
        refine S_v E rfl (R_convx E rfl Try.underlying123 Try.underlying3 (by omega)) rfl ?_
        clear E a; intro a E
        refine S_v E rfl (R_assign E rfl) rfl ?_
        clear E a; intro a E
        refine WL_nil ?_
        refine T_n ?_
        refine WP_ret ?_
        exact F_ret1 E Try.results99 rfl ⟨_, rfl, M1, (Hp.le.refl _), (congrArg (Value.int .i64) (by (clear E S; first | (have en : x1 < 0 := (by omega); have e3 : x0 % (-x1) = x0 % x1 := Int.emod_neg ..; have a1 := modA x0 (-x1) (by omega); omega) | (have e : x1 % 18446744073709551616 = x1 := (by omega); simp only [e] at *; have a1 := modA x0 x1 (by omega); omega)))), S⟩

set_option maxRecDepth 100000 in
set_option maxHeartbeats 4000000 in
theorem SKey_Of_c {M : Hp} {kk0 kn0 : Int} (gk0 : -9223372036854775808 ≤ kn0 ∧ kn0 ≤ 9223372036854775807){x1 x2 : Int} (gx : -9223372036854775808 ≤ x1 ∧ x1 ≤ 9223372036854775807) :
    PuC Try.prog 70 M [.agg #[.int .i64 kk0, .int .i64 kn0], .int .i64 x1, .int .i64 x2] (fun r M' => r = .int .i64 (keyAt kk0 kn0 x1 x2)) := by
  refine PuC_enter Try.func70 rfl Try.ntmps70 rfl ?_
  intro a w M1 H hM1 S E
  refine WP_seq ?_
  refine WP_region ?_
  refine S_x (X_box (cs := #[.int .i64 kk0, .int .i64 kn0]) E S rfl rfl rfl ?_)
  clear E a S; rintro a w b_1 E S
  obtain ⟨M_2, hM_2, hb_1, S⟩ := S.freezeB
  refine S_v E rfl (R_assign E rfl) rfl ?_
  clear E a; intro a E
  refine WL_nil ?_
  refine T_n ?_
  refine WP_seq ?_
  refine WP_seq ?_
  refine WP_region ?_
  refine S_v E rfl (R_fieldAddr E rfl (FA37_0 _)) rfl ?_
  clear E a; intro a E
  refine S_v E rfl (R_loadM E rfl Try.isAgg3 S.imm (cellM_boxo hb_1 rfl)) rfl ?_
  clear E a; intro a E
  refine WL_nil ?_
  refine T_n ?_
  refine WP_block ?_
  refine WP_seq ?_
  refine WP_region ?_
  refine S_v E rfl (R_eql E rfl rfl) rfl ?_
  clear E a; intro a E
  refine S_v E rfl (R_assign E rfl) rfl ?_
  clear E a; intro a E
  refine WL_nil ?_
  refine T_n ?_
  refine WP_cond E rfl (fun hc_3 => ?_) (fun hc_3 => ?_)
  · replace hc_3 := of_decide_eq_true hc_3
    refine WP_seq ?_
    refine WP_region ?_
    refine S_v E rfl (R_move E rfl) rfl ?_
    clear E a; intro a E
    refine S_v E rfl (R_fieldAddr E rfl (FA37_1 _)) rfl ?_
    clear E a; intro a E
    refine S_v E rfl (R_loadM E rfl Try.isAgg3 S.imm (cellM_boxo hb_1 rfl)) rfl ?_
    clear E a; intro a E
    refine S_v E rfl (R_add E rfl rfl) rfl ?_
    clear E a; intro a E
    refine S_v E rfl (R_assign E rfl) rfl ?_
    clear E a; intro a E
    refine WL_nil ?_
    refine T_n ?_
    refine WP_ret ?_
    refine B_r ?_
    refine T_r ?_
    exact F_ret1 E Try.results70 rfl ⟨_, rfl, M_2, hM_2, (congrArg (Value.int .i64) (by (clear E S; unfold keyAt w64; first | (simp [*]; done) | (simp_all; done)))), S⟩
  · replace hc_3 := of_decide_eq_false hc_3
    refine WP_seq ?_
    refine WP_region ?_
    refine S_v E rfl (R_eql E rfl rfl) rfl ?_
    clear E a; intro a E
    refine S_v E rfl (R_assign E rfl) rfl ?_
    clear E a; intro a E
    refine WL_nil ?_
    refine T_n ?_
    refine WP_cond E rfl (fun hc_4 => ?_) (fun hc_4 => ?_)
    · replace hc_4 := of_decide_eq_true hc_4
      refine WP_seq ?_
      refine WP_region ?_
      refine S_v E rfl (R_move E rfl) rfl ?_
      clear E a; intro a E
      refine S_v E rfl (R_fieldAddr E rfl (FA37_1 _)) rfl ?_
      clear E a; intro a E
      refine S_v E rfl (R_loadM E rfl Try.isAgg3 S.imm (cellM_boxo hb_1 rfl)) rfl ?_
      clear E a; intro a E
      refine S_v E rfl (R_mul E rfl rfl) rfl ?_
      clear E a; intro a E
      refine S_v E rfl (R_assign E rfl) rfl ?_
      clear E a; intro a E
      refine WL_nil ?_
      refine T_n ?_
      refine WP_ret ?_
      refine B_r ?_
      refine T_r ?_
      exact F_ret1 E Try.results70 rfl ⟨_, rfl, M_2, hM_2, (congrArg (Value.int .i64) (by (clear E S; unfold keyAt w64; first | (simp [*]; done) | (simp_all; done)))), S⟩
    · replace hc_4 := of_decide_eq_false hc_4
      refine WP_seq ?_
      refine WP_region ?_
      refine S_v E rfl (R_eql E rfl rfl) rfl ?_
      clear E a; intro a E
      refine S_v E rfl (R_assign E rfl) rfl ?_
      clear E a; intro a E
      refine WL_nil ?_
      refine T_n ?_
      refine WP_cond E rfl (fun hc_5 => ?_) (fun hc_5 => ?_)
      · replace hc_5 := of_decide_eq_true hc_5
        refine WP_seq ?_
        refine WP_region ?_
        refine S_v E rfl (R_fieldAddr E rfl (FA37_1 _)) rfl ?_
        clear E a; intro a E
        refine S_v E rfl (R_loadM E rfl Try.isAgg3 S.imm (cellM_boxo hb_1 rfl)) rfl ?_
        clear E a; intro a E
        refine S_v E rfl (R_neq E rfl rfl) rfl ?_
        clear E a; intro a E
        refine WL_nil ?_
        refine T_n ?_
        refine WP_cond E rfl (fun hc_6 => ?_) (fun hc_6 => ?_)
        · replace hc_6 := of_decide_eq_true hc_6
          refine WP_seq ?_
          refine WP_region ?_
          refine S_v E rfl (R_move E rfl) rfl ?_
          clear E a; intro a E
          refine S_v E rfl (R_fieldAddr E rfl (FA37_1 _)) rfl ?_
          clear E a; intro a E
          refine S_v E rfl (R_loadM E rfl Try.isAgg3 S.imm (cellM_boxo hb_1 rfl)) rfl ?_
          clear E a; intro a E
          refine S_x (X_pu E S rfl rfl rfl (spec_mod (by first | omega | assumption) (by omega) (by omega)) (Hp.le.refl _) ?_)
          clear E a S; rintro a _ w M_7 hM_7 rfl S E
          replace hb_1 := hM_7.2 _ _ hb_1
          refine S_v E rfl (R_assign E rfl) rfl ?_
          clear E a; intro a E
          refine WL_nil ?_
          refine T_n ?_
          refine WP_ret ?_
          refine B_r ?_
          refine T_r ?_
          exact F_ret1 E Try.results70 rfl ⟨_, rfl, M_7, (hM_2.trans hM_7), (congrArg (Value.int .i64) (by (clear E S; unfold keyAt w64; first | (simp [*]; done) | (simp_all; done)))), S⟩
        · replace hc_6 := of_decide_eq_false hc_6
          refine WP_skip ?_
          refine B_n ?_
          refine T_n ?_
          refine WP_seq ?_
          refine WP_region ?_
          refine S_v E rfl (R_move E rfl) rfl ?_
          clear E a; intro a E
          refine S_v E rfl (R_assign E rfl) rfl ?_
          clear E a; intro a E
          refine WL_nil ?_
          refine T_n ?_
          refine WP_ret ?_
          exact F_ret1 E Try.results70 rfl ⟨_, rfl, M_2, hM_2, (congrArg (Value.int .i64) (by (clear E S; unfold keyAt w64; first | (simp [*]; done) | (simp_all; done)))), S⟩
      · replace hc_5 := of_decide_eq_false hc_5
        refine WP_seq ?_
        refine WP_region ?_
        refine S_v E rfl (R_eql E rfl rfl) rfl ?_
        clear E a; intro a E
        refine S_v E rfl (R_assign E rfl) rfl ?_
        clear E a; intro a E
        refine WL_nil ?_
        refine T_n ?_
        refine WP_cond E rfl (fun hc_8 => ?_) (fun hc_8 => ?_)
        · replace hc_8 := of_decide_eq_true hc_8
          refine WP_seq ?_
          refine WP_region ?_
          refine S_v E rfl (R_fieldAddr E rfl (FA37_1 _)) rfl ?_
          clear E a; intro a E
          refine S_v E rfl (R_loadM E rfl Try.isAgg3 S.imm (cellM_boxo hb_1 rfl)) rfl ?_
          clear E a; intro a E
          refine S_v E rfl (R_assign E rfl) rfl ?_
          clear E a; intro a E
          refine WL_nil ?_
          refine T_n ?_
          refine WP_ret ?_
          refine B_r ?_
          refine T_r ?_
          exact F_ret1 E Try.results70 rfl ⟨_, rfl, M_2, hM_2, (congrArg (Value.int .i64) (by (clear E S; unfold keyAt w64; first | (simp [*]; done) | (simp_all; done)))), S⟩
        · replace hc_8 := of_decide_eq_false hc_8
          refine WP_seq ?_
          refine WP_region ?_
          refine S_v E rfl (R_eql E rfl rfl) rfl ?_
          clear E a; intro a E
          refine S_v E rfl (R_assign E rfl) rfl ?_
          clear E a; intro a E
          refine WL_nil ?_
          refine T_n ?_
          refine WP_cond E rfl (fun hc_9 => ?_) (fun hc_9 => ?_)
          · replace hc_9 := of_decide_eq_true hc_9
            refine WP_seq ?_
            refine WP_region ?_
            refine S_v E rfl (R_move E rfl) rfl ?_
            clear E a; intro a E
            refine S_v E rfl (R_assign E rfl) rfl ?_
            clear E a; intro a E
            refine WL_nil ?_
            refine T_n ?_
            refine WP_ret ?_
            refine B_r ?_
            refine T_r ?_
            exact F_ret1 E Try.results70 rfl ⟨_, rfl, M_2, hM_2, (congrArg (Value.int .i64) (by (clear E S; unfold keyAt w64; first | (simp [*]; done) | (simp_all; done)))), S⟩
          · replace hc_9 := of_decide_eq_false hc_9
            refine WP_skip ?_
            refine B_n ?_
            refine T_n ?_
            refine WP_seq ?_
            refine WP_region ?_
            refine S_v E rfl (R_move E rfl) rfl ?_
            clear E a; intro a E
            refine S_v E rfl (R_assign E rfl) rfl ?_
            clear E a; intro a E
            refine WL_nil ?_
            refine T_n ?_
            refine WP_ret ?_
            exact F_ret1 E Try.results70 rfl ⟨_, rfl, M_2, hM_2, (congrArg (Value.int .i64) (by (clear E S; unfold keyAt w64; first | (simp [*]; done) | (simp_all; done)))), S⟩
theorem SKey_Of {M : Hp} {kk0 kn0 : Int} (gk0 : -9223372036854775808 ≤ kn0 ∧ kn0 ≤ 9223372036854775807){x1 x2 : Int} (gx : -9223372036854775808 ≤ x1 ∧ x1 ≤ 9223372036854775807) :
    Pu Try.prog (.func (.func 70) #[.agg #[.int .i64 kk0, .int .i64 kn0]] #[]) M [.int .i64 x1, .int .i64 x2] (fun r M' => r = .int .i64 (keyAt kk0 kn0 x1 x2)) := PuC.pu Try.call70 rfl (SKey_Of_c gk0 gx)
theorem SKey_Of_d {M : Hp} {kk0 kn0 : Int} (gk0 : -9223372036854775808 ≤ kn0 ∧ kn0 ≤ 9223372036854775807){x1 x2 : Int} (gx : -9223372036854775808 ≤ x1 ∧ x1 ≤ 9223372036854775807) :
    Pu Try.prog (.func (.func 70) #[] #[]) M [.agg #[.int .i64 kk0, .int .i64 kn0], .int .i64 x1, .int .i64 x2] (fun r M' => r = .int .i64 (keyAt kk0 kn0 x1 x2)) := PuC.pu Try.call70 rfl (SKey_Of_c gk0 gx)

set_option maxRecDepth 100000 in
set_option maxHeartbeats 4000000 in
theorem spec_keys {M : Hp} {v0 : Value} {l0 : List Int} (h0 : RdI M v0 l0){kk1 kn1 : Int} (gk1 : -9223372036854775808 ≤ kn1 ∧ kn1 ≤ 9223372036854775807) (hr0 : (∀ x ∈ l0, -9223372036854775808 ≤ x ∧ x ≤ 9223372036854775807)) (hb : l0.length ≤ 1000000000000) :
    Pu Try.prog (.func (.func 56) #[] #[]) M [v0, .agg #[.int .i64 kk1, .int .i64 kn1]] (fun r M' => RdI M' r ((l0).map (fun x => keyAt kk1 kn1 x 0))) := by
  refine Pu_enter Try.func56 rfl Try.ntmps56 rfl Try.call56 ?_
  intro a w M1 H hM1 S E
  replace h0 := h0.le hM1
  have b0 := h0.bound
  refine WP_seq ?_
  refine WP_region ?_
  refine S_x (X_box (cs := #[.int .i64 kk1, .int .i64 kn1]) E S rfl rfl rfl ?_)
  clear E a S; rintro a w b_1 E S
  obtain ⟨M_2, hM_2, hb_1, S⟩ := S.freezeB
  replace h0 := h0.le hM_2
  refine S_v E rfl (R_assign E rfl) rfl ?_
  clear E a; intro a E
  refine WL_nil ?_
  refine T_n ?_
  refine WP_seq ?_
  refine WP_region ?_
  refine S_v E rfl (R_assign E rfl) rfl ?_
  clear E a; intro a E
  refine WL_nil ?_
  refine T_n ?_
  refine WP_seq ?_
  refine WP_seq ?_
  refine WP_region ?_
  refine S_v E rfl (R_move E rfl) rfl ?_
  clear E a; intro a E
  refine S_v E rfl (R_lenV E rfl T22 h0.len) rfl ?_
  clear E a; intro a E
  refine S_v E rfl (R_move E rfl) rfl ?_
  clear E a; intro a E
  refine WL_nil ?_
  refine T_n ?_
  refine WP_block ?_
  replace S := (S.ownNil (e := 3) (sz := 1)).made0
  replace S := S.re1 (l' := (l0.take 0).map (fun x => keyAt kk1 kn1 x 0)) (by first | (simp; done) | (rw [map_take_s (fun x => keyAt kk1 kn1 x 0) (by assumption)]; done))
  refine WP_loop (γ := Nat) (fun (k : Nat) a w => ∃ (M_4 : Hp) (u5 : Value), Hp.le M_2 M_4 ∧ St w M_4 (OwnI 3 u5 ((l0.take k).map (fun x => keyAt kk1 kn1 x 0)) :: H) ∧ Env a 22 [] [(3, .pointer (some ⟨b_1, 0, none⟩)), (5, u5), (8, v0), (9, .int .i64 (((l0).length : Nat) : Int)), (10, .int .i64 ((k : Nat) : Int))] ∧ (k ≤ (l0).length)) (fun k => ((l0).length) - k) 0 ⟨M_2, _, Hp.le.refl _, S, E.keep ⟨rfl, rfl, rfl, rfl, rfl, trivial⟩, by ((try clear S); (try clear E); first | assumption | omega | rfl | (simp; done) | (simp_all; done) | (simp [List.take_add_one, *]; done) | grind [List.take_add_one])⟩ ?_
  try clear E
  try clear S
  try clear a
  try clear w
  rintro k a w ⟨M_4, u5, hM_4, S, E, hL0_0⟩
  replace h0 := h0.le hM_4
  replace hb_1 := hM_4.2 _ _ hb_1
  refine WP_seq ?_
  refine WP_region ?_
  refine S_v E rfl (R_lss E rfl rfl) rfl ?_
  clear E a; intro a E
  refine WL_nil ?_
  refine T_n ?_
  refine WP_seq ?_
  refine WP_cond E rfl (fun hc_5 => ?_) (fun hc_5 => ?_)
  · replace hc_5 := of_decide_eq_true hc_5
    refine WP_skip ?_
    refine T_n ?_
    refine WP_seq ?_
    refine WP_block ?_
    refine WP_seq ?_
    refine WP_region ?_
    obtain ⟨x_6, hx_6⟩ : ∃ x, (l0)[k]? = some x := ⟨_, List.getElem?_eq_getElem (by first | omega | (simp; done) | (simp; omega) | (simp_all; omega))⟩
    obtain ⟨p_7, hp_7, qp_7⟩ := h0.at hx_6
    refine S_v E rfl (R_idx E rfl rfl T22 hp_7 rfl) rfl ?_
    clear E a; intro a E
    refine S_v E rfl (R_loadM E rfl Try.isAgg3 S.imm qp_7) rfl ?_
    clear E a; intro a E
    refine S_v E rfl (R_assign E rfl) rfl ?_
    clear E a; intro a E
    refine WL_nil ?_
    refine T_n ?_
    refine WP_region ?_
    refine S_v E rfl (R_move E rfl) rfl ?_
    clear E a; intro a E
    refine S_v E rfl (R_loadGM E rfl (Try.isAgg37 _) (Try.sizeOf37 _) S.imm hb_1) rfl ?_
    clear E a; intro a E
    refine S_v E rfl (R_move E rfl) rfl ?_
    clear E a; intro a E
    refine S_x (X_pu E S rfl rfl rfl (SKey_Of_d (by omega) (by first | omega | assumption | exact hr0 _ (List.mem_of_getElem? (by assumption)) | exact zi2_rng hr0 (by assumption) | exact (ent_rng hr0 _ (List.mem_of_getElem? (by assumption))).1 | exact (ent_rng hr0 _ (List.mem_of_getElem? (by assumption))).2)) (Hp.le.refl _) ?_)
    clear E a S; rintro a _ w M_8 hM_8 rfl S E
    replace h0 := h0.le hM_8
    replace hb_1 := hM_8.2 _ _ hb_1
    refine S_x (X_buildI (ys := [keyAt kk1 kn1 x_6 0]) E S rfl T22 rfl rfl rfl ?_)
    clear E a S; rintro a w v_9 E S
    replace S := S.front1
    replace S := S.front1
    refine S_x (X_appendB (xs := (l0.take k).map (fun x => keyAt kk1 kn1 x 0)) (ys := [keyAt kk1 kn1 x_6 0]) E S rfl rfl rfl T22 (by first | omega | (simp; done) | (simp; omega) | (simp_all; omega)) ?_)
    clear E a S; rintro a w v_10 E S
    refine S_v E rfl (R_assign E rfl) rfl ?_
    clear E a; intro a E
    refine WL_nil ?_
    refine B_n ?_
    refine T_n ?_
    refine WP_region ?_
    refine S_v E rfl (R_addx (m := ((k + 1 : Nat) : Int)) E rfl rfl (by omega) (by omega)) rfl ?_
    clear E a; intro a E
    refine S_v E rfl (R_move E rfl) rfl ?_
    clear E a; intro a E
    refine WL_nil ?_
    refine T_n ?_
    replace S := S.re1 (l' := (l0.take (k + 1)).map (fun x => keyAt kk1 kn1 x 0)) (by first | (simp; done) | (rw [map_take_s (fun x => keyAt kk1 kn1 x 0) (by assumption)]; done))
    exact ⟨k + 1, ⟨M_8, _, (hM_4.trans hM_8), S, E.keep ⟨rfl, rfl, rfl, rfl, rfl, trivial⟩, by ((try clear S); (try clear E); first | assumption | omega | rfl | (simp; done) | (simp_all; done) | (simp [List.take_add_one, *]; done) | grind [List.take_add_one])⟩, by omega⟩
  · replace hc_5 := of_decide_eq_false hc_5
    refine WP_exit ?_
    refine T_x ?_
    refine T_x ?_
    refine B_x ?_
    refine T_n ?_
    refine WP_seq ?_
    refine WP_region ?_
    refine S_v E rfl (R_move E rfl) rfl ?_
    clear E a; intro a E
    refine S_v E rfl (R_assign E rfl) rfl ?_
    clear E a; intro a E
    refine WL_nil ?_
    refine T_n ?_
    refine WP_ret ?_
    have S0 := S; clear S
    obtain ⟨M_11, hM_11, hz_12, S⟩ := S0.freezeI (by (first | omega | (simp; omega) | (simp; done) | (simp_all; omega) | grind))
    clear S0
    replace h0 := h0.le hM_11
    replace hb_1 := hM_11.2 _ _ hb_1
    exact F_ret1 E Try.results56 rfl ⟨_, rfl, M_11, (hM_2.trans (hM_4.trans hM_11)), (by rw [show ((l0).map (fun x => keyAt kk1 kn1 x 0)) = ((l0.take k).map (fun x => keyAt kk1 kn1 x 0)) from by (rw [List.take_of_length_le (by omega)])]; exact hz_12), S⟩

set_option maxRecDepth 100000 in
set_option maxHeartbeats 4000000 in
theorem spec_IndexOf {M : Hp} {v0 : Value} {l0 : List Int} (h0 : RdI M v0 l0){x1 : Int} :
    Pu Try.prog (.func (.func 60) #[] #[]) M [v0, .int .i64 x1] (fun r M' => r = .int .i64 (fiI (eqx x1) l0)) := by
  refine Pu_enter Try.func60 rfl Try.ntmps60 rfl Try.call60 ?_
  intro a w M1 H hM1 S E
  replace h0 := h0.le hM1
  have b0 := h0.bound
  refine WP_seq ?_
  refine WP_region ?_
  refine S_v E rfl (R_assign E rfl) rfl ?_
  clear E a; intro a E
  refine WL_nil ?_
  refine T_n ?_
  refine WP_seq ?_
  refine WP_seq ?_
  refine WP_region ?_
  refine S_v E rfl (R_move E rfl) rfl ?_
  clear E a; intro a E
  refine S_v E rfl (R_lenV E rfl T22 h0.len) rfl ?_
  clear E a; intro a E
  refine S_v E rfl (R_move E rfl) rfl ?_
  clear E a; intro a E
  refine WL_nil ?_
  refine T_n ?_
  refine WP_block ?_
  refine WP_loop (γ := Nat) (fun (k : Nat) a w => ∃ (M_1 : Hp), Hp.le M1 M_1 ∧ St w M_1 (H) ∧ Env a 19 [] [(0, v0), (1, .int .i64 x1), (7, .int .i64 (((l0).length : Nat) : Int)), (8, .int .i64 ((k : Nat) : Int))] ∧ (k ≤ (l0).length) ∧ (∀ y ∈ l0.take k, eqx x1 y = false)) (fun k => ((l0).length) - k) 0 ⟨M1, Hp.le.refl _, S, E.keep ⟨rfl, rfl, rfl, rfl, trivial⟩, by ((try clear S); (try clear E); first | assumption | omega | rfl | (simp; done) | (simp_all; done) | (simp [List.take_add_one, *]; done) | grind [List.take_add_one]), (by simp)⟩ ?_
  try clear E
  try clear S
  try clear a
  try clear w
  rintro k a w ⟨M_1, hM_1, S, E, hL0_0, hL0_1⟩
  replace h0 := h0.le hM_1
  refine WP_seq ?_
  refine WP_region ?_
  refine S_v E rfl (R_lss E rfl rfl) rfl ?_
  clear E a; intro a E
  refine WL_nil ?_
  refine T_n ?_
  refine WP_seq ?_
  refine WP_cond E rfl (fun hc_2 => ?_) (fun hc_2 => ?_)
  · replace hc_2 := of_decide_eq_true hc_2
    refine WP_skip ?_
    refine T_n ?_
    refine WP_seq ?_
    refine WP_block ?_
    refine WP_seq ?_
    refine WP_region ?_
    refine S_v E rfl (R_move E rfl) rfl ?_
    clear E a; intro a E
    refine S_v E rfl (R_assign E rfl) rfl ?_
    clear E a; intro a E
    refine WL_nil ?_
    refine T_n ?_
    refine WP_seq ?_
    refine WP_region ?_
    refine S_v E rfl (R_move E rfl) rfl ?_
    clear E a; intro a E
    refine S_v E rfl (R_move E rfl) rfl ?_
    clear E a; intro a E
    obtain ⟨x_3, hx_3⟩ : ∃ x, (l0)[k]? = some x := ⟨_, List.getElem?_eq_getElem (by first | omega | (simp; done) | (simp; omega) | (simp_all; omega))⟩
    obtain ⟨p_4, hp_4, qp_4⟩ := h0.at hx_3
    refine S_v E rfl (R_idx E rfl rfl T22 hp_4 rfl) rfl ?_
    clear E a; intro a E
    refine S_v E rfl (R_loadM E rfl Try.isAgg3 S.imm qp_4) rfl ?_
    clear E a; intro a E
    refine S_v E rfl (R_move E rfl) rfl ?_
    clear E a; intro a E
    refine S_v E rfl (R_eql E rfl rfl) rfl ?_
    clear E a; intro a E
    refine WL_nil ?_
    refine T_n ?_
    refine WP_cond E rfl (fun hc_5 => ?_) (fun hc_5 => ?_)
    · replace hc_5 := of_decide_eq_true hc_5
      refine WP_seq ?_
      refine WP_region ?_
      refine S_v E rfl (R_move E rfl) rfl ?_
      clear E a; intro a E
      refine S_v E rfl (R_assign E rfl) rfl ?_
      clear E a; intro a E
      refine WL_nil ?_
      refine T_n ?_
      refine WP_ret ?_
      refine B_r ?_
      refine T_r ?_
      refine T_r ?_
      refine B_r ?_
      refine T_r ?_
      exact F_ret1 E Try.results60 rfl ⟨_, rfl, M_1, hM_1, (congrArg (Value.int .i64) (by (first | exact (fi_yes (f := eqx x1) hL0_1 (by assumption) (by first | exact eqx_yes (by assumption) | exact eqx_yes' (by assumption))).1 | exact ((fi_yes (f := eqx x1) hL0_1 (by assumption) (by first | exact eqx_yes (by assumption) | exact eqx_yes' (by assumption))).1).symm | exact (fi_no (f := eqx x1) hL0_1 (by omega)).1 | exact ((fi_no (f := eqx x1) hL0_1 (by omega)).1).symm))), S⟩
    · replace hc_5 := of_decide_eq_false hc_5
      refine WP_skip ?_
      refine B_n ?_
      refine T_n ?_
      refine WP_region ?_
      refine S_v E rfl (R_addx (m := ((k + 1 : Nat) : Int)) E rfl rfl (by omega) (by omega)) rfl ?_
      clear E a; intro a E
      refine S_v E rfl (R_move E rfl) rfl ?_
      clear E a; intro a E
      refine WL_nil ?_
      refine T_n ?_
      exact ⟨k + 1, ⟨M_1, hM_1, S, E.keep ⟨rfl, rfl, rfl, rfl, trivial⟩, by ((try clear S); (try clear E); first | assumption | omega | rfl | (simp; done) | (simp_all; done) | (simp [List.take_add_one, *]; done) | grind [List.take_add_one]), (by exact take_all (P := fun y => eqx x1 y = false) hL0_1 (by assumption) (by first | exact eqx_no (by assumption) | exact eqx_no' (by assumption)))⟩, by omega⟩
  · replace hc_2 := of_decide_eq_false hc_2
    refine WP_exit ?_
    refine T_x ?_
    refine T_x ?_
    refine B_x ?_
    refine T_n ?_
    refine WP_seq ?_
    refine WP_region ?_
    refine S_v E rfl (R_assign E rfl) rfl ?_
    clear E a; intro a E
    refine WL_nil ?_
    refine T_n ?_
    refine WP_ret ?_
    exact F_ret1 E Try.results60 rfl ⟨_, rfl, M_1, hM_1, (congrArg (Value.int .i64) (by (first | exact (fi_yes (f := eqx x1) hL0_1 (by assumption) (by first | exact eqx_yes (by assumption) | exact eqx_yes' (by assumption))).1 | exact ((fi_yes (f := eqx x1) hL0_1 (by assumption) (by first | exact eqx_yes (by assumption) | exact eqx_yes' (by assumption))).1).symm | exact (fi_no (f := eqx x1) hL0_1 (by omega)).1 | exact ((fi_no (f := eqx x1) hL0_1 (by omega)).1).symm))), S⟩

set_option maxRecDepth 100000 in
set_option maxHeartbeats 4000000 in
theorem spec_UniqBy {M : Hp} {v0 : Value} {l0 : List Int} (h0 : RdI M v0 l0){kk1 kn1 : Int} (gk1 : -9223372036854775808 ≤ kn1 ∧ kn1 ≤ 9223372036854775807) (hr0 : (∀ x ∈ l0, -9223372036854775808 ≤ x ∧ x ≤ 9223372036854775807)) (hb : l0.length ≤ 1000000000000) (hid : l0.map (fun x => keyAt kk1 kn1 x 0) = l0) :
    Pu Try.prog (.func (.func 117) #[] #[]) M [v0, .agg #[.int .i64 kk1, .int .i64 kn1]] (fun r M' => RdI M' r (keyL l0)) := by
  refine Pu_enter Try.func117 rfl Try.ntmps117 rfl Try.call117 ?_
  intro a w M1 H hM1 S E
  replace h0 := h0.le hM1
  have b0 := h0.bound
  refine WP_seq ?_
  refine WP_region ?_
  refine S_x (X_box (cs := #[.int .i64 kk1, .int .i64 kn1]) E S rfl rfl rfl ?_)
  clear E a S; rintro a w b_1 E S
  obtain ⟨M_2, hM_2, hb_1, S⟩ := S.freezeB
  replace h0 := h0.le hM_2
  refine S_v E rfl (R_assign E rfl) rfl ?_
  clear E a; intro a E
  refine WL_nil ?_
  refine T_n ?_
  refine WP_seq ?_
  refine WP_region ?_
  refine S_v E rfl (R_assign E rfl) rfl ?_
  clear E a; intro a E
  refine WL_nil ?_
  refine T_n ?_
  refine WP_seq ?_
  refine WP_region ?_
  refine S_v E rfl (R_move E rfl) rfl ?_
  clear E a; intro a E
  refine S_v E rfl (R_loadGM E rfl (Try.isAgg37 _) (Try.sizeOf37 _) S.imm hb_1) rfl ?_
  clear E a; intro a E
  refine S_x (X_pu E S rfl rfl rfl (spec_keys h0 (by omega) (by first | assumption | exact (fun x hx => by rcases List.mem_append.1 hx with h | h; exact hr0 x h; exact hr1 x h)) (by (first | omega | (simp; omega) | (simp; done) | (simp_all; omega) | grind))) (Hp.le.refl _) ?_)
  clear E a S; rintro a v_4 w M_3 hM_3 hv_4 S E
  replace h0 := h0.le hM_3
  replace hb_1 := hM_3.2 _ _ hb_1
  replace hv_4 : RdI M_3 v_4 l0 := by rw [hid] at hv_4; exact hv_4
  refine S_v E rfl (R_assign E rfl) rfl ?_
  clear E a; intro a E
  refine WL_nil ?_
  refine T_n ?_
  refine WP_seq ?_
  refine WP_seq ?_
  refine WP_region ?_
  refine S_v E rfl (R_move E rfl) rfl ?_
  clear E a; intro a E
  refine S_v E rfl (R_lenV E rfl T22 h0.len) rfl ?_
  clear E a; intro a E
  refine S_v E rfl (R_move E rfl) rfl ?_
  clear E a; intro a E
  refine WL_nil ?_
  refine T_n ?_
  refine WP_block ?_
  replace S := (S.ownNil (e := 3) (sz := 1)).made0
  replace S := S.re1 (l' := keyL (l0.take 0)) (by first | (simp [keyL]; done) | (rw [ky_new (by assumption) (by assumption)]; done) | (rw [ky_old (by assumption) (by assumption)]; done))
  refine WP_loop (γ := Nat) (fun (k : Nat) a w => ∃ (M_6 : Hp) (u5 : Value), Hp.le M_3 M_6 ∧ St w M_6 (OwnI 3 u5 (keyL (l0.take k)) :: H) ∧ Env a 33 [] [(5, u5), (6, v_4), (12, v0), (13, .int .i64 (((l0).length : Nat) : Int)), (14, .int .i64 ((k : Nat) : Int))] ∧ (k ≤ (l0).length)) (fun k => ((l0).length) - k) 0 ⟨M_3, _, Hp.le.refl _, S, E.keep ⟨rfl, rfl, rfl, rfl, rfl, trivial⟩, by ((try clear S); (try clear E); first | assumption | omega | rfl | (simp; done) | (simp_all; done) | (simp [List.take_add_one, *]; done) | grind [List.take_add_one])⟩ ?_
  try clear E
  try clear S
  try clear a
  try clear w
  rintro k a w ⟨M_6, u5, hM_6, S, E, hL0_0⟩
  replace h0 := h0.le hM_6
  replace hb_1 := hM_6.2 _ _ hb_1
  replace hv_4 := hv_4.le hM_6
  have hkt := keyL_le' (l0.take k); rw [List.length_take] at hkt
  refine WP_seq ?_
  refine WP_region ?_
  refine S_v E rfl (R_lss E rfl rfl) rfl ?_
  clear E a; intro a E
  refine WL_nil ?_
  refine T_n ?_
  refine WP_seq ?_
  refine WP_cond E rfl (fun hc_7 => ?_) (fun hc_7 => ?_)
  · replace hc_7 := of_decide_eq_true hc_7
    refine WP_skip ?_
    refine T_n ?_
    refine WP_seq ?_
    refine WP_block ?_
    refine WP_seq ?_
    refine WP_region ?_
    refine S_v E rfl (R_move E rfl) rfl ?_
    clear E a; intro a E
    obtain ⟨x_8, hx_8⟩ : ∃ x, (l0)[k]? = some x := ⟨_, List.getElem?_eq_getElem (by first | omega | (simp; done) | (simp; omega) | (simp_all; omega))⟩
    obtain ⟨p_9, hp_9, qp_9⟩ := h0.at hx_8
    refine S_v E rfl (R_idx E rfl rfl T22 hp_9 rfl) rfl ?_
    clear E a; intro a E
    refine S_v E rfl (R_loadM E rfl Try.isAgg3 S.imm qp_9) rfl ?_
    clear E a; intro a E
    refine S_v E rfl (R_assign E rfl) rfl ?_
    clear E a; intro a E
    refine S_v E rfl (R_assign E rfl) rfl ?_
    clear E a; intro a E
    refine WL_nil ?_
    refine T_n ?_
    refine WP_seq ?_
    refine WP_region ?_
    refine S_v E rfl (R_move E rfl) rfl ?_
    clear E a; intro a E
    refine S_v E rfl (R_move E rfl) rfl ?_
    clear E a; intro a E
    refine S_v E rfl (R_move E rfl) rfl ?_
    clear E a; intro a E
    obtain ⟨p_10, hp_10, qp_10⟩ := hv_4.at hx_8
    refine S_v E rfl (R_idx E rfl rfl T22 hp_10 rfl) rfl ?_
    clear E a; intro a E
    refine S_v E rfl (R_loadM E rfl Try.isAgg3 S.imm qp_10) rfl ?_
    clear E a; intro a E
    refine S_x (X_pu E S rfl rfl rfl (spec_IndexOf hv_4) (Hp.le.refl _) ?_)
    clear E a S; rintro a _ w M_11 hM_11 rfl S E
    replace h0 := h0.le hM_11
    replace hb_1 := hM_11.2 _ _ hb_1
    replace hv_4 := hv_4.le hM_11
    refine S_v E rfl (R_move E rfl) rfl ?_
    clear E a; intro a E
    refine S_v E rfl (R_eql E rfl rfl) rfl ?_
    clear E a; intro a E
    refine WL_nil ?_
    refine T_n ?_
    refine WP_cond E rfl (fun hc_12 => ?_) (fun hc_12 => ?_)
    · replace hc_12 := of_decide_eq_true hc_12
      refine WP_region ?_
      refine S_v E rfl (R_move E rfl) rfl ?_
      clear E a; intro a E
      refine S_v E rfl (R_move E rfl) rfl ?_
      clear E a; intro a E
      refine S_x (X_buildI (ys := [x_8]) E S rfl T22 rfl rfl rfl ?_)
      clear E a S; rintro a w v_13 E S
      replace S := S.front1
      replace S := S.front1
      refine S_x (X_appendB (xs := keyL (l0.take k)) (ys := [x_8]) E S rfl rfl rfl T22 (by (simp only [List.length_cons, List.length_nil] at *; omega)) ?_)
      clear E a S; rintro a w v_14 E S
      refine S_v E rfl (R_assign E rfl) rfl ?_
      clear E a; intro a E
      refine WL_nil ?_
      refine B_n ?_
      refine T_n ?_
      refine WP_region ?_
      refine S_v E rfl (R_addx (m := ((k + 1 : Nat) : Int)) E rfl rfl (by omega) (by omega)) rfl ?_
      clear E a; intro a E
      refine S_v E rfl (R_move E rfl) rfl ?_
      clear E a; intro a E
      refine WL_nil ?_
      refine T_n ?_
      replace S := S.re1 (l' := keyL (l0.take (k + 1))) (by first | (simp [keyL]; done) | (rw [ky_new (by assumption) (by assumption)]; done) | (rw [ky_old (by assumption) (by assumption)]; done))
      exact ⟨k + 1, ⟨M_11, _, (hM_6.trans hM_11), S, E.keep ⟨rfl, rfl, rfl, rfl, rfl, trivial⟩, by ((try clear S); (try clear E); first | assumption | omega | rfl | (simp; done) | (simp_all; done) | (simp [List.take_add_one, *]; done) | grind [List.take_add_one])⟩, by omega⟩
    · replace hc_12 := of_decide_eq_false hc_12
      refine WP_skip ?_
      refine B_n ?_
      refine T_n ?_
      refine WP_region ?_
      refine S_v E rfl (R_addx (m := ((k + 1 : Nat) : Int)) E rfl rfl (by omega) (by omega)) rfl ?_
      clear E a; intro a E
      refine S_v E rfl (R_move E rfl) rfl ?_
      clear E a; intro a E
      refine WL_nil ?_
      refine T_n ?_
      replace S := S.re1 (l' := keyL (l0.take (k + 1))) (by first | (simp [keyL]; done) | (rw [ky_new (by assumption) (by assumption)]; done) | (rw [ky_old (by assumption) (by assumption)]; done))
      exact ⟨k + 1, ⟨M_11, _, (hM_6.trans hM_11), S, E.keep ⟨rfl, rfl, rfl, rfl, rfl, trivial⟩, by ((try clear S); (try clear E); first | assumption | omega | rfl | (simp; done) | (simp_all; done) | (simp [List.take_add_one, *]; done) | grind [List.take_add_one])⟩, by omega⟩
  · replace hc_7 := of_decide_eq_false hc_7
    refine WP_exit ?_
    refine T_x ?_
    refine T_x ?_
    refine B_x ?_
    refine T_n ?_
    refine WP_seq ?_
    refine WP_region ?_
    refine S_v E rfl (R_move E rfl) rfl ?_
    clear E a; intro a E
    refine S_v E rfl (R_assign E rfl) rfl ?_
    clear E a; intro a E
    refine WL_nil ?_
    refine T_n ?_
    refine WP_ret ?_
    have S0 := S; clear S
    obtain ⟨M_15, hM_15, hz_16, S⟩ := S0.freezeI (by (have hkt := keyL_le' (l0.take k); rw [List.length_take] at hkt; omega))
    clear S0
    replace h0 := h0.le hM_15
    replace hb_1 := hM_15.2 _ _ hb_1
    replace hv_4 := hv_4.le hM_15
    exact F_ret1 E Try.results117 rfl ⟨_, rfl, M_15, (hM_2.trans (hM_3.trans (hM_6.trans hM_15))), (by rw [show (keyL l0) = (keyL (l0.take k)) from by (rw [List.take_of_length_le (by omega)])]; exact hz_16), S⟩

set_option maxRecDepth 100000 in
set_option maxHeartbeats 4000000 in
theorem spec_Uniq {M : Hp} {v0 : Value} {l0 : List Int} (h0 : RdI M v0 l0) (hr0 : (∀ x ∈ l0, -9223372036854775808 ≤ x ∧ x ≤ 9223372036854775807)) (hb : l0.length ≤ 1000000000000) :
    Pu Try.prog (.func (.func 97) #[] #[]) M [v0] (fun r M' => RdI M' r (keyL l0)) := by
  refine Pu_enter Try.func97 rfl Try.ntmps97 rfl Try.call97 ?_
  intro a w M1 H hM1 S E
  replace h0 := h0.le hM1
  have b0 := h0.bound
  refine WP_seq ?_
  refine WP_region ?_
  refine S_v E rfl (R_assign E rfl) rfl ?_
  clear E a; intro a E
  refine WL_nil ?_
  refine T_n ?_
  refine WP_seq ?_
  refine WP_region ?_
  refine S_v E rfl (R_move E rfl) rfl ?_
  clear E a; intro a E
  refine S_x (X_pu E S rfl rfl rfl (spec_same ) (Hp.le.refl _) ?_)
  clear E a S; rintro a _ w M_1 hM_1 rfl S E
  replace h0 := h0.le hM_1
  refine S_x (X_pu E S rfl rfl rfl (spec_UniqBy h0 (by omega) (by first | assumption | exact (fun x hx => by rcases List.mem_append.1 hx with h | h; exact hr0 x h; exact hr1 x h)) (by (first | omega | (simp; omega) | (simp; done) | (simp_all; omega) | grind)) (by first | assumption | exact map_key5 _ _)) (Hp.le.refl _) ?_)
  clear E a S; rintro a v_3 w M_2 hM_2 hv_3 S E
  replace h0 := h0.le hM_2
  refine S_v E rfl (R_assign E rfl) rfl ?_
  clear E a; intro a E
  refine WL_nil ?_
  refine T_n ?_
  refine WP_ret ?_
  exact F_ret1 E Try.results97 rfl ⟨_, rfl, M_2, (hM_1.trans hM_2), hv_3, S⟩

set_option maxRecDepth 100000 in
set_option maxHeartbeats 4000000 in
theorem spec_Sorted {M : Hp} {v0 : Value} {l0 : List Int} (h0 : RdI M v0 l0) (hb : l0.length ≤ 1000000000000) :
    Pu Try.prog (.func (.func 86) #[] #[]) M [v0] (fun r M' => RdI M' r (sortI l0)) := by
  refine Pu_enter Try.func86 rfl Try.ntmps86 rfl Try.call86 ?_
  intro a w M1 H hM1 S E
  replace h0 := h0.le hM1
  have b0 := h0.bound
  refine WP_seq ?_
  refine WP_region ?_
  refine S_v E rfl (R_assign E rfl) rfl ?_
  clear E a; intro a E
  refine WL_nil ?_
  refine T_n ?_
  refine WP_seq ?_
  refine WP_region ?_
  refine S_v E rfl (R_assign E rfl) rfl ?_
  clear E a; intro a E
  refine WL_nil ?_
  refine T_n ?_
  refine WP_seq ?_
  refine WP_seq ?_
  refine WP_region ?_
  refine S_v E rfl (R_move E rfl) rfl ?_
  clear E a; intro a E
  refine S_v E rfl (R_lenV E rfl T22 h0.len) rfl ?_
  clear E a; intro a E
  refine S_v E rfl (R_move E rfl) rfl ?_
  clear E a; intro a E
  refine WL_nil ?_
  refine T_n ?_
  refine WP_block ?_
  replace S := (S.ownNil (e := 3) (sz := 1)).made0
  replace S := S.re1 (l' := sortI (l0.take 0)) (by first | (simp [sortI]; done) | (rw [sortI_take (by assumption), ← ins_at (j := j) (by omega) (by intro y hy; have h9 := hL1_1 y hy; rw [show l0[k]? = some _ by assumption] at h9; exact h9) (by first | (left; omega) | (right; exact ⟨_, by assumption, by assumption⟩))]; done) | (rw [sortI_take (by assumption), ← ins_at (j := j) (by omega) (by intro y hy; have h9 := hL1_1 y hy; rw [show l0[k]? = some _ by assumption] at h9; exact h9) (by first | (left; omega) | (right; exact ⟨_, by assumption, by assumption⟩))]; simp; done))
  refine WP_loop (γ := Nat) (fun (k : Nat) a w => ∃ (M_2 : Hp) (u3 : Value), Hp.le M1 M_2 ∧ St w M_2 (OwnI 3 u3 (sortI (l0.take k)) :: H) ∧ Env a 41 [] [(3, u3), (7, v0), (8, .int .i64 (((l0).length : Nat) : Int)), (9, .int .i64 ((k : Nat) : Int))] ∧ (k ≤ (l0).length)) (fun k => ((l0).length) - k) 0 ⟨M1, _, Hp.le.refl _, S, E.keep ⟨rfl, rfl, rfl, rfl, trivial⟩, by ((try clear S); (try clear E); first | assumption | omega | rfl | (simp; done) | (simp_all; done) | (simp [List.take_add_one, *]; done) | grind [List.take_add_one])⟩ ?_
  try clear E
  try clear S
  try clear a
  try clear w
  rintro k a w ⟨M_2, u3, hM_2, S, E, hL0_0⟩
  replace h0 := h0.le hM_2
  have hsl := sortI_len (l0.take k); simp only [List.length_take] at hsl
  refine WP_seq ?_
  refine WP_region ?_
  refine S_v E rfl (R_lss E rfl rfl) rfl ?_
  clear E a; intro a E
  refine WL_nil ?_
  refine T_n ?_
  refine WP_seq ?_
  refine WP_cond E rfl (fun hc_3 => ?_) (fun hc_3 => ?_)
  · replace hc_3 := of_decide_eq_true hc_3
    refine WP_skip ?_
    refine T_n ?_
    refine WP_seq ?_
    refine WP_block ?_
    refine WP_seq ?_
    refine WP_region ?_
    obtain ⟨x_4, hx_4⟩ : ∃ x, (l0)[k]? = some x := ⟨_, List.getElem?_eq_getElem (by first | omega | (simp; done) | (simp; omega) | (simp_all; omega))⟩
    obtain ⟨p_5, hp_5, qp_5⟩ := h0.at hx_4
    refine S_v E rfl (R_idx E rfl rfl T22 hp_5 rfl) rfl ?_
    clear E a; intro a E
    refine S_v E rfl (R_loadM E rfl Try.isAgg3 S.imm qp_5) rfl ?_
    clear E a; intro a E
    refine S_v E rfl (R_assign E rfl) rfl ?_
    clear E a; intro a E
    refine WL_nil ?_
    refine T_n ?_
    refine WP_seq ?_
    refine WP_region ?_
    refine S_v E rfl (R_assign E rfl) rfl ?_
    clear E a; intro a E
    refine WL_nil ?_
    refine T_n ?_
    refine WP_seq ?_
    refine WP_block ?_
    refine WP_loop (γ := Nat) (fun (j : Nat) a w => ∃ (M_6 : Hp), Hp.le M_2 M_6 ∧ St w M_6 (OwnI 3 u3 (sortI (l0.take k)) :: H) ∧ Env a 41 [] [(3, u3), (5, .int .i64 x_4), (6, .int .i64 ((j : Nat) : Int)), (7, v0), (8, .int .i64 (((l0).length : Nat) : Int)), (9, .int .i64 ((k : Nat) : Int))] ∧ (j ≤ (sortI (l0.take k)).length) ∧ (∀ y ∈ (sortI (l0.take k)).take j, y ≤ (l0[k]?.getD 0))) (fun j => (sortI (l0.take k)).length - j) 0 ⟨M_2, Hp.le.refl _, S, E.keep ⟨rfl, rfl, rfl, rfl, rfl, rfl, trivial⟩, (by omega), (by simp)⟩ ?_
    try clear E
    try clear S
    try clear a
    try clear w
    rintro j a w ⟨M_6, hM_6, S, E, hL1_0, hL1_1⟩
    replace h0 := h0.le hM_6
    refine WP_seq ?_
    refine WP_seq ?_
    refine WP_region ?_
    refine S_v E rfl (R_move E rfl) rfl ?_
    clear E a; intro a E
    refine S_v E rfl (R_move E rfl) rfl ?_
    clear E a; intro a E
    refine S_v E rfl (R_lenV E rfl T22 S.lenC) rfl ?_
    clear E a; intro a E
    refine S_v E rfl (R_lss E rfl rfl) rfl ?_
    clear E a; intro a E
    refine S_v E rfl (R_move E rfl) rfl ?_
    clear E a; intro a E
    refine split_bool (decide (((j : Nat) : Int) < (((sortI (l0.take k)).length : Nat) : Int))) (fun hc_7 => ?_) (fun hc_7 => ?_)
    · replace E := E.val (t := 16) rfl hc_7
      replace E := E.val (t := 17) rfl hc_7
      replace hc_7 := of_decide_eq_true hc_7
      refine WL_guard_yes E rfl rfl ?_
      refine S_v E rfl (R_move E rfl) rfl ?_
      clear E a; intro a E
      refine WL_guard_yes E rfl rfl ?_
      refine S_v E rfl (R_move E rfl) rfl ?_
      clear E a; intro a E
      obtain ⟨p_8, hp_8⟩ := S.ptrC (k := j) (by first | omega | (simp; done) | (simp; omega) | (simp_all; omega))
      refine WL_guard_yes E rfl rfl ?_
      refine S_v E rfl (R_idx E rfl rfl T22 hp_8 rfl) rfl ?_
      clear E a; intro a E
      obtain ⟨x_9, hx_9⟩ : ∃ x, (sortI (l0.take k))[j]? = some x := ⟨_, List.getElem?_eq_getElem (by first | omega | (simp; done) | (simp; omega) | (simp_all; omega))⟩
      refine WL_guard_yes E rfl rfl ?_
      refine S_v E rfl (R_load E rfl (Try.isAgg3 _) (S.cellI hp_8 hx_9)) rfl ?_
      clear E a; intro a E
      refine WL_guard_yes E rfl rfl ?_
      refine S_v E rfl (R_move E rfl) rfl ?_
      clear E a; intro a E
      refine WL_guard_yes E rfl rfl ?_
      refine S_v E rfl (R_leq E rfl rfl) rfl ?_
      clear E a; intro a E
      refine S_v E rfl (R_pickT E rfl rfl) rfl ?_
      clear E a; intro a E
      refine WL_nil ?_
      refine T_n ?_
      refine WP_cond E rfl (fun hc_10 => ?_) (fun hc_10 => ?_)
      · replace hc_10 := of_decide_eq_true hc_10
        refine WP_skip ?_
        refine T_n ?_
        refine WP_block ?_
        refine WP_region ?_
        refine S_v E rfl (R_move E rfl) rfl ?_
        clear E a; intro a E
        refine S_v E rfl (R_addx (m := ((j + 1 : Nat) : Int)) E rfl rfl (by omega) (by omega)) rfl ?_
        clear E a; intro a E
        refine S_v E rfl (R_assign E rfl) rfl ?_
        clear E a; intro a E
        refine WL_nil ?_
        refine B_n ?_
        refine T_n ?_
        exact ⟨j + 1, ⟨M_6, hM_6, S, E.keep ⟨rfl, rfl, rfl, rfl, rfl, rfl, trivial⟩, (by omega), (by exact take_all (P := fun y => y ≤ (l0[k]?.getD 0)) hL1_1 (by assumption) (by rw [show l0[k]? = some _ by assumption]; assumption))⟩, by omega⟩
      · replace hc_10 := of_decide_eq_false hc_10
        refine WP_exit ?_
        refine T_x ?_
        refine T_x ?_
        refine B_x ?_
        refine T_n ?_
        refine DG_start Try.mixed ?_
        refine DG_split 0 6 (by decide) (by kernel_rfl) ?_ ?_
        · refine DG_split 4 6 (by decide) (by kernel_rfl) ?_ ?_
          · replace S := S.mono_heap (w' := World.drew _) rfl
            refine DG_end (C := fun x w => agree M_6 w) (bf := (fun i => [])) [1, 2, 3, 5, 8, 9, 10, 12] [1, 2, 3, 5, 8, 9, 10, 0, 4, 6, 7, 11, 12] (by kernel_rfl) (fun x hq => S.imm) ?_
            refine D_v E rfl rfl rfl (fun w hC => (R_move E rfl)) ?_
            clear E a; intro a E
            refine D_v E rfl rfl rfl (fun w hC => (R_move E rfl)) ?_
            clear E a; intro a E
            have S0 := S; clear S
            obtain ⟨M_11, hM_11, hz_12, S⟩ := S0.freezeI (by (first | omega | (simp; omega) | (simp; done) | (simp_all; omega) | grind))
            clear S0
            replace h0 := h0.le hM_11
            obtain ⟨v_13, sv_13, hv_13⟩ := hz_12.subv 0 j (by first | omega | (simp; done) | (simp; omega) | (simp_all; omega)) (by first | omega | (simp; done) | (simp; omega) | (simp_all; omega))
            simp only [List.drop_zero] at hv_13
            replace hv_13 : RdI M_11 v_13 ((sortI (l0.take k)).take j) := hv_13
            refine D_v E rfl rfl rfl (fun w hC => (R_sliceH E rfl rfl T22 sv_13 (by omega))) ?_
            clear E a; intro a E
            refine D_v E rfl rfl rfl (fun w hC => (R_move E rfl)) ?_
            clear E a; intro a E
            refine D_v E rfl rfl rfl (fun w hC => (R_move E rfl)) ?_
            clear E a; intro a E
            refine D_v E rfl rfl rfl (fun w hC => (R_move E rfl)) ?_
            clear E a; intro a E
            obtain ⟨v_14, sv_14, hv_14⟩ := hz_12.subv j ((sortI (l0.take k)).length) (by first | omega | (simp; done) | (simp; omega) | (simp_all; omega)) (by first | omega | (simp; done) | (simp; omega) | (simp_all; omega))
            simp only [List.take_length] at hv_14
            replace hv_14 : RdI M_11 v_14 ((sortI (l0.take k)).drop j) := hv_14
            refine D_v E rfl rfl rfl (fun w hC => (R_sliceL E rfl rfl T22 hz_12.len sv_14 (by omega))) ?_
            clear E a; intro a E
            refine D_x rfl rfl rfl (X_buildI (ys := []) E S rfl T22 rfl rfl rfl ?_)
            clear E a S; rintro a w v_15 E S
            refine ⟨fun x hq hb => (agree_le hM_11 S.imm), ?_⟩
            refine D_x rfl rfl rfl (X_appendI (xs := ([] : List Int)) E S rfl rfl rfl T22 hv_13 (by first | omega | (simp; done) | (simp; omega) | (simp_all; omega)) ?_)
            clear E a S; rintro a w v_16 E S
            refine ⟨fun x hq hb => (agree_le hM_11 S.imm), ?_⟩
            refine D_x rfl rfl rfl (X_buildI (ys := [x_4]) E S rfl T22 rfl rfl rfl ?_)
            clear E a S; rintro a w v_17 E S
            refine ⟨fun x hq hb => (agree_le hM_11 S.imm), ?_⟩
            replace S := S.front1
            replace S := S.front1
            refine D_x rfl rfl rfl (X_appendB (xs := [] ++ ((sortI (l0.take k)).take j)) (ys := [x_4]) E S rfl rfl rfl T22 (by first | omega | (simp; done) | (simp; omega) | (simp_all; omega)) ?_)
            clear E a S; rintro a w v_18 E S
            refine ⟨fun x hq hb => (agree_le hM_11 S.imm), ?_⟩
            refine D_x rfl rfl rfl (X_appendI (xs := ([] ++ ((sortI (l0.take k)).take j)) ++ [x_4]) E S rfl rfl rfl T22 hv_14 (by first | omega | (simp; done) | (simp; omega) | (simp_all; omega)) ?_)
            clear E a S; rintro a w v_19 E S
            refine ⟨fun x hq hb => (agree_le hM_11 S.imm), ?_⟩
            refine D_v E rfl rfl rfl (fun w hC => (R_assign E rfl)) ?_
            clear E a; intro a E
            refine D_end (NoP_n ?_)
            refine B_n ?_
            refine T_n ?_
            refine WP_region ?_
            refine S_v E rfl (R_addx (m := ((k + 1 : Nat) : Int)) E rfl rfl (by omega) (by omega)) rfl ?_
            clear E a; intro a E
            refine S_v E rfl (R_move E rfl) rfl ?_
            clear E a; intro a E
            refine WL_nil ?_
            refine T_n ?_
            replace S := S.re1 (l' := sortI (l0.take (k + 1))) (by first | (simp [sortI]; done) | (rw [sortI_take (by assumption), ← ins_at (j := j) (by omega) (by intro y hy; have h9 := hL1_1 y hy; rw [show l0[k]? = some _ by assumption] at h9; exact h9) (by first | (left; omega) | (right; exact ⟨_, by assumption, by assumption⟩))]; done) | (rw [sortI_take (by assumption), ← ins_at (j := j) (by omega) (by intro y hy; have h9 := hL1_1 y hy; rw [show l0[k]? = some _ by assumption] at h9; exact h9) (by first | (left; omega) | (right; exact ⟨_, by assumption, by assumption⟩))]; simp; done))
            exact ⟨k + 1, ⟨M_11, _, (hM_2.trans (hM_6.trans hM_11)), S, E.keep ⟨rfl, rfl, rfl, rfl, trivial⟩, by ((try clear S); (try clear E); first | assumption | omega | rfl | (simp; done) | (simp_all; done) | (simp [List.take_add_one, *]; done) | grind [List.take_add_one])⟩, by omega⟩
          · replace S := S.mono_heap (w' := World.drew _) rfl
            refine DG_end (C := fun x w => agree M_6 w) (bf := (fun i => [])) [1, 2, 3, 5, 8, 9, 10, 12] [1, 2, 3, 5, 8, 9, 10, 0, 6, 4, 7, 11, 12] (by kernel_rfl) (fun x hq => S.imm) ?_
            refine D_v E rfl rfl rfl (fun w hC => (R_move E rfl)) ?_
            clear E a; intro a E
            refine D_v E rfl rfl rfl (fun w hC => (R_move E rfl)) ?_
            clear E a; intro a E
            have S0 := S; clear S
            obtain ⟨M_20, hM_20, hz_21, S⟩ := S0.freezeI (by (first | omega | (simp; omega) | (simp; done) | (simp_all; omega) | grind))
            clear S0
            replace h0 := h0.le hM_20
            obtain ⟨v_22, sv_22, hv_22⟩ := hz_21.subv 0 j (by first | omega | (simp; done) | (simp; omega) | (simp_all; omega)) (by first | omega | (simp; done) | (simp; omega) | (simp_all; omega))
            simp only [List.drop_zero] at hv_22
            replace hv_22 : RdI M_20 v_22 ((sortI (l0.take k)).take j) := hv_22
            refine D_v E rfl rfl rfl (fun w hC => (R_sliceH E rfl rfl T22 sv_22 (by omega))) ?_
            clear E a; intro a E
            refine D_v E rfl rfl rfl (fun w hC => (R_move E rfl)) ?_
            clear E a; intro a E
            refine D_v E rfl rfl rfl (fun w hC => (R_move E rfl)) ?_
            clear E a; intro a E
            refine D_v E rfl rfl rfl (fun w hC => (R_move E rfl)) ?_
            clear E a; intro a E
            obtain ⟨v_23, sv_23, hv_23⟩ := hz_21.subv j ((sortI (l0.take k)).length) (by first | omega | (simp; done) | (simp; omega) | (simp_all; omega)) (by first | omega | (simp; done) | (simp; omega) | (simp_all; omega))
            simp only [List.take_length] at hv_23
            replace hv_23 : RdI M_20 v_23 ((sortI (l0.take k)).drop j) := hv_23
            refine D_v E rfl rfl rfl (fun w hC => (R_sliceL E rfl rfl T22 hz_21.len sv_23 (by omega))) ?_
            clear E a; intro a E
            refine D_x rfl rfl rfl (X_buildI (ys := []) E S rfl T22 rfl rfl rfl ?_)
            clear E a S; rintro a w v_24 E S
            refine ⟨fun x hq hb => (agree_le hM_20 S.imm), ?_⟩
            refine D_x rfl rfl rfl (X_buildI (ys := [x_4]) E S rfl T22 rfl rfl rfl ?_)
            clear E a S; rintro a w v_25 E S
            refine ⟨fun x hq hb => (agree_le hM_20 S.imm), ?_⟩
            replace S := S.front1
            refine D_x rfl rfl rfl (X_appendI (xs := ([] : List Int)) E S rfl rfl rfl T22 hv_22 (by first | omega | (simp; done) | (simp; omega) | (simp_all; omega)) ?_)
            clear E a S; rintro a w v_26 E S
            refine ⟨fun x hq hb => (agree_le hM_20 S.imm), ?_⟩
            replace S := S.front1
            refine D_x rfl rfl rfl (X_appendB (xs := [] ++ ((sortI (l0.take k)).take j)) (ys := [x_4]) E S rfl rfl rfl T22 (by first | omega | (simp; done) | (simp; omega) | (simp_all; omega)) ?_)
            clear E a S; rintro a w v_27 E S
            refine ⟨fun x hq hb => (agree_le hM_20 S.imm), ?_⟩
            refine D_x rfl rfl rfl (X_appendI (xs := ([] ++ ((sortI (l0.take k)).take j)) ++ [x_4]) E S rfl rfl rfl T22 hv_23 (by first | omega | (simp; done) | (simp; omega) | (simp_all; omega)) ?_)
            clear E a S; rintro a w v_28 E S
            refine ⟨fun x hq hb => (agree_le hM_20 S.imm), ?_⟩
            refine D_v E rfl rfl rfl (fun w hC => (R_assign E rfl)) ?_
            clear E a; intro a E
            refine D_end (NoP_n ?_)
            refine B_n ?_
            refine T_n ?_
            refine WP_region ?_
            refine S_v E rfl (R_addx (m := ((k + 1 : Nat) : Int)) E rfl rfl (by omega) (by omega)) rfl ?_
            clear E a; intro a E
            refine S_v E rfl (R_move E rfl) rfl ?_
            clear E a; intro a E
            refine WL_nil ?_
            refine T_n ?_
            replace S := S.re1 (l' := sortI (l0.take (k + 1))) (by first | (simp [sortI]; done) | (rw [sortI_take (by assumption), ← ins_at (j := j) (by omega) (by intro y hy; have h9 := hL1_1 y hy; rw [show l0[k]? = some _ by assumption] at h9; exact h9) (by first | (left; omega) | (right; exact ⟨_, by assumption, by assumption⟩))]; done) | (rw [sortI_take (by assumption), ← ins_at (j := j) (by omega) (by intro y hy; have h9 := hL1_1 y hy; rw [show l0[k]? = some _ by assumption] at h9; exact h9) (by first | (left; omega) | (right; exact ⟨_, by assumption, by assumption⟩))]; simp; done))
            exact ⟨k + 1, ⟨M_20, _, (hM_2.trans (hM_6.trans hM_20)), S, E.keep ⟨rfl, rfl, rfl, rfl, trivial⟩, by ((try clear S); (try clear E); first | assumption | omega | rfl | (simp; done) | (simp_all; done) | (simp [List.take_add_one, *]; done) | grind [List.take_add_one])⟩, by omega⟩
        · replace S := S.mono_heap (w' := World.drew _) rfl
          refine DG_end (C := fun x w => agree M_6 w) (bf := (fun i => [])) [1, 2, 3, 5, 8, 9, 10, 12] [1, 2, 3, 5, 8, 9, 10, 6, 0, 4, 7, 11, 12] (by kernel_rfl) (fun x hq => S.imm) ?_
          refine D_v E rfl rfl rfl (fun w hC => (R_move E rfl)) ?_
          clear E a; intro a E
          refine D_v E rfl rfl rfl (fun w hC => (R_move E rfl)) ?_
          clear E a; intro a E
          have S0 := S; clear S
          obtain ⟨M_29, hM_29, hz_30, S⟩ := S0.freezeI (by (first | omega | (simp; omega) | (simp; done) | (simp_all; omega) | grind))
          clear S0
          replace h0 := h0.le hM_29
          obtain ⟨v_31, sv_31, hv_31⟩ := hz_30.subv 0 j (by first | omega | (simp; done) | (simp; omega) | (simp_all; omega)) (by first | omega | (simp; done) | (simp; omega) | (simp_all; omega))
          simp only [List.drop_zero] at hv_31
          replace hv_31 : RdI M_29 v_31 ((sortI (l0.take k)).take j) := hv_31
          refine D_v E rfl rfl rfl (fun w hC => (R_sliceH E rfl rfl T22 sv_31 (by omega))) ?_
          clear E a; intro a E
          refine D_v E rfl rfl rfl (fun w hC => (R_move E rfl)) ?_
          clear E a; intro a E
          refine D_v E rfl rfl rfl (fun w hC => (R_move E rfl)) ?_
          clear E a; intro a E
          refine D_v E rfl rfl rfl (fun w hC => (R_move E rfl)) ?_
          clear E a; intro a E
          obtain ⟨v_32, sv_32, hv_32⟩ := hz_30.subv j ((sortI (l0.take k)).length) (by first | omega | (simp; done) | (simp; omega) | (simp_all; omega)) (by first | omega | (simp; done) | (simp; omega) | (simp_all; omega))
          simp only [List.take_length] at hv_32
          replace hv_32 : RdI M_29 v_32 ((sortI (l0.take k)).drop j) := hv_32
          refine D_v E rfl rfl rfl (fun w hC => (R_sliceL E rfl rfl T22 hz_30.len sv_32 (by omega))) ?_
          clear E a; intro a E
          refine D_x rfl rfl rfl (X_buildI (ys := [x_4]) E S rfl T22 rfl rfl rfl ?_)
          clear E a S; rintro a w v_33 E S
          refine ⟨fun x hq hb => (agree_le hM_29 S.imm), ?_⟩
          refine D_x rfl rfl rfl (X_buildI (ys := []) E S rfl T22 rfl rfl rfl ?_)
          clear E a S; rintro a w v_34 E S
          refine ⟨fun x hq hb => (agree_le hM_29 S.imm), ?_⟩
          refine D_x rfl rfl rfl (X_appendI (xs := ([] : List Int)) E S rfl rfl rfl T22 hv_31 (by first | omega | (simp; done) | (simp; omega) | (simp_all; omega)) ?_)
          clear E a S; rintro a w v_35 E S
          refine ⟨fun x hq hb => (agree_le hM_29 S.imm), ?_⟩
          replace S := S.front1
          refine D_x rfl rfl rfl (X_appendB (xs := [] ++ ((sortI (l0.take k)).take j)) (ys := [x_4]) E S rfl rfl rfl T22 (by first | omega | (simp; done) | (simp; omega) | (simp_all; omega)) ?_)
          clear E a S; rintro a w v_36 E S
          refine ⟨fun x hq hb => (agree_le hM_29 S.imm), ?_⟩
          refine D_x rfl rfl rfl (X_appendI (xs := ([] ++ ((sortI (l0.take k)).take j)) ++ [x_4]) E S rfl rfl rfl T22 hv_32 (by first | omega | (simp; done) | (simp; omega) | (simp_all; omega)) ?_)
          clear E a S; rintro a w v_37 E S
          refine ⟨fun x hq hb => (agree_le hM_29 S.imm), ?_⟩
          refine D_v E rfl rfl rfl (fun w hC => (R_assign E rfl)) ?_
          clear E a; intro a E
          refine D_end (NoP_n ?_)
          refine B_n ?_
          refine T_n ?_
          refine WP_region ?_
          refine S_v E rfl (R_addx (m := ((k + 1 : Nat) : Int)) E rfl rfl (by omega) (by omega)) rfl ?_
          clear E a; intro a E
          refine S_v E rfl (R_move E rfl) rfl ?_
          clear E a; intro a E
          refine WL_nil ?_
          refine T_n ?_
          replace S := S.re1 (l' := sortI (l0.take (k + 1))) (by first | (simp [sortI]; done) | (rw [sortI_take (by assumption), ← ins_at (j := j) (by omega) (by intro y hy; have h9 := hL1_1 y hy; rw [show l0[k]? = some _ by assumption] at h9; exact h9) (by first | (left; omega) | (right; exact ⟨_, by assumption, by assumption⟩))]; done) | (rw [sortI_take (by assumption), ← ins_at (j := j) (by omega) (by intro y hy; have h9 := hL1_1 y hy; rw [show l0[k]? = some _ by assumption] at h9; exact h9) (by first | (left; omega) | (right; exact ⟨_, by assumption, by assumption⟩))]; simp; done))
          exact ⟨k + 1, ⟨M_29, _, (hM_2.trans (hM_6.trans hM_29)), S, E.keep ⟨rfl, rfl, rfl, rfl, trivial⟩, by ((try clear S); (try clear E); first | assumption | omega | rfl | (simp; done) | (simp_all; done) | (simp [List.take_add_one, *]; done) | grind [List.take_add_one])⟩, by omega⟩
    · replace E := E.val (t := 16) rfl hc_7
      replace E := E.val (t := 17) rfl hc_7
      replace hc_7 := of_decide_eq_false hc_7
      refine WL_guard_no E rfl rfl rfl rfl fun a E => ?_
      refine WL_guard_no E rfl rfl rfl rfl fun a E => ?_
      refine WL_guard_no E rfl rfl rfl rfl fun a E => ?_
      refine WL_guard_no E rfl rfl rfl rfl fun a E => ?_
      refine WL_guard_no E rfl rfl rfl rfl fun a E => ?_
      refine WL_guard_no E rfl rfl rfl rfl fun a E => ?_
      refine S_v E rfl (R_pickF E rfl rfl) rfl ?_
      clear E a; intro a E
      refine WL_nil ?_
      refine T_n ?_
      refine WP_condF E rfl rfl ?_
      refine WP_exit ?_
      refine T_x ?_
      refine T_x ?_
      refine B_x ?_
      refine T_n ?_
      refine DG_start Try.mixed ?_
      refine DG_split 0 6 (by decide) (by kernel_rfl) ?_ ?_
      · refine DG_split 4 6 (by decide) (by kernel_rfl) ?_ ?_
        · replace S := S.mono_heap (w' := World.drew _) rfl
          refine DG_end (C := fun x w => agree M_6 w) (bf := (fun i => [])) [1, 2, 3, 5, 8, 9, 10, 12] [1, 2, 3, 5, 8, 9, 10, 0, 4, 6, 7, 11, 12] (by kernel_rfl) (fun x hq => S.imm) ?_
          refine D_v E rfl rfl rfl (fun w hC => (R_move E rfl)) ?_
          clear E a; intro a E
          refine D_v E rfl rfl rfl (fun w hC => (R_move E rfl)) ?_
          clear E a; intro a E
          have S0 := S; clear S
          obtain ⟨M_38, hM_38, hz_39, S⟩ := S0.freezeI (by (first | omega | (simp; omega) | (simp; done) | (simp_all; omega) | grind))
          clear S0
          replace h0 := h0.le hM_38
          obtain ⟨v_40, sv_40, hv_40⟩ := hz_39.subv 0 j (by first | omega | (simp; done) | (simp; omega) | (simp_all; omega)) (by first | omega | (simp; done) | (simp; omega) | (simp_all; omega))
          simp only [List.drop_zero] at hv_40
          replace hv_40 : RdI M_38 v_40 ((sortI (l0.take k)).take j) := hv_40
          refine D_v E rfl rfl rfl (fun w hC => (R_sliceH E rfl rfl T22 sv_40 (by omega))) ?_
          clear E a; intro a E
          refine D_v E rfl rfl rfl (fun w hC => (R_move E rfl)) ?_
          clear E a; intro a E
          refine D_v E rfl rfl rfl (fun w hC => (R_move E rfl)) ?_
          clear E a; intro a E
          refine D_v E rfl rfl rfl (fun w hC => (R_move E rfl)) ?_
          clear E a; intro a E
          obtain ⟨v_41, sv_41, hv_41⟩ := hz_39.subv j ((sortI (l0.take k)).length) (by first | omega | (simp; done) | (simp; omega) | (simp_all; omega)) (by first | omega | (simp; done) | (simp; omega) | (simp_all; omega))
          simp only [List.take_length] at hv_41
          replace hv_41 : RdI M_38 v_41 ((sortI (l0.take k)).drop j) := hv_41
          refine D_v E rfl rfl rfl (fun w hC => (R_sliceL E rfl rfl T22 hz_39.len sv_41 (by omega))) ?_
          clear E a; intro a E
          refine D_x rfl rfl rfl (X_buildI (ys := []) E S rfl T22 rfl rfl rfl ?_)
          clear E a S; rintro a w v_42 E S
          refine ⟨fun x hq hb => (agree_le hM_38 S.imm), ?_⟩
          refine D_x rfl rfl rfl (X_appendI (xs := ([] : List Int)) E S rfl rfl rfl T22 hv_40 (by first | omega | (simp; done) | (simp; omega) | (simp_all; omega)) ?_)
          clear E a S; rintro a w v_43 E S
          refine ⟨fun x hq hb => (agree_le hM_38 S.imm), ?_⟩
          refine D_x rfl rfl rfl (X_buildI (ys := [x_4]) E S rfl T22 rfl rfl rfl ?_)
          clear E a S; rintro a w v_44 E S
          refine ⟨fun x hq hb => (agree_le hM_38 S.imm), ?_⟩
          replace S := S.front1
          replace S := S.front1
          refine D_x rfl rfl rfl (X_appendB (xs := [] ++ ((sortI (l0.take k)).take j)) (ys := [x_4]) E S rfl rfl rfl T22 (by first | omega | (simp; done) | (simp; omega) | (simp_all; omega)) ?_)
          clear E a S; rintro a w v_45 E S
          refine ⟨fun x hq hb => (agree_le hM_38 S.imm), ?_⟩
          refine D_x rfl rfl rfl (X_appendI (xs := ([] ++ ((sortI (l0.take k)).take j)) ++ [x_4]) E S rfl rfl rfl T22 hv_41 (by first | omega | (simp; done) | (simp; omega) | (simp_all; omega)) ?_)
          clear E a S; rintro a w v_46 E S
          refine ⟨fun x hq hb => (agree_le hM_38 S.imm), ?_⟩
          refine D_v E rfl rfl rfl (fun w hC => (R_assign E rfl)) ?_
          clear E a; intro a E
          refine D_end (NoP_n ?_)
          refine B_n ?_
          refine T_n ?_
          refine WP_region ?_
          refine S_v E rfl (R_addx (m := ((k + 1 : Nat) : Int)) E rfl rfl (by omega) (by omega)) rfl ?_
          clear E a; intro a E
          refine S_v E rfl (R_move E rfl) rfl ?_
          clear E a; intro a E
          refine WL_nil ?_
          refine T_n ?_
          replace S := S.re1 (l' := sortI (l0.take (k + 1))) (by first | (simp [sortI]; done) | (rw [sortI_take (by assumption), ← ins_at (j := j) (by omega) (by intro y hy; have h9 := hL1_1 y hy; rw [show l0[k]? = some _ by assumption] at h9; exact h9) (by first | (left; omega) | (right; exact ⟨_, by assumption, by assumption⟩))]; done) | (rw [sortI_take (by assumption), ← ins_at (j := j) (by omega) (by intro y hy; have h9 := hL1_1 y hy; rw [show l0[k]? = some _ by assumption] at h9; exact h9) (by first | (left; omega) | (right; exact ⟨_, by assumption, by assumption⟩))]; simp; done))
          exact ⟨k + 1, ⟨M_38, _, (hM_2.trans (hM_6.trans hM_38)), S, E.keep ⟨rfl, rfl, rfl, rfl, trivial⟩, by ((try clear S); (try clear E); first | assumption | omega | rfl | (simp; done) | (simp_all; done) | (simp [List.take_add_one, *]; done) | grind [List.take_add_one])⟩, by omega⟩
        · replace S := S.mono_heap (w' := World.drew _) rfl
          refine DG_end (C := fun x w => agree M_6 w) (bf := (fun i => [])) [1, 2, 3, 5, 8, 9, 10, 12] [1, 2, 3, 5, 8, 9, 10, 0, 6, 4, 7, 11, 12] (by kernel_rfl) (fun x hq => S.imm) ?_
          refine D_v E rfl rfl rfl (fun w hC => (R_move E rfl)) ?_
          clear E a; intro a E
          refine D_v E rfl rfl rfl (fun w hC => (R_move E rfl)) ?_
          clear E a; intro a E
          have S0 := S; clear S
          obtain ⟨M_47, hM_47, hz_48, S⟩ := S0.freezeI (by (first | omega | (simp; omega) | (simp; done) | (simp_all; omega) | grind))
          clear S0
          replace h0 := h0.le hM_47
          obtain ⟨v_49, sv_49, hv_49⟩ := hz_48.subv 0 j (by first | omega | (simp; done) | (simp; omega) | (simp_all; omega)) (by first | omega | (simp; done) | (simp; omega) | (simp_all; omega))
          simp only [List.drop_zero] at hv_49
          replace hv_49 : RdI M_47 v_49 ((sortI (l0.take k)).take j) := hv_49
          refine D_v E rfl rfl rfl (fun w hC => (R_sliceH E rfl rfl T22 sv_49 (by omega))) ?_
          clear E a; intro a E
          refine D_v E rfl rfl rfl (fun w hC => (R_move E rfl)) ?_
          clear E a; intro a E
          refine D_v E rfl rfl rfl (fun w hC => (R_move E rfl)) ?_
          clear E a; intro a E
          refine D_v E rfl rfl rfl (fun w hC => (R_move E rfl)) ?_
          clear E a; intro a E
          obtain ⟨v_50, sv_50, hv_50⟩ := hz_48.subv j ((sortI (l0.take k)).length) (by first | omega | (simp; done) | (simp; omega) | (simp_all; omega)) (by first | omega | (simp; done) | (simp; omega) | (simp_all; omega))
          simp only [List.take_length] at hv_50
          replace hv_50 : RdI M_47 v_50 ((sortI (l0.take k)).drop j) := hv_50
          refine D_v E rfl rfl rfl (fun w hC => (R_sliceL E rfl rfl T22 hz_48.len sv_50 (by omega))) ?_
          clear E a; intro a E
          refine D_x rfl rfl rfl (X_buildI (ys := []) E S rfl T22 rfl rfl rfl ?_)
          clear E a S; rintro a w v_51 E S
          refine ⟨fun x hq hb => (agree_le hM_47 S.imm), ?_⟩
          refine D_x rfl rfl rfl (X_buildI (ys := [x_4]) E S rfl T22 rfl rfl rfl ?_)
          clear E a S; rintro a w v_52 E S
          refine ⟨fun x hq hb => (agree_le hM_47 S.imm), ?_⟩
          replace S := S.front1
          refine D_x rfl rfl rfl (X_appendI (xs := ([] : List Int)) E S rfl rfl rfl T22 hv_49 (by first | omega | (simp; done) | (simp; omega) | (simp_all; omega)) ?_)
          clear E a S; rintro a w v_53 E S
          refine ⟨fun x hq hb => (agree_le hM_47 S.imm), ?_⟩
          replace S := S.front1
          refine D_x rfl rfl rfl (X_appendB (xs := [] ++ ((sortI (l0.take k)).take j)) (ys := [x_4]) E S rfl rfl rfl T22 (by first | omega | (simp; done) | (simp; omega) | (simp_all; omega)) ?_)
          clear E a S; rintro a w v_54 E S
          refine ⟨fun x hq hb => (agree_le hM_47 S.imm), ?_⟩
          refine D_x rfl rfl rfl (X_appendI (xs := ([] ++ ((sortI (l0.take k)).take j)) ++ [x_4]) E S rfl rfl rfl T22 hv_50 (by first | omega | (simp; done) | (simp; omega) | (simp_all; omega)) ?_)
          clear E a S; rintro a w v_55 E S
          refine ⟨fun x hq hb => (agree_le hM_47 S.imm), ?_⟩
          refine D_v E rfl rfl rfl (fun w hC => (R_assign E rfl)) ?_
          clear E a; intro a E
          refine D_end (NoP_n ?_)
          refine B_n ?_
          refine T_n ?_
          refine WP_region ?_
          refine S_v E rfl (R_addx (m := ((k + 1 : Nat) : Int)) E rfl rfl (by omega) (by omega)) rfl ?_
          clear E a; intro a E
          refine S_v E rfl (R_move E rfl) rfl ?_
          clear E a; intro a E
          refine WL_nil ?_
          refine T_n ?_
          replace S := S.re1 (l' := sortI (l0.take (k + 1))) (by first | (simp [sortI]; done) | (rw [sortI_take (by assumption), ← ins_at (j := j) (by omega) (by intro y hy; have h9 := hL1_1 y hy; rw [show l0[k]? = some _ by assumption] at h9; exact h9) (by first | (left; omega) | (right; exact ⟨_, by assumption, by assumption⟩))]; done) | (rw [sortI_take (by assumption), ← ins_at (j := j) (by omega) (by intro y hy; have h9 := hL1_1 y hy; rw [show l0[k]? = some _ by assumption] at h9; exact h9) (by first | (left; omega) | (right; exact ⟨_, by assumption, by assumption⟩))]; simp; done))
          exact ⟨k + 1, ⟨M_47, _, (hM_2.trans (hM_6.trans hM_47)), S, E.keep ⟨rfl, rfl, rfl, rfl, trivial⟩, by ((try clear S); (try clear E); first | assumption | omega | rfl | (simp; done) | (simp_all; done) | (simp [List.take_add_one, *]; done) | grind [List.take_add_one])⟩, by omega⟩
      · replace S := S.mono_heap (w' := World.drew _) rfl
        refine DG_end (C := fun x w => agree M_6 w) (bf := (fun i => [])) [1, 2, 3, 5, 8, 9, 10, 12] [1, 2, 3, 5, 8, 9, 10, 6, 0, 4, 7, 11, 12] (by kernel_rfl) (fun x hq => S.imm) ?_
        refine D_v E rfl rfl rfl (fun w hC => (R_move E rfl)) ?_
        clear E a; intro a E
        refine D_v E rfl rfl rfl (fun w hC => (R_move E rfl)) ?_
        clear E a; intro a E
        have S0 := S; clear S
        obtain ⟨M_56, hM_56, hz_57, S⟩ := S0.freezeI (by (first | omega | (simp; omega) | (simp; done) | (simp_all; omega) | grind))
        clear S0
        replace h0 := h0.le hM_56
        obtain ⟨v_58, sv_58, hv_58⟩ := hz_57.subv 0 j (by first | omega | (simp; done) | (simp; omega) | (simp_all; omega)) (by first | omega | (simp; done) | (simp; omega) | (simp_all; omega))
        simp only [List.drop_zero] at hv_58
        replace hv_58 : RdI M_56 v_58 ((sortI (l0.take k)).take j) := hv_58
        refine D_v E rfl rfl rfl (fun w hC => (R_sliceH E rfl rfl T22 sv_58 (by omega))) ?_
        clear E a; intro a E
        refine D_v E rfl rfl rfl (fun w hC => (R_move E rfl)) ?_
        clear E a; intro a E
        refine D_v E rfl rfl rfl (fun w hC => (R_move E rfl)) ?_
        clear E a; intro a E
        refine D_v E rfl rfl rfl (fun w hC => (R_move E rfl)) ?_
        clear E a; intro a E
        obtain ⟨v_59, sv_59, hv_59⟩ := hz_57.subv j ((sortI (l0.take k)).length) (by first | omega | (simp; done) | (simp; omega) | (simp_all; omega)) (by first | omega | (simp; done) | (simp; omega) | (simp_all; omega))
        simp only [List.take_length] at hv_59
        replace hv_59 : RdI M_56 v_59 ((sortI (l0.take k)).drop j) := hv_59
        refine D_v E rfl rfl rfl (fun w hC => (R_sliceL E rfl rfl T22 hz_57.len sv_59 (by omega))) ?_
        clear E a; intro a E
        refine D_x rfl rfl rfl (X_buildI (ys := [x_4]) E S rfl T22 rfl rfl rfl ?_)
        clear E a S; rintro a w v_60 E S
        refine ⟨fun x hq hb => (agree_le hM_56 S.imm), ?_⟩
        refine D_x rfl rfl rfl (X_buildI (ys := []) E S rfl T22 rfl rfl rfl ?_)
        clear E a S; rintro a w v_61 E S
        refine ⟨fun x hq hb => (agree_le hM_56 S.imm), ?_⟩
        refine D_x rfl rfl rfl (X_appendI (xs := ([] : List Int)) E S rfl rfl rfl T22 hv_58 (by first | omega | (simp; done) | (simp; omega) | (simp_all; omega)) ?_)
        clear E a S; rintro a w v_62 E S
        refine ⟨fun x hq hb => (agree_le hM_56 S.imm), ?_⟩
        replace S := S.front1
        refine D_x rfl rfl rfl (X_appendB (xs := [] ++ ((sortI (l0.take k)).take j)) (ys := [x_4]) E S rfl rfl rfl T22 (by first | omega | (simp; done) | (simp; omega) | (simp_all; omega)) ?_)
        clear E a S; rintro a w v_63 E S
        refine ⟨fun x hq hb => (agree_le hM_56 S.imm), ?_⟩
        refine D_x rfl rfl rfl (X_appendI (xs := ([] ++ ((sortI (l0.take k)).take j)) ++ [x_4]) E S rfl rfl rfl T22 hv_59 (by first | omega | (simp; done) | (simp; omega) | (simp_all; omega)) ?_)
        clear E a S; rintro a w v_64 E S
        refine ⟨fun x hq hb => (agree_le hM_56 S.imm), ?_⟩
        refine D_v E rfl rfl rfl (fun w hC => (R_assign E rfl)) ?_
        clear E a; intro a E
        refine D_end (NoP_n ?_)
        refine B_n ?_
        refine T_n ?_
        refine WP_region ?_
        refine S_v E rfl (R_addx (m := ((k + 1 : Nat) : Int)) E rfl rfl (by omega) (by omega)) rfl ?_
        clear E a; intro a E
        refine S_v E rfl (R_move E rfl) rfl ?_
        clear E a; intro a E
        refine WL_nil ?_
        refine T_n ?_
        replace S := S.re1 (l' := sortI (l0.take (k + 1))) (by first | (simp [sortI]; done) | (rw [sortI_take (by assumption), ← ins_at (j := j) (by omega) (by intro y hy; have h9 := hL1_1 y hy; rw [show l0[k]? = some _ by assumption] at h9; exact h9) (by first | (left; omega) | (right; exact ⟨_, by assumption, by assumption⟩))]; done) | (rw [sortI_take (by assumption), ← ins_at (j := j) (by omega) (by intro y hy; have h9 := hL1_1 y hy; rw [show l0[k]? = some _ by assumption] at h9; exact h9) (by first | (left; omega) | (right; exact ⟨_, by assumption, by assumption⟩))]; simp; done))
        exact ⟨k + 1, ⟨M_56, _, (hM_2.trans (hM_6.trans hM_56)), S, E.keep ⟨rfl, rfl, rfl, rfl, trivial⟩, by ((try clear S); (try clear E); first | assumption | omega | rfl | (simp; done) | (simp_all; done) | (simp [List.take_add_one, *]; done) | grind [List.take_add_one])⟩, by omega⟩
  · replace hc_3 := of_decide_eq_false hc_3
    refine WP_exit ?_
    refine T_x ?_
    refine T_x ?_
    refine B_x ?_
    refine T_n ?_
    refine WP_seq ?_
    refine WP_region ?_
    refine S_v E rfl (R_move E rfl) rfl ?_
    clear E a; intro a E
    refine S_v E rfl (R_assign E rfl) rfl ?_
    clear E a; intro a E
    refine WL_nil ?_
    refine T_n ?_
    refine WP_ret ?_
    have S0 := S; clear S
    obtain ⟨M_65, hM_65, hz_66, S⟩ := S0.freezeI (by (first | omega | (simp; omega) | (simp; done) | (simp_all; omega) | grind))
    clear S0
    replace h0 := h0.le hM_65
    exact F_ret1 E Try.results86 rfl ⟨_, rfl, M_65, (hM_2.trans hM_65), (by rw [show (sortI l0) = (sortI (l0.take k)) from by (rw [List.take_of_length_le (by omega)])]; exact hz_66), S⟩

set_option maxRecDepth 100000 in
set_option maxHeartbeats 4000000 in
theorem spec_Keyify {M : Hp} {v0 : Value} {l0 : List Int} (h0 : RdI M v0 l0) (hr0 : (∀ x ∈ l0, -9223372036854775808 ≤ x ∧ x ≤ 9223372036854775807)) (hb : l0.length ≤ 1000000000000) :
    Pu Try.prog (.func (.func 57) #[] #[]) M [v0] (fun r M' => RdI M' r (setI l0)) := by
  refine Pu_enter Try.func57 rfl Try.ntmps57 rfl Try.call57 ?_
  intro a w M1 H hM1 S E
  replace h0 := h0.le hM1
  have b0 := h0.bound
  have hkl := keyL_le' l0
  refine WP_seq ?_
  refine WP_region ?_
  refine S_v E rfl (R_assign E rfl) rfl ?_
  clear E a; intro a E
  refine WL_nil ?_
  refine T_n ?_
  refine WP_seq ?_
  refine WP_region ?_
  refine S_v E rfl (R_move E rfl) rfl ?_
  clear E a; intro a E
  refine S_x (X_pu E S rfl rfl rfl (spec_Uniq h0 (by first | assumption | exact (fun x hx => by rcases List.mem_append.1 hx with h | h; exact hr0 x h; exact hr1 x h)) (by (first | omega | (simp; omega) | (simp; done) | (simp_all; omega) | grind))) (Hp.le.refl _) ?_)
  clear E a S; rintro a v_2 w M_1 hM_1 hv_2 S E
  replace h0 := h0.le hM_1
  refine S_x (X_pu E S rfl rfl rfl (spec_Sorted hv_2 (by (first | omega | (simp; omega) | (simp; done) | (simp_all; omega) | grind))) (Hp.le.refl _) ?_)
  clear E a S; rintro a v_4 w M_3 hM_3 hv_4 S E
  replace h0 := h0.le hM_3
  replace hv_2 := hv_2.le hM_3
  refine S_v E rfl (R_assign E rfl) rfl ?_
  clear E a; intro a E
  refine WL_nil ?_
  refine T_n ?_
  refine WP_ret ?_
  exact F_ret1 E Try.results57 rfl ⟨_, rfl, M_3, (hM_1.trans hM_3), (by rw [show (setI l0) = (sortI (keyL l0)) from by (first | exact (sortI_key _).symm | exact sortI_key _)]; exact hv_4), S⟩

set_option maxRecDepth 100000 in
set_option maxHeartbeats 4000000 in
theorem spec_GroupByMap {M : Hp} {v0 : Value} {l0 : List Int} (h0 : RdI M v0 l0){kk1 kn1 : Int} (gk1 : -9223372036854775808 ≤ kn1 ∧ kn1 ≤ 9223372036854775807) {kk2 kn2 : Int} (gk2 : -9223372036854775808 ≤ kn2 ∧ kn2 ≤ 9223372036854775807) (hb : l0.length ≤ 1000000000000) (hr0 : (∀ x ∈ l0, -9223372036854775808 ≤ x ∧ x ≤ 9223372036854775807)) :
    Pu Try.prog (.func (.func 26) #[] #[]) M [v0, .agg #[.int .i64 kk1, .int .i64 kn1], .agg #[.int .i64 kk2, .int .i64 kn2]] (fun r M' => RdS 2 RG2 M' r (grpS (fun x => (keyAt kk1 kn1 x 0, keyAt kk2 kn2 x 0)) l0)) := by
  refine Pu_enter Try.func26 rfl Try.ntmps26 rfl Try.call26 ?_
  intro a w M1 H hM1 S E
  replace h0 := h0.le hM1
  have b0 := h0.bound
  have hsl := (setI_spec (l0.map (fun x => keyAt kk1 kn1 x 0))).2.2
  rw [List.length_map] at hsl
  refine WP_seq ?_
  refine WP_region ?_
  refine S_x (X_box (cs := #[.int .i64 kk1, .int .i64 kn1]) E S rfl rfl rfl ?_)
  clear E a S; rintro a w b_1 E S
  obtain ⟨M_2, hM_2, hb_1, S⟩ := S.freezeB
  replace h0 := h0.le hM_2
  refine S_x (X_box (cs := #[.int .i64 kk2, .int .i64 kn2]) E S rfl rfl rfl ?_)
  clear E a S; rintro a w b_3 E S
  obtain ⟨M_4, hM_4, hb_3, S⟩ := S.freezeB
  replace h0 := h0.le hM_4
  replace hb_1 := hM_4.2 _ _ hb_1
  refine S_v E rfl (R_assign E rfl) rfl ?_
  clear E a; intro a E
  refine WL_nil ?_
  refine T_n ?_
  refine WP_seq ?_
  refine WP_region ?_
  refine S_v E rfl (R_assign E rfl) rfl ?_
  clear E a; intro a E
  refine WL_nil ?_
  refine T_n ?_
  refine WP_seq ?_
  refine WP_region ?_
  refine S_v E rfl (R_move E rfl) rfl ?_
  clear E a; intro a E
  refine S_v E rfl (R_loadGM E rfl (Try.isAgg37 _) (Try.sizeOf37 _) S.imm hb_1) rfl ?_
  clear E a; intro a E
  refine S_x (X_pu E S rfl rfl rfl (spec_keys h0 (by omega) (by first | assumption | exact (fun x hx => by rcases List.mem_append.1 hx with h | h; exact hr0 x h; exact hr1 x h)) (by (first | omega | (simp; omega) | (simp; done) | (simp_all; omega) | grind))) (Hp.le.refl _) ?_)
  clear E a S; rintro a v_6 w M_5 hM_5 hv_6 S E
  replace h0 := h0.le hM_5
  replace hb_1 := hM_5.2 _ _ hb_1
  replace hb_3 := hM_5.2 _ _ hb_3
  refine S_v E rfl (R_assign E rfl) rfl ?_
  clear E a; intro a E
  refine WL_nil ?_
  refine T_n ?_
  refine WP_seq ?_
  refine WP_seq ?_
  refine WP_region ?_
  refine S_v E rfl (R_move E rfl) rfl ?_
  clear E a; intro a E
  refine S_x (X_pu E S rfl rfl rfl (spec_Keyify hv_6 (by first | assumption | exact hr0 | exact keys_rng (by omega) hr0) (by first | (rw [List.length_map]; omega) | (first | omega | (simp; omega) | (simp; done) | (simp_all; omega) | grind))) (Hp.le.refl _) ?_)
  clear E a S; rintro a v_8 w M_7 hM_7 hv_8 S E
  replace h0 := h0.le hM_7
  replace hb_1 := hM_7.2 _ _ hb_1
  replace hb_3 := hM_7.2 _ _ hb_3
  replace hv_6 := hv_6.le hM_7
  refine S_v E rfl (R_lenV E rfl T22 hv_8.len) rfl ?_
  clear E a; intro a E
  refine S_v E rfl (R_move E rfl) rfl ?_
  clear E a; intro a E
  refine WL_nil ?_
  refine T_n ?_
  refine WP_block ?_
  replace S : St w M_7 (OwnC 77 2 (.slice none 0 0) ([] : List (Int × List Int)).length [] :: _) := S.ownNil
  have hr_10 : RowsR RG2 2 M_7 ([] : List (Int × List Int)) [] := RowsR.nil
  have hre : ([] : List (Int × List Int)) = ((setI (l0.map (fun x => keyAt kk1 kn1 x 0))).take 0).map (fun key => (key, grpO (fun x => (keyAt kk1 kn1 x 0, keyAt kk2 kn2 x 0)) key l0)) := by first | (simp; done) | exact mpG_snoc (by assumption) (by rw [List.take_of_length_le (l := l0) (i := m) (by omega)])
  replace S := S.reR hre
  replace hr_10 := hr_10.eq hre
  clear hre
  refine WP_loop (γ := Nat) (fun (k : Nat) a w => ∃ (M_11 : Hp) (u7 : Value) (xs7 : List Value), Hp.le M_7 M_11 ∧ St w M_11 (OwnC 77 2 u7 (((setI (l0.map (fun x => keyAt kk1 kn1 x 0))).take k).map (fun key => (key, grpO (fun x => (keyAt kk1 kn1 x 0, keyAt kk2 kn2 x 0)) key l0))).length xs7 :: H) ∧ Env a 54 [] [(0, v0), (5, .pointer (some ⟨b_3, 0, none⟩)), (7, u7), (8, v_6), (17, v_8), (18, .int .i64 (((setI ((l0).map (fun x => keyAt kk1 kn1 x 0))).length : Nat) : Int)), (19, .int .i64 ((k : Nat) : Int))] ∧ (k ≤ (setI ((l0).map (fun x => keyAt kk1 kn1 x 0))).length) ∧ RowsR RG2 2 M_11 (((setI (l0.map (fun x => keyAt kk1 kn1 x 0))).take k).map (fun key => (key, grpO (fun x => (keyAt kk1 kn1 x 0, keyAt kk2 kn2 x 0)) key l0))) xs7) (fun k => ((setI ((l0).map (fun x => keyAt kk1 kn1 x 0))).length) - k) 0 ⟨M_7, _, _, Hp.le.refl _, S, E.keep ⟨rfl, rfl, rfl, rfl, rfl, rfl, rfl, trivial⟩, by ((try clear S); (try clear E); first | assumption | omega | rfl | (simp; done) | (simp_all; done) | (simp [List.take_add_one, *]; done) | grind [List.take_add_one]), hr_10⟩ ?_
  try clear E
  try clear S
  try clear a
  try clear w
  rintro k a w ⟨M_11, u7, xs7, hM_11, S, E, hL0_0, hr7⟩
  replace h0 := h0.le hM_11
  replace hb_1 := hM_11.2 _ _ hb_1
  replace hb_3 := hM_11.2 _ _ hb_3
  replace hv_6 := hv_6.le hM_11
  replace hv_8 := hv_8.le hM_11
  refine WP_seq ?_
  refine WP_region ?_
  refine S_v E rfl (R_lss E rfl rfl) rfl ?_
  clear E a; intro a E
  refine WL_nil ?_
  refine T_n ?_
  refine WP_seq ?_
  refine WP_cond E rfl (fun hc_12 => ?_) (fun hc_12 => ?_)
  · replace hc_12 := of_decide_eq_true hc_12
    refine WP_skip ?_
    refine T_n ?_
    refine WP_seq ?_
    refine WP_block ?_
    refine WP_seq ?_
    refine WP_region ?_
    obtain ⟨x_13, hx_13⟩ : ∃ x, (setI ((l0).map (fun x => keyAt kk1 kn1 x 0)))[k]? = some x := ⟨_, List.getElem?_eq_getElem (by first | omega | (simp; done) | (simp; omega) | (simp_all; omega))⟩
    obtain ⟨p_14, hp_14, qp_14⟩ := hv_8.at hx_13
    refine S_v E rfl (R_idx E rfl rfl T22 hp_14 rfl) rfl ?_
    clear E a; intro a E
    refine S_v E rfl (R_loadM E rfl Try.isAgg3 S.imm qp_14) rfl ?_
    clear E a; intro a E
    refine S_v E rfl (R_assign E rfl) rfl ?_
    clear E a; intro a E
    refine WL_nil ?_
    refine T_n ?_
    refine WP_seq ?_
    refine WP_region ?_
    refine S_v E rfl (R_move E rfl) rfl ?_
    clear E a; intro a E
    refine S_v E rfl (R_build (u := .agg #[.int .i64 x_13, .slice none 0 0]) (vs := [.int .i64 x_13]) E rfl (fun w => FB77_0_i x_13 w)) rfl ?_
    clear E a; intro a E
    refine S_x (X_alloc (cs := #[.int .i64 0, .slice none 0 0]) E S rfl Try.zeroValue77 rfl ?_)
    clear E a S; rintro a w b_15 E S
    refine S_x0 (X_storeG (us := [.int .i64 x_13, .slice none 0 0]) E S rfl rfl (Try.sizeOf77 _) rfl (by intro u hu; simp only [List.mem_cons, List.not_mem_nil, or_false] at hu; rcases hu with rfl | rfl <;> first | exact rfl | exact rfl) ?_)
    clear E a S; rintro a w E S
    replace S : St w M_11 (blk b_15 (.cells #[.int .i64 x_13, .slice none 0 0] 77) :: _) := S
    refine WL_nil ?_
    refine T_n ?_
    refine WP_seq ?_
    refine WP_seq ?_
    refine WP_region ?_
    refine S_v E rfl (R_move E rfl) rfl ?_
    clear E a; intro a E
    refine S_v E rfl (R_lenV E rfl T22 h0.len) rfl ?_
    clear E a; intro a E
    refine S_v E rfl (R_move E rfl) rfl ?_
    clear E a; intro a E
    refine WL_nil ?_
    refine T_n ?_
    refine WP_block ?_
    replace S := (S.ownNil (e := 3) (sz := 1)).made0
    replace S := S.re1 (l' := grpO (fun x => (keyAt kk1 kn1 x 0, keyAt kk2 kn2 x 0)) x_13 (l0.take 0)) (by first | (simp [grpO]; done) | exact grpO_yesK (f := (fun x => (keyAt kk1 kn1 x 0, keyAt kk2 kn2 x 0))) (by assumption) (by assumption) (by assumption) | exact grpO_noK (f := (fun x => (keyAt kk1 kn1 x 0, keyAt kk2 kn2 x 0))) (by assumption) (by assumption))
    refine WP_loop (γ := Nat) (fun (m : Nat) a w => ∃ (M_17 : Hp) (u11 : Value), Hp.le M_11 M_17 ∧ St w M_17 (OwnI 3 u11 (grpO (fun x => (keyAt kk1 kn1 x 0, keyAt kk2 kn2 x 0)) x_13 (l0.take m)) :: blk b_15 (.cells #[.int .i64 x_13, u11] 77) :: OwnC 77 2 u7 (((setI (l0.map (fun x => keyAt kk1 kn1 x 0))).take k).map (fun key => (key, grpO (fun x => (keyAt kk1 kn1 x 0, keyAt kk2 kn2 x 0)) key l0))).length xs7 :: H) ∧ Env a 54 [] [(0, v0), (5, .pointer (some ⟨b_3, 0, none⟩)), (7, u7), (8, v_6), (10, .int .i64 x_13), (11, .pointer (some ⟨b_15, 0, none⟩)), (17, v_8), (18, .int .i64 (((setI ((l0).map (fun x => keyAt kk1 kn1 x 0))).length : Nat) : Int)), (19, .int .i64 ((k : Nat) : Int)), (26, .int .i64 (((l0).length : Nat) : Int)), (27, .int .i64 ((m : Nat) : Int))] ∧ (m ≤ (l0).length)) (fun m => ((l0).length) - m) 0 ⟨M_11, _, Hp.le.refl _, S, E.keep ⟨rfl, rfl, rfl, rfl, rfl, rfl, rfl, rfl, rfl, rfl, rfl, trivial⟩, by ((try clear S); (try clear E); first | assumption | omega | rfl | (simp; done) | (simp_all; done) | (simp [List.take_add_one, *]; done) | grind [List.take_add_one])⟩ ?_
    try clear E
    try clear S
    try clear a
    try clear w
    rintro m a w ⟨M_17, u11, hM_17, S, E, hL1_0⟩
    replace h0 := h0.le hM_17
    replace hb_1 := hM_17.2 _ _ hb_1
    replace hb_3 := hM_17.2 _ _ hb_3
    replace hv_6 := hv_6.le hM_17
    replace hv_8 := hv_8.le hM_17
    replace hr7 := hr7.le RG2_mono hM_17
    refine WP_seq ?_
    refine WP_region ?_
    refine S_v E rfl (R_lss E rfl rfl) rfl ?_
    clear E a; intro a E
    refine WL_nil ?_
    refine T_n ?_
    refine WP_seq ?_
    refine WP_cond E rfl (fun hc_18 => ?_) (fun hc_18 => ?_)
    · replace hc_18 := of_decide_eq_true hc_18
      refine WP_skip ?_
      refine T_n ?_
      refine WP_seq ?_
      refine WP_block ?_
      refine WP_seq ?_
      refine WP_region ?_
      refine S_v E rfl (R_move E rfl) rfl ?_
      clear E a; intro a E
      refine S_v E rfl (R_assign E rfl) rfl ?_
      clear E a; intro a E
      refine WL_nil ?_
      refine T_n ?_
      refine WP_seq ?_
      refine WP_region ?_
      refine S_v E rfl (R_move E rfl) rfl ?_
      clear E a; intro a E
      refine S_v E rfl (R_move E rfl) rfl ?_
      clear E a; intro a E
      obtain ⟨x_19, hx_19⟩ : ∃ x, ((l0).map (fun x => keyAt kk1 kn1 x 0))[m]? = some x := ⟨_, List.getElem?_eq_getElem (by first | omega | (simp; done) | (simp; omega) | (simp_all; omega))⟩
      obtain ⟨p_20, hp_20, qp_20⟩ := hv_6.at hx_19
      refine S_v E rfl (R_idx E rfl rfl T22 hp_20 rfl) rfl ?_
      clear E a; intro a E
      refine S_v E rfl (R_loadM E rfl Try.isAgg3 S.imm qp_20) rfl ?_
      clear E a; intro a E
      refine S_v E rfl (R_move E rfl) rfl ?_
      clear E a; intro a E
      refine S_v E rfl (R_eql E rfl rfl) rfl ?_
      clear E a; intro a E
      refine WL_nil ?_
      refine T_n ?_
      refine WP_cond E rfl (fun hc_21 => ?_) (fun hc_21 => ?_)
      · replace hc_21 := of_decide_eq_true hc_21
        have hb_3k21 := hb_3
        have qp_20k21 := qp_20
        have h0k21 := h0
        replace S := S.mono_heap (w' := World.drew _) rfl
        obtain ⟨x_22, hx_22⟩ : ∃ x, (l0)[m]? = some x := ⟨_, List.getElem?_eq_getElem (by first | omega | (simp; done) | (simp; omega) | (simp_all; omega))⟩
        obtain ⟨p_23, hp_23, qp_23⟩ := h0.at hx_22
        refine WP_drawn (C := fun x w => agree M_17 w ∧ (x = 1 → w.heap[b_15]? = some (.cells #[.int .i64 x_13, u11] 77))) (bf := (fun i => bif Nat.beq i 7 then [] else bif Nat.beq i 8 then [] else bif Nat.beq i 9 then [1] else bif Nat.beq i 11 then [1] else [])) [0, 1, 2, 3, 4, 5, 6, 10] [0, 1, 2, 3, 4, 5, 6, 7, 8, 9, 10, 11] Try.mixed (by kernel_rfl) (fun x hq => ⟨S.imm, fun _ => (S.mem (.tail _ (.head _)))⟩) ?_
        refine D_v E rfl rfl rfl (fun w hC => (R_fieldAddr E rfl (FA77_1 _))) ?_
        clear E a; intro a E
        refine D_v E rfl rfl rfl (fun w hC => (R_load E rfl (Try.isAgg22 _) (cell_blkf (hC.2 rfl) rfl))) ?_
        clear E a; intro a E
        refine D_v E rfl rfl rfl (fun w hC => (R_loadGM E rfl (Try.isAgg37 _) (Try.sizeOf37 _) hC.1 hb_3k21)) ?_
        clear E a; intro a E
        refine D_v E rfl rfl rfl (fun w hC => (R_move E rfl)) ?_
        clear E a; intro a E
        refine D_v E rfl rfl rfl (fun w hC => (R_move E rfl)) ?_
        clear E a; intro a E
        obtain ⟨p_24, hp_24, qp_24⟩ := h0.at hx_22
        refine D_v E rfl rfl rfl (fun w hC => (R_idx E rfl rfl T22 hp_24 rfl)) ?_
        clear E a; intro a E
        refine D_v E rfl rfl rfl (fun w hC => (R_loadM E rfl Try.isAgg3 hC.1 qp_24)) ?_
        clear E a; intro a E
        refine D_x rfl rfl rfl (X_pu E S rfl rfl rfl (SKey_Of_d (by omega) (by first | omega | assumption | exact hr0 _ (List.mem_of_getElem? (by assumption)) | exact zi2_rng hr0 (by assumption) | exact (ent_rng hr0 _ (List.mem_of_getElem? (by assumption))).1 | exact (ent_rng hr0 _ (List.mem_of_getElem? (by assumption))).2)) (Hp.le.refl _) ?_)
        clear E a S; rintro a _ w M_25 hM_25 rfl S E
        replace h0 := h0.le hM_25
        replace hb_1 := hM_25.2 _ _ hb_1
        replace hb_3 := hM_25.2 _ _ hb_3
        replace hv_6 := hv_6.le hM_25
        replace hv_8 := hv_8.le hM_25
        replace hr7 := hr7.le RG2_mono hM_25
        refine ⟨fun x hq hb => ⟨(agree_le hM_25 S.imm), (fun _ => (S.mem (.tail _ (.head _))))⟩, ?_⟩
        refine D_x rfl rfl rfl (X_buildI (ys := [keyAt kk2 kn2 x_22 0]) E S rfl T22 rfl rfl rfl ?_)
        clear E a S; rintro a w v_26 E S
        refine ⟨fun x hq hb => ⟨(agree_le hM_25 S.imm), (fun _ => (S.mem (.tail _ (.tail _ (.head _)))))⟩, ?_⟩
        replace S := S.front1
        replace S := S.front1
        refine D_x rfl rfl rfl (X_appendB (xs := grpO (fun x => (keyAt kk1 kn1 x 0, keyAt kk2 kn2 x 0)) x_13 (l0.take m)) (ys := [keyAt kk2 kn2 x_22 0]) E S rfl rfl rfl T22 (by (first | omega | (simp only [List.length_cons, List.length_nil, List.length_map, List.length_take]; first | omega | (refine Nat.le_trans (Nat.mul_le_mul_right _ (Nat.add_le_add_right (Nat.le_trans (grpO_len _ _ _) (List.length_take_le ..)) _)) ?_; omega) | (refine Nat.le_trans (Nat.add_le_add_right (Nat.le_trans (grpO_len _ _ _) (List.length_take_le ..)) _) ?_; omega)) | (simp only [List.length_cons, List.length_nil, List.length_map, List.length_take] at *; omega))) ?_)
        clear E a S; rintro a w v_27 E S
        refine ⟨fun x hq hb => ⟨(agree_le hM_25 S.imm), (fun e => by subst e; exact absurd hb (by decide))⟩, ?_⟩
        refine D_v E rfl rfl rfl (fun w hC => (R_fieldAddr E rfl (FA77_1 _))) ?_
        clear E a; intro a E
        have ho_28 := S.oneI
        replace S := S.front1
        refine D_x rfl rfl rfl (X_storeB (f := 1) E S rfl rfl (Try.sizeOf22 _) ho_28 rfl ?_)
        clear E a S; rintro a w E S
        replace S : St w M_25 (blk b_15 (.cells #[.int .i64 x_13, v_27] 77) :: _) := S
        refine ⟨fun x hq hb => ⟨(agree_le hM_25 S.imm), (fun e => by subst e; exact absurd hb (by decide))⟩, ?_⟩
        refine D_end (NoP_n ?_)
        refine B_n ?_
        refine T_n ?_
        refine WP_region ?_
        refine S_v E rfl (R_addx (m := ((m + 1 : Nat) : Int)) E rfl rfl (by omega) (by omega)) rfl ?_
        clear E a; intro a E
        refine S_v E rfl (R_move E rfl) rfl ?_
        clear E a; intro a E
        refine WL_nil ?_
        refine T_n ?_
        replace S := S.front2
        replace S := S.front1
        replace S := S.front2
        replace S := S.re1 (l' := grpO (fun x => (keyAt kk1 kn1 x 0, keyAt kk2 kn2 x 0)) x_13 (l0.take (m + 1))) (by first | (simp [grpO]; done) | exact grpO_yesK (f := (fun x => (keyAt kk1 kn1 x 0, keyAt kk2 kn2 x 0))) (by assumption) (by assumption) (by assumption) | exact grpO_noK (f := (fun x => (keyAt kk1 kn1 x 0, keyAt kk2 kn2 x 0))) (by assumption) (by assumption))
        exact ⟨m + 1, ⟨M_25, _, (hM_17.trans hM_25), S, E.keep ⟨rfl, rfl, rfl, rfl, rfl, rfl, rfl, rfl, rfl, rfl, rfl, trivial⟩, by ((try clear S); (try clear E); first | assumption | omega | rfl | (simp; done) | (simp_all; done) | (simp [List.take_add_one, *]; done) | grind [List.take_add_one])⟩, by omega⟩
      · replace hc_21 := of_decide_eq_false hc_21
        refine WP_skip ?_
        refine B_n ?_
        refine T_n ?_
        refine WP_region ?_
        refine S_v E rfl (R_addx (m := ((m + 1 : Nat) : Int)) E rfl rfl (by omega) (by omega)) rfl ?_
        clear E a; intro a E
        refine S_v E rfl (R_move E rfl) rfl ?_
        clear E a; intro a E
        refine WL_nil ?_
        refine T_n ?_
        replace S := S.re1 (l' := grpO (fun x => (keyAt kk1 kn1 x 0, keyAt kk2 kn2 x 0)) x_13 (l0.take (m + 1))) (by first | (simp [grpO]; done) | exact grpO_yesK (f := (fun x => (keyAt kk1 kn1 x 0, keyAt kk2 kn2 x 0))) (by assumption) (by assumption) (by assumption) | exact grpO_noK (f := (fun x => (keyAt kk1 kn1 x 0, keyAt kk2 kn2 x 0))) (by assumption) (by assumption))
        exact ⟨m + 1, ⟨M_17, _, hM_17, S, E.keep ⟨rfl, rfl, rfl, rfl, rfl, rfl, rfl, rfl, rfl, rfl, rfl, trivial⟩, by ((try clear S); (try clear E); first | assumption | omega | rfl | (simp; done) | (simp_all; done) | (simp [List.take_add_one, *]; done) | grind [List.take_add_one])⟩, by omega⟩
    · replace hc_18 := of_decide_eq_false hc_18
      refine WP_exit ?_
      refine T_x ?_
      refine T_x ?_
      refine B_x ?_
      refine T_n ?_
      refine WP_region ?_
      refine S_v E rfl (R_move E rfl) rfl ?_
      clear E a; intro a E
      have S0 := S; clear S
      obtain ⟨M_29, hM_29, hz_30, S⟩ := S0.freezeI (by (first | omega | (simp; done) | exact Nat.le_trans (grpO_len _ _ _) (by first | omega | (rw [List.length_take]; omega)) | (simp only [List.length_map, List.length_take] at *; omega) | (refine Nat.le_trans (Nat.mul_le_mul_right _ (Nat.le_trans (grpO_len _ _ _) (List.length_take_le ..))) ?_; omega)))
      clear S0
      replace h0 := h0.le hM_29
      replace hb_1 := hM_29.2 _ _ hb_1
      replace hb_3 := hM_29.2 _ _ hb_3
      replace hv_6 := hv_6.le hM_29
      replace hv_8 := hv_8.le hM_29
      replace hr7 := hr7.le RG2_mono hM_29
      have S0 := S; clear S
      obtain ⟨M_31, hM_31, hb_32, S⟩ := S0.freezeB
      clear S0
      replace h0 := h0.le hM_31
      replace hb_1 := hM_31.2 _ _ hb_1
      replace hb_3 := hM_31.2 _ _ hb_3
      replace hv_6 := hv_6.le hM_31
      replace hv_8 := hv_8.le hM_31
      replace hr7 := hr7.le RG2_mono hM_31
      replace hz_30 := hz_30.le hM_31
      refine S_v E rfl (R_loadGM E rfl (Try.isAgg77 _) (Try.sizeOf77 _) S.imm hb_32) rfl ?_
      clear E a; intro a E
      refine S_x (X_buildA1 (R := RG2) (cs := [.int .i64 x_13, u11]) (x0 := (x_13, grpO (fun x => (keyAt kk1 kn1 x 0, keyAt kk2 kn2 x 0)) x_13 (l0.take m))) RG2_mono E S rfl T48 rfl rfl rfl ⟨_, rfl, hz_30⟩ ?_)
      clear E a S; rintro a v_33 w M_34 hM_34 hv_33 S E
      replace h0 := h0.le hM_34
      replace hb_1 := hM_34.2 _ _ hb_1
      replace hb_3 := hM_34.2 _ _ hb_3
      replace hv_6 := hv_6.le hM_34
      replace hv_8 := hv_8.le hM_34
      replace hr7 := hr7.le RG2_mono hM_34
      replace hz_30 := hz_30.le hM_34
      replace hb_32 := hM_34.2 _ _ hb_32
      refine S_x (X_appendR (R := RG2) (zs := ((setI (l0.map (fun x => keyAt kk1 kn1 x 0))).take k).map (fun key => (key, grpO (fun x => (keyAt kk1 kn1 x 0, keyAt kk2 kn2 x 0)) key l0))) (ys := [(x_13, grpO (fun x => (keyAt kk1 kn1 x 0, keyAt kk2 kn2 x 0)) x_13 (l0.take m))]) E S hr7 rfl rfl rfl T48 hv_33 one_RG2 (by (first | omega | (simp only [List.length_cons, List.length_nil, List.length_map, List.length_take]; first | omega | (refine Nat.le_trans (Nat.mul_le_mul_right _ (Nat.add_le_add_right (Nat.le_trans (grpO_len _ _ _) (List.length_take_le ..)) _)) ?_; omega) | (refine Nat.le_trans (Nat.add_le_add_right (Nat.le_trans (grpO_len _ _ _) (List.length_take_le ..)) _) ?_; omega)) | (simp only [List.length_cons, List.length_nil, List.length_map, List.length_take] at *; omega))) (by (first | omega | (simp only [List.length_cons, List.length_nil, List.length_map, List.length_take]; first | omega | (refine Nat.le_trans (Nat.mul_le_mul_right _ (Nat.add_le_add_right (Nat.le_trans (grpO_len _ _ _) (List.length_take_le ..)) _)) ?_; omega) | (refine Nat.le_trans (Nat.add_le_add_right (Nat.le_trans (grpO_len _ _ _) (List.length_take_le ..)) _) ?_; omega)) | (simp only [List.length_cons, List.length_nil, List.length_map, List.length_take] at *; omega))) ?_)
      clear E a S; rintro a w v_35 xs_36 E hr_37 S
      refine S_v E rfl (R_assign E rfl) rfl ?_
      clear E a; intro a E
      refine WL_nil ?_
      refine B_n ?_
      refine T_n ?_
      refine WP_region ?_
      refine S_v E rfl (R_addx (m := ((k + 1 : Nat) : Int)) E rfl rfl (by omega) (by omega)) rfl ?_
      clear E a; intro a E
      refine S_v E rfl (R_move E rfl) rfl ?_
      clear E a; intro a E
      refine WL_nil ?_
      refine T_n ?_
      have hre : (((setI (l0.map (fun x => keyAt kk1 kn1 x 0))).take k).map (fun key => (key, grpO (fun x => (keyAt kk1 kn1 x 0, keyAt kk2 kn2 x 0)) key l0))) ++ [(x_13, grpO (fun x => (keyAt kk1 kn1 x 0, keyAt kk2 kn2 x 0)) x_13 (l0.take m))] = ((setI (l0.map (fun x => keyAt kk1 kn1 x 0))).take (k + 1)).map (fun key => (key, grpO (fun x => (keyAt kk1 kn1 x 0, keyAt kk2 kn2 x 0)) key l0)) := by first | (simp; done) | exact mpG_snoc (by assumption) (by rw [List.take_of_length_le (l := l0) (i := m) (by omega)])
      replace S := S.reR hre
      replace hr_37 := hr_37.eq hre
      clear hre
      exact ⟨k + 1, ⟨M_34, _, _, (hM_11.trans (hM_17.trans (hM_29.trans (hM_31.trans hM_34)))), S, E.keep ⟨rfl, rfl, rfl, rfl, rfl, rfl, rfl, trivial⟩, by ((try clear S); (try clear E); first | assumption | omega | rfl | (simp; done) | (simp_all; done) | (simp [List.take_add_one, *]; done) | grind [List.take_add_one]), hr_37⟩, by omega⟩
  · replace hc_12 := of_decide_eq_false hc_12
    refine WP_exit ?_
    refine T_x ?_
    refine T_x ?_
    refine B_x ?_
    refine T_n ?_
    refine WP_seq ?_
    refine WP_region ?_
    refine S_v E rfl (R_move E rfl) rfl ?_
    clear E a; intro a E
    refine S_v E rfl (R_assign E rfl) rfl ?_
    clear E a; intro a E
    refine WL_nil ?_
    refine T_n ?_
    refine WP_ret ?_
    have S0 := S; clear S
    obtain ⟨M_38, hM_38, hz_39, S⟩ := S0.freezeR hr7 RG2_mono (by (first | omega | (simp; done) | exact Nat.le_trans (grpO_len _ _ _) (by first | omega | (rw [List.length_take]; omega)) | (simp only [List.length_map, List.length_take] at *; omega) | (refine Nat.le_trans (Nat.mul_le_mul_right _ (Nat.le_trans (grpO_len _ _ _) (List.length_take_le ..))) ?_; omega)))
    clear S0
    replace h0 := h0.le hM_38
    replace hb_1 := hM_38.2 _ _ hb_1
    replace hb_3 := hM_38.2 _ _ hb_3
    replace hv_6 := hv_6.le hM_38
    replace hv_8 := hv_8.le hM_38
    exact F_ret1 E Try.results26 rfl ⟨_, rfl, M_38, (hM_2.trans (hM_4.trans (hM_5.trans (hM_7.trans (hM_11.trans hM_38))))), (by rw [show (grpS (fun x => (keyAt kk1 kn1 x 0, keyAt kk2 kn2 x 0)) l0) = (((setI (l0.map (fun x => keyAt kk1 kn1 x 0))).take k).map (fun key => (key, grpO (fun x => (keyAt kk1 kn1 x 0, keyAt kk2 kn2 x 0)) key l0))) from by (rw [List.take_of_length_le (by omega)]; first | exact grpS_keys _ _ | exact (grpS_keys _ _).symm)]; exact hz_39), S⟩

set_option maxRecDepth 100000 in
set_option maxHeartbeats 4000000 in
theorem spec_GroupBy {M : Hp} {v0 : Value} {l0 : List Int} (h0 : RdI M v0 l0){kk1 kn1 : Int} (gk1 : -9223372036854775808 ≤ kn1 ∧ kn1 ≤ 9223372036854775807) (hb : l0.length ≤ 1000000000000) (hr0 : (∀ x ∈ l0, -9223372036854775808 ≤ x ∧ x ≤ 9223372036854775807)) :
    Pu Try.prog (.func (.func 31) #[] #[]) M [v0, .agg #[.int .i64 kk1, .int .i64 kn1]] (fun r M' => RdS 2 RG2 M' r (grpS (fun x => (keyAt kk1 kn1 x 0, x)) l0)) := by
  refine Pu_enter Try.func31 rfl Try.ntmps31 rfl Try.call31 ?_
  intro a w M1 H hM1 S E
  replace h0 := h0.le hM1
  have b0 := h0.bound
  refine WP_seq ?_
  refine WP_region ?_
  refine S_x (X_box (cs := #[.int .i64 kk1, .int .i64 kn1]) E S rfl rfl rfl ?_)
  clear E a S; rintro a w b_1 E S
  obtain ⟨M_2, hM_2, hb_1, S⟩ := S.freezeB
  replace h0 := h0.le hM_2
  refine S_v E rfl (R_assign E rfl) rfl ?_
  clear E a; intro a E
  refine WL_nil ?_
  refine T_n ?_
  refine WP_seq ?_
  have hb_1k2 := hb_1
  replace S := S.mono_heap (w' := World.drew _) rfl
  refine WP_drawn (C := fun x w => agree M_2 w) (bf := (fun i => [])) [0, 1, 4] [0, 1, 2, 3, 4] Try.mixed (by kernel_rfl) (fun x hq => S.imm) ?_
  refine D_v E rfl rfl rfl (fun w hC => (R_move E rfl)) ?_
  clear E a; intro a E
  refine D_v E rfl rfl rfl (fun w hC => (R_loadGM E rfl (Try.isAgg37 _) (Try.sizeOf37 _) hC hb_1k2)) ?_
  clear E a; intro a E
  refine D_x rfl rfl rfl (X_pu E S rfl rfl rfl (spec_same ) (Hp.le.refl _) ?_)
  clear E a S; rintro a _ w M_3 hM_3 rfl S E
  replace h0 := h0.le hM_3
  replace hb_1 := hM_3.2 _ _ hb_1
  refine ⟨fun x hq hb => (agree_le hM_3 S.imm), ?_⟩
  refine D_x rfl rfl rfl (X_pu E S rfl rfl rfl (spec_GroupByMap h0 (by omega) (by omega) (by (first | omega | (simp; omega) | (simp; done) | (simp_all; omega) | grind)) (by first | assumption | exact (fun x hx => by rcases List.mem_append.1 hx with h | h; exact hr0 x h; exact hr1 x h))) (Hp.le.refl _) ?_)
  clear E a S; rintro a v_5 w M_4 hM_4 hv_5 S E
  replace h0 := h0.le hM_4
  replace hb_1 := hM_4.2 _ _ hb_1
  refine ⟨fun x hq hb => (agree_le (hM_3.trans hM_4) S.imm), ?_⟩
  refine D_v E rfl rfl rfl (fun w hC => (R_assign E rfl)) ?_
  clear E a; intro a E
  refine D_end (NoP_n ?_)
  refine T_n ?_
  refine WP_ret ?_
  exact F_ret1 E Try.results31 rfl ⟨_, rfl, M_4, (hM_2.trans (hM_3.trans hM_4)), (by rw [show (grpS (fun x => (keyAt kk1 kn1 x 0, x)) l0) = (grpS (fun x => (keyAt kk1 kn1 x 0, keyAt 5 0 x 0)) l0) from by (first | exact grpS_same _ _ | exact (grpS_same _ _).symm)]; exact hv_5), S⟩

set_option maxRecDepth 100000 in
set_option maxHeartbeats 4000000 in
theorem laws_eq {M : Hp} {v0 v1 : Value} {l0 l1 : List Int} (h0 : RdI M v0 l0) (h1 : RdI M v1 l1) :
    Pu Try.prog (.func (.func 39) #[] #[]) M [v0, v1] (fun r M' => r = .bool (decide (l0 = l1))) := by
  refine Pu_enter Try.func39 rfl Try.ntmps39 rfl Try.call39 ?_
  intro a w M1 H hM1 S E
  replace h0 := h0.le hM1
  replace h1 := h1.le hM1
  have b0 := h0.bound
  have b1 := h1.bound
  refine WP_seq ?_
  refine WP_region ?_
  refine S_v E rfl (R_assign E rfl) rfl ?_
  clear E a; intro a E
  refine WL_nil ?_
  refine T_n ?_
  refine WP_seq ?_
  refine WP_seq ?_
  refine WP_region ?_
  refine S_v E rfl (R_move E rfl) rfl ?_
  clear E a; intro a E
  refine S_v E rfl (R_lenV E rfl T22 h0.len) rfl ?_
  clear E a; intro a E
  refine S_v E rfl (R_move E rfl) rfl ?_
  clear E a; intro a E
  refine S_v E rfl (R_lenV E rfl T22 h1.len) rfl ?_
  clear E a; intro a E
  refine S_v E rfl (R_neq E rfl rfl) rfl ?_
  clear E a; intro a E
  refine WL_nil ?_
  refine T_n ?_
  refine WP_cond E rfl (fun hc_1 => ?_) (fun hc_1 => ?_)
  · replace hc_1 := of_decide_eq_true hc_1
    refine WP_seq ?_
    refine WP_region ?_
    refine S_v E rfl (R_assign E rfl) rfl ?_
    clear E a; intro a E
    refine WL_nil ?_
    refine T_n ?_
    refine WP_ret ?_
    refine T_r ?_
    exact F_ret1 E Try.results39 rfl ⟨_, rfl, M1, (Hp.le.refl _), (bF (by ((try clear S); (try clear E); first | assumption | omega | rfl | (simp; done) | (simp_all; done) | (simp [List.take_add_one, *]; done) | grind [List.take_add_one]))), S⟩
  · replace hc_1 := of_decide_eq_false hc_1
    refine WP_skip ?_
    refine T_n ?_
    refine WP_seq ?_
    refine WP_seq ?_
    refine WP_region ?_
    refine S_v E rfl (R_move E rfl) rfl ?_
    clear E a; intro a E
    refine S_v E rfl (R_lenV E rfl T22 h0.len) rfl ?_
    clear E a; intro a E
    refine S_v E rfl (R_move E rfl) rfl ?_
    clear E a; intro a E
    refine WL_nil ?_
    refine T_n ?_
    refine WP_block ?_
    refine WP_loop (γ := Nat) (fun (k : Nat) a w => ∃ (M_2 : Hp), Hp.le M1 M_2 ∧ St w M_2 (H) ∧ Env a 26 [] [(0, v0), (1, v1), (12, .int .i64 (((l0).length : Nat) : Int)), (13, .int .i64 ((k : Nat) : Int))] ∧ (k ≤ (l0).length) ∧ (l0.length = l1.length) ∧ (l0.take k = l1.take k)) (fun k => ((l0).length) - k) 0 ⟨M1, Hp.le.refl _, S, E.keep ⟨rfl, rfl, rfl, rfl, trivial⟩, by ((try clear S); (try clear E); first | assumption | omega | rfl | (simp; done) | (simp_all; done) | (simp [List.take_add_one, *]; done) | grind [List.take_add_one]), by ((try clear S); (try clear E); first | assumption | omega | rfl | (simp; done) | (simp_all; done) | (simp [List.take_add_one, *]; done) | grind [List.take_add_one]), by ((try clear S); (try clear E); first | assumption | omega | rfl | (simp; done) | (simp_all; done) | (simp [List.take_add_one, *]; done) | grind [List.take_add_one])⟩ ?_
    try clear E
    try clear S
    try clear a
    try clear w
    rintro k a w ⟨M_2, hM_2, S, E, hL0_0, hL0_1, hL0_2⟩
    replace h0 := h0.le hM_2
    replace h1 := h1.le hM_2
    refine WP_seq ?_
    refine WP_region ?_
    refine S_v E rfl (R_lss E rfl rfl) rfl ?_
    clear E a; intro a E
    refine WL_nil ?_
    refine T_n ?_
    refine WP_seq ?_
    refine WP_cond E rfl (fun hc_3 => ?_) (fun hc_3 => ?_)
    · replace hc_3 := of_decide_eq_true hc_3
      refine WP_skip ?_
      refine T_n ?_
      refine WP_seq ?_
      refine WP_block ?_
      refine WP_seq ?_
      refine WP_region ?_
      refine S_v E rfl (R_move E rfl) rfl ?_
      clear E a; intro a E
      refine S_v E rfl (R_assign E rfl) rfl ?_
      clear E a; intro a E
      refine WL_nil ?_
      refine T_n ?_
      refine WP_seq ?_
      replace S := S.mono_heap (w' := World.drew _) rfl
      refine WP_drawn (C := fun x w => agree M_2 w) (bf := (fun i => [])) [0, 1, 2, 3, 4, 5, 6, 7, 8] [0, 1, 2, 3, 4, 5, 6, 7, 8] Try.mixed (by kernel_rfl) (fun x hq => S.imm) ?_
      refine D_v E rfl rfl rfl (fun w hC => (R_move E rfl)) ?_
      clear E a; intro a E
      refine D_v E rfl rfl rfl (fun w hC => (R_move E rfl)) ?_
      clear E a; intro a E
      obtain ⟨x_4, hx_4⟩ : ∃ x, (l0)[k]? = some x := ⟨_, List.getElem?_eq_getElem (by first | omega | (simp; done) | (simp; omega) | (simp_all; omega))⟩
      obtain ⟨p_5, hp_5, qp_5⟩ := h0.at hx_4
      refine D_v E rfl rfl rfl (fun w hC => (R_idx E rfl rfl T22 hp_5 rfl)) ?_
      clear E a; intro a E
      refine D_v E rfl rfl rfl (fun w hC => (R_loadM E rfl Try.isAgg3 hC qp_5)) ?_
      clear E a; intro a E
      refine D_v E rfl rfl rfl (fun w hC => (R_move E rfl)) ?_
      clear E a; intro a E
      refine D_v E rfl rfl rfl (fun w hC => (R_move E rfl)) ?_
      clear E a; intro a E
      obtain ⟨x_6, hx_6⟩ : ∃ x, (l1)[k]? = some x := ⟨_, List.getElem?_eq_getElem (by first | omega | (simp; done) | (simp; omega) | (simp_all; omega))⟩
      obtain ⟨p_7, hp_7, qp_7⟩ := h1.at hx_6
      refine D_v E rfl rfl rfl (fun w hC => (R_idx E rfl rfl T22 hp_7 rfl)) ?_
      clear E a; intro a E
      refine D_v E rfl rfl rfl (fun w hC => (R_loadM E rfl Try.isAgg3 hC qp_7)) ?_
      clear E a; intro a E
      refine D_v E rfl rfl rfl (fun w hC => (R_neq E rfl rfl)) ?_
      clear E a; intro a E
      refine D_end (NoP_n ?_)
      refine T_n ?_
      refine WP_cond E rfl (fun hc_8 => ?_) (fun hc_8 => ?_)
      · replace hc_8 := of_decide_eq_true hc_8
        refine WP_seq ?_
        refine WP_region ?_
        refine S_v E rfl (R_assign E rfl) rfl ?_
        clear E a; intro a E
        refine WL_nil ?_
        refine T_n ?_
        refine WP_ret ?_
        refine B_r ?_
        refine T_r ?_
        refine T_r ?_
        refine B_r ?_
        refine T_r ?_
        exact F_ret1 E Try.results39 rfl ⟨_, rfl, M_2, hM_2, (bF (by ((try clear S); (try clear E); first | assumption | omega | rfl | (simp; done) | (simp_all; done) | (simp [List.take_add_one, *]; done) | grind [List.take_add_one]))), S⟩
      · replace hc_8 := of_decide_eq_false hc_8
        refine WP_skip ?_
        refine B_n ?_
        refine T_n ?_
        refine WP_region ?_
        refine S_v E rfl (R_addx (m := ((k + 1 : Nat) : Int)) E rfl rfl (by omega) (by omega)) rfl ?_
        clear E a; intro a E
        refine S_v E rfl (R_move E rfl) rfl ?_
        clear E a; intro a E
        refine WL_nil ?_
        refine T_n ?_
        exact ⟨k + 1, ⟨M_2, hM_2, S, E.keep ⟨rfl, rfl, rfl, rfl, trivial⟩, by ((try clear S); (try clear E); first | assumption | omega | rfl | (simp; done) | (simp_all; done) | (simp [List.take_add_one, *]; done) | grind [List.take_add_one]), by ((try clear S); (try clear E); first | assumption | omega | rfl | (simp; done) | (simp_all; done) | (simp [List.take_add_one, *]; done) | grind [List.take_add_one]), by ((try clear S); (try clear E); first | assumption | omega | rfl | (simp; done) | (simp_all; done) | (simp [List.take_add_one, *]; done) | grind [List.take_add_one])⟩, by omega⟩
    · replace hc_3 := of_decide_eq_false hc_3
      refine WP_exit ?_
      refine T_x ?_
      refine T_x ?_
      refine B_x ?_
      refine T_n ?_
      refine WP_seq ?_
      refine WP_region ?_
      refine S_v E rfl (R_assign E rfl) rfl ?_
      clear E a; intro a E
      refine WL_nil ?_
      refine T_n ?_
      refine WP_ret ?_
      exact F_ret1 E Try.results39 rfl ⟨_, rfl, M_2, hM_2, (bT (by ((try clear S); (try clear E); first | assumption | omega | rfl | (simp; done) | (simp_all; done) | (simp [List.take_add_one, *]; done) | grind [List.take_add_one]))), S⟩

set_option maxRecDepth 100000 in
set_option maxHeartbeats 4000000 in
theorem laws_refGroups {M : Hp} {v0 : Value} {l0 : List (Int × List Int)} (h0 : RdS 2 RG2 M v0 l0) {v1 : Value} {l1 : List (Int × List Int)} (h1 : RdS 2 RG2 M v1 l1) :
    Pu Try.prog (.func (.func 25) #[] #[]) M [v0, v1] (fun r M' => r = .bool (decide (l0 = l1))) := by
  refine Pu_enter Try.func25 rfl Try.ntmps25 rfl Try.call25 ?_
  intro a w M1 H hM1 S E
  replace h0 := h0.le RG2_mono hM1
  replace h1 := h1.le RG2_mono hM1
  have b0 := h0.bound
  have b1 := h1.bound
  refine WP_seq ?_
  refine WP_region ?_
  refine S_v E rfl (R_assign E rfl) rfl ?_
  clear E a; intro a E
  refine WL_nil ?_
  refine T_n ?_
  refine WP_seq ?_
  refine WP_seq ?_
  refine WP_region ?_
  refine S_v E rfl (R_move E rfl) rfl ?_
  clear E a; intro a E
  refine S_v E rfl (R_lenV E rfl T25 h0.len) rfl ?_
  clear E a; intro a E
  refine S_v E rfl (R_move E rfl) rfl ?_
  clear E a; intro a E
  refine S_v E rfl (R_lenV E rfl T48 h1.len) rfl ?_
  clear E a; intro a E
  refine S_v E rfl (R_neq E rfl rfl) rfl ?_
  clear E a; intro a E
  refine WL_nil ?_
  refine T_n ?_
  refine WP_cond E rfl (fun hc_1 => ?_) (fun hc_1 => ?_)
  · replace hc_1 := of_decide_eq_true hc_1
    refine WP_seq ?_
    refine WP_region ?_
    refine S_v E rfl (R_assign E rfl) rfl ?_
    clear E a; intro a E
    refine WL_nil ?_
    refine T_n ?_
    refine WP_ret ?_
    refine T_r ?_
    exact F_ret1 E Try.results25 rfl ⟨_, rfl, M1, (Hp.le.refl _), (bF (by (first | (simp; done) | (have h9 : l0.take k = l1.take k := (by assumption); rwa [List.take_of_length_le (by omega), List.take_of_length_le (by omega)] at h9) | (intro h9; subst h9; omega) | (intro h9; subst h9; simp_all; done)))), S⟩
  · replace hc_1 := of_decide_eq_false hc_1
    refine WP_skip ?_
    refine T_n ?_
    refine WP_seq ?_
    refine WP_seq ?_
    refine WP_region ?_
    refine S_v E rfl (R_move E rfl) rfl ?_
    clear E a; intro a E
    refine S_v E rfl (R_lenV E rfl T25 h0.len) rfl ?_
    clear E a; intro a E
    refine S_v E rfl (R_move E rfl) rfl ?_
    clear E a; intro a E
    refine WL_nil ?_
    refine T_n ?_
    refine WP_block ?_
    refine WP_loop (γ := Nat) (fun (k : Nat) a w => ∃ (M_2 : Hp), Hp.le M1 M_2 ∧ St w M_2 (H) ∧ Env a 42 [] [(0, v0), (1, v1), (12, .int .i64 (((l0).length : Nat) : Int)), (13, .int .i64 ((k : Nat) : Int))] ∧ (k ≤ (l0).length) ∧ (l0.length = l1.length) ∧ (l0.take k = l1.take k)) (fun k => ((l0).length) - k) 0 ⟨M1, Hp.le.refl _, S, E.keep ⟨rfl, rfl, rfl, rfl, trivial⟩, by ((try clear S); (try clear E); first | assumption | omega | rfl | (simp; done) | (simp_all; done) | (simp [List.take_add_one, *]; done) | grind [List.take_add_one]), by ((try clear S); (try clear E); first | assumption | omega | rfl | (simp; done) | (simp_all; done) | (simp [List.take_add_one, *]; done) | grind [List.take_add_one]), by ((try clear S); (try clear E); first | assumption | omega | rfl | (simp; done) | (simp_all; done) | (simp [List.take_add_one, *]; done) | grind [List.take_add_one])⟩ ?_
    try clear E
    try clear S
    try clear a
    try clear w
    rintro k a w ⟨M_2, hM_2, S, E, hL0_0, hL0_1, hL0_2⟩
    replace h0 := h0.le RG2_mono hM_2
    replace h1 := h1.le RG2_mono hM_2
    refine WP_seq ?_
    refine WP_region ?_
    refine S_v E rfl (R_lss E rfl rfl) rfl ?_
    clear E a; intro a E
    refine WL_nil ?_
    refine T_n ?_
    refine WP_seq ?_
    refine WP_cond E rfl (fun hc_3 => ?_) (fun hc_3 => ?_)
    · replace hc_3 := of_decide_eq_true hc_3
      refine WP_skip ?_
      refine T_n ?_
      refine WP_seq ?_
      refine WP_block ?_
      refine WP_seq ?_
      refine WP_region ?_
      refine S_v E rfl (R_move E rfl) rfl ?_
      clear E a; intro a E
      refine S_v E rfl (R_assign E rfl) rfl ?_
      clear E a; intro a E
      refine WL_nil ?_
      refine T_n ?_
      refine WP_seq ?_
      replace S := S.mono_heap (w' := World.drew _) rfl
      refine WP_drawn (C := fun x w => agree M_2 w) (bf := (fun i => [])) [0, 1, 2, 3, 4, 5, 6, 7, 8, 9, 10, 11, 12, 13, 14, 15, 16, 17, 18, 19, 20, 21, 23, 24] [0, 1, 2, 3, 4, 5, 6, 7, 8, 9, 10, 11, 12, 13, 14, 15, 16, 17, 18, 19, 20, 21, 22, 23, 24] Try.mixed (by kernel_rfl) (fun x hq => S.imm) ?_
      refine D_v E rfl rfl rfl (fun w hC => (R_move E rfl)) ?_
      clear E a; intro a E
      refine D_v E rfl rfl rfl (fun w hC => (R_move E rfl)) ?_
      clear E a; intro a E
      obtain ⟨x_4, hx_4⟩ : ∃ x, (l0)[k]? = some x := ⟨_, List.getElem?_eq_getElem (by first | omega | (simp; done) | (simp; omega) | (simp_all; omega))⟩
      obtain ⟨p_5, u_6, hp_5, qp_5, hu_6⟩ := RdG2.at h0 hx_4
      refine D_v E rfl rfl rfl (fun w hC => (R_idx E rfl rfl T25 hp_5 rfl)) ?_
      clear E a; intro a E
      have qf_7 := qp_5 0 _ rfl
      refine D_v E rfl rfl rfl (fun w hC => (R_fieldAddr E rfl (FA31_0 _))) ?_
      clear E a; intro a E
      refine D_v E rfl rfl rfl (fun w hC => (R_loadM E rfl Try.isAgg3 hC qf_7)) ?_
      clear E a; intro a E
      refine D_v E rfl rfl rfl (fun w hC => (R_move E rfl)) ?_
      clear E a; intro a E
      refine D_v E rfl rfl rfl (fun w hC => (R_move E rfl)) ?_
      clear E a; intro a E
      obtain ⟨x_8, hx_8⟩ : ∃ x, (l1)[k]? = some x := ⟨_, List.getElem?_eq_getElem (by first | omega | (simp; done) | (simp; omega) | (simp_all; omega))⟩
      obtain ⟨p_9, u_10, hp_9, qp_9, hu_10⟩ := RdG2.at h1 hx_8
      refine D_v E rfl rfl rfl (fun w hC => (R_idx E rfl rfl T48 hp_9 rfl)) ?_
      clear E a; intro a E
      have qf_11 := qp_9 0 _ rfl
      refine D_v E rfl rfl rfl (fun w hC => (R_fieldAddr E rfl (FA77_0 _))) ?_
      clear E a; intro a E
      refine D_v E rfl rfl rfl (fun w hC => (R_loadM E rfl Try.isAgg3 hC qf_11)) ?_
      clear E a; intro a E
      refine D_v E rfl rfl rfl (fun w hC => (R_neq E rfl rfl)) ?_
      clear E a; intro a E
      refine D_v E rfl rfl rfl (fun w hC => (R_move E rfl)) ?_
      clear E a; intro a E
      refine split_bool (decide (x_4.1 ≠ x_8.1)) (fun hc_12 => ?_) (fun hc_12 => ?_)
      · replace E := E.val (t := 26) rfl hc_12
        replace E := E.val (t := 27) rfl hc_12
        replace hc_12 := of_decide_eq_true hc_12
        refine D_no E rfl rfl rfl rfl rfl fun a E => ?_
        refine D_no E rfl rfl rfl rfl rfl fun a E => ?_
        refine D_no E rfl rfl rfl rfl rfl fun a E => ?_
        refine D_no E rfl rfl rfl rfl rfl fun a E => ?_
        refine D_no E rfl rfl rfl rfl rfl fun a E => ?_
        refine D_no E rfl rfl rfl rfl rfl fun a E => ?_
        refine D_no E rfl rfl rfl rfl rfl fun a E => ?_
        refine D_no E rfl rfl rfl rfl rfl fun a E => ?_
        refine D_no E rfl rfl rfl rfl rfl fun a E => ?_
        refine D_no E rfl rfl rfl rfl rfl fun a E => ?_
        refine D_no E rfl rfl rfl rfl rfl fun a E => ?_
        refine D_no E rfl rfl rfl rfl rfl fun a E => ?_
        refine D_v E rfl rfl rfl (fun w hC => (R_pickT E rfl rfl)) ?_
        clear E a; intro a E
        refine D_end (NoP_n ?_)
        refine T_n ?_
        refine WP_condT E rfl rfl ?_
        refine WP_seq ?_
        refine WP_region ?_
        refine S_v E rfl (R_assign E rfl) rfl ?_
        clear E a; intro a E
        refine WL_nil ?_
        refine T_n ?_
        refine WP_ret ?_
        refine B_r ?_
        refine T_r ?_
        refine T_r ?_
        refine B_r ?_
        refine T_r ?_
        exact F_ret1 E Try.results25 rfl ⟨_, rfl, M_2, hM_2, (bF (by (first | (simp; done) | (have h9 : l0.take k = l1.take k := (by assumption); rwa [List.take_of_length_le (by omega), List.take_of_length_le (by omega)] at h9) | (intro h9; subst h9; omega) | (intro h9; subst h9; simp_all; done)))), S⟩
      · replace E := E.val (t := 26) rfl hc_12
        replace E := E.val (t := 27) rfl hc_12
        replace hc_12 := of_decide_eq_false hc_12
        refine D_vyes E rfl rfl rfl rfl rfl (fun w hC => (R_move E rfl)) ?_
        clear E a; intro a E
        refine D_vyes E rfl rfl rfl rfl rfl (fun w hC => (R_move E rfl)) ?_
        clear E a; intro a E
        obtain ⟨p_13, u_14, hp_13, qp_13, hu_14⟩ := RdG2.at h0 hx_4
        refine D_vyes E rfl rfl rfl rfl rfl (fun w hC => (R_idx E rfl rfl T25 hp_13 rfl)) ?_
        clear E a; intro a E
        have qf_15 := qp_13 1 _ rfl
        refine D_vyes E rfl rfl rfl rfl rfl (fun w hC => (R_fieldAddr E rfl (FA31_1 _))) ?_
        clear E a; intro a E
        refine D_vyes E rfl rfl rfl rfl rfl (fun w hC => (R_loadM E rfl Try.isAgg22 hC qf_15)) ?_
        clear E a; intro a E
        refine D_vyes E rfl rfl rfl rfl rfl (fun w hC => (R_move E rfl)) ?_
        clear E a; intro a E
        refine D_vyes E rfl rfl rfl rfl rfl (fun w hC => (R_move E rfl)) ?_
        clear E a; intro a E
        obtain ⟨p_16, u_17, hp_16, qp_16, hu_17⟩ := RdG2.at h1 hx_8
        refine D_vyes E rfl rfl rfl rfl rfl (fun w hC => (R_idx E rfl rfl T48 hp_16 rfl)) ?_
        clear E a; intro a E
        have qf_18 := qp_16 1 _ rfl
        refine D_vyes E rfl rfl rfl rfl rfl (fun w hC => (R_fieldAddr E rfl (FA77_1 _))) ?_
        clear E a; intro a E
        refine D_vyes E rfl rfl rfl rfl rfl (fun w hC => (R_loadM E rfl Try.isAgg22 hC qf_18)) ?_
        clear E a; intro a E
        refine D_yes E rfl rfl rfl rfl (X_pu E S rfl rfl rfl (laws_eq hu_14 hu_17) (Hp.le.refl _) ?_)
        clear E a S; rintro a _ w M_19 hM_19 rfl S E
        replace h0 := h0.le RG2_mono hM_19
        replace h1 := h1.le RG2_mono hM_19
        replace hu_6 := hu_6.le hM_19
        replace qp_5 := cellsM_le hM_19 qp_5
        replace hu_10 := hu_10.le hM_19
        replace qp_9 := cellsM_le hM_19 qp_9
        replace hu_14 := hu_14.le hM_19
        replace qp_13 := cellsM_le hM_19 qp_13
        replace hu_17 := hu_17.le hM_19
        replace qp_16 := cellsM_le hM_19 qp_16
        refine ⟨fun x hq hb => (agree_le hM_19 S.imm), ?_⟩
        refine D_vyes E rfl rfl rfl rfl rfl (fun w hC => (R_not E rfl)) ?_
        clear E a; intro a E
        refine D_v E rfl rfl rfl (fun w hC => (R_pickF E rfl rfl)) ?_
        clear E a; intro a E
        refine D_end (NoP_n ?_)
        refine T_n ?_
        refine WP_cond E rfl (fun hc_20 => ?_) (fun hc_20 => ?_)
        · refine WP_seq ?_
          refine WP_region ?_
          refine S_v E rfl (R_assign E rfl) rfl ?_
          clear E a; intro a E
          refine WL_nil ?_
          refine T_n ?_
          refine WP_ret ?_
          refine B_r ?_
          refine T_r ?_
          refine T_r ?_
          refine B_r ?_
          refine T_r ?_
          exact F_ret1 E Try.results25 rfl ⟨_, rfl, M_19, (hM_2.trans hM_19), (bF (by (first | (simp; done) | (have h9 : l0.take k = l1.take k := (by assumption); rwa [List.take_of_length_le (by omega), List.take_of_length_le (by omega)] at h9) | (intro h9; subst h9; omega) | (intro h9; subst h9; simp_all; done)))), S⟩
        · refine WP_skip ?_
          refine B_n ?_
          refine T_n ?_
          refine WP_region ?_
          refine S_v E rfl (R_addx (m := ((k + 1 : Nat) : Int)) E rfl rfl (by omega) (by omega)) rfl ?_
          clear E a; intro a E
          refine S_v E rfl (R_move E rfl) rfl ?_
          clear E a; intro a E
          refine WL_nil ?_
          refine T_n ?_
          exact ⟨k + 1, ⟨M_19, (hM_2.trans hM_19), S, E.keep ⟨rfl, rfl, rfl, rfl, trivial⟩, by ((try clear S); (try clear E); first | assumption | omega | rfl | (simp; done) | (simp_all; done) | (simp [List.take_add_one, *]; done) | grind [List.take_add_one]), by ((try clear S); (try clear E); first | assumption | omega | rfl | (simp; done) | (simp_all; done) | (simp [List.take_add_one, *]; done) | grind [List.take_add_one]), (by exact eqp_step (by assumption) (by assumption) (by assumption) (g2_eq (by assumption) (by first | assumption | simp_all)))⟩, by omega⟩
    · replace hc_3 := of_decide_eq_false hc_3
      refine WP_exit ?_
      refine T_x ?_
      refine T_x ?_
      refine B_x ?_
      refine T_n ?_
      refine WP_seq ?_
      refine WP_region ?_
      refine S_v E rfl (R_assign E rfl) rfl ?_
      clear E a; intro a E
      refine WL_nil ?_
      refine T_n ?_
      refine WP_ret ?_
      exact F_ret1 E Try.results25 rfl ⟨_, rfl, M_2, hM_2, (bT (by (first | (simp; done) | (have h9 : l0.take k = l1.take k := (by assumption); rwa [List.take_of_length_le (by omega), List.take_of_length_le (by omega)] at h9) | (intro h9; subst h9; omega) | (intro h9; subst h9; simp_all; done)))), S⟩

set_option maxRecDepth 100000 in
set_option maxHeartbeats 4000000 in
theorem spec_PartitionBy {M : Hp} {v0 : Value} {l0 : List Int} (h0 : RdI M v0 l0){kk1 kn1 : Int} (gk1 : -9223372036854775808 ≤ kn1 ∧ kn1 ≤ 9223372036854775807) (hb : l0.length ≤ 1000000000000) (hr0 : (∀ x ∈ l0, -9223372036854775808 ≤ x ∧ x ≤ 9223372036854775807)) :
    Pu Try.prog (.func (.func 33) #[] #[]) M [v0, .agg #[.int .i64 kk1, .int .i64 kn1]] (fun r M' => RdII M' r (partL (fun x => keyAt kk1 kn1 x 0) l0)) := by
  refine Pu_enter Try.func33 rfl Try.ntmps33 rfl Try.call33 ?_
  intro a w M1 H hM1 S E
  replace h0 := h0.le hM1
  have b0 := h0.bound
  have hkl : (l0.map (fun x => keyAt kk1 kn1 x 0)).length = l0.length := List.length_map _
  refine WP_seq ?_
  refine WP_region ?_
  refine S_x (X_box (cs := #[.int .i64 kk1, .int .i64 kn1]) E S rfl rfl rfl ?_)
  clear E a S; rintro a w b_1 E S
  obtain ⟨M_2, hM_2, hb_1, S⟩ := S.freezeB
  replace h0 := h0.le hM_2
  refine S_v E rfl (R_assign E rfl) rfl ?_
  clear E a; intro a E
  refine WL_nil ?_
  refine T_n ?_
  refine WP_seq ?_
  refine WP_region ?_
  refine S_v E rfl (R_assign E rfl) rfl ?_
  clear E a; intro a E
  refine WL_nil ?_
  refine T_n ?_
  refine WP_seq ?_
  refine WP_region ?_
  refine S_v E rfl (R_move E rfl) rfl ?_
  clear E a; intro a E
  refine S_v E rfl (R_loadGM E rfl (Try.isAgg37 _) (Try.sizeOf37 _) S.imm hb_1) rfl ?_
  clear E a; intro a E
  refine S_x (X_pu E S rfl rfl rfl (spec_keys h0 (by omega) (by first | assumption | exact (fun x hx => by rcases List.mem_append.1 hx with h | h; exact hr0 x h; exact hr1 x h)) (by (first | omega | (simp; omega) | (simp; done) | (simp_all; omega) | grind))) (Hp.le.refl _) ?_)
  clear E a S; rintro a v_4 w M_3 hM_3 hv_4 S E
  replace h0 := h0.le hM_3
  replace hb_1 := hM_3.2 _ _ hb_1
  refine S_v E rfl (R_assign E rfl) rfl ?_
  clear E a; intro a E
  refine WL_nil ?_
  refine T_n ?_
  refine WP_seq ?_
  refine WP_seq ?_
  refine WP_region ?_
  refine S_v E rfl (R_move E rfl) rfl ?_
  clear E a; intro a E
  refine S_v E rfl (R_lenV E rfl T22 h0.len) rfl ?_
  clear E a; intro a E
  refine S_v E rfl (R_move E rfl) rfl ?_
  clear E a; intro a E
  refine WL_nil ?_
  refine T_n ?_
  refine WP_block ?_
  replace S : St w M_3 (OwnC 22 1 (.slice none 0 0) ([] : List (List Int)).length [] :: _) := S.ownNil
  have hr_6 : RowsR (RSl 1 RInt) 1 M_3 ([] : List (List Int)) [] := RowsR.nil
  have hre : ([] : List (List Int)) = partP (fun x => keyAt kk1 kn1 x 0) l0 (l0.take 0) := by first | (simp [partP, uqS]; done) | exact pp_old (f := (fun x => keyAt kk1 kn1 x 0)) (by omega) (by assumption) (by assumption) | exact pp_new (f := (fun x => keyAt kk1 kn1 x 0)) (by omega) (by assumption) (by assumption) (by rw [List.take_of_length_le (l := l0) (i := m) (by omega)])
  replace S := S.reR hre
  replace hr_6 := hr_6.eq hre
  clear hre
  refine WP_loop (γ := Nat) (fun (k : Nat) a w => ∃ (M_7 : Hp) (u5 : Value) (xs5 : List Value), Hp.le M_3 M_7 ∧ St w M_7 (OwnC 22 1 u5 (partP (fun x => keyAt kk1 kn1 x 0) l0 (l0.take k)).length xs5 :: H) ∧ Env a 54 [] [(0, v0), (5, u5), (6, v_4), (14, .int .i64 (((l0).length : Nat) : Int)), (15, .int .i64 ((k : Nat) : Int))] ∧ (k ≤ (l0).length) ∧ RowsR (RSl 1 RInt) 1 M_7 (partP (fun x => keyAt kk1 kn1 x 0) l0 (l0.take k)) xs5) (fun k => ((l0).length) - k) 0 ⟨M_3, _, _, Hp.le.refl _, S, E.keep ⟨rfl, rfl, rfl, rfl, rfl, trivial⟩, by ((try clear S); (try clear E); first | assumption | omega | rfl | (simp; done) | (simp_all; done) | (simp [List.take_add_one, *]; done) | grind [List.take_add_one]), hr_6⟩ ?_
  try clear E
  try clear S
  try clear a
  try clear w
  rintro k a w ⟨M_7, u5, xs5, hM_7, S, E, hL0_0, hr5⟩
  replace h0 := h0.le hM_7
  replace hb_1 := hM_7.2 _ _ hb_1
  replace hv_4 := hv_4.le hM_7
  have hpp := partP_len (fun x => keyAt kk1 kn1 x 0) l0 (l0.take k); rw [List.length_take] at hpp
  refine WP_seq ?_
  refine WP_region ?_
  refine S_v E rfl (R_lss E rfl rfl) rfl ?_
  clear E a; intro a E
  refine WL_nil ?_
  refine T_n ?_
  refine WP_seq ?_
  refine WP_cond E rfl (fun hc_8 => ?_) (fun hc_8 => ?_)
  · replace hc_8 := of_decide_eq_true hc_8
    refine WP_skip ?_
    refine T_n ?_
    refine WP_seq ?_
    refine WP_block ?_
    refine WP_seq ?_
    refine WP_region ?_
    refine S_v E rfl (R_move E rfl) rfl ?_
    clear E a; intro a E
    refine S_v E rfl (R_assign E rfl) rfl ?_
    clear E a; intro a E
    refine WL_nil ?_
    refine T_n ?_
    refine WP_seq ?_
    refine WP_seq ?_
    refine WP_region ?_
    refine S_v E rfl (R_move E rfl) rfl ?_
    clear E a; intro a E
    refine S_v E rfl (R_move E rfl) rfl ?_
    clear E a; intro a E
    refine S_v E rfl (R_move E rfl) rfl ?_
    clear E a; intro a E
    obtain ⟨x_9, hx_9⟩ : ∃ x, ((l0).map (fun x => keyAt kk1 kn1 x 0))[k]? = some x := ⟨_, List.getElem?_eq_getElem (by first | omega | (simp; done) | (simp; omega) | (simp_all; omega))⟩
    obtain ⟨p_10, hp_10, qp_10⟩ := hv_4.at hx_9
    refine S_v E rfl (R_idx E rfl rfl T22 hp_10 rfl) rfl ?_
    clear E a; intro a E
    refine S_v E rfl (R_loadM E rfl Try.isAgg3 S.imm qp_10) rfl ?_
    clear E a; intro a E
    refine S_x (X_pu E S rfl rfl rfl (spec_IndexOf hv_4) (Hp.le.refl _) ?_)
    clear E a S; rintro a _ w M_11 hM_11 rfl S E
    replace h0 := h0.le hM_11
    replace hb_1 := hM_11.2 _ _ hb_1
    replace hv_4 := hv_4.le hM_11
    replace hr5 := hr5.le (RSl_mono RInt_mono) hM_11
    refine S_v E rfl (R_move E rfl) rfl ?_
    clear E a; intro a E
    refine S_v E rfl (R_lss E rfl rfl) rfl ?_
    clear E a; intro a E
    refine WL_nil ?_
    refine T_n ?_
    refine WP_cond E rfl (fun hc_12 => ?_) (fun hc_12 => ?_)
    · replace hc_12 := of_decide_eq_true hc_12
      refine WP_exit ?_
      refine T_x ?_
      refine B_x ?_
      refine T_n ?_
      refine WP_region ?_
      refine S_v E rfl (R_addx (m := ((k + 1 : Nat) : Int)) E rfl rfl (by omega) (by omega)) rfl ?_
      clear E a; intro a E
      refine S_v E rfl (R_move E rfl) rfl ?_
      clear E a; intro a E
      refine WL_nil ?_
      refine T_n ?_
      have hre : partP (fun x => keyAt kk1 kn1 x 0) l0 (l0.take k) = partP (fun x => keyAt kk1 kn1 x 0) l0 (l0.take (k + 1)) := by first | (simp [partP, uqS]; done) | exact pp_old (f := (fun x => keyAt kk1 kn1 x 0)) (by omega) (by assumption) (by assumption) | exact pp_new (f := (fun x => keyAt kk1 kn1 x 0)) (by omega) (by assumption) (by assumption) (by rw [List.take_of_length_le (l := l0) (i := m) (by omega)])
      replace S := S.reR hre
      replace hr5 := hr5.eq hre
      clear hre
      exact ⟨k + 1, ⟨M_11, _, _, (hM_7.trans hM_11), S, E.keep ⟨rfl, rfl, rfl, rfl, rfl, trivial⟩, by ((try clear S); (try clear E); first | assumption | omega | rfl | (simp; done) | (simp_all; done) | (simp [List.take_add_one, *]; done) | grind [List.take_add_one]), hr5⟩, by omega⟩
    · replace hc_12 := of_decide_eq_false hc_12
      refine WP_skip ?_
      refine T_n ?_
      refine WP_seq ?_
      refine WP_region ?_
      refine S_v E rfl (R_assign E rfl) rfl ?_
      clear E a; intro a E
      refine WL_nil ?_
      refine T_n ?_
      refine WP_seq ?_
      refine WP_seq ?_
      refine WP_region ?_
      refine S_v E rfl (R_move E rfl) rfl ?_
      clear E a; intro a E
      refine S_v E rfl (R_lenV E rfl T22 h0.len) rfl ?_
      clear E a; intro a E
      refine S_v E rfl (R_move E rfl) rfl ?_
      clear E a; intro a E
      refine WL_nil ?_
      refine T_n ?_
      refine WP_block ?_
      replace S := (S.ownNil (e := 3) (sz := 1)).made0
      replace S := S.re1 (l' := (l0.take 0).filter (fun x => decide ((fun x => keyAt kk1 kn1 x 0) x = x_9))) (by first | (simp; done) | exact pz_yes2 (f := (fun x => keyAt kk1 kn1 x 0)) (by assumption) (by assumption) (by assumption) (by assumption) (by assumption) | exact pz_no2 (f := (fun x => keyAt kk1 kn1 x 0)) (by omega) (by assumption) (by assumption) (by assumption) (by assumption))
      refine WP_loop (γ := Nat) (fun (m : Nat) a w => ∃ (M_14 : Hp) (u8 : Value), Hp.le M_11 M_14 ∧ St w M_14 (OwnI 3 u8 ((l0.take m).filter (fun x => decide ((fun x => keyAt kk1 kn1 x 0) x = x_9))) :: OwnC 22 1 u5 (partP (fun x => keyAt kk1 kn1 x 0) l0 (l0.take k)).length xs5 :: H) ∧ Env a 54 [] [(0, v0), (5, u5), (6, v_4), (7, .int .i64 ((k : Nat) : Int)), (8, u8), (14, .int .i64 (((l0).length : Nat) : Int)), (15, .int .i64 ((k : Nat) : Int)), (27, .int .i64 (((l0).length : Nat) : Int)), (28, .int .i64 ((m : Nat) : Int))] ∧ (m ≤ (l0).length)) (fun m => ((l0).length) - m) 0 ⟨M_11, _, Hp.le.refl _, S, E.keep ⟨rfl, rfl, rfl, rfl, rfl, rfl, rfl, rfl, rfl, trivial⟩, by ((try clear S); (try clear E); first | assumption | omega | rfl | (simp; done) | (simp_all; done) | (simp [List.take_add_one, *]; done) | grind [List.take_add_one])⟩ ?_
      try clear E
      try clear S
      try clear a
      try clear w
      rintro m a w ⟨M_14, u8, hM_14, S, E, hL1_0⟩
      replace h0 := h0.le hM_14
      replace hb_1 := hM_14.2 _ _ hb_1
      replace hv_4 := hv_4.le hM_14
      replace hr5 := hr5.le (RSl_mono RInt_mono) hM_14
      have hft := fun p : Int → Bool => List.length_filter_le p (l0.take m)
      have hmt := List.length_take_le m l0
      refine WP_seq ?_
      refine WP_region ?_
      refine S_v E rfl (R_lss E rfl rfl) rfl ?_
      clear E a; intro a E
      refine WL_nil ?_
      refine T_n ?_
      refine WP_seq ?_
      refine WP_cond E rfl (fun hc_15 => ?_) (fun hc_15 => ?_)
      · replace hc_15 := of_decide_eq_true hc_15
        refine WP_skip ?_
        refine T_n ?_
        refine WP_seq ?_
        refine WP_block ?_
        refine WP_seq ?_
        refine WP_region ?_
        refine S_v E rfl (R_move E rfl) rfl ?_
        clear E a; intro a E
        refine S_v E rfl (R_assign E rfl) rfl ?_
        clear E a; intro a E
        refine WL_nil ?_
        refine T_n ?_
        refine WP_seq ?_
        replace S := S.mono_heap (w' := World.drew _) rfl
        refine WP_drawn (C := fun x w => agree M_14 w) (bf := (fun i => [])) [0, 1, 2, 3, 4, 5, 6, 7, 8] [0, 1, 2, 3, 4, 5, 6, 7, 8] Try.mixed (by kernel_rfl) (fun x hq => S.imm) ?_
        refine D_v E rfl rfl rfl (fun w hC => (R_move E rfl)) ?_
        clear E a; intro a E
        refine D_v E rfl rfl rfl (fun w hC => (R_move E rfl)) ?_
        clear E a; intro a E
        obtain ⟨x_16, hx_16⟩ : ∃ x, ((l0).map (fun x => keyAt kk1 kn1 x 0))[m]? = some x := ⟨_, List.getElem?_eq_getElem (by first | omega | (simp; done) | (simp; omega) | (simp_all; omega))⟩
        obtain ⟨p_17, hp_17, qp_17⟩ := hv_4.at hx_16
        refine D_v E rfl rfl rfl (fun w hC => (R_idx E rfl rfl T22 hp_17 rfl)) ?_
        clear E a; intro a E
        refine D_v E rfl rfl rfl (fun w hC => (R_loadM E rfl Try.isAgg3 hC qp_17)) ?_
        clear E a; intro a E
        refine D_v E rfl rfl rfl (fun w hC => (R_move E rfl)) ?_
        clear E a; intro a E
        refine D_v E rfl rfl rfl (fun w hC => (R_move E rfl)) ?_
        clear E a; intro a E
        obtain ⟨x_18, hx_18⟩ : ∃ x, ((l0).map (fun x => keyAt kk1 kn1 x 0))[k]? = some x := ⟨_, List.getElem?_eq_getElem (by first | omega | (simp; done) | (simp; omega) | (simp_all; omega))⟩
        obtain ⟨p_19, hp_19, qp_19⟩ := hv_4.at hx_18
        refine D_v E rfl rfl rfl (fun w hC => (R_idx E rfl rfl T22 hp_19 rfl)) ?_
        clear E a; intro a E
        refine D_v E rfl rfl rfl (fun w hC => (R_loadM E rfl Try.isAgg3 hC qp_19)) ?_
        clear E a; intro a E
        refine D_v E rfl rfl rfl (fun w hC => (R_eql E rfl rfl)) ?_
        clear E a; intro a E
        refine D_end (NoP_n ?_)
        refine T_n ?_
        refine WP_cond E rfl (fun hc_20 => ?_) (fun hc_20 => ?_)
        · replace hc_20 := of_decide_eq_true hc_20
          refine WP_region ?_
          refine S_v E rfl (R_move E rfl) rfl ?_
          clear E a; intro a E
          refine S_v E rfl (R_move E rfl) rfl ?_
          clear E a; intro a E
          refine S_v E rfl (R_move E rfl) rfl ?_
          clear E a; intro a E
          obtain ⟨x_21, hx_21⟩ : ∃ x, (l0)[m]? = some x := ⟨_, List.getElem?_eq_getElem (by first | omega | (simp; done) | (simp; omega) | (simp_all; omega))⟩
          obtain ⟨p_22, hp_22, qp_22⟩ := h0.at hx_21
          refine S_v E rfl (R_idx E rfl rfl T22 hp_22 rfl) rfl ?_
          clear E a; intro a E
          refine S_v E rfl (R_loadM E rfl Try.isAgg3 S.imm qp_22) rfl ?_
          clear E a; intro a E
          refine S_x (X_buildI (ys := [x_21]) E S rfl T22 rfl rfl rfl ?_)
          clear E a S; rintro a w v_23 E S
          replace S := S.front1
          replace S := S.front1
          refine S_x (X_appendB (xs := (l0.take m).filter (fun x => decide ((fun x => keyAt kk1 kn1 x 0) x = x_9))) (ys := [x_21]) E S rfl rfl rfl T22 (by (first | omega | (simp only [List.length_cons, List.length_nil]; first | omega | (refine Nat.le_trans (Nat.add_le_add_right (Nat.le_trans (List.length_filter_le _ _) (List.length_take_le ..)) _) ?_; omega) | (refine Nat.le_trans (Nat.mul_le_mul_right _ (Nat.add_le_add_right (Nat.le_trans (List.length_filter_le _ _) (List.length_take_le ..)) _)) ?_; omega)))) ?_)
          clear E a S; rintro a w v_24 E S
          refine S_v E rfl (R_assign E rfl) rfl ?_
          clear E a; intro a E
          refine WL_nil ?_
          refine B_n ?_
          refine T_n ?_
          refine WP_region ?_
          refine S_v E rfl (R_addx (m := ((m + 1 : Nat) : Int)) E rfl rfl (by omega) (by omega)) rfl ?_
          clear E a; intro a E
          refine S_v E rfl (R_move E rfl) rfl ?_
          clear E a; intro a E
          refine WL_nil ?_
          refine T_n ?_
          replace S := S.re1 (l' := (l0.take (m + 1)).filter (fun x => decide ((fun x => keyAt kk1 kn1 x 0) x = x_9))) (by first | (simp; done) | exact pz_yes2 (f := (fun x => keyAt kk1 kn1 x 0)) (by assumption) (by assumption) (by assumption) (by assumption) (by assumption) | exact pz_no2 (f := (fun x => keyAt kk1 kn1 x 0)) (by omega) (by assumption) (by assumption) (by assumption) (by assumption))
          exact ⟨m + 1, ⟨M_14, _, hM_14, S, E.keep ⟨rfl, rfl, rfl, rfl, rfl, rfl, rfl, rfl, rfl, trivial⟩, by ((try clear S); (try clear E); first | assumption | omega | rfl | (simp; done) | (simp_all; done) | (simp [List.take_add_one, *]; done) | grind [List.take_add_one])⟩, by omega⟩
        · replace hc_20 := of_decide_eq_false hc_20
          refine WP_skip ?_
          refine B_n ?_
          refine T_n ?_
          refine WP_region ?_
          refine S_v E rfl (R_addx (m := ((m + 1 : Nat) : Int)) E rfl rfl (by omega) (by omega)) rfl ?_
          clear E a; intro a E
          refine S_v E rfl (R_move E rfl) rfl ?_
          clear E a; intro a E
          refine WL_nil ?_
          refine T_n ?_
          replace S := S.re1 (l' := (l0.take (m + 1)).filter (fun x => decide ((fun x => keyAt kk1 kn1 x 0) x = x_9))) (by first | (simp; done) | exact pz_yes2 (f := (fun x => keyAt kk1 kn1 x 0)) (by assumption) (by assumption) (by assumption) (by assumption) (by assumption) | exact pz_no2 (f := (fun x => keyAt kk1 kn1 x 0)) (by omega) (by assumption) (by assumption) (by assumption) (by assumption))
          exact ⟨m + 1, ⟨M_14, _, hM_14, S, E.keep ⟨rfl, rfl, rfl, rfl, rfl, rfl, rfl, rfl, rfl, trivial⟩, by ((try clear S); (try clear E); first | assumption | omega | rfl | (simp; done) | (simp_all; done) | (simp [List.take_add_one, *]; done) | grind [List.take_add_one])⟩, by omega⟩
      · replace hc_15 := of_decide_eq_false hc_15
        refine WP_exit ?_
        refine T_x ?_
        refine T_x ?_
        refine B_x ?_
        refine T_n ?_
        refine WP_region ?_
        refine S_v E rfl (R_move E rfl) rfl ?_
        clear E a; intro a E
        refine S_v E rfl (R_move E rfl) rfl ?_
        clear E a; intro a E
        have S0 := S; clear S
        obtain ⟨M_26, hM_26, hz_27, S⟩ := S0.freezeI (by (first | omega | exact Nat.le_trans (List.length_filter_le _ _) (Nat.le_trans (List.length_take_le ..) (by omega)) | exact Nat.le_trans (partP_len _ _ _) (Nat.le_trans (List.length_take_le ..) (by omega))))
        clear S0
        replace h0 := h0.le hM_26
        replace hb_1 := hM_26.2 _ _ hb_1
        replace hv_4 := hv_4.le hM_26
        replace hr5 := hr5.le (RSl_mono RInt_mono) hM_26
        refine S_x (X_buildM (R := RSl 1 RInt) (vs := [u8]) (xs := [(l0.take m).filter (fun x => decide ((fun x => keyAt kk1 kn1 x 0) x = x_9))]) (RSl_mono RInt_mono) E S rfl T54 rfl rfl rfl (by intro u hu; simp only [List.mem_cons, List.not_mem_nil, or_false] at hu; rcases hu with rfl <;> first | exact RdI.one hz_27 | rfl) rfl (rowsC (R := RSl 1 RInt) (RdI.row hz_27) rowsN) ?_)
        clear E a S; rintro a v_25 w M_28 hM_28 hv_25 S E
        replace hv_25 : RdII M_28 v_25 [(l0.take m).filter (fun x => decide ((fun x => keyAt kk1 kn1 x 0) x = x_9))] := hv_25
        replace h0 := h0.le hM_28
        replace hb_1 := hM_28.2 _ _ hb_1
        replace hv_4 := hv_4.le hM_28
        replace hr5 := hr5.le (RSl_mono RInt_mono) hM_28
        replace hz_27 := hz_27.le hM_28
        refine S_x (X_appendR (R := (RSl 1 RInt)) (zs := partP (fun x => keyAt kk1 kn1 x 0) l0 (l0.take k)) (ys := [(l0.take m).filter (fun x => decide ((fun x => keyAt kk1 kn1 x 0) x = x_9))]) E S hr5 rfl rfl rfl T54 hv_25 one_RSl (by (first | omega | (simp only [List.length_cons, List.length_nil]; first | omega | (refine Nat.le_trans (Nat.add_le_add_right (Nat.le_trans (List.length_filter_le _ _) (List.length_take_le ..)) _) ?_; omega) | (refine Nat.le_trans (Nat.mul_le_mul_right _ (Nat.add_le_add_right (Nat.le_trans (List.length_filter_le _ _) (List.length_take_le ..)) _)) ?_; omega)))) (by (first | omega | (simp only [List.length_cons, List.length_nil]; first | omega | (refine Nat.le_trans (Nat.add_le_add_right (Nat.le_trans (List.length_filter_le _ _) (List.length_take_le ..)) _) ?_; omega) | (refine Nat.le_trans (Nat.mul_le_mul_right _ (Nat.add_le_add_right (Nat.le_trans (List.length_filter_le _ _) (List.length_take_le ..)) _)) ?_; omega)))) ?_)
        clear E a S; rintro a w v_29 xs_30 E hr_31 S
        refine S_v E rfl (R_assign E rfl) rfl ?_
        clear E a; intro a E
        refine WL_nil ?_
        refine B_n ?_
        refine T_n ?_
        refine WP_region ?_
        refine S_v E rfl (R_addx (m := ((k + 1 : Nat) : Int)) E rfl rfl (by omega) (by omega)) rfl ?_
        clear E a; intro a E
        refine S_v E rfl (R_move E rfl) rfl ?_
        clear E a; intro a E
        refine WL_nil ?_
        refine T_n ?_
        have hre : (partP (fun x => keyAt kk1 kn1 x 0) l0 (l0.take k)) ++ [(l0.take m).filter (fun x => decide ((fun x => keyAt kk1 kn1 x 0) x = x_9))] = partP (fun x => keyAt kk1 kn1 x 0) l0 (l0.take (k + 1)) := by first | (simp [partP, uqS]; done) | exact pp_old (f := (fun x => keyAt kk1 kn1 x 0)) (by omega) (by assumption) (by assumption) | exact pp_new (f := (fun x => keyAt kk1 kn1 x 0)) (by omega) (by assumption) (by assumption) (by rw [List.take_of_length_le (l := l0) (i := m) (by omega)])
        replace S := S.reR hre
        replace hr_31 := hr_31.eq hre
        clear hre
        exact ⟨k + 1, ⟨M_28, _, _, (hM_7.trans (hM_11.trans (hM_14.trans (hM_26.trans hM_28)))), S, E.keep ⟨rfl, rfl, rfl, rfl, rfl, trivial⟩, by ((try clear S); (try clear E); first | assumption | omega | rfl | (simp; done) | (simp_all; done) | (simp [List.take_add_one, *]; done) | grind [List.take_add_one]), hr_31⟩, by omega⟩
  · replace hc_8 := of_decide_eq_false hc_8
    refine WP_exit ?_
    refine T_x ?_
    refine T_x ?_
    refine B_x ?_
    refine T_n ?_
    refine WP_seq ?_
    refine WP_region ?_
    refine S_v E rfl (R_move E rfl) rfl ?_
    clear E a; intro a E
    refine S_v E rfl (R_assign E rfl) rfl ?_
    clear E a; intro a E
    refine WL_nil ?_
    refine T_n ?_
    refine WP_ret ?_
    have S0 := S; clear S
    obtain ⟨M_32, hM_32, hz_33, S⟩ := S0.freezeR hr5 (RSl_mono RInt_mono) (by (first | omega | exact Nat.le_trans (List.length_filter_le _ _) (Nat.le_trans (List.length_take_le ..) (by omega)) | exact Nat.le_trans (partP_len _ _ _) (Nat.le_trans (List.length_take_le ..) (by omega))))
    clear S0
    replace hz_33 : RdII M_32 u5 (partP (fun x => keyAt kk1 kn1 x 0) l0 (l0.take k)) := hz_33
    replace h0 := h0.le hM_32
    replace hb_1 := hM_32.2 _ _ hb_1
    replace hv_4 := hv_4.le hM_32
    exact F_ret1 E Try.results33 rfl ⟨_, rfl, M_32, (hM_2.trans (hM_3.trans (hM_7.trans hM_32))), (by rw [show (partL (fun x => keyAt kk1 kn1 x 0) l0) = (partP (fun x => keyAt kk1 kn1 x 0) l0 (l0.take k)) from by (rw [List.take_of_length_le (by omega)]; rfl)]; exact hz_33), S⟩

set_option maxRecDepth 100000 in
set_option maxHeartbeats 4000000 in
theorem laws_eqLists {M : Hp} {v0 v1 : Value} {l0 l1 : List (List Int)} (h0 : RdII M v0 l0) (h1 : RdII M v1 l1) :
    Pu Try.prog (.func (.func 32) #[] #[]) M [v0, v1] (fun r M' => r = .bool (decide (l0 = l1))) := by
  refine Pu_enter Try.func32 rfl Try.ntmps32 rfl Try.call32 ?_
  intro a w M1 H hM1 S E
  replace h0 := h0.le hM1
  replace h1 := h1.le hM1
  have b0 := h0.bound
  have b1 := h1.bound
  refine WP_seq ?_
  refine WP_region ?_
  refine S_v E rfl (R_assign E rfl) rfl ?_
  clear E a; intro a E
  refine WL_nil ?_
  refine T_n ?_
  refine WP_seq ?_
  refine WP_seq ?_
  refine WP_region ?_
  refine S_v E rfl (R_move E rfl) rfl ?_
  clear E a; intro a E
  refine S_v E rfl (R_lenV E rfl T54 h0.len) rfl ?_
  clear E a; intro a E
  refine S_v E rfl (R_move E rfl) rfl ?_
  clear E a; intro a E
  refine S_v E rfl (R_lenV E rfl T54 h1.len) rfl ?_
  clear E a; intro a E
  refine S_v E rfl (R_neq E rfl rfl) rfl ?_
  clear E a; intro a E
  refine WL_nil ?_
  refine T_n ?_
  refine WP_cond E rfl (fun hc_1 => ?_) (fun hc_1 => ?_)
  · replace hc_1 := of_decide_eq_true hc_1
    refine WP_seq ?_
    refine WP_region ?_
    refine S_v E rfl (R_assign E rfl) rfl ?_
    clear E a; intro a E
    refine WL_nil ?_
    refine T_n ?_
    refine WP_ret ?_
    refine T_r ?_
    exact F_ret1 E Try.results32 rfl ⟨_, rfl, M1, (Hp.le.refl _), (bF (by (first | (simp; done) | exact eqp_no (by assumption) (by assumption) (by first | assumption | simp_all) | (have h9 : l0.take k = l1.take k := (by assumption); rwa [List.take_of_length_le (by omega), List.take_of_length_le (by omega)] at h9) | (intro h9; subst h9; omega) | (intro h9; subst h9; simp_all; done)))), S⟩
  · replace hc_1 := of_decide_eq_false hc_1
    refine WP_skip ?_
    refine T_n ?_
    refine WP_seq ?_
    refine WP_seq ?_
    refine WP_region ?_
    refine S_v E rfl (R_move E rfl) rfl ?_
    clear E a; intro a E
    refine S_v E rfl (R_lenV E rfl T54 h0.len) rfl ?_
    clear E a; intro a E
    refine S_v E rfl (R_move E rfl) rfl ?_
    clear E a; intro a E
    refine WL_nil ?_
    refine T_n ?_
    refine WP_block ?_
    refine WP_loop (γ := Nat) (fun (k : Nat) a w => ∃ (M_2 : Hp), Hp.le M1 M_2 ∧ St w M_2 (H) ∧ Env a 27 [] [(0, v0), (1, v1), (12, .int .i64 (((l0).length : Nat) : Int)), (13, .int .i64 ((k : Nat) : Int))] ∧ (k ≤ (l0).length) ∧ (l0.length = l1.length) ∧ (l0.take k = l1.take k)) (fun k => ((l0).length) - k) 0 ⟨M1, Hp.le.refl _, S, E.keep ⟨rfl, rfl, rfl, rfl, trivial⟩, by ((try clear S); (try clear E); first | assumption | omega | rfl | (simp; done) | (simp_all; done) | (simp [List.take_add_one, *]; done) | grind [List.take_add_one]), by ((try clear S); (try clear E); first | assumption | omega | rfl | (simp; done) | (simp_all; done) | (simp [List.take_add_one, *]; done) | grind [List.take_add_one]), by ((try clear S); (try clear E); first | assumption | omega | rfl | (simp; done) | (simp_all; done) | (simp [List.take_add_one, *]; done) | grind [List.take_add_one])⟩ ?_
    try clear E
    try clear S
    try clear a
    try clear w
    rintro k a w ⟨M_2, hM_2, S, E, hL0_0, hL0_1, hL0_2⟩
    replace h0 := h0.le hM_2
    replace h1 := h1.le hM_2
    refine WP_seq ?_
    refine WP_region ?_
    refine S_v E rfl (R_lss E rfl rfl) rfl ?_
    clear E a; intro a E
    refine WL_nil ?_
    refine T_n ?_
    refine WP_seq ?_
    refine WP_cond E rfl (fun hc_3 => ?_) (fun hc_3 => ?_)
    · replace hc_3 := of_decide_eq_true hc_3
      refine WP_skip ?_
      refine T_n ?_
      refine WP_seq ?_
      refine WP_block ?_
      refine WP_seq ?_
      refine WP_region ?_
      refine S_v E rfl (R_move E rfl) rfl ?_
      clear E a; intro a E
      refine S_v E rfl (R_assign E rfl) rfl ?_
      clear E a; intro a E
      refine WL_nil ?_
      refine T_n ?_
      refine WP_seq ?_
      have h0k3 := h0
      have h1k3 := h1
      replace S := S.mono_heap (w' := World.drew _) rfl
      refine WP_drawn (C := fun x w => agree M_2 w) (bf := (fun i => [])) [0, 1, 2, 3, 4, 5, 6, 7, 9] [0, 1, 2, 3, 4, 5, 6, 7, 8, 9] Try.mixed (by kernel_rfl) (fun x hq => S.imm) ?_
      refine D_v E rfl rfl rfl (fun w hC => (R_move E rfl)) ?_
      clear E a; intro a E
      refine D_v E rfl rfl rfl (fun w hC => (R_move E rfl)) ?_
      clear E a; intro a E
      obtain ⟨x_4, hx_4⟩ : ∃ x, (l0)[k]? = some x := ⟨_, List.getElem?_eq_getElem (by first | omega | (simp; done) | (simp; omega) | (simp_all; omega))⟩
      obtain ⟨p_5, u_6, hp_5, qp_5, hu_6⟩ := h0.at hx_4
      have bu_6 := hu_6.bound
      refine D_v E rfl rfl rfl (fun w hC => (R_idx E rfl rfl T54 hp_5 rfl)) ?_
      clear E a; intro a E
      refine D_v E rfl rfl rfl (fun w hC => (R_loadM E rfl Try.isAgg22 hC qp_5)) ?_
      clear E a; intro a E
      refine D_v E rfl rfl rfl (fun w hC => (R_move E rfl)) ?_
      clear E a; intro a E
      refine D_v E rfl rfl rfl (fun w hC => (R_move E rfl)) ?_
      clear E a; intro a E
      obtain ⟨x_7, hx_7⟩ : ∃ x, (l1)[k]? = some x := ⟨_, List.getElem?_eq_getElem (by first | omega | (simp; done) | (simp; omega) | (simp_all; omega))⟩
      obtain ⟨p_8, u_9, hp_8, qp_8, hu_9⟩ := h1.at hx_7
      have bu_9 := hu_9.bound
      refine D_v E rfl rfl rfl (fun w hC => (R_idx E rfl rfl T54 hp_8 rfl)) ?_
      clear E a; intro a E
      refine D_v E rfl rfl rfl (fun w hC => (R_loadM E rfl Try.isAgg22 hC qp_8)) ?_
      clear E a; intro a E
      refine D_x rfl rfl rfl (X_pu E S rfl rfl rfl (laws_eq hu_6 hu_9) (Hp.le.refl _) ?_)
      clear E a S; rintro a _ w M_10 hM_10 rfl S E
      replace h0 := h0.le hM_10
      replace h1 := h1.le hM_10
      replace hu_6 := hu_6.le hM_10
      replace hu_9 := hu_9.le hM_10
      refine ⟨fun x hq hb => (agree_le hM_10 S.imm), ?_⟩
      refine D_v E rfl rfl rfl (fun w hC => (R_not E rfl)) ?_
      clear E a; intro a E
      refine D_end (NoP_n ?_)
      refine T_n ?_
      refine WP_cond E rfl (fun hc_11 => ?_) (fun hc_11 => ?_)
      · refine WP_seq ?_
        refine WP_region ?_
        refine S_v E rfl (R_assign E rfl) rfl ?_
        clear E a; intro a E
        refine WL_nil ?_
        refine T_n ?_
        refine WP_ret ?_
        refine B_r ?_
        refine T_r ?_
        refine T_r ?_
        refine B_r ?_
        refine T_r ?_
        exact F_ret1 E Try.results32 rfl ⟨_, rfl, M_10, (hM_2.trans hM_10), (bF (by (first | (simp; done) | exact eqp_no (by assumption) (by assumption) (by first | assumption | simp_all) | (have h9 : l0.take k = l1.take k := (by assumption); rwa [List.take_of_length_le (by omega), List.take_of_length_le (by omega)] at h9) | (intro h9; subst h9; omega) | (intro h9; subst h9; simp_all; done)))), S⟩
      · refine WP_skip ?_
        refine B_n ?_
        refine T_n ?_
        refine WP_region ?_
        refine S_v E rfl (R_addx (m := ((k + 1 : Nat) : Int)) E rfl rfl (by omega) (by omega)) rfl ?_
        clear E a; intro a E
        refine S_v E rfl (R_move E rfl) rfl ?_
        clear E a; intro a E
        refine WL_nil ?_
        refine T_n ?_
        exact ⟨k + 1, ⟨M_10, (hM_2.trans hM_10), S, E.keep ⟨rfl, rfl, rfl, rfl, trivial⟩, by ((try clear S); (try clear E); first | assumption | omega | rfl | (simp; done) | (simp_all; done) | (simp [List.take_add_one, *]; done) | grind [List.take_add_one]), by ((try clear S); (try clear E); first | assumption | omega | rfl | (simp; done) | (simp_all; done) | (simp [List.take_add_one, *]; done) | grind [List.take_add_one]), (by exact eqp_step (by assumption) (by assumption) (by assumption) (by first | assumption | simp_all))⟩, by omega⟩
    · replace hc_3 := of_decide_eq_false hc_3
      refine WP_exit ?_
      refine T_x ?_
      refine T_x ?_
      refine B_x ?_
      refine T_n ?_
      refine WP_seq ?_
      refine WP_region ?_
      refine S_v E rfl (R_assign E rfl) rfl ?_
      clear E a; intro a E
      refine WL_nil ?_
      refine T_n ?_
      refine WP_ret ?_
      exact F_ret1 E Try.results32 rfl ⟨_, rfl, M_2, hM_2, (bT (by (first | (simp; done) | exact eqp_no (by assumption) (by assumption) (by first | assumption | simp_all) | (have h9 : l0.take k = l1.take k := (by assumption); rwa [List.take_of_length_le (by omega), List.take_of_length_le (by omega)] at h9) | (intro h9; subst h9; omega) | (intro h9; subst h9; simp_all; done)))), S⟩

set_option maxRecDepth 100000 in
set_option maxHeartbeats 4000000 in
theorem laws_eqGroups {M : Hp} {v0 : Value} {l0 : List (Int × List Int)} (h0 : RdS 2 RG2 M v0 l0) {v1 : Value} {l1 : List (Int × List Int)} (h1 : RdS 2 RG2 M v1 l1) :
    Pu Try.prog (.func (.func 27) #[] #[]) M [v0, v1] (fun r M' => r = .bool (decide (l0 = l1))) := by
  refine Pu_enter Try.func27 rfl Try.ntmps27 rfl Try.call27 ?_
  intro a w M1 H hM1 S E
  replace h0 := h0.le RG2_mono hM1
  replace h1 := h1.le RG2_mono hM1
  have b0 := h0.bound
  have b1 := h1.bound
  refine WP_seq ?_
  refine WP_region ?_
  refine S_v E rfl (R_assign E rfl) rfl ?_
  clear E a; intro a E
  refine WL_nil ?_
  refine T_n ?_
  refine WP_seq ?_
  refine WP_seq ?_
  refine WP_region ?_
  refine S_v E rfl (R_move E rfl) rfl ?_
  clear E a; intro a E
  refine S_v E rfl (R_lenV E rfl T25 h0.len) rfl ?_
  clear E a; intro a E
  refine S_v E rfl (R_move E rfl) rfl ?_
  clear E a; intro a E
  refine S_v E rfl (R_lenV E rfl T25 h1.len) rfl ?_
  clear E a; intro a E
  refine S_v E rfl (R_neq E rfl rfl) rfl ?_
  clear E a; intro a E
  refine WL_nil ?_
  refine T_n ?_
  refine WP_cond E rfl (fun hc_1 => ?_) (fun hc_1 => ?_)
  · replace hc_1 := of_decide_eq_true hc_1
    refine WP_seq ?_
    refine WP_region ?_
    refine S_v E rfl (R_assign E rfl) rfl ?_
    clear E a; intro a E
    refine WL_nil ?_
    refine T_n ?_
    refine WP_ret ?_
    refine T_r ?_
    exact F_ret1 E Try.results27 rfl ⟨_, rfl, M1, (Hp.le.refl _), (bF (by (first | (simp; done) | (have h9 : l0.take k = l1.take k := (by assumption); rwa [List.take_of_length_le (by omega), List.take_of_length_le (by omega)] at h9) | (intro h9; subst h9; omega) | (intro h9; subst h9; simp_all; done)))), S⟩
  · replace hc_1 := of_decide_eq_false hc_1
    refine WP_skip ?_
    refine T_n ?_
    refine WP_seq ?_
    refine WP_seq ?_
    refine WP_region ?_
    refine S_v E rfl (R_move E rfl) rfl ?_
    clear E a; intro a E
    refine S_v E rfl (R_lenV E rfl T25 h0.len) rfl ?_
    clear E a; intro a E
    refine S_v E rfl (R_move E rfl) rfl ?_
    clear E a; intro a E
    refine WL_nil ?_
    refine T_n ?_
    refine WP_block ?_
    refine WP_loop (γ := Nat) (fun (k : Nat) a w => ∃ (M_2 : Hp), Hp.le M1 M_2 ∧ St w M_2 (H) ∧ Env a 42 [] [(0, v0), (1, v1), (12, .int .i64 (((l0).length : Nat) : Int)), (13, .int .i64 ((k : Nat) : Int))] ∧ (k ≤ (l0).length) ∧ (l0.length = l1.length) ∧ (l0.take k = l1.take k)) (fun k => ((l0).length) - k) 0 ⟨M1, Hp.le.refl _, S, E.keep ⟨rfl, rfl, rfl, rfl, trivial⟩, by ((try clear S); (try clear E); first | assumption | omega | rfl | (simp; done) | (simp_all; done) | (simp [List.take_add_one, *]; done) | grind [List.take_add_one]), by ((try clear S); (try clear E); first | assumption | omega | rfl | (simp; done) | (simp_all; done) | (simp [List.take_add_one, *]; done) | grind [List.take_add_one]), by ((try clear S); (try clear E); first | assumption | omega | rfl | (simp; done) | (simp_all; done) | (simp [List.take_add_one, *]; done) | grind [List.take_add_one])⟩ ?_
    try clear E
    try clear S
    try clear a
    try clear w
    rintro k a w ⟨M_2, hM_2, S, E, hL0_0, hL0_1, hL0_2⟩
    replace h0 := h0.le RG2_mono hM_2
    replace h1 := h1.le RG2_mono hM_2
    refine WP_seq ?_
    refine WP_region ?_
    refine S_v E rfl (R_lss E rfl rfl) rfl ?_
    clear E a; intro a E
    refine WL_nil ?_
    refine T_n ?_
    refine WP_seq ?_
    refine WP_cond E rfl (fun hc_3 => ?_) (fun hc_3 => ?_)
    · replace hc_3 := of_decide_eq_true hc_3
      refine WP_skip ?_
      refine T_n ?_
      refine WP_seq ?_
      refine WP_block ?_
      refine WP_seq ?_
      refine WP_region ?_
      refine S_v E rfl (R_move E rfl) rfl ?_
      clear E a; intro a E
      refine S_v E rfl (R_assign E rfl) rfl ?_
      clear E a; intro a E
      refine WL_nil ?_
      refine T_n ?_
      refine WP_seq ?_
      replace S := S.mono_heap (w' := World.drew _) rfl
      refine WP_drawn (C := fun x w => agree M_2 w) (bf := (fun i => [])) [0, 1, 2, 3, 4, 5, 6, 7, 8, 9, 10, 11, 12, 13, 14, 15, 16, 17, 18, 19, 20, 21, 23, 24] [0, 1, 2, 3, 4, 5, 6, 7, 8, 9, 10, 11, 12, 13, 14, 15, 16, 17, 18, 19, 20, 21, 22, 23, 24] Try.mixed (by kernel_rfl) (fun x hq => S.imm) ?_
      refine D_v E rfl rfl rfl (fun w hC => (R_move E rfl)) ?_
      clear E a; intro a E
      refine D_v E rfl rfl rfl (fun w hC => (R_move E rfl)) ?_
      clear E a; intro a E
      obtain ⟨x_4, hx_4⟩ : ∃ x, (l0)[k]? = some x := ⟨_, List.getElem?_eq_getElem (by first | omega | (simp; done) | (simp; omega) | (simp_all; omega))⟩
      obtain ⟨p_5, u_6, hp_5, qp_5, hu_6⟩ := RdG2.at h0 hx_4
      refine D_v E rfl rfl rfl (fun w hC => (R_idx E rfl rfl T25 hp_5 rfl)) ?_
      clear E a; intro a E
      have qf_7 := qp_5 0 _ rfl
      refine D_v E rfl rfl rfl (fun w hC => (R_fieldAddr E rfl (FA31_0 _))) ?_
      clear E a; intro a E
      refine D_v E rfl rfl rfl (fun w hC => (R_loadM E rfl Try.isAgg3 hC qf_7)) ?_
      clear E a; intro a E
      refine D_v E rfl rfl rfl (fun w hC => (R_move E rfl)) ?_
      clear E a; intro a E
      refine D_v E rfl rfl rfl (fun w hC => (R_move E rfl)) ?_
      clear E a; intro a E
      obtain ⟨x_8, hx_8⟩ : ∃ x, (l1)[k]? = some x := ⟨_, List.getElem?_eq_getElem (by first | omega | (simp; done) | (simp; omega) | (simp_all; omega))⟩
      obtain ⟨p_9, u_10, hp_9, qp_9, hu_10⟩ := RdG2.at h1 hx_8
      refine D_v E rfl rfl rfl (fun w hC => (R_idx E rfl rfl T25 hp_9 rfl)) ?_
      clear E a; intro a E
      have qf_11 := qp_9 0 _ rfl
      refine D_v E rfl rfl rfl (fun w hC => (R_fieldAddr E rfl (FA31_0 _))) ?_
      clear E a; intro a E
      refine D_v E rfl rfl rfl (fun w hC => (R_loadM E rfl Try.isAgg3 hC qf_11)) ?_
      clear E a; intro a E
      refine D_v E rfl rfl rfl (fun w hC => (R_neq E rfl rfl)) ?_
      clear E a; intro a E
      refine D_v E rfl rfl rfl (fun w hC => (R_move E rfl)) ?_
      clear E a; intro a E
      refine split_bool (decide (x_4.1 ≠ x_8.1)) (fun hc_12 => ?_) (fun hc_12 => ?_)
      · replace E := E.val (t := 26) rfl hc_12
        replace E := E.val (t := 27) rfl hc_12
        replace hc_12 := of_decide_eq_true hc_12
        refine D_no E rfl rfl rfl rfl rfl fun a E => ?_
        refine D_no E rfl rfl rfl rfl rfl fun a E => ?_
        refine D_no E rfl rfl rfl rfl rfl fun a E => ?_
        refine D_no E rfl rfl rfl rfl rfl fun a E => ?_
        refine D_no E rfl rfl rfl rfl rfl fun a E => ?_
        refine D_no E rfl rfl rfl rfl rfl fun a E => ?_
        refine D_no E rfl rfl rfl rfl rfl fun a E => ?_
        refine D_no E rfl rfl rfl rfl rfl fun a E => ?_
        refine D_no E rfl rfl rfl rfl rfl fun a E => ?_
        refine D_no E rfl rfl rfl rfl rfl fun a E => ?_
        refine D_no E rfl rfl rfl rfl rfl fun a E => ?_
        refine D_no E rfl rfl rfl rfl rfl fun a E => ?_
        refine D_v E rfl rfl rfl (fun w hC => (R_pickT E rfl rfl)) ?_
        clear E a; intro a E
        refine D_end (NoP_n ?_)
        refine T_n ?_
        refine WP_condT E rfl rfl ?_
        refine WP_seq ?_
        refine WP_region ?_
        refine S_v E rfl (R_assign E rfl) rfl ?_
        clear E a; intro a E
        refine WL_nil ?_
        refine T_n ?_
        refine WP_ret ?_
        refine B_r ?_
        refine T_r ?_
        refine T_r ?_
        refine B_r ?_
        refine T_r ?_
        exact F_ret1 E Try.results27 rfl ⟨_, rfl, M_2, hM_2, (bF (by (first | (simp; done) | (have h9 : l0.take k = l1.take k := (by assumption); rwa [List.take_of_length_le (by omega), List.take_of_length_le (by omega)] at h9) | (intro h9; subst h9; omega) | (intro h9; subst h9; simp_all; done)))), S⟩
      · replace E := E.val (t := 26) rfl hc_12
        replace E := E.val (t := 27) rfl hc_12
        replace hc_12 := of_decide_eq_false hc_12
        refine D_vyes E rfl rfl rfl rfl rfl (fun w hC => (R_move E rfl)) ?_
        clear E a; intro a E
        refine D_vyes E rfl rfl rfl rfl rfl (fun w hC => (R_move E rfl)) ?_
        clear E a; intro a E
        obtain ⟨p_13, u_14, hp_13, qp_13, hu_14⟩ := RdG2.at h0 hx_4
        refine D_vyes E rfl rfl rfl rfl rfl (fun w hC => (R_idx E rfl rfl T25 hp_13 rfl)) ?_
        clear E a; intro a E
        have qf_15 := qp_13 1 _ rfl
        refine D_vyes E rfl rfl rfl rfl rfl (fun w hC => (R_fieldAddr E rfl (FA31_1 _))) ?_
        clear E a; intro a E
        refine D_vyes E rfl rfl rfl rfl rfl (fun w hC => (R_loadM E rfl Try.isAgg22 hC qf_15)) ?_
        clear E a; intro a E
        refine D_vyes E rfl rfl rfl rfl rfl (fun w hC => (R_move E rfl)) ?_
        clear E a; intro a E
        refine D_vyes E rfl rfl rfl rfl rfl (fun w hC => (R_move E rfl)) ?_
        clear E a; intro a E
        obtain ⟨p_16, u_17, hp_16, qp_16, hu_17⟩ := RdG2.at h1 hx_8
        refine D_vyes E rfl rfl rfl rfl rfl (fun w hC => (R_idx E rfl rfl T25 hp_16 rfl)) ?_
        clear E a; intro a E
        have qf_18 := qp_16 1 _ rfl
        refine D_vyes E rfl rfl rfl rfl rfl (fun w hC => (R_fieldAddr E rfl (FA31_1 _))) ?_
        clear E a; intro a E
        refine D_vyes E rfl rfl rfl rfl rfl (fun w hC => (R_loadM E rfl Try.isAgg22 hC qf_18)) ?_
        clear E a; intro a E
        refine D_yes E rfl rfl rfl rfl (X_pu E S rfl rfl rfl (laws_eq hu_14 hu_17) (Hp.le.refl _) ?_)
        clear E a S; rintro a _ w M_19 hM_19 rfl S E
        replace h0 := h0.le RG2_mono hM_19
        replace h1 := h1.le RG2_mono hM_19
        replace hu_6 := hu_6.le hM_19
        replace qp_5 := cellsM_le hM_19 qp_5
        replace hu_10 := hu_10.le hM_19
        replace qp_9 := cellsM_le hM_19 qp_9
        replace hu_14 := hu_14.le hM_19
        replace qp_13 := cellsM_le hM_19 qp_13
        replace hu_17 := hu_17.le hM_19
        replace qp_16 := cellsM_le hM_19 qp_16
        refine ⟨fun x hq hb => (agree_le hM_19 S.imm), ?_⟩
        refine D_vyes E rfl rfl rfl rfl rfl (fun w hC => (R_not E rfl)) ?_
        clear E a; intro a E
        refine D_v E rfl rfl rfl (fun w hC => (R_pickF E rfl rfl)) ?_
        clear E a; intro a E
        refine D_end (NoP_n ?_)
        refine T_n ?_
        refine WP_cond E rfl (fun hc_20 => ?_) (fun hc_20 => ?_)
        · refine WP_seq ?_
          refine WP_region ?_
          refine S_v E rfl (R_assign E rfl) rfl ?_
          clear E a; intro a E
          refine WL_nil ?_
          refine T_n ?_
          refine WP_ret ?_
          refine B_r ?_
          refine T_r ?_
          refine T_r ?_
          refine B_r ?_
          refine T_r ?_
          exact F_ret1 E Try.results27 rfl ⟨_, rfl, M_19, (hM_2.trans hM_19), (bF (by (first | (simp; done) | (have h9 : l0.take k = l1.take k := (by assumption); rwa [List.take_of_length_le (by omega), List.take_of_length_le (by omega)] at h9) | (intro h9; subst h9; omega) | (intro h9; subst h9; simp_all; done)))), S⟩
        · refine WP_skip ?_
          refine B_n ?_
          refine T_n ?_
          refine WP_region ?_
          refine S_v E rfl (R_addx (m := ((k + 1 : Nat) : Int)) E rfl rfl (by omega) (by omega)) rfl ?_
          clear E a; intro a E
          refine S_v E rfl (R_move E rfl) rfl ?_
          clear E a; intro a E
          refine WL_nil ?_
          refine T_n ?_
          exact ⟨k + 1, ⟨M_19, (hM_2.trans hM_19), S, E.keep ⟨rfl, rfl, rfl, rfl, trivial⟩, by ((try clear S); (try clear E); first | assumption | omega | rfl | (simp; done) | (simp_all; done) | (simp [List.take_add_one, *]; done) | grind [List.take_add_one]), by ((try clear S); (try clear E); first | assumption | omega | rfl | (simp; done) | (simp_all; done) | (simp [List.take_add_one, *]; done) | grind [List.take_add_one]), (by exact eqp_step (by assumption) (by assumption) (by assumption) (g2_eq (by assumption) (by first | assumption | simp_all)))⟩, by omega⟩
    · replace hc_3 := of_decide_eq_false hc_3
      refine WP_exit ?_
      refine T_x ?_
      refine T_x ?_
      refine B_x ?_
      refine T_n ?_
      refine WP_seq ?_
      refine WP_region ?_
      refine S_v E rfl (R_assign E rfl) rfl ?_
      clear E a; intro a E
      refine WL_nil ?_
      refine T_n ?_
      refine WP_ret ?_
      exact F_ret1 E Try.results27 rfl ⟨_, rfl, M_2, hM_2, (bT (by (first | (simp; done) | (have h9 : l0.take k = l1.take k := (by assumption); rwa [List.take_of_length_le (by omega), List.take_of_length_le (by omega)] at h9) | (intro h9; subst h9; omega) | (intro h9; subst h9; simp_all; done)))), S⟩

set_option maxRecDepth 100000 in
set_option maxHeartbeats 4000000 in
theorem slices_Values1 {M : Hp} {v0 : Value} {l0 : List Int} (h0 : RdI M v0 l0){bx1 : Nat} (hbx1 : M bx1 = some (.cells #[v0] 22)) :
    SeqV Try.prog (.func (.func 100) #[] #[.pointer (some ⟨bx1, 0, none⟩)]) M (RInt) l0 := by
  refine SeqV_enter Try.func100 rfl Try.ntmps100 rfl Try.call100 ?_
  intro y J X a w M1 c H hJM hM1 hY hJ S E
  replace hbx1 := hM1.2 _ _ hbx1
  replace h0 := h0.le hM1
  have b0 := h0.bound
  refine WP_seq ?_
  refine WP_region ?_
  refine S_v E rfl (R_loadM E rfl Try.isAgg22 S.imm (cellM_box hbx1)) rfl ?_
  clear E a; intro a E
  refine S_v E rfl (R_lenV E rfl T22 h0.len) rfl ?_
  clear E a; intro a E
  refine S_v E rfl (R_move E rfl) rfl ?_
  clear E a; intro a E
  refine WL_nil ?_
  refine T_n ?_
  refine WP_block ?_
  refine WP_loop (γ := Nat) (fun (k : Nat) a w => ∃ (M_1 : Hp) (cL0 : HProp), Hp.le M1 M_1 ∧ St w M_1 (mks [] :: cL0 :: H) ∧ Env a 16 (([] : List Nat).map mk) [(0, y), (5, v0), (6, .int .i64 (((l0).length : Nat) : Int)), (7, .int .i64 ((k : Nat) : Int))] ∧ (k ≤ (l0).length) ∧ J (l0.take k) M_1 cL0) (fun k => ((l0).length) - k) 0 ⟨M1, _, Hp.le.refl _, S, E.keep ⟨rfl, rfl, rfl, rfl, trivial⟩, by ((try clear S); (try clear E); first | assumption | omega | rfl | (simp; done) | (simp_all; done) | (simp [List.take_add_one, *]; done) | grind [List.take_add_one]), J_eq hJ (by ((try clear S); (try clear E); first | assumption | omega | rfl | (simp; done) | (simp_all; done) | (simp [List.take_add_one, *]; done) | grind [List.take_add_one]))⟩ ?_
  try clear E
  try clear S
  try clear a
  try clear w
  rintro k a w ⟨M_1, cL0, hM_1, S, E, hL0_0, hJ⟩
  replace hbx1 := hM_1.2 _ _ hbx1
  replace h0 := h0.le hM_1
  refine WP_seq ?_
  refine WP_region ?_
  refine S_v E rfl (R_lss E rfl rfl) rfl ?_
  clear E a; intro a E
  refine WL_nil ?_
  refine T_n ?_
  refine WP_seq ?_
  refine WP_cond E rfl (fun hc_2 => ?_) (fun hc_2 => ?_)
  · replace hc_2 := of_decide_eq_true hc_2
    refine WP_skip ?_
    refine T_n ?_
    refine WP_seq ?_
    refine WP_block ?_
    refine WP_seq ?_
    refine WP_region ?_
    obtain ⟨x_3, hx_3⟩ : ∃ x, (l0)[k]? = some x := ⟨_, List.getElem?_eq_getElem (by first | omega | (simp; done) | (simp; omega) | (simp_all; omega))⟩
    obtain ⟨p_4, hp_4, qp_4⟩ := h0.at hx_3
    refine S_v E rfl (R_idx E rfl rfl T22 hp_4 rfl) rfl ?_
    clear E a; intro a E
    refine S_v E rfl (R_loadM E rfl Try.isAgg3 S.imm qp_4) rfl ?_
    clear E a; intro a E
    refine S_v E rfl (R_assign E rfl) rfl ?_
    clear E a; intro a E
    refine WL_nil ?_
    refine T_n ?_
    refine WP_seq ?_
    refine WP_region ?_
    refine S_v E rfl (R_move E rfl) rfl ?_
    clear E a; intro a E
    refine S_v E rfl (R_move E rfl) rfl ?_
    clear E a; intro a E
    replace S := S.front1
    refine S_x (X_yield (x := x_3) E S rfl rfl rfl hY hM_1 (by (first | (simp; done) | exact List.prefix_refl _ | (rw [pre_take (by assumption)]; exact List.take_prefix _ _) | exact pre_take_lt (by assumption))) rfl hJ ?_)
    clear E a S; rintro a w M_5 c_6 go_7 hM_5 hJ S E
    replace hbx1 := hM_5.2 _ _ hbx1
    replace h0 := h0.le hM_5
    cases go_7
    · replace hJ : X (l0.take k ++ [x_3]) M_5 c_6 := hJ
      refine S_v E rfl (R_not E rfl) rfl ?_
      clear E a; intro a E
      refine WL_nil ?_
      refine T_n ?_
      refine WP_condT E rfl rfl ?_
      refine WP_ret ?_
      refine B_r ?_
      refine T_r ?_
      refine T_r ?_
      refine B_r ?_
      replace S := S.front1
      exact F_retM0 E S Try.results100 (fun w S => ⟨_, rfl, M_5, _, (hM_1.trans hM_5), .inr ⟨(l0.take k ++ [x_3]), (by first | assumption | ((first | (simp; done) | exact List.prefix_refl _ | (rw [pre_take (by assumption)]; exact List.take_prefix _ _) | exact pre_take_lt (by assumption)))), hJ⟩, S⟩)
    · replace hJ : J (l0.take k ++ [x_3]) M_5 c_6 := hJ
      refine S_v E rfl (R_not E rfl) rfl ?_
      clear E a; intro a E
      refine WL_nil ?_
      refine T_n ?_
      refine WP_condF E rfl rfl ?_
      refine WP_skip ?_
      refine B_n ?_
      refine T_n ?_
      refine WP_region ?_
      refine S_v E rfl (R_addx (m := ((k + 1 : Nat) : Int)) E rfl rfl (by omega) (by omega)) rfl ?_
      clear E a; intro a E
      refine S_v E rfl (R_move E rfl) rfl ?_
      clear E a; intro a E
      refine WL_nil ?_
      refine T_n ?_
      replace S := S.front1
      exact ⟨k + 1, ⟨M_5, _, (hM_1.trans hM_5), S, E.keep ⟨rfl, rfl, rfl, rfl, trivial⟩, by ((try clear S); (try clear E); first | assumption | omega | rfl | (simp; done) | (simp_all; done) | (simp [List.take_add_one, *]; done) | grind [List.take_add_one]), J_eq hJ (by ((try clear S); (try clear E); first | assumption | omega | rfl | (simp; done) | (simp_all; done) | (simp [List.take_add_one, *]; done) | grind [List.take_add_one]))⟩, by omega⟩
  · replace hc_2 := of_decide_eq_false hc_2
    refine WP_exit ?_
    refine T_x ?_
    refine T_x ?_
    refine B_x ?_
    refine F_nrm ?_
    replace S := S.front1
    replace S := S.front1
    have hpre : l0.take k = l0 := by ((try clear S); (try clear E); first | rfl | (simp; done) | (simp_all; done) | grind [List.take_add_one])
    rw [hpre] at hJ
    exact F_retM0 E S Try.results100 (fun w S => ⟨_, rfl, M_1, _, hM_1, .inl hJ, S⟩)

set_option maxRecDepth 100000 in
set_option maxHeartbeats 4000000 in
theorem slices_Values {M : Hp} {v0 : Value} {l0 : List Int} (h0 : RdI M v0 l0) :
    Pu Try.prog (.func (.func 72) #[] #[]) M [v0] (fun r M' => SeqV Try.prog r M' RInt l0) := by
  refine Pu_enter Try.func72 rfl Try.ntmps72 rfl Try.call72 ?_
  intro a w M1 H hM1 S E
  replace h0 := h0.le hM1
  have b0 := h0.bound
  refine WP_seq ?_
  refine WP_region ?_
  refine S_x (X_box (cs := #[v0]) E S rfl rfl (cells_one (RdS.one' h0)) ?_)
  clear E a S; rintro a w b_1 E S
  obtain ⟨M_2, hM_2, hb_1, S⟩ := S.freezeB
  replace h0 := h0.le hM_2
  refine S_v E rfl (R_assign E rfl) rfl ?_
  clear E a; intro a E
  refine WL_nil ?_
  refine T_n ?_
  refine WP_seq ?_
  refine WP_region ?_
  refine S_v E rfl (R_makeFunc E rfl rfl) rfl ?_
  clear E a; intro a E
  refine S_v E rfl (R_assign E rfl) rfl ?_
  clear E a; intro a E
  refine WL_nil ?_
  refine T_n ?_
  refine WP_ret ?_
  exact F_ret1 E Try.results72 rfl ⟨_, rfl, M_2, hM_2, (SeqV_eq (slices_Values1 h0 hb_1) (by ((try clear S); (try clear E); first | rfl | (simp; done) | (simp_all; done) | grind [List.take_add_one]))), S⟩

end Go.Proofs.Ytpncgdecfhfjmaa.wFnGroups
