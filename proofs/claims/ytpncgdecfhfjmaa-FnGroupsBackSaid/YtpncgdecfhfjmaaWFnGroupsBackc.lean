/- Walks through the functions that laws.FnGroupsBack reaches: what each computes; no conditions beyond what each theorem states. -/
import Derived.Test.YtpncgdecfhfjmaaWFnGroupsBackb
set_option linter.unusedVariables false
set_option linter.unusedSimpArgs false
namespace Go.Proofs.Ytpncgdecfhfjmaa.wFnGroupsBack
open Go Go.Sl
set_option maxRecDepth 100000 in
set_option maxHeartbeats 4000000 in
theorem lo_FindDuplicatesBy {M : Hp} {v0 : Value} {l0 : List Int} (h0 : RdI M v0 l0){v1 : Value} {f1 : Int → Int} (h1 : PF1I Try.prog v1 M f1) (hb : l0.length ≤ 1000000000000) :
    Pu Try.prog (.func (.func 66) #[] #[]) M [v0, v1] (fun r M' => RdI M' r ((fdS f1 (dupM f1 l0) l0).2)) := by
  refine Pu_enter Try.func66 rfl Try.ntmps66 rfl Try.call66 ?_
  intro a w M1 H hM1 S E
  replace h0 := h0.le hM1
  replace h1 := h1.le hM1
  have b0 := h0.bound
  refine WP_seq ?_
  refine WP_region ?_
  refine S_v E rfl (R_assign E rfl) rfl ?_
  clear E a; intro a E
  refine WL_nil ?_
  refine T_n ?_
  refine WP_seq ?_
  refine WP_region ?_
  refine S_v E rfl (R_move E rfl) rfl ?_
  clear E a; intro a E
  refine S_v E rfl (R_lenV E rfl T22 h0.len) rfl ?_
  clear E a; intro a E
  refine S_x (X_makeMapR E S rfl MT100 rfl ?_)
  clear E a S; rintro a w b_1 E S
  replace S : St w M1 (OwnE Value.bool b_1 ([] : List (Int × Bool)) :: _) := S
  refine S_v E rfl (R_assign E rfl) rfl ?_
  clear E a; intro a E
  refine WL_nil ?_
  refine T_n ?_
  refine WP_seq ?_
  refine WP_region ?_
  refine S_v E rfl (R_assign E rfl) rfl ?_
  clear E a; intro a E
  refine WL_nil ?_
  refine T_n ?_
  refine WP_seq ?_
  refine WP_seq ?_
  refine WP_region ?_
  refine S_v E rfl (R_move E rfl) rfl ?_
  clear E a; intro a E
  refine S_v E rfl (R_lenV E rfl T22 h0.len) rfl ?_
  clear E a; intro a E
  refine S_v E rfl (R_move E rfl) rfl ?_
  clear E a; intro a E
  refine WL_nil ?_
  refine T_n ?_
  refine WP_block ?_
  replace S := S.reM (L' := (encE Value.bool (dupM f1 (l0.take 0)))) (congrArg (encE Value.bool) (show ([] : List (Int × Bool)) = dupM f1 (l0.take 0) by first | rfl | (simp [dupM]; done) | exact dup_y (f := f1) (by assumption) (by assumption) | exact dup_n (f := f1) (by assumption) (by assumption)))
  refine WP_loop (γ := Nat) (fun (k : Nat) a w => ∃ (M_2 : Hp), Hp.le M1 M_2 ∧ St w M_2 (OwnE Value.bool b_1 (dupM f1 (l0.take k)) :: H) ∧ Env a 72 [] [(0, v0), (1, v1), (5, .map (some b_1)), (6, .int .i64 ((cntT (dupM f1 (l0.take k)) : Nat) : Int)), (19, .int .i64 (((l0).length : Nat) : Int)), (20, .int .i64 ((k : Nat) : Int))] ∧ (k ≤ (l0).length)) (fun k => ((l0).length) - k) 0 ⟨M1, Hp.le.refl _, S, E.keep ⟨rfl, rfl, rfl, look_nat (i := 0) rfl (by (simp [dupM, cntT])), rfl, rfl, trivial⟩, by ((try clear S); (try clear E); first | assumption | omega | rfl | (simp; done) | (simp_all; done) | (simp [List.take_add_one, *]; done) | grind [List.take_add_one])⟩ ?_
  try clear E
  try clear S
  try clear a
  try clear w
  rintro k a w ⟨M_2, hM_2, S, E, hL0_0⟩
  replace h0 := h0.le hM_2
  replace h1 := h1.le hM_2
  have hdl := dupM_len f1 (l0.take k); rw [List.length_take] at hdl
  have hct := cntT_le (dupM f1 (l0.take k))
  refine WP_seq ?_
  refine WP_region ?_
  refine S_v E rfl (R_lss E rfl rfl) rfl ?_
  clear E a; intro a E
  refine WL_nil ?_
  refine T_n ?_
  refine WP_seq ?_
  refine WP_cond E rfl (fun hc_3 => ?_) (fun hc_3 => ?_)
  · replace hc_3 := of_decide_eq_true hc_3
    refine WP_skip ?_
    refine T_n ?_
    refine WP_seq ?_
    refine WP_block ?_
    refine WP_seq ?_
    refine WP_region ?_
    refine S_v E rfl (R_move E rfl) rfl ?_
    clear E a; intro a E
    refine S_v E rfl (R_assign E rfl) rfl ?_
    clear E a; intro a E
    refine WL_nil ?_
    refine T_n ?_
    refine WP_seq ?_
    refine WP_region ?_
    refine S_v E rfl (R_move E rfl) rfl ?_
    clear E a; intro a E
    refine S_v E rfl (R_move E rfl) rfl ?_
    clear E a; intro a E
    refine S_v E rfl (R_move E rfl) rfl ?_
    clear E a; intro a E
    obtain ⟨x_4, hx_4⟩ : ∃ x, (l0)[k]? = some x := ⟨_, List.getElem?_eq_getElem (by first | omega | (simp; done) | (simp; omega) | (simp_all; omega))⟩
    obtain ⟨p_5, hp_5, qp_5⟩ := h0.at hx_4
    refine S_v E rfl (R_idx E rfl rfl T22 hp_5 rfl) rfl ?_
    clear E a; intro a E
    refine S_v E rfl (R_loadM E rfl Try.isAgg3 S.imm qp_5) rfl ?_
    clear E a; intro a E
    refine S_x (X_pu E S rfl rfl rfl (h1.2 x_4) (Hp.le.refl _) ?_)
    clear E a S; rintro a _ w M_6 hM_6 rfl S E
    replace h0 := h0.le hM_6
    replace h1 := h1.le hM_6
    refine S_v E rfl (R_assign E rfl) rfl ?_
    clear E a; intro a E
    refine WL_nil ?_
    refine T_n ?_
    refine WP_seq ?_
    refine WP_region ?_
    refine S_v E rfl (R_move E rfl) rfl ?_
    clear E a; intro a E
    refine S_v E rfl (R_move E rfl) rfl ?_
    clear E a; intro a E
    refine S_x (X_lookupE (vf := Value.bool) (zb := false) E S rfl MT100 rfl rfl ?_)
    clear E a S; rintro a w E S
    replace S : St w M_6 (OwnE Value.bool b_1 (dupM f1 (l0.take k)) :: _) := S
    refine S_v E rfl (R_move E rfl) rfl ?_
    clear E a; intro a E
    refine S_v E rfl (R_extract E rfl rfl) rfl ?_
    clear E a; intro a E
    refine S_v E rfl (R_extract E rfl rfl) rfl ?_
    clear E a; intro a E
    refine S_v E rfl (R_assign E rfl) rfl ?_
    clear E a; intro a E
    refine S_v E rfl (R_assign E rfl) rfl ?_
    clear E a; intro a E
    refine WL_nil ?_
    refine T_n ?_
    refine WP_seq ?_
    refine WP_region ?_
    refine S_v E rfl (R_move E rfl) rfl ?_
    clear E a; intro a E
    refine S_v E rfl (R_not E rfl) rfl ?_
    clear E a; intro a E
    refine WL_nil ?_
    refine T_n ?_
    refine WP_cond E rfl (fun hc_7 => ?_) (fun hc_7 => ?_)
    · refine WP_seq ?_
      refine WP_region ?_
      refine S_v E rfl (R_move E rfl) rfl ?_
      clear E a; intro a E
      refine S_v E rfl (R_move E rfl) rfl ?_
      clear E a; intro a E
      refine S_v E rfl (R_move E rfl) rfl ?_
      clear E a; intro a E
      refine S_x0 (X_updateE (vf := Value.bool) (u := hasK (dupM f1 (l0.take k)) (f1 x_4)) E S MT100 rfl rfl rfl ?_)
      clear E a S; rintro a w E S
      refine WL_nil ?_
      refine T_n ?_
      refine WP_seq ?_
      refine WP_region ?_
      refine S_v E rfl (R_move E rfl) rfl ?_
      clear E a; intro a E
      refine WL_nil ?_
      refine T_n ?_
      refine WP_cond E rfl (fun hc_8 => ?_) (fun hc_8 => ?_)
      · refine WP_region ?_
        refine S_v E rfl (R_move E rfl) rfl ?_
        clear E a; intro a E
        refine S_v E rfl (R_addx (m := ((cntT (dupM f1 (l0.take k)) + 1 : Nat) : Int)) E rfl rfl (by first | omega | (have hdl := dupM_len f1 (l0.take k); rw [List.length_take] at hdl; have hct := cntT_le (dupM f1 (l0.take k)); omega)) (by first | omega | (have hdl := dupM_len f1 (l0.take k); rw [List.length_take] at hdl; have hct := cntT_le (dupM f1 (l0.take k)); omega))) rfl ?_
        clear E a; intro a E
        refine S_v E rfl (R_assign E rfl) rfl ?_
        clear E a; intro a E
        refine WL_nil ?_
        refine B_n ?_
        refine T_n ?_
        refine WP_region ?_
        refine S_v E rfl (R_addx (m := ((k + 1 : Nat) : Int)) E rfl rfl (by first | omega | (have hdl := dupM_len f1 (l0.take k); rw [List.length_take] at hdl; have hct := cntT_le (dupM f1 (l0.take k)); omega)) (by first | omega | (have hdl := dupM_len f1 (l0.take k); rw [List.length_take] at hdl; have hct := cntT_le (dupM f1 (l0.take k)); omega))) rfl ?_
        clear E a; intro a E
        refine S_v E rfl (R_move E rfl) rfl ?_
        clear E a; intro a E
        refine WL_nil ?_
        refine T_n ?_
        replace S := S.reM (L' := (encE Value.bool (dupM f1 (l0.take (k + 1))))) (congrArg (encE Value.bool) (show putK (dupM f1 (l0.take k)) (f1 x_4) (hasK (dupM f1 (l0.take k)) (f1 x_4)) = dupM f1 (l0.take (k + 1)) by first | rfl | (simp [dupM]; done) | exact dup_y (f := f1) (by assumption) (by assumption) | exact dup_n (f := f1) (by assumption) (by assumption)))
        exact ⟨k + 1, ⟨M_6, (hM_2.trans hM_6), S, E.keep ⟨rfl, rfl, rfl, look_nat (i := cntT (dupM f1 (l0.take k)) + 1) rfl (by (first | (have h9 := cnt_y (f := f1) (by assumption) (by assumption); omega) | (have h9 := cnt_n (f := f1) (by assumption) (by assumption) (by assumption); omega) | (have h9 := cnt_i (f := f1) (by assumption) (by assumption) (by assumption); omega))), rfl, rfl, trivial⟩, by ((try clear S); (try clear E); first | assumption | omega | rfl | (simp; done) | (simp_all; done) | (simp [List.take_add_one, *]; done) | grind [List.take_add_one])⟩, by omega⟩
      · refine WP_skip ?_
        refine B_n ?_
        refine T_n ?_
        refine WP_region ?_
        refine S_v E rfl (R_addx (m := ((k + 1 : Nat) : Int)) E rfl rfl (by first | omega | (have hdl := dupM_len f1 (l0.take k); rw [List.length_take] at hdl; have hct := cntT_le (dupM f1 (l0.take k)); omega)) (by first | omega | (have hdl := dupM_len f1 (l0.take k); rw [List.length_take] at hdl; have hct := cntT_le (dupM f1 (l0.take k)); omega))) rfl ?_
        clear E a; intro a E
        refine S_v E rfl (R_move E rfl) rfl ?_
        clear E a; intro a E
        refine WL_nil ?_
        refine T_n ?_
        replace S := S.reM (L' := (encE Value.bool (dupM f1 (l0.take (k + 1))))) (congrArg (encE Value.bool) (show putK (dupM f1 (l0.take k)) (f1 x_4) (hasK (dupM f1 (l0.take k)) (f1 x_4)) = dupM f1 (l0.take (k + 1)) by first | rfl | (simp [dupM]; done) | exact dup_y (f := f1) (by assumption) (by assumption) | exact dup_n (f := f1) (by assumption) (by assumption)))
        exact ⟨k + 1, ⟨M_6, (hM_2.trans hM_6), S, E.keep ⟨rfl, rfl, rfl, look_nat (i := cntT (dupM f1 (l0.take k))) rfl (by (first | (have h9 := cnt_y (f := f1) (by assumption) (by assumption); omega) | (have h9 := cnt_n (f := f1) (by assumption) (by assumption) (by assumption); omega) | (have h9 := cnt_i (f := f1) (by assumption) (by assumption) (by assumption); omega))), rfl, rfl, trivial⟩, by ((try clear S); (try clear E); first | assumption | omega | rfl | (simp; done) | (simp_all; done) | (simp [List.take_add_one, *]; done) | grind [List.take_add_one])⟩, by omega⟩
    · refine WP_skip ?_
      refine B_n ?_
      refine T_n ?_
      refine WP_region ?_
      refine S_v E rfl (R_addx (m := ((k + 1 : Nat) : Int)) E rfl rfl (by first | omega | (have hdl := dupM_len f1 (l0.take k); rw [List.length_take] at hdl; have hct := cntT_le (dupM f1 (l0.take k)); omega)) (by first | omega | (have hdl := dupM_len f1 (l0.take k); rw [List.length_take] at hdl; have hct := cntT_le (dupM f1 (l0.take k)); omega))) rfl ?_
      clear E a; intro a E
      refine S_v E rfl (R_move E rfl) rfl ?_
      clear E a; intro a E
      refine WL_nil ?_
      refine T_n ?_
      replace S := S.reM (L' := (encE Value.bool (dupM f1 (l0.take (k + 1))))) (congrArg (encE Value.bool) (show dupM f1 (l0.take k) = dupM f1 (l0.take (k + 1)) by first | rfl | (simp [dupM]; done) | exact dup_y (f := f1) (by assumption) (by assumption) | exact dup_n (f := f1) (by assumption) (by assumption)))
      exact ⟨k + 1, ⟨M_6, (hM_2.trans hM_6), S, E.keep ⟨rfl, rfl, rfl, look_nat (i := cntT (dupM f1 (l0.take k))) rfl (by (first | (have h9 := cnt_y (f := f1) (by assumption) (by assumption); omega) | (have h9 := cnt_n (f := f1) (by assumption) (by assumption) (by assumption); omega) | (have h9 := cnt_i (f := f1) (by assumption) (by assumption) (by assumption); omega))), rfl, rfl, trivial⟩, by ((try clear S); (try clear E); first | assumption | omega | rfl | (simp; done) | (simp_all; done) | (simp [List.take_add_one, *]; done) | grind [List.take_add_one])⟩, by omega⟩
  · replace hc_3 := of_decide_eq_false hc_3
    refine WP_exit ?_
    refine T_x ?_
    refine T_x ?_
    refine B_x ?_
    refine T_n ?_
    refine WP_seq ?_
    refine WP_region ?_
    refine S_v E rfl (R_move E rfl) rfl ?_
    clear E a; intro a E
    refine S_x (X_make0 (k := cntT (dupM f1 (l0.take k))) E S rfl rfl rfl T22 rfl (by omega) (by (have hdl := dupM_len f1 (l0.take k); rw [List.length_take] at hdl; have hct := cntT_le (dupM f1 (l0.take k)); omega)) (by (have hdl := dupM_len f1 (l0.take k); rw [List.length_take] at hdl; have hct := cntT_le (dupM f1 (l0.take k)); omega)) ?_)
    clear E a S; rintro a w v_9 E S
    replace S := S.made0
    refine S_v E rfl (R_assign E rfl) rfl ?_
    clear E a; intro a E
    refine WL_nil ?_
    refine T_n ?_
    refine WP_seq ?_
    refine WP_seq ?_
    refine WP_region ?_
    refine S_v E rfl (R_move E rfl) rfl ?_
    clear E a; intro a E
    refine S_v E rfl (R_lenV E rfl T22 h0.len) rfl ?_
    clear E a; intro a E
    refine S_v E rfl (R_move E rfl) rfl ?_
    clear E a; intro a E
    refine WL_nil ?_
    refine T_n ?_
    refine WP_block ?_
    replace S := S.front1
    replace S := S.front1
    replace S := S.front1
    replace S := S.reM (L' := (encE Value.bool ((fdS f1 (dupM f1 (l0.take k)) (l0.take 0)).1))) (congrArg (encE Value.bool) (show dupM f1 (l0.take k) = (fdS f1 (dupM f1 (l0.take k)) (l0.take 0)).1 by first | rfl | (simp [fdS]; done) | (rw [fd_yes (f := f1) (by assumption) (by assumption)]; done) | (rw [fd_n (f := f1) (by assumption) (by assumption)]; done)))
    replace S := S.front1
    replace S := S.re1 (l' := (fdS f1 (dupM f1 (l0.take k)) (l0.take 0)).2) (by first | rfl | (simp [fdS]; done) | (rw [fd_yes (f := f1) (by assumption) (by assumption)]; done) | (rw [fd_n (f := f1) (by assumption) (by assumption)]; done))
    refine WP_loop (γ := Nat) (fun (j : Nat) a w => ∃ (M_10 : Hp) (u11 : Value), Hp.le M_2 M_10 ∧ St w M_10 (OwnI 3 u11 ((fdS f1 (dupM f1 (l0.take k)) (l0.take j)).2) :: OwnE Value.bool b_1 ((fdS f1 (dupM f1 (l0.take k)) (l0.take j)).1) :: H) ∧ Env a 72 [] [(0, v0), (1, v1), (5, .map (some b_1)), (11, u11), (47, .int .i64 (((l0).length : Nat) : Int)), (48, .int .i64 ((j : Nat) : Int))] ∧ (j ≤ (l0).length)) (fun j => ((l0).length) - j) 0 ⟨M_2, _, Hp.le.refl _, S, E.keep ⟨rfl, rfl, rfl, rfl, rfl, rfl, trivial⟩, by ((try clear S); (try clear E); first | assumption | omega | rfl | (simp; done) | (simp_all; done) | (simp [List.take_add_one, *]; done) | grind [List.take_add_one])⟩ ?_
    try clear E
    try clear S
    try clear a
    try clear w
    rintro j a w ⟨M_10, u11, hM_10, S, E, hL1_0⟩
    replace h0 := h0.le hM_10
    replace h1 := h1.le hM_10
    have hfl := fdS_len f1 (dupM f1 (l0.take k)) (l0.take j); rw [List.length_take] at hfl
    refine WP_seq ?_
    refine WP_region ?_
    refine S_v E rfl (R_lss E rfl rfl) rfl ?_
    clear E a; intro a E
    refine WL_nil ?_
    refine T_n ?_
    refine WP_seq ?_
    refine WP_cond E rfl (fun hc_11 => ?_) (fun hc_11 => ?_)
    · replace hc_11 := of_decide_eq_true hc_11
      refine WP_skip ?_
      refine T_n ?_
      refine WP_seq ?_
      refine WP_block ?_
      refine WP_seq ?_
      refine WP_region ?_
      refine S_v E rfl (R_move E rfl) rfl ?_
      clear E a; intro a E
      refine S_v E rfl (R_assign E rfl) rfl ?_
      clear E a; intro a E
      refine WL_nil ?_
      refine T_n ?_
      refine WP_seq ?_
      refine WP_region ?_
      refine S_v E rfl (R_move E rfl) rfl ?_
      clear E a; intro a E
      refine S_v E rfl (R_move E rfl) rfl ?_
      clear E a; intro a E
      refine S_v E rfl (R_move E rfl) rfl ?_
      clear E a; intro a E
      obtain ⟨x_12, hx_12⟩ : ∃ x, (l0)[j]? = some x := ⟨_, List.getElem?_eq_getElem (by first | omega | (simp; done) | (simp; omega) | (simp_all; omega))⟩
      obtain ⟨p_13, hp_13, qp_13⟩ := h0.at hx_12
      refine S_v E rfl (R_idx E rfl rfl T22 hp_13 rfl) rfl ?_
      clear E a; intro a E
      refine S_v E rfl (R_loadM E rfl Try.isAgg3 S.imm qp_13) rfl ?_
      clear E a; intro a E
      refine S_x (X_pu E S rfl rfl rfl (h1.2 x_12) (Hp.le.refl _) ?_)
      clear E a S; rintro a _ w M_14 hM_14 rfl S E
      replace h0 := h0.le hM_14
      replace h1 := h1.le hM_14
      refine S_v E rfl (R_assign E rfl) rfl ?_
      clear E a; intro a E
      refine WL_nil ?_
      refine T_n ?_
      refine WP_seq ?_
      refine WP_region ?_
      refine S_v E rfl (R_move E rfl) rfl ?_
      clear E a; intro a E
      refine S_v E rfl (R_move E rfl) rfl ?_
      clear E a; intro a E
      replace S := S.front1
      refine S_x (X_lookupE1 (vf := Value.bool) (zb := false) E S rfl MT100 rfl rfl ?_)
      clear E a S; rintro a w E S
      replace S : St w M_14 (OwnE Value.bool b_1 ((fdS f1 (dupM f1 (l0.take k)) (l0.take j)).1) :: _) := S
      refine S_v E rfl (R_assign E rfl) rfl ?_
      clear E a; intro a E
      refine WL_nil ?_
      refine T_n ?_
      refine WP_seq ?_
      refine WP_region ?_
      refine S_v E rfl (R_move E rfl) rfl ?_
      clear E a; intro a E
      refine WL_nil ?_
      refine T_n ?_
      refine WP_cond E rfl (fun hc_15 => ?_) (fun hc_15 => ?_)
      · refine WP_seq ?_
        refine WP_region ?_
        refine S_v E rfl (R_move E rfl) rfl ?_
        clear E a; intro a E
        refine S_v E rfl (R_move E rfl) rfl ?_
        clear E a; intro a E
        refine S_v E rfl (R_move E rfl) rfl ?_
        clear E a; intro a E
        obtain ⟨p_16, hp_16, qp_16⟩ := h0.at hx_12
        refine S_v E rfl (R_idx E rfl rfl T22 hp_16 rfl) rfl ?_
        clear E a; intro a E
        refine S_v E rfl (R_loadM E rfl Try.isAgg3 S.imm qp_16) rfl ?_
        clear E a; intro a E
        refine S_x (X_buildI (ys := [x_12]) E S rfl T22 rfl rfl rfl ?_)
        clear E a S; rintro a w v_17 E S
        replace S := S.front2
        replace S := S.front1
        refine S_x (X_appendB (xs := (fdS f1 (dupM f1 (l0.take k)) (l0.take j)).2) (ys := [x_12]) E S rfl rfl rfl T22 (by (simp only [List.length_cons, List.length_nil] at *; omega)) ?_)
        clear E a S; rintro a w v_18 E S
        refine S_v E rfl (R_assign E rfl) rfl ?_
        clear E a; intro a E
        refine WL_nil ?_
        refine T_n ?_
        refine WP_region ?_
        refine S_v E rfl (R_move E rfl) rfl ?_
        clear E a; intro a E
        refine S_v E rfl (R_move E rfl) rfl ?_
        clear E a; intro a E
        replace S := S.front1
        refine S_x0 (X_updateE (vf := Value.bool) (u := false) E S MT100 rfl rfl rfl ?_)
        clear E a S; rintro a w E S
        refine WL_nil ?_
        refine B_n ?_
        refine T_n ?_
        refine WP_region ?_
        refine S_v E rfl (R_addx (m := ((j + 1 : Nat) : Int)) E rfl rfl (by first | omega | (have hdl := dupM_len f1 (l0.take k); rw [List.length_take] at hdl; have hct := cntT_le (dupM f1 (l0.take k)); omega)) (by first | omega | (have hdl := dupM_len f1 (l0.take k); rw [List.length_take] at hdl; have hct := cntT_le (dupM f1 (l0.take k)); omega))) rfl ?_
        clear E a; intro a E
        refine S_v E rfl (R_move E rfl) rfl ?_
        clear E a; intro a E
        refine WL_nil ?_
        refine T_n ?_
        replace S := S.front1
        replace S := S.front1
        replace S := S.reM (L' := (encE Value.bool ((fdS f1 (dupM f1 (l0.take k)) (l0.take (j + 1))).1))) (congrArg (encE Value.bool) (show putK ((fdS f1 (dupM f1 (l0.take k)) (l0.take j)).1) (f1 x_12) false = (fdS f1 (dupM f1 (l0.take k)) (l0.take (j + 1))).1 by first | rfl | (simp [fdS]; done) | (rw [fd_yes (f := f1) (by assumption) (by assumption)]; done) | (rw [fd_n (f := f1) (by assumption) (by assumption)]; done)))
        replace S := S.front1
        replace S := S.re1 (l' := (fdS f1 (dupM f1 (l0.take k)) (l0.take (j + 1))).2) (by first | rfl | (simp [fdS]; done) | (rw [fd_yes (f := f1) (by assumption) (by assumption)]; done) | (rw [fd_n (f := f1) (by assumption) (by assumption)]; done))
        exact ⟨j + 1, ⟨M_14, _, (hM_10.trans hM_14), S, E.keep ⟨rfl, rfl, rfl, rfl, rfl, rfl, trivial⟩, by ((try clear S); (try clear E); first | assumption | omega | rfl | (simp; done) | (simp_all; done) | (simp [List.take_add_one, *]; done) | grind [List.take_add_one])⟩, by omega⟩
      · refine WP_skip ?_
        refine B_n ?_
        refine T_n ?_
        refine WP_region ?_
        refine S_v E rfl (R_addx (m := ((j + 1 : Nat) : Int)) E rfl rfl (by first | omega | (have hdl := dupM_len f1 (l0.take k); rw [List.length_take] at hdl; have hct := cntT_le (dupM f1 (l0.take k)); omega)) (by first | omega | (have hdl := dupM_len f1 (l0.take k); rw [List.length_take] at hdl; have hct := cntT_le (dupM f1 (l0.take k)); omega))) rfl ?_
        clear E a; intro a E
        refine S_v E rfl (R_move E rfl) rfl ?_
        clear E a; intro a E
        refine WL_nil ?_
        refine T_n ?_
        replace S := S.front1
        replace S := S.front1
        replace S := S.reM (L' := (encE Value.bool ((fdS f1 (dupM f1 (l0.take k)) (l0.take (j + 1))).1))) (congrArg (encE Value.bool) (show (fdS f1 (dupM f1 (l0.take k)) (l0.take j)).1 = (fdS f1 (dupM f1 (l0.take k)) (l0.take (j + 1))).1 by first | rfl | (simp [fdS]; done) | (rw [fd_yes (f := f1) (by assumption) (by assumption)]; done) | (rw [fd_n (f := f1) (by assumption) (by assumption)]; done)))
        replace S := S.front1
        replace S := S.re1 (l' := (fdS f1 (dupM f1 (l0.take k)) (l0.take (j + 1))).2) (by first | rfl | (simp [fdS]; done) | (rw [fd_yes (f := f1) (by assumption) (by assumption)]; done) | (rw [fd_n (f := f1) (by assumption) (by assumption)]; done))
        exact ⟨j + 1, ⟨M_14, _, (hM_10.trans hM_14), S, E.keep ⟨rfl, rfl, rfl, rfl, rfl, rfl, trivial⟩, by ((try clear S); (try clear E); first | assumption | omega | rfl | (simp; done) | (simp_all; done) | (simp [List.take_add_one, *]; done) | grind [List.take_add_one])⟩, by omega⟩
    · replace hc_11 := of_decide_eq_false hc_11
      refine WP_exit ?_
      refine T_x ?_
      refine T_x ?_
      refine B_x ?_
      refine T_n ?_
      refine WP_seq ?_
      refine WP_region ?_
      refine S_v E rfl (R_move E rfl) rfl ?_
      clear E a; intro a E
      refine S_v E rfl (R_assign E rfl) rfl ?_
      clear E a; intro a E
      refine WL_nil ?_
      refine T_n ?_
      refine WP_ret ?_
      have S0 := S; clear S
      obtain ⟨M_19, hM_19, hz_20, S⟩ := S0.freezeI (by (have hfl := fdS_len f1 (dupM f1 (l0.take k)) (l0.take j); rw [List.length_take] at hfl; omega))
      clear S0
      replace h0 := h0.le hM_19
      replace h1 := h1.le hM_19
      exact F_ret1 E Try.results66 rfl ⟨_, rfl, M_19, (hM_2.trans (hM_10.trans hM_19)), (by rw [show ((fdS f1 (dupM f1 l0) l0).2) = ((fdS f1 (dupM f1 (l0.take k)) (l0.take j)).2) from by (rw [List.take_of_length_le (l := l0) (i := k) (by omega), List.take_of_length_le (l := l0) (i := j) (by omega)])]; exact hz_20), S.drop⟩

set_option maxRecDepth 100000 in
set_option maxHeartbeats 4000000 in
theorem impl_FindDuplicatesBy {M : Hp} {v0 : Value} {l0 : List Int} (h0 : RdI M v0 l0){kk1 kn1 : Int} (gk1 : -9223372036854775808 ≤ kn1 ∧ kn1 ≤ 9223372036854775807) (hb : l0.length ≤ 1000000000000) :
    Pu Try.prog (.func (.func 21) #[] #[]) M [v0, .agg #[.int .i64 kk1, .int .i64 kn1]] (fun r M' => RdI M' r ((fdS (fun x => keyAt kk1 kn1 x 0) (dupM (fun x => keyAt kk1 kn1 x 0) l0) l0).2)) := by
  refine Pu_enter Try.func21 rfl Try.ntmps21 rfl Try.call21 ?_
  intro a w M1 H hM1 S E
  replace h0 := h0.le hM1
  have b0 := h0.bound
  have hfl := fdS_len (fun x => keyAt kk1 kn1 x 0) (dupM (fun x => keyAt kk1 kn1 x 0) l0) l0
  refine WP_seq ?_
  refine WP_region ?_
  refine S_x (X_box (cs := #[.int .i64 kk1, .int .i64 kn1]) E S rfl rfl rfl ?_)
  clear E a S; rintro a w b_1 E S
  obtain ⟨M_2, hM_2, hb_1, S⟩ := S.freezeB
  replace h0 := h0.le hM_2
  refine S_v E rfl (R_assign E rfl) rfl ?_
  clear E a; intro a E
  refine WL_nil ?_
  refine T_n ?_
  refine WP_seq ?_
  refine WP_region ?_
  refine S_v E rfl (R_move E rfl) rfl ?_
  clear E a; intro a E
  refine S_v E rfl (R_loadGM E rfl (Try.isAgg24 _) (Try.sizeOf24 _) S.imm hb_1) rfl ?_
  clear E a; intro a E
  refine S_v E rfl (R_makeFunc E rfl rfl) rfl ?_
  clear E a; intro a E
  refine S_x (X_pu E S rfl rfl rfl (lo_FindDuplicatesBy h0 ⟨rfl, fun zx1 => Key_of (x1 := zx1) (by omega)⟩ (by (first | omega | (simp; omega) | (simp; done) | (simp_all; omega) | grind))) (Hp.le.refl _) ?_)
  clear E a S; rintro a v_4 w M_3 hM_3 hv_4 S E
  replace h0 := h0.le hM_3
  replace hb_1 := hM_3.2 _ _ hb_1
  refine S_v E rfl (R_assign E rfl) rfl ?_
  clear E a; intro a E
  refine WL_nil ?_
  refine T_n ?_
  refine WP_ret ?_
  exact F_ret1 E Try.results21 rfl ⟨_, rfl, M_3, (hM_2.trans hM_3), hv_4, S⟩

set_option maxRecDepth 100000 in
set_option maxHeartbeats 4000000 in
theorem laws_FnGroupsBack {M : Hp} {v0 : Value} {l0 : List Int} (h0 : RdI M v0 l0){kk1 kn1 : Int} (gk1 : -9223372036854775808 ≤ kn1 ∧ kn1 ≤ 9223372036854775807) (hr0 : (∀ x ∈ l0, -9223372036854775808 ≤ x ∧ x ≤ 9223372036854775807)) :
    PuC Try.prog 3 M [v0, .agg #[.int .i64 kk1, .int .i64 kn1]] (fun r M' => r = .bool true) := by
  refine PuC_enter Try.func3 rfl Try.ntmps3 rfl ?_
  intro a w M1 H hM1 S E
  replace h0 := h0.le hM1
  have b0 := h0.bound
  refine WP_seq ?_
  refine WP_region ?_
  refine S_x (X_box (cs := #[.int .i64 kk1, .int .i64 kn1]) E S rfl rfl rfl ?_)
  clear E a S; rintro a w b_1 E S
  obtain ⟨M_2, hM_2, hb_1, S⟩ := S.freezeB
  replace h0 := h0.le hM_2
  refine S_v E rfl (R_assign E rfl) rfl ?_
  clear E a; intro a E
  refine WL_nil ?_
  refine T_n ?_
  refine WP_seq ?_
  refine WP_seq ?_
  refine WP_region ?_
  refine S_v E rfl (R_move E rfl) rfl ?_
  clear E a; intro a E
  refine S_v E rfl (R_lenV E rfl T22 h0.len) rfl ?_
  clear E a; intro a E
  refine S_v E rfl (R_gtr E rfl rfl) rfl ?_
  clear E a; intro a E
  refine WL_nil ?_
  refine T_n ?_
  refine WP_cond E rfl (fun hc_3 => ?_) (fun hc_3 => ?_)
  · replace hc_3 := of_decide_eq_true hc_3
    refine WP_seq ?_
    refine WP_region ?_
    refine S_v E rfl (R_assign E rfl) rfl ?_
    clear E a; intro a E
    refine WL_nil ?_
    refine T_n ?_
    refine WP_ret ?_
    refine T_r ?_
    exact F_ret1 E Try.results3 rfl ⟨_, rfl, M_2, hM_2, rfl, S⟩
  · replace hc_3 := of_decide_eq_false hc_3
    refine WP_skip ?_
    refine T_n ?_
    refine WP_seq ?_
    refine WP_seq ?_
    refine WP_region ?_
    refine S_x (X_buildI (ys := [1]) E S rfl T22 rfl rfl rfl ?_)
    clear E a S; rintro a w v_4 E S
    refine S_v E rfl (R_build (u := .agg #[.int .i64 0, .int .i64 0]) (vs := []) E rfl (fun w => FB24__  w)) rfl ?_
    clear E a; intro a E
    have S0 := S; clear S
    obtain ⟨M_5, hM_5, hz_6, S⟩ := S0.freezeI (by (first | omega | (simp; done) | (have h8 := hfl k; simp only [List.length_map] at *; omega)))
    clear S0
    replace h0 := h0.le hM_5
    replace hb_1 := hM_5.2 _ _ hb_1
    refine S_x (X_pu E S rfl rfl rfl (impl_GroupBy hz_6 (by omega) (by (first | omega | (simp; omega) | (simp; done) | (simp_all; omega) | grind))) (Hp.le.refl _) ?_)
    clear E a S; rintro a v_8 w M_7 hM_7 hv_8 S E
    replace h0 := h0.le hM_7
    replace hb_1 := hM_7.2 _ _ hb_1
    replace hz_6 := hz_6.le hM_7
    refine S_v E rfl (R_lenV E rfl T25 hv_8.len) rfl ?_
    clear E a; intro a E
    refine S_v E rfl (R_neq E rfl rfl) rfl ?_
    clear E a; intro a E
    refine WL_nil ?_
    refine T_n ?_
    have hc_9 : (decide ((((grpS (fun x => (keyAt 0 0 x 0, x)) [1]).length : Nat) : Int) ≠ 1)) = false := by (clear S E; first | (simp; done) | decide | (rw [grpS_one]; decide) | (have h9 := hG _ (List.mem_of_getElem? (by assumption)); simp; omega) | (have h9 := hG _ (List.mem_of_getElem? (by assumption)); refine decide_eq_false ?_; omega) | (first | refine dec_t ?_ | refine dec_f ?_ | skip); first | (rw [etk]; exact G_counts (fun x => keyAt kk1 kn1 x 0) l0) | (rw [etk]; exact same_pq (G_alone (fun x => keyAt kk1 kn1 x 0) l0)) | (rw [etk]; exact same_pq (G_doub (fun x => keyAt kk1 kn1 x 0) l0)) | (rw [etk]; exact same_pq (G_all (fun x => keyAt kk1 kn1 x 0) l0)) | (rw [etk]; exact same_pq (firsts_perm (fun x => keyAt kk1 kn1 x 0) l0)) | (rw [etk]; exact (G_counts (fun x => keyAt kk1 kn1 x 0) l0).trans (cvb_counts (fun x => keyAt kk1 kn1 x 0) l0).symm) | (rw [etk]; exact G_lasts (fun x => keyAt kk1 kn1 x 0) l0) | (rw [etk]; exact same_pq ((G_alone (fun x => keyAt kk1 kn1 x 0) l0).trans (List.Perm.of_eq (ful_eq (fun x => keyAt kk1 kn1 x 0) l0).symm))) | (rw [etk]; exact same_pq ((G_doub (fun x => keyAt kk1 kn1 x 0) l0).trans (List.Perm.of_eq (fd_cano (fun x => keyAt kk1 kn1 x 0) l0).symm))))
    refine WP_condF E rfl hc_9 ?_
    refine WP_skip ?_
    refine T_n ?_
    refine WP_seq ?_
    refine WP_seq ?_
    refine WP_region ?_
    refine S_v E rfl (R_move E rfl) rfl ?_
    clear E a; intro a E
    refine S_x (X_buildM (R := RSl 1 RInt) (vs := [v0]) (xs := [l0]) (RSl_mono RInt_mono) E S rfl T54 rfl rfl rfl (by intro u hu; simp only [List.mem_cons, List.not_mem_nil, or_false] at hu; rcases hu with rfl <;> first | exact RdI.one h0 | rfl) rfl (rowsC (R := RSl 1 RInt) (RdI.row h0) rowsN) ?_)
    clear E a S; rintro a v_10 w M_11 hM_11 hv_10 S E
    replace hv_10 : RdII M_11 v_10 [l0] := hv_10
    replace h0 := h0.le hM_11
    replace hb_1 := hM_11.2 _ _ hb_1
    replace hz_6 := hz_6.le hM_11
    replace hv_8 := hv_8.le RG2_mono hM_11
    refine S_x (X_pu E S rfl rfl rfl (laws_few hv_10) (Hp.le.refl _) ?_)
    clear E a S; rintro a _ w M_12 hM_12 rfl S E
    replace h0 := h0.le hM_12
    replace hb_1 := hM_12.2 _ _ hb_1
    replace hz_6 := hz_6.le hM_12
    replace hv_8 := hv_8.le RG2_mono hM_12
    replace hv_10 := hv_10.le hM_12
    refine S_v E rfl (R_not E rfl) rfl ?_
    clear E a; intro a E
    refine S_v E rfl (R_move E rfl) rfl ?_
    clear E a; intro a E
    refine split_bool (!(decide (∀ x ∈ [l0], x.length ≤ 300))) (fun hc_13 => ?_) (fun hc_13 => ?_)
    · replace E := E.val (t := 25) rfl hc_13
      replace E := E.val (t := 26) rfl hc_13
      refine WL_guard_no E rfl rfl rfl rfl fun a E => ?_
      refine WL_guard_no E rfl rfl rfl rfl fun a E => ?_
      refine WL_guard_no E rfl rfl rfl rfl fun a E => ?_
      refine S_v E rfl (R_pickT E rfl rfl) rfl ?_
      clear E a; intro a E
      refine WL_nil ?_
      refine T_n ?_
      refine WP_condT E rfl rfl ?_
      refine WP_seq ?_
      refine WP_region ?_
      refine S_v E rfl (R_assign E rfl) rfl ?_
      clear E a; intro a E
      refine WL_nil ?_
      refine T_n ?_
      refine WP_ret ?_
      refine T_r ?_
      exact F_ret1 E Try.results3 rfl ⟨_, rfl, M_12, (hM_2.trans (hM_5.trans (hM_7.trans (hM_11.trans hM_12)))), rfl, S⟩
    · replace E := E.val (t := 25) rfl hc_13
      replace E := E.val (t := 26) rfl hc_13
      refine WL_guard_yes E rfl rfl ?_
      refine S_v E rfl (R_loadGM E rfl (Try.isAgg24 _) (Try.sizeOf24 _) S.imm hb_1) rfl ?_
      clear E a; intro a E
      refine WL_guard_yes E rfl rfl ?_
      refine S_x (X_pu E S rfl rfl rfl (laws_just (by omega)) (Hp.le.refl _) ?_)
      clear E a S; rintro a _ w M_14 hM_14 rfl S E
      replace h0 := h0.le hM_14
      replace hb_1 := hM_14.2 _ _ hb_1
      replace hz_6 := hz_6.le hM_14
      replace hv_8 := hv_8.le RG2_mono hM_14
      replace hv_10 := hv_10.le hM_14
      refine WL_guard_yes E rfl rfl ?_
      refine S_v E rfl (R_not E rfl) rfl ?_
      clear E a; intro a E
      refine S_v E rfl (R_pickF E rfl rfl) rfl ?_
      clear E a; intro a E
      refine WL_nil ?_
      refine T_n ?_
      refine WP_cond E rfl (fun hc_15 => ?_) (fun hc_15 => ?_)
      · refine WP_seq ?_
        refine WP_region ?_
        refine S_v E rfl (R_assign E rfl) rfl ?_
        clear E a; intro a E
        refine WL_nil ?_
        refine T_n ?_
        refine WP_ret ?_
        refine T_r ?_
        exact F_ret1 E Try.results3 rfl ⟨_, rfl, M_14, (hM_2.trans (hM_5.trans (hM_7.trans (hM_11.trans (hM_12.trans hM_14))))), rfl, S⟩
      · have hln : l0.length ≤ 300 := (by simp_all)
        have hkj : -1099511627776 < kn1 ∧ kn1 < 1099511627776 := (by simp_all)
        have hG := grpS_el (fun x => keyAt kk1 kn1 x 0) l0
        have hGl := grpS_len (fun x => (keyAt kk1 kn1 x 0, x)) l0
        have hfl := flat_len (fun x => keyAt kk1 kn1 x 0) l0
        refine WP_skip ?_
        refine T_n ?_
        refine WP_seq ?_
        refine WP_region ?_
        refine S_v E rfl (R_move E rfl) rfl ?_
        clear E a; intro a E
        refine S_v E rfl (R_loadGM E rfl (Try.isAgg24 _) (Try.sizeOf24 _) S.imm hb_1) rfl ?_
        clear E a; intro a E
        refine S_x (X_pu E S rfl rfl rfl (impl_GroupBy h0 (by omega) (by (first | omega | (simp; omega) | (simp; done) | (simp_all; omega) | grind))) (Hp.le.refl _) ?_)
        clear E a S; rintro a v_17 w M_16 hM_16 hv_17 S E
        replace h0 := h0.le hM_16
        replace hb_1 := hM_16.2 _ _ hb_1
        replace hz_6 := hz_6.le hM_16
        replace hv_8 := hv_8.le RG2_mono hM_16
        replace hv_10 := hv_10.le hM_16
        refine S_v E rfl (R_assign E rfl) rfl ?_
        clear E a; intro a E
        refine WL_nil ?_
        refine T_n ?_
        refine WP_seq ?_
        refine WP_region ?_
        refine S_v E rfl (R_assign E rfl) rfl ?_
        clear E a; intro a E
        refine S_v E rfl (R_assign E rfl) rfl ?_
        clear E a; intro a E
        refine S_v E rfl (R_assign E rfl) rfl ?_
        clear E a; intro a E
        refine S_v E rfl (R_assign E rfl) rfl ?_
        clear E a; intro a E
        refine WL_nil ?_
        refine T_n ?_
        refine WP_seq ?_
        refine WP_region ?_
        refine S_v E rfl (R_assign E rfl) rfl ?_
        clear E a; intro a E
        refine S_v E rfl (R_assign E rfl) rfl ?_
        clear E a; intro a E
        refine WL_nil ?_
        refine T_n ?_
        refine WP_seq ?_
        refine WP_seq ?_
        refine WP_region ?_
        refine S_v E rfl (R_move E rfl) rfl ?_
        clear E a; intro a E
        refine S_v E rfl (R_lenV E rfl T25 hv_17.len) rfl ?_
        clear E a; intro a E
        refine S_v E rfl (R_move E rfl) rfl ?_
        clear E a; intro a E
        refine WL_nil ?_
        refine T_n ?_
        refine WP_block ?_
        replace S : St w M_16 (OwnC 33 2 (.slice none 0 0) ([] : List (Int × Int)).length [] :: _) := S.ownNil
        have hr_19 : RowsR RP2 2 M_16 ([] : List (Int × Int)) [] := RowsR.nil
        replace S : St w M_16 (OwnC 33 2 (.slice none 0 0) ([] : List (Int × Int)).length [] :: _) := S.ownNil
        have hr_21 : RowsR RP2 2 M_16 ([] : List (Int × Int)) [] := RowsR.nil
        replace S := (S.ownNil (e := 3) (sz := 1)).made0
        replace S := (S.ownNil (e := 3) (sz := 1)).made0
        replace S := (S.ownNil (e := 3) (sz := 1)).made0
        replace S := (S.ownNil (e := 3) (sz := 1)).made0
        replace S := S.front5
        have hre : ([] : List (Int × Int)) = ((grpS (fun x => (keyAt kk1 kn1 x 0, x)) l0).take 0).map (fun g : Int × List Int => (g.1, g.2.getLastD 0)) := by first | (simp; done) | exact gb_flat (by assumption) | exact gb_cnt (by assumption) | exact gb_head (by assumption) (by assumption) | exact gb_last (by assumption) (by assumption) (by have h9 := hG _ (List.mem_of_getElem? (by assumption)); omega) | exact gb_one (p := (fun g : Int × List Int => decide (g.2.length = 1))) (by assumption) (by assumption) (decide_eq_true (by omega)) | exact gb_no (p := (fun g : Int × List Int => decide (g.2.length = 1))) (by assumption) (decide_eq_false (by omega)) | exact gb_one (p := (fun g : Int × List Int => !decide (g.2.length = 1))) (by assumption) (by assumption) (by simp; omega) | exact gb_no (p := (fun g : Int × List Int => !decide (g.2.length = 1))) (by assumption) (by simp; omega)
        replace S := S.reR hre
        replace hr_19 := hr_19.eq hre
        clear hre
        replace S := S.front5
        have hre : ([] : List (Int × Int)) = ((grpS (fun x => (keyAt kk1 kn1 x 0, x)) l0).take 0).map (fun g : Int × List Int => (g.1, (g.2.length : Int))) := by first | (simp; done) | exact gb_flat (by assumption) | exact gb_cnt (by assumption) | exact gb_head (by assumption) (by assumption) | exact gb_last (by assumption) (by assumption) (by have h9 := hG _ (List.mem_of_getElem? (by assumption)); omega) | exact gb_one (p := (fun g : Int × List Int => decide (g.2.length = 1))) (by assumption) (by assumption) (decide_eq_true (by omega)) | exact gb_no (p := (fun g : Int × List Int => decide (g.2.length = 1))) (by assumption) (decide_eq_false (by omega)) | exact gb_one (p := (fun g : Int × List Int => !decide (g.2.length = 1))) (by assumption) (by assumption) (by simp; omega) | exact gb_no (p := (fun g : Int × List Int => !decide (g.2.length = 1))) (by assumption) (by simp; omega)
        replace S := S.reR hre
        replace hr_21 := hr_21.eq hre
        clear hre
        replace S := S.front5
        replace S := S.re1 (l' := (((grpS (fun x => (keyAt kk1 kn1 x 0, x)) l0).take 0).filter (fun g : Int × List Int => !decide (g.2.length = 1))).map (fun g : Int × List Int => g.2.headD 0)) (by first | (simp; done) | exact gb_flat (by assumption) | exact gb_cnt (by assumption) | exact gb_head (by assumption) (by assumption) | exact gb_last (by assumption) (by assumption) (by have h9 := hG _ (List.mem_of_getElem? (by assumption)); omega) | exact gb_one (p := (fun g : Int × List Int => decide (g.2.length = 1))) (by assumption) (by assumption) (decide_eq_true (by omega)) | exact gb_no (p := (fun g : Int × List Int => decide (g.2.length = 1))) (by assumption) (decide_eq_false (by omega)) | exact gb_one (p := (fun g : Int × List Int => !decide (g.2.length = 1))) (by assumption) (by assumption) (by simp; omega) | exact gb_no (p := (fun g : Int × List Int => !decide (g.2.length = 1))) (by assumption) (by simp; omega))
        replace S := S.front5
        replace S := S.re1 (l' := (((grpS (fun x => (keyAt kk1 kn1 x 0, x)) l0).take 0).filter (fun g : Int × List Int => decide (g.2.length = 1))).map (fun g : Int × List Int => g.2.headD 0)) (by first | (simp; done) | exact gb_flat (by assumption) | exact gb_cnt (by assumption) | exact gb_head (by assumption) (by assumption) | exact gb_last (by assumption) (by assumption) (by have h9 := hG _ (List.mem_of_getElem? (by assumption)); omega) | exact gb_one (p := (fun g : Int × List Int => decide (g.2.length = 1))) (by assumption) (by assumption) (decide_eq_true (by omega)) | exact gb_no (p := (fun g : Int × List Int => decide (g.2.length = 1))) (by assumption) (decide_eq_false (by omega)) | exact gb_one (p := (fun g : Int × List Int => !decide (g.2.length = 1))) (by assumption) (by assumption) (by simp; omega) | exact gb_no (p := (fun g : Int × List Int => !decide (g.2.length = 1))) (by assumption) (by simp; omega))
        replace S := S.front5
        replace S := S.re1 (l' := ((grpS (fun x => (keyAt kk1 kn1 x 0, x)) l0).take 0).map (fun g : Int × List Int => g.2.headD 0)) (by first | (simp; done) | exact gb_flat (by assumption) | exact gb_cnt (by assumption) | exact gb_head (by assumption) (by assumption) | exact gb_last (by assumption) (by assumption) (by have h9 := hG _ (List.mem_of_getElem? (by assumption)); omega) | exact gb_one (p := (fun g : Int × List Int => decide (g.2.length = 1))) (by assumption) (by assumption) (decide_eq_true (by omega)) | exact gb_no (p := (fun g : Int × List Int => decide (g.2.length = 1))) (by assumption) (decide_eq_false (by omega)) | exact gb_one (p := (fun g : Int × List Int => !decide (g.2.length = 1))) (by assumption) (by assumption) (by simp; omega) | exact gb_no (p := (fun g : Int × List Int => !decide (g.2.length = 1))) (by assumption) (by simp; omega))
        replace S := S.front5
        replace S := S.re1 (l' := (((grpS (fun x => (keyAt kk1 kn1 x 0, x)) l0).take 0).map Prod.snd).flatten) (by first | (simp; done) | exact gb_flat (by assumption) | exact gb_cnt (by assumption) | exact gb_head (by assumption) (by assumption) | exact gb_last (by assumption) (by assumption) (by have h9 := hG _ (List.mem_of_getElem? (by assumption)); omega) | exact gb_one (p := (fun g : Int × List Int => decide (g.2.length = 1))) (by assumption) (by assumption) (decide_eq_true (by omega)) | exact gb_no (p := (fun g : Int × List Int => decide (g.2.length = 1))) (by assumption) (decide_eq_false (by omega)) | exact gb_one (p := (fun g : Int × List Int => !decide (g.2.length = 1))) (by assumption) (by assumption) (by simp; omega) | exact gb_no (p := (fun g : Int × List Int => !decide (g.2.length = 1))) (by assumption) (by simp; omega))
        refine WP_loop (γ := Nat) (fun (k : Nat) a w => ∃ (M_26 : Hp) (u6 : Value) (u7 : Value) (u8 : Value) (u9 : Value) (u10 : Value) (u11 : Value) (xs10 : List Value) (xs11 : List Value), Hp.le M_16 M_26 ∧ St w M_26 (OwnI 3 u6 ((((grpS (fun x => (keyAt kk1 kn1 x 0, x)) l0).take k).map Prod.snd).flatten) :: OwnI 3 u7 (((grpS (fun x => (keyAt kk1 kn1 x 0, x)) l0).take k).map (fun g : Int × List Int => g.2.headD 0)) :: OwnI 3 u8 ((((grpS (fun x => (keyAt kk1 kn1 x 0, x)) l0).take k).filter (fun g : Int × List Int => decide (g.2.length = 1))).map (fun g : Int × List Int => g.2.headD 0)) :: OwnI 3 u9 ((((grpS (fun x => (keyAt kk1 kn1 x 0, x)) l0).take k).filter (fun g : Int × List Int => !decide (g.2.length = 1))).map (fun g : Int × List Int => g.2.headD 0)) :: OwnC 33 2 u10 (((grpS (fun x => (keyAt kk1 kn1 x 0, x)) l0).take k).map (fun g : Int × List Int => (g.1, (g.2.length : Int)))).length xs10 :: OwnC 33 2 u11 (((grpS (fun x => (keyAt kk1 kn1 x 0, x)) l0).take k).map (fun g : Int × List Int => (g.1, g.2.getLastD 0))).length xs11 :: H) ∧ Env a 156 [] [(0, v0), (3, .pointer (some ⟨b_1, 0, none⟩)), (6, u6), (7, u7), (8, u8), (9, u9), (10, u10), (11, u11), (34, v_17), (35, .int .i64 (((grpS (fun x => (keyAt kk1 kn1 x 0, x)) l0).length : Nat) : Int)), (36, .int .i64 ((k : Nat) : Int))] ∧ (k ≤ (grpS (fun x => (keyAt kk1 kn1 x 0, x)) l0).length) ∧ RowsR RP2 2 M_26 (((grpS (fun x => (keyAt kk1 kn1 x 0, x)) l0).take k).map (fun g : Int × List Int => (g.1, (g.2.length : Int)))) xs10 ∧ RowsR RP2 2 M_26 (((grpS (fun x => (keyAt kk1 kn1 x 0, x)) l0).take k).map (fun g : Int × List Int => (g.1, g.2.getLastD 0))) xs11) (fun k => ((grpS (fun x => (keyAt kk1 kn1 x 0, x)) l0).length) - k) 0 ⟨M_16, _, _, _, _, _, _, _, _, Hp.le.refl _, S, E.keep ⟨rfl, rfl, rfl, rfl, rfl, rfl, rfl, rfl, rfl, rfl, rfl, trivial⟩, by ((try clear S); (try clear E); first | assumption | omega | rfl | (simp; done) | (simp_all; done) | (simp [List.take_add_one, *]; done) | grind [List.take_add_one]), hr_21, hr_19⟩ ?_
        try clear E
        try clear S
        try clear a
        try clear w
        rintro k a w ⟨M_26, u6, u7, u8, u9, u10, u11, xs10, xs11, hM_26, S, E, hL0_0, hr10, hr11⟩
        replace h0 := h0.le hM_26
        replace hb_1 := hM_26.2 _ _ hb_1
        replace hz_6 := hz_6.le hM_26
        replace hv_8 := hv_8.le RG2_mono hM_26
        replace hv_10 := hv_10.le hM_26
        replace hv_17 := hv_17.le RG2_mono hM_26
        have hlt := List.length_take_le k (grpS (fun x => (keyAt kk1 kn1 x 0, x)) l0)
        have hp1 := List.length_filter_le (fun g : Int × List Int => decide (g.2.length = 1)) ((grpS (fun x => (keyAt kk1 kn1 x 0, x)) l0).take k)
        have hpn := List.length_filter_le (fun g : Int × List Int => !decide (g.2.length = 1)) ((grpS (fun x => (keyAt kk1 kn1 x 0, x)) l0).take k)
        refine WP_seq ?_
        refine WP_region ?_
        refine S_v E rfl (R_lss E rfl rfl) rfl ?_
        clear E a; intro a E
        refine WL_nil ?_
        refine T_n ?_
        refine WP_seq ?_
        refine WP_cond E rfl (fun hc_27 => ?_) (fun hc_27 => ?_)
        · replace hc_27 := of_decide_eq_true hc_27
          refine WP_skip ?_
          refine T_n ?_
          refine WP_seq ?_
          refine WP_block ?_
          refine WP_seq ?_
          refine WP_region ?_
          obtain ⟨x_28, hx_28⟩ : ∃ x, (grpS (fun x => (keyAt kk1 kn1 x 0, x)) l0)[k]? = some x := ⟨_, List.getElem?_eq_getElem (by (first | omega | (have h9 := hG _ (List.mem_of_getElem? (by assumption)); omega)))⟩
          obtain ⟨p_29, u_30, hp_29, qp_29, hu_30⟩ := RdG2.at hv_17 hx_28
          refine S_v E rfl (R_idx E rfl rfl T25 hp_29 rfl) rfl ?_
          clear E a; intro a E
          refine S_v E rfl (R_loadA (cs := [.int .i64 x_28.1, u_30]) E rfl (Try.isAgg31 _) (Try.sizeOf31 _) S.imm qp_29) rfl ?_
          clear E a; intro a E
          refine S_x (X_alloc (cs := #[.int .i64 0, .slice none 0 0]) E S rfl Try.zeroValue31 rfl ?_)
          clear E a S; rintro a w b_31 E S
          refine S_x0 (X_storeG (us := [.int .i64 x_28.1, u_30]) E S rfl rfl (Try.sizeOf31 _) rfl (by intro u hu; simp only [List.mem_cons, List.not_mem_nil, or_false] at hu; rcases hu with rfl | rfl <;> first | exact rfl | exact (RdS.one' hu_30)) ?_)
          clear E a S; rintro a w E S
          replace S : St w M_26 (blk b_31 (.cells #[.int .i64 x_28.1, u_30] 31) :: _) := S
          have S0 := S; clear S
          obtain ⟨M_32, hM_32, hb_33, S⟩ := S0.freezeB
          clear S0
          replace h0 := h0.le hM_32
          replace hb_1 := hM_32.2 _ _ hb_1
          replace hz_6 := hz_6.le hM_32
          replace hv_8 := hv_8.le RG2_mono hM_32
          replace hv_10 := hv_10.le hM_32
          replace hv_17 := hv_17.le RG2_mono hM_32
          replace hr10 := hr10.le RP2_mono hM_32
          replace hr11 := hr11.le RP2_mono hM_32
          replace hu_30 := hu_30.le hM_32
          refine WL_nil ?_
          refine T_n ?_
          refine WP_seq ?_
          refine WP_seq ?_
          refine WP_region ?_
          refine S_v E rfl (R_fieldAddr E rfl (FA31_1 _)) rfl ?_
          clear E a; intro a E
          refine S_v E rfl (R_loadM E rfl Try.isAgg22 S.imm (cellM_boxo hb_33 rfl)) rfl ?_
          clear E a; intro a E
          refine S_v E rfl (R_lenV E rfl T22 hu_30.len) rfl ?_
          clear E a; intro a E
          refine S_v E rfl (R_eql E rfl rfl) rfl ?_
          clear E a; intro a E
          refine WL_nil ?_
          refine T_n ?_
          have hc_34 : (decide ((((x_28.2).length : Nat) : Int) = 0)) = false := by (clear S E; first | (simp; done) | decide | (rw [grpS_one]; decide) | (have h9 := hG _ (List.mem_of_getElem? (by assumption)); simp; omega) | (have h9 := hG _ (List.mem_of_getElem? (by assumption)); refine decide_eq_false ?_; omega) | (first | refine dec_t ?_ | refine dec_f ?_ | skip); first | (rw [etk]; exact G_counts (fun x => keyAt kk1 kn1 x 0) l0) | (rw [etk]; exact same_pq (G_alone (fun x => keyAt kk1 kn1 x 0) l0)) | (rw [etk]; exact same_pq (G_doub (fun x => keyAt kk1 kn1 x 0) l0)) | (rw [etk]; exact same_pq (G_all (fun x => keyAt kk1 kn1 x 0) l0)) | (rw [etk]; exact same_pq (firsts_perm (fun x => keyAt kk1 kn1 x 0) l0)) | (rw [etk]; exact (G_counts (fun x => keyAt kk1 kn1 x 0) l0).trans (cvb_counts (fun x => keyAt kk1 kn1 x 0) l0).symm) | (rw [etk]; exact G_lasts (fun x => keyAt kk1 kn1 x 0) l0) | (rw [etk]; exact same_pq ((G_alone (fun x => keyAt kk1 kn1 x 0) l0).trans (List.Perm.of_eq (ful_eq (fun x => keyAt kk1 kn1 x 0) l0).symm))) | (rw [etk]; exact same_pq ((G_doub (fun x => keyAt kk1 kn1 x 0) l0).trans (List.Perm.of_eq (fd_cano (fun x => keyAt kk1 kn1 x 0) l0).symm))))
          refine WP_condF E rfl hc_34 ?_
          refine WP_skip ?_
          refine T_n ?_
          refine WP_seq ?_
          refine WP_region ?_
          refine S_v E rfl (R_move E rfl) rfl ?_
          clear E a; intro a E
          refine S_v E rfl (R_fieldAddr E rfl (FA31_1 _)) rfl ?_
          clear E a; intro a E
          refine S_v E rfl (R_loadM E rfl Try.isAgg22 S.imm (cellM_boxo hb_33 rfl)) rfl ?_
          clear E a; intro a E
          refine S_x (X_appendI (xs := (((grpS (fun x => (keyAt kk1 kn1 x 0, x)) l0).take k).map Prod.snd).flatten) E S rfl rfl rfl T22 hu_30 (by (first | omega | (have h9 := hG _ (List.mem_of_getElem? (by assumption)); have h8 := hfl k; simp only [List.length_cons, List.length_nil, List.length_map] at *; omega))) ?_)
          clear E a S; rintro a w v_35 E S
          refine S_v E rfl (R_assign E rfl) rfl ?_
          clear E a; intro a E
          refine WL_nil ?_
          refine T_n ?_
          refine WP_seq ?_
          refine WP_region ?_
          refine S_v E rfl (R_move E rfl) rfl ?_
          clear E a; intro a E
          refine S_v E rfl (R_fieldAddr E rfl (FA31_1 _)) rfl ?_
          clear E a; intro a E
          refine S_v E rfl (R_loadM E rfl Try.isAgg22 S.imm (cellM_boxo hb_33 rfl)) rfl ?_
          clear E a; intro a E
          obtain ⟨x_36, hx_36⟩ : ∃ x, (x_28.2)[0]? = some x := ⟨_, List.getElem?_eq_getElem (by (first | omega | (have h9 := hG _ (List.mem_of_getElem? (by assumption)); omega)))⟩
          obtain ⟨p_37, hp_37, qp_37⟩ := hu_30.at hx_36
          refine S_v E rfl (R_idx E rfl rfl T22 hp_37 (by omega)) rfl ?_
          clear E a; intro a E
          refine S_v E rfl (R_loadM E rfl Try.isAgg3 S.imm qp_37) rfl ?_
          clear E a; intro a E
          refine S_x (X_buildI (ys := [x_36]) E S rfl T22 rfl rfl rfl ?_)
          clear E a S; rintro a w v_38 E S
          replace S := S.front2
          replace S := S.front1
          refine S_x (X_appendB (xs := ((grpS (fun x => (keyAt kk1 kn1 x 0, x)) l0).take k).map (fun g : Int × List Int => g.2.headD 0)) (ys := [x_36]) E S rfl rfl rfl T22 (by (first | omega | (have h9 := hG _ (List.mem_of_getElem? (by assumption)); have h8 := hfl k; simp only [List.length_cons, List.length_nil, List.length_map] at *; omega))) ?_)
          clear E a S; rintro a w v_39 E S
          refine S_v E rfl (R_assign E rfl) rfl ?_
          clear E a; intro a E
          refine WL_nil ?_
          refine T_n ?_
          refine WP_seq ?_
          refine WP_region ?_
          refine S_v E rfl (R_move E rfl) rfl ?_
          clear E a; intro a E
          refine S_v E rfl (R_fieldAddr E rfl (FA31_0 _)) rfl ?_
          clear E a; intro a E
          refine S_v E rfl (R_loadM E rfl Try.isAgg3 S.imm (cellM_boxo hb_33 rfl)) rfl ?_
          clear E a; intro a E
          refine S_v E rfl (R_fieldAddr E rfl (FA31_1 _)) rfl ?_
          clear E a; intro a E
          refine S_v E rfl (R_loadM E rfl Try.isAgg22 S.imm (cellM_boxo hb_33 rfl)) rfl ?_
          clear E a; intro a E
          refine S_v E rfl (R_lenV E rfl T22 hu_30.len) rfl ?_
          clear E a; intro a E
          refine S_v E rfl (R_build (u := .agg #[.int .i64 x_28.1, .int .i64 (((x_28.2).length : Nat) : Int)]) (vs := [.int .i64 x_28.1, .int .i64 (((x_28.2).length : Nat) : Int)]) E rfl (fun w => FB33_0_1_ii x_28.1 (((x_28.2).length : Nat) : Int) w)) rfl ?_
          clear E a; intro a E
          refine S_x (X_buildA1 (R := RP2) (cs := [.int .i64 x_28.1, .int .i64 (((x_28.2).length : Nat) : Int)]) (x0 := (x_28.1, (((x_28.2).length : Nat) : Int))) RP2_mono E S rfl T29 rfl rfl rfl rfl ?_)
          clear E a S; rintro a v_40 w M_41 hM_41 hv_40 S E
          replace h0 := h0.le hM_41
          replace hb_1 := hM_41.2 _ _ hb_1
          replace hz_6 := hz_6.le hM_41
          replace hv_8 := hv_8.le RG2_mono hM_41
          replace hv_10 := hv_10.le hM_41
          replace hv_17 := hv_17.le RG2_mono hM_41
          replace hr10 := hr10.le RP2_mono hM_41
          replace hr11 := hr11.le RP2_mono hM_41
          replace hu_30 := hu_30.le hM_41
          replace hb_33 := hM_41.2 _ _ hb_33
          replace S := S.front4
          refine S_x (X_appendR (R := RP2) (zs := ((grpS (fun x => (keyAt kk1 kn1 x 0, x)) l0).take k).map (fun g : Int × List Int => (g.1, (g.2.length : Int)))) (ys := [(x_28.1, (((x_28.2).length : Nat) : Int))]) E S hr10 rfl rfl rfl T29 hv_40 one_RP2 (by (first | omega | (have h9 := hG _ (List.mem_of_getElem? (by assumption)); have h8 := hfl k; simp only [List.length_cons, List.length_nil, List.length_map] at *; omega))) (by (first | omega | (have h9 := hG _ (List.mem_of_getElem? (by assumption)); have h8 := hfl k; simp only [List.length_cons, List.length_nil, List.length_map] at *; omega))) ?_)
          clear E a S; rintro a w v_42 xs_43 E hr_44 S
          refine S_v E rfl (R_assign E rfl) rfl ?_
          clear E a; intro a E
          refine WL_nil ?_
          refine T_n ?_
          refine WP_seq ?_
          have hb_1k44 := hb_1
          have qp_29k44 := qp_29
          have hb_33k44 := hb_33
          have qp_37k44 := qp_37
          replace S := S.mono_heap (w' := World.drew _) rfl
          refine WP_drawn (C := fun x w => agree M_41 w) (bf := (fun i => [])) [0, 1, 2, 3, 4, 5, 6, 7, 8, 9, 10, 11, 14] [0, 1, 2, 3, 4, 5, 6, 7, 8, 9, 10, 11, 12, 13, 14] Try.mixed (by kernel_rfl) (fun x hq => S.imm) ?_
          refine D_v E rfl rfl rfl (fun w hC => (R_move E rfl)) ?_
          clear E a; intro a E
          refine D_v E rfl rfl rfl (fun w hC => (R_fieldAddr E rfl (FA31_0 _))) ?_
          clear E a; intro a E
          refine D_v E rfl rfl rfl (fun w hC => (R_loadM E rfl Try.isAgg3 hC (cellM_boxo hb_33k44 rfl))) ?_
          clear E a; intro a E
          refine D_v E rfl rfl rfl (fun w hC => (R_fieldAddr E rfl (FA31_1 _))) ?_
          clear E a; intro a E
          refine D_v E rfl rfl rfl (fun w hC => (R_loadM E rfl Try.isAgg22 hC (cellM_boxo hb_33k44 rfl))) ?_
          clear E a; intro a E
          refine D_v E rfl rfl rfl (fun w hC => (R_fieldAddr E rfl (FA31_1 _))) ?_
          clear E a; intro a E
          refine D_v E rfl rfl rfl (fun w hC => (R_loadM E rfl Try.isAgg22 hC (cellM_boxo hb_33k44 rfl))) ?_
          clear E a; intro a E
          refine D_v E rfl rfl rfl (fun w hC => (R_lenV E rfl T22 hu_30.len)) ?_
          clear E a; intro a E
          refine D_v E rfl rfl rfl (fun w hC => (R_subx (m := (((x_28.2).length - 1 : Nat) : Int)) E rfl rfl (by (first | omega | (have h9 := hG _ (List.mem_of_getElem? (by assumption)); omega))) (by (first | omega | (have h9 := hG _ (List.mem_of_getElem? (by assumption)); omega))))) ?_
          clear E a; intro a E
          obtain ⟨x_45, hx_45⟩ : ∃ x, (x_28.2)[(x_28.2).length - 1]? = some x := ⟨_, List.getElem?_eq_getElem (by (first | omega | (have h9 := hG _ (List.mem_of_getElem? (by assumption)); omega)))⟩
          obtain ⟨p_46, hp_46, qp_46⟩ := hu_30.at hx_45
          refine D_v E rfl rfl rfl (fun w hC => (R_idx E rfl rfl T22 hp_46 rfl)) ?_
          clear E a; intro a E
          refine D_v E rfl rfl rfl (fun w hC => (R_loadM E rfl Try.isAgg3 hC qp_46)) ?_
          clear E a; intro a E
          refine D_v E rfl rfl rfl (fun w hC => (R_build (u := .agg #[.int .i64 x_28.1, .int .i64 x_45]) (vs := [.int .i64 x_28.1, .int .i64 x_45]) E rfl (fun w => FB33_0_1_ii x_28.1 x_45 w))) ?_
          clear E a; intro a E
          refine D_x rfl rfl rfl (X_buildA1 (R := RP2) (cs := [.int .i64 x_28.1, .int .i64 x_45]) (x0 := (x_28.1, x_45)) RP2_mono E S rfl T29 rfl rfl rfl rfl ?_)
          clear E a S; rintro a v_47 w M_48 hM_48 hv_47 S E
          replace h0 := h0.le hM_48
          replace hb_1 := hM_48.2 _ _ hb_1
          replace hz_6 := hz_6.le hM_48
          replace hv_8 := hv_8.le RG2_mono hM_48
          replace hv_10 := hv_10.le hM_48
          replace hv_17 := hv_17.le RG2_mono hM_48
          replace hr11 := hr11.le RP2_mono hM_48
          replace hu_30 := hu_30.le hM_48
          replace hb_33 := hM_48.2 _ _ hb_33
          replace hv_40 := hv_40.le RP2_mono hM_48
          replace hr_44 := hr_44.le RP2_mono hM_48
          refine ⟨fun x hq hb => (agree_le hM_48 S.imm), ?_⟩
          replace S := S.front5
          refine D_x rfl rfl rfl (X_appendR (R := RP2) (zs := ((grpS (fun x => (keyAt kk1 kn1 x 0, x)) l0).take k).map (fun g : Int × List Int => (g.1, g.2.getLastD 0))) (ys := [(x_28.1, x_45)]) E S hr11 rfl rfl rfl T29 hv_47 one_RP2 (by (first | omega | (have h9 := hG _ (List.mem_of_getElem? (by assumption)); have h8 := hfl k; simp only [List.length_cons, List.length_nil, List.length_map] at *; omega))) (by (first | omega | (have h9 := hG _ (List.mem_of_getElem? (by assumption)); have h8 := hfl k; simp only [List.length_cons, List.length_nil, List.length_map] at *; omega))) ?_)
          clear E a S; rintro a w v_49 xs_50 E hr_51 S
          refine ⟨fun x hq hb => (agree_le hM_48 S.imm), ?_⟩
          refine D_v E rfl rfl rfl (fun w hC => (R_assign E rfl)) ?_
          clear E a; intro a E
          refine D_end (NoP_n ?_)
          refine T_n ?_
          refine WP_seq ?_
          refine WP_region ?_
          refine S_v E rfl (R_fieldAddr E rfl (FA31_1 _)) rfl ?_
          clear E a; intro a E
          refine S_v E rfl (R_loadM E rfl Try.isAgg22 S.imm (cellM_boxo hb_33 rfl)) rfl ?_
          clear E a; intro a E
          refine S_v E rfl (R_lenV E rfl T22 hu_30.len) rfl ?_
          clear E a; intro a E
          refine S_v E rfl (R_eql E rfl rfl) rfl ?_
          clear E a; intro a E
          refine WL_nil ?_
          refine T_n ?_
          refine WP_cond E rfl (fun hc_52 => ?_) (fun hc_52 => ?_)
          · replace hc_52 := of_decide_eq_true hc_52
            refine WP_region ?_
            refine S_v E rfl (R_move E rfl) rfl ?_
            clear E a; intro a E
            refine S_v E rfl (R_fieldAddr E rfl (FA31_1 _)) rfl ?_
            clear E a; intro a E
            refine S_v E rfl (R_loadM E rfl Try.isAgg22 S.imm (cellM_boxo hb_33 rfl)) rfl ?_
            clear E a; intro a E
            obtain ⟨p_53, hp_53, qp_53⟩ := hu_30.at hx_36
            refine S_v E rfl (R_idx E rfl rfl T22 hp_53 (by omega)) rfl ?_
            clear E a; intro a E
            refine S_v E rfl (R_loadM E rfl Try.isAgg3 S.imm qp_53) rfl ?_
            clear E a; intro a E
            refine S_x (X_buildI (ys := [x_36]) E S rfl T22 rfl rfl rfl ?_)
            clear E a S; rintro a w v_54 E S
            replace S := S.front5
            replace S := S.front1
            refine S_x (X_appendB (xs := (((grpS (fun x => (keyAt kk1 kn1 x 0, x)) l0).take k).filter (fun g : Int × List Int => decide (g.2.length = 1))).map (fun g : Int × List Int => g.2.headD 0)) (ys := [x_36]) E S rfl rfl rfl T22 (by (first | omega | (have h9 := hG _ (List.mem_of_getElem? (by assumption)); have h8 := hfl k; simp only [List.length_cons, List.length_nil, List.length_map] at *; omega))) ?_)
            clear E a S; rintro a w v_55 E S
            refine S_v E rfl (R_assign E rfl) rfl ?_
            clear E a; intro a E
            refine WL_nil ?_
            refine B_n ?_
            refine T_n ?_
            refine WP_region ?_
            refine S_v E rfl (R_addx (m := ((k + 1 : Nat) : Int)) E rfl rfl (by omega) (by omega)) rfl ?_
            clear E a; intro a E
            refine S_v E rfl (R_move E rfl) rfl ?_
            clear E a; intro a E
            refine WL_nil ?_
            refine T_n ?_
            replace S := S.front1
            replace S := S.front2
            replace S := S.front5
            replace S := S.front3
            replace S := S.front4
            replace S := S.front5
            replace S := S.front5
            have hre : (((grpS (fun x => (keyAt kk1 kn1 x 0, x)) l0).take k).map (fun g : Int × List Int => (g.1, g.2.getLastD 0))) ++ [(x_28.1, x_45)] = ((grpS (fun x => (keyAt kk1 kn1 x 0, x)) l0).take (k + 1)).map (fun g : Int × List Int => (g.1, g.2.getLastD 0)) := by first | (simp; done) | exact gb_flat (by assumption) | exact gb_cnt (by assumption) | exact gb_head (by assumption) (by assumption) | exact gb_last (by assumption) (by assumption) (by have h9 := hG _ (List.mem_of_getElem? (by assumption)); omega) | exact gb_one (p := (fun g : Int × List Int => decide (g.2.length = 1))) (by assumption) (by assumption) (decide_eq_true (by omega)) | exact gb_no (p := (fun g : Int × List Int => decide (g.2.length = 1))) (by assumption) (decide_eq_false (by omega)) | exact gb_one (p := (fun g : Int × List Int => !decide (g.2.length = 1))) (by assumption) (by assumption) (by simp; omega) | exact gb_no (p := (fun g : Int × List Int => !decide (g.2.length = 1))) (by assumption) (by simp; omega)
            replace S := S.reR hre
            replace hr_51 := hr_51.eq hre
            clear hre
            replace S := S.front5
            have hre : (((grpS (fun x => (keyAt kk1 kn1 x 0, x)) l0).take k).map (fun g : Int × List Int => (g.1, (g.2.length : Int)))) ++ [(x_28.1, (((x_28.2).length : Nat) : Int))] = ((grpS (fun x => (keyAt kk1 kn1 x 0, x)) l0).take (k + 1)).map (fun g : Int × List Int => (g.1, (g.2.length : Int))) := by first | (simp; done) | exact gb_flat (by assumption) | exact gb_cnt (by assumption) | exact gb_head (by assumption) (by assumption) | exact gb_last (by assumption) (by assumption) (by have h9 := hG _ (List.mem_of_getElem? (by assumption)); omega) | exact gb_one (p := (fun g : Int × List Int => decide (g.2.length = 1))) (by assumption) (by assumption) (decide_eq_true (by omega)) | exact gb_no (p := (fun g : Int × List Int => decide (g.2.length = 1))) (by assumption) (decide_eq_false (by omega)) | exact gb_one (p := (fun g : Int × List Int => !decide (g.2.length = 1))) (by assumption) (by assumption) (by simp; omega) | exact gb_no (p := (fun g : Int × List Int => !decide (g.2.length = 1))) (by assumption) (by simp; omega)
            replace S := S.reR hre
            replace hr_44 := hr_44.eq hre
            clear hre
            replace S := S.front5
            replace S := S.re1 (l' := (((grpS (fun x => (keyAt kk1 kn1 x 0, x)) l0).take (k + 1)).filter (fun g : Int × List Int => !decide (g.2.length = 1))).map (fun g : Int × List Int => g.2.headD 0)) (by first | (simp; done) | exact gb_flat (by assumption) | exact gb_cnt (by assumption) | exact gb_head (by assumption) (by assumption) | exact gb_last (by assumption) (by assumption) (by have h9 := hG _ (List.mem_of_getElem? (by assumption)); omega) | exact gb_one (p := (fun g : Int × List Int => decide (g.2.length = 1))) (by assumption) (by assumption) (decide_eq_true (by omega)) | exact gb_no (p := (fun g : Int × List Int => decide (g.2.length = 1))) (by assumption) (decide_eq_false (by omega)) | exact gb_one (p := (fun g : Int × List Int => !decide (g.2.length = 1))) (by assumption) (by assumption) (by simp; omega) | exact gb_no (p := (fun g : Int × List Int => !decide (g.2.length = 1))) (by assumption) (by simp; omega))
            replace S := S.front5
            replace S := S.re1 (l' := (((grpS (fun x => (keyAt kk1 kn1 x 0, x)) l0).take (k + 1)).filter (fun g : Int × List Int => decide (g.2.length = 1))).map (fun g : Int × List Int => g.2.headD 0)) (by first | (simp; done) | exact gb_flat (by assumption) | exact gb_cnt (by assumption) | exact gb_head (by assumption) (by assumption) | exact gb_last (by assumption) (by assumption) (by have h9 := hG _ (List.mem_of_getElem? (by assumption)); omega) | exact gb_one (p := (fun g : Int × List Int => decide (g.2.length = 1))) (by assumption) (by assumption) (decide_eq_true (by omega)) | exact gb_no (p := (fun g : Int × List Int => decide (g.2.length = 1))) (by assumption) (decide_eq_false (by omega)) | exact gb_one (p := (fun g : Int × List Int => !decide (g.2.length = 1))) (by assumption) (by assumption) (by simp; omega) | exact gb_no (p := (fun g : Int × List Int => !decide (g.2.length = 1))) (by assumption) (by simp; omega))
            replace S := S.front5
            replace S := S.re1 (l' := ((grpS (fun x => (keyAt kk1 kn1 x 0, x)) l0).take (k + 1)).map (fun g : Int × List Int => g.2.headD 0)) (by first | (simp; done) | exact gb_flat (by assumption) | exact gb_cnt (by assumption) | exact gb_head (by assumption) (by assumption) | exact gb_last (by assumption) (by assumption) (by have h9 := hG _ (List.mem_of_getElem? (by assumption)); omega) | exact gb_one (p := (fun g : Int × List Int => decide (g.2.length = 1))) (by assumption) (by assumption) (decide_eq_true (by omega)) | exact gb_no (p := (fun g : Int × List Int => decide (g.2.length = 1))) (by assumption) (decide_eq_false (by omega)) | exact gb_one (p := (fun g : Int × List Int => !decide (g.2.length = 1))) (by assumption) (by assumption) (by simp; omega) | exact gb_no (p := (fun g : Int × List Int => !decide (g.2.length = 1))) (by assumption) (by simp; omega))
            replace S := S.front5
            replace S := S.re1 (l' := (((grpS (fun x => (keyAt kk1 kn1 x 0, x)) l0).take (k + 1)).map Prod.snd).flatten) (by first | (simp; done) | exact gb_flat (by assumption) | exact gb_cnt (by assumption) | exact gb_head (by assumption) (by assumption) | exact gb_last (by assumption) (by assumption) (by have h9 := hG _ (List.mem_of_getElem? (by assumption)); omega) | exact gb_one (p := (fun g : Int × List Int => decide (g.2.length = 1))) (by assumption) (by assumption) (decide_eq_true (by omega)) | exact gb_no (p := (fun g : Int × List Int => decide (g.2.length = 1))) (by assumption) (decide_eq_false (by omega)) | exact gb_one (p := (fun g : Int × List Int => !decide (g.2.length = 1))) (by assumption) (by assumption) (by simp; omega) | exact gb_no (p := (fun g : Int × List Int => !decide (g.2.length = 1))) (by assumption) (by simp; omega))
            exact ⟨k + 1, ⟨M_48, _, _, _, _, _, _, _, _, (hM_26.trans (hM_32.trans (hM_41.trans hM_48))), S, E.keep ⟨rfl, rfl, rfl, rfl, rfl, rfl, rfl, rfl, rfl, rfl, rfl, trivial⟩, by ((try clear S); (try clear E); first | assumption | omega | rfl | (simp; done) | (simp_all; done) | (simp [List.take_add_one, *]; done) | grind [List.take_add_one]), hr_44, hr_51⟩, by omega⟩
          · replace hc_52 := of_decide_eq_false hc_52
            refine WP_region ?_
            refine S_v E rfl (R_move E rfl) rfl ?_
            clear E a; intro a E
            refine S_v E rfl (R_fieldAddr E rfl (FA31_1 _)) rfl ?_
            clear E a; intro a E
            refine S_v E rfl (R_loadM E rfl Try.isAgg22 S.imm (cellM_boxo hb_33 rfl)) rfl ?_
            clear E a; intro a E
            obtain ⟨p_56, hp_56, qp_56⟩ := hu_30.at hx_36
            refine S_v E rfl (R_idx E rfl rfl T22 hp_56 (by omega)) rfl ?_
            clear E a; intro a E
            refine S_v E rfl (R_loadM E rfl Try.isAgg3 S.imm qp_56) rfl ?_
            clear E a; intro a E
            refine S_x (X_buildI (ys := [x_36]) E S rfl T22 rfl rfl rfl ?_)
            clear E a S; rintro a w v_57 E S
            replace S := S.front6
            replace S := S.front1
            refine S_x (X_appendB (xs := (((grpS (fun x => (keyAt kk1 kn1 x 0, x)) l0).take k).filter (fun g : Int × List Int => !decide (g.2.length = 1))).map (fun g : Int × List Int => g.2.headD 0)) (ys := [x_36]) E S rfl rfl rfl T22 (by (first | omega | (have h9 := hG _ (List.mem_of_getElem? (by assumption)); have h8 := hfl k; simp only [List.length_cons, List.length_nil, List.length_map] at *; omega))) ?_)
            clear E a S; rintro a w v_58 E S
            refine S_v E rfl (R_assign E rfl) rfl ?_
            clear E a; intro a E
            refine WL_nil ?_
            refine B_n ?_
            refine T_n ?_
            refine WP_region ?_
            refine S_v E rfl (R_addx (m := ((k + 1 : Nat) : Int)) E rfl rfl (by omega) (by omega)) rfl ?_
            clear E a; intro a E
            refine S_v E rfl (R_move E rfl) rfl ?_
            clear E a; intro a E
            refine WL_nil ?_
            refine T_n ?_
            replace S := S.front1
            replace S := S.front2
            replace S := S.front2
            replace S := S.front5
            replace S := S.front4
            replace S := S.front5
            replace S := S.front5
            have hre : (((grpS (fun x => (keyAt kk1 kn1 x 0, x)) l0).take k).map (fun g : Int × List Int => (g.1, g.2.getLastD 0))) ++ [(x_28.1, x_45)] = ((grpS (fun x => (keyAt kk1 kn1 x 0, x)) l0).take (k + 1)).map (fun g : Int × List Int => (g.1, g.2.getLastD 0)) := by first | (simp; done) | exact gb_flat (by assumption) | exact gb_cnt (by assumption) | exact gb_head (by assumption) (by assumption) | exact gb_last (by assumption) (by assumption) (by have h9 := hG _ (List.mem_of_getElem? (by assumption)); omega) | exact gb_one (p := (fun g : Int × List Int => decide (g.2.length = 1))) (by assumption) (by assumption) (decide_eq_true (by omega)) | exact gb_no (p := (fun g : Int × List Int => decide (g.2.length = 1))) (by assumption) (decide_eq_false (by omega)) | exact gb_one (p := (fun g : Int × List Int => !decide (g.2.length = 1))) (by assumption) (by assumption) (by simp; omega) | exact gb_no (p := (fun g : Int × List Int => !decide (g.2.length = 1))) (by assumption) (by simp; omega)
            replace S := S.reR hre
            replace hr_51 := hr_51.eq hre
            clear hre
            replace S := S.front5
            have hre : (((grpS (fun x => (keyAt kk1 kn1 x 0, x)) l0).take k).map (fun g : Int × List Int => (g.1, (g.2.length : Int)))) ++ [(x_28.1, (((x_28.2).length : Nat) : Int))] = ((grpS (fun x => (keyAt kk1 kn1 x 0, x)) l0).take (k + 1)).map (fun g : Int × List Int => (g.1, (g.2.length : Int))) := by first | (simp; done) | exact gb_flat (by assumption) | exact gb_cnt (by assumption) | exact gb_head (by assumption) (by assumption) | exact gb_last (by assumption) (by assumption) (by have h9 := hG _ (List.mem_of_getElem? (by assumption)); omega) | exact gb_one (p := (fun g : Int × List Int => decide (g.2.length = 1))) (by assumption) (by assumption) (decide_eq_true (by omega)) | exact gb_no (p := (fun g : Int × List Int => decide (g.2.length = 1))) (by assumption) (decide_eq_false (by omega)) | exact gb_one (p := (fun g : Int × List Int => !decide (g.2.length = 1))) (by assumption) (by assumption) (by simp; omega) | exact gb_no (p := (fun g : Int × List Int => !decide (g.2.length = 1))) (by assumption) (by simp; omega)
            replace S := S.reR hre
            replace hr_44 := hr_44.eq hre
            clear hre
            replace S := S.front5
            replace S := S.re1 (l' := (((grpS (fun x => (keyAt kk1 kn1 x 0, x)) l0).take (k + 1)).filter (fun g : Int × List Int => !decide (g.2.length = 1))).map (fun g : Int × List Int => g.2.headD 0)) (by first | (simp; done) | exact gb_flat (by assumption) | exact gb_cnt (by assumption) | exact gb_head (by assumption) (by assumption) | exact gb_last (by assumption) (by assumption) (by have h9 := hG _ (List.mem_of_getElem? (by assumption)); omega) | exact gb_one (p := (fun g : Int × List Int => decide (g.2.length = 1))) (by assumption) (by assumption) (decide_eq_true (by omega)) | exact gb_no (p := (fun g : Int × List Int => decide (g.2.length = 1))) (by assumption) (decide_eq_false (by omega)) | exact gb_one (p := (fun g : Int × List Int => !decide (g.2.length = 1))) (by assumption) (by assumption) (by simp; omega) | exact gb_no (p := (fun g : Int × List Int => !decide (g.2.length = 1))) (by assumption) (by simp; omega))
            replace S := S.front5
            replace S := S.re1 (l' := (((grpS (fun x => (keyAt kk1 kn1 x 0, x)) l0).take (k + 1)).filter (fun g : Int × List Int => decide (g.2.length = 1))).map (fun g : Int × List Int => g.2.headD 0)) (by first | (simp; done) | exact gb_flat (by assumption) | exact gb_cnt (by assumption) | exact gb_head (by assumption) (by assumption) | exact gb_last (by assumption) (by assumption) (by have h9 := hG _ (List.mem_of_getElem? (by assumption)); omega) | exact gb_one (p := (fun g : Int × List Int => decide (g.2.length = 1))) (by assumption) (by assumption) (decide_eq_true (by omega)) | exact gb_no (p := (fun g : Int × List Int => decide (g.2.length = 1))) (by assumption) (decide_eq_false (by omega)) | exact gb_one (p := (fun g : Int × List Int => !decide (g.2.length = 1))) (by assumption) (by assumption) (by simp; omega) | exact gb_no (p := (fun g : Int × List Int => !decide (g.2.length = 1))) (by assumption) (by simp; omega))
            replace S := S.front5
            replace S := S.re1 (l' := ((grpS (fun x => (keyAt kk1 kn1 x 0, x)) l0).take (k + 1)).map (fun g : Int × List Int => g.2.headD 0)) (by first | (simp; done) | exact gb_flat (by assumption) | exact gb_cnt (by assumption) | exact gb_head (by assumption) (by assumption) | exact gb_last (by assumption) (by assumption) (by have h9 := hG _ (List.mem_of_getElem? (by assumption)); omega) | exact gb_one (p := (fun g : Int × List Int => decide (g.2.length = 1))) (by assumption) (by assumption) (decide_eq_true (by omega)) | exact gb_no (p := (fun g : Int × List Int => decide (g.2.length = 1))) (by assumption) (decide_eq_false (by omega)) | exact gb_one (p := (fun g : Int × List Int => !decide (g.2.length = 1))) (by assumption) (by assumption) (by simp; omega) | exact gb_no (p := (fun g : Int × List Int => !decide (g.2.length = 1))) (by assumption) (by simp; omega))
            replace S := S.front5
            replace S := S.re1 (l' := (((grpS (fun x => (keyAt kk1 kn1 x 0, x)) l0).take (k + 1)).map Prod.snd).flatten) (by first | (simp; done) | exact gb_flat (by assumption) | exact gb_cnt (by assumption) | exact gb_head (by assumption) (by assumption) | exact gb_last (by assumption) (by assumption) (by have h9 := hG _ (List.mem_of_getElem? (by assumption)); omega) | exact gb_one (p := (fun g : Int × List Int => decide (g.2.length = 1))) (by assumption) (by assumption) (decide_eq_true (by omega)) | exact gb_no (p := (fun g : Int × List Int => decide (g.2.length = 1))) (by assumption) (decide_eq_false (by omega)) | exact gb_one (p := (fun g : Int × List Int => !decide (g.2.length = 1))) (by assumption) (by assumption) (by simp; omega) | exact gb_no (p := (fun g : Int × List Int => !decide (g.2.length = 1))) (by assumption) (by simp; omega))
            exact ⟨k + 1, ⟨M_48, _, _, _, _, _, _, _, _, (hM_26.trans (hM_32.trans (hM_41.trans hM_48))), S, E.keep ⟨rfl, rfl, rfl, rfl, rfl, rfl, rfl, rfl, rfl, rfl, rfl, trivial⟩, by ((try clear S); (try clear E); first | assumption | omega | rfl | (simp; done) | (simp_all; done) | (simp [List.take_add_one, *]; done) | grind [List.take_add_one]), hr_44, hr_51⟩, by omega⟩
        · replace hc_27 := of_decide_eq_false hc_27
          have etk : (grpS (fun x => (keyAt kk1 kn1 x 0, x)) l0).take k = grpS (fun x => (keyAt kk1 kn1 x 0, x)) l0 := List.take_of_length_le (by omega)
          refine WP_exit ?_
          refine T_x ?_
          refine T_x ?_
          refine B_x ?_
          refine T_n ?_
          refine WP_seq ?_
          refine WP_region ?_
          refine S_v E rfl (R_move E rfl) rfl ?_
          clear E a; intro a E
          refine S_v E rfl (R_move E rfl) rfl ?_
          clear E a; intro a E
          refine S_v E rfl (R_loadGM E rfl (Try.isAgg24 _) (Try.sizeOf24 _) S.imm hb_1) rfl ?_
          clear E a; intro a E
          refine S_x (X_pu E S rfl rfl rfl (spec_CountValuesByK h0 (by omega) (by first | assumption | exact (fun x hx => by rcases List.mem_append.1 hx with h | h; exact hr0 x h; exact hr1 x h)) (by (first | omega | (simp; omega) | (simp; done) | (simp_all; omega) | grind))) (Hp.le.refl _) ?_)
          clear E a S; rintro a v_60 w M_59 hM_59 hv_60 S E
          replace h0 := h0.le hM_59
          replace hb_1 := hM_59.2 _ _ hb_1
          replace hz_6 := hz_6.le hM_59
          replace hv_8 := hv_8.le RG2_mono hM_59
          replace hv_10 := hv_10.le hM_59
          replace hv_17 := hv_17.le RG2_mono hM_59
          replace hr10 := hr10.le RP2_mono hM_59
          replace hr11 := hr11.le RP2_mono hM_59
          replace S := S.front4
          have S0 := S; clear S
          obtain ⟨M_61, hM_61, hz_62, S⟩ := S0.freezeR hr10 RP2_mono (by (first | omega | (simp; done) | (have h8 := hfl k; simp only [List.length_map] at *; omega)))
          clear S0
          replace h0 := h0.le hM_61
          replace hb_1 := hM_61.2 _ _ hb_1
          replace hz_6 := hz_6.le hM_61
          replace hv_8 := hv_8.le RG2_mono hM_61
          replace hv_10 := hv_10.le hM_61
          replace hv_17 := hv_17.le RG2_mono hM_61
          replace hr11 := hr11.le RP2_mono hM_61
          replace hv_60 := hv_60.le RP2_mono hM_61
          refine S_x (X_pu E S rfl rfl rfl (laws_eqRef hz_62 hv_60) (Hp.le.refl _) ?_)
          clear E a S; rintro a _ w M_63 hM_63 rfl S E
          replace h0 := h0.le hM_63
          replace hb_1 := hM_63.2 _ _ hb_1
          replace hz_6 := hz_6.le hM_63
          replace hv_8 := hv_8.le RG2_mono hM_63
          replace hv_10 := hv_10.le hM_63
          replace hv_17 := hv_17.le RG2_mono hM_63
          replace hr11 := hr11.le RP2_mono hM_63
          replace hv_60 := hv_60.le RP2_mono hM_63
          replace hz_62 := hz_62.le RP2_mono hM_63
          refine S_v E rfl (R_move E rfl) rfl ?_
          clear E a; intro a E
          have hc_64 : (decide (((grpS (fun x => (keyAt kk1 kn1 x 0, x)) l0).take k).map (fun g : Int × List Int => (g.1, (g.2.length : Int))) = (setI ((l0).map (fun x => keyAt kk1 kn1 x 0))).map fun x => (x, ((((l0).map (fun x => keyAt kk1 kn1 x 0)).count x : Nat) : Int)))) = true := by (clear S E; first | (simp; done) | decide | (rw [grpS_one]; decide) | (have h9 := hG _ (List.mem_of_getElem? (by assumption)); simp; omega) | (have h9 := hG _ (List.mem_of_getElem? (by assumption)); refine decide_eq_false ?_; omega) | (first | refine dec_t ?_ | refine dec_f ?_ | skip); first | (rw [etk]; exact G_counts (fun x => keyAt kk1 kn1 x 0) l0) | (rw [etk]; exact same_pq (G_alone (fun x => keyAt kk1 kn1 x 0) l0)) | (rw [etk]; exact same_pq (G_doub (fun x => keyAt kk1 kn1 x 0) l0)) | (rw [etk]; exact same_pq (G_all (fun x => keyAt kk1 kn1 x 0) l0)) | (rw [etk]; exact same_pq (firsts_perm (fun x => keyAt kk1 kn1 x 0) l0)) | (rw [etk]; exact (G_counts (fun x => keyAt kk1 kn1 x 0) l0).trans (cvb_counts (fun x => keyAt kk1 kn1 x 0) l0).symm) | (rw [etk]; exact G_lasts (fun x => keyAt kk1 kn1 x 0) l0) | (rw [etk]; exact same_pq ((G_alone (fun x => keyAt kk1 kn1 x 0) l0).trans (List.Perm.of_eq (ful_eq (fun x => keyAt kk1 kn1 x 0) l0).symm))) | (rw [etk]; exact same_pq ((G_doub (fun x => keyAt kk1 kn1 x 0) l0).trans (List.Perm.of_eq (fd_cano (fun x => keyAt kk1 kn1 x 0) l0).symm))))
          replace E := E.val (t := 101) rfl hc_64
          replace E := E.val (t := 102) rfl hc_64
          refine WL_guard_yes E rfl rfl ?_
          refine S_v E rfl (R_move E rfl) rfl ?_
          clear E a; intro a E
          refine WL_guard_yes E rfl rfl ?_
          refine S_v E rfl (R_move E rfl) rfl ?_
          clear E a; intro a E
          refine WL_guard_yes E rfl rfl ?_
          refine S_v E rfl (R_loadGM E rfl (Try.isAgg24 _) (Try.sizeOf24 _) S.imm hb_1) rfl ?_
          clear E a; intro a E
          refine WL_guard_yes E rfl rfl ?_
          refine S_x (X_pu E S rfl rfl rfl (spec_FindUniquesByK h0 (by omega) (by first | assumption | exact (fun x hx => by rcases List.mem_append.1 hx with h | h; exact hr0 x h; exact hr1 x h)) (by (first | omega | (simp; omega) | (simp; done) | (simp_all; omega) | grind))) (Hp.le.refl _) ?_)
          clear E a S; rintro a v_66 w M_65 hM_65 hv_66 S E
          replace h0 := h0.le hM_65
          replace hb_1 := hM_65.2 _ _ hb_1
          replace hz_6 := hz_6.le hM_65
          replace hv_8 := hv_8.le RG2_mono hM_65
          replace hv_10 := hv_10.le hM_65
          replace hv_17 := hv_17.le RG2_mono hM_65
          replace hr11 := hr11.le RP2_mono hM_65
          replace hv_60 := hv_60.le RP2_mono hM_65
          replace hz_62 := hz_62.le RP2_mono hM_65
          replace S := S.front2
          have S0 := S; clear S
          obtain ⟨M_67, hM_67, hz_68, S⟩ := S0.freezeI (by (first | omega | (simp; done) | (have h8 := hfl k; simp only [List.length_map] at *; omega)))
          clear S0
          replace h0 := h0.le hM_67
          replace hb_1 := hM_67.2 _ _ hb_1
          replace hz_6 := hz_6.le hM_67
          replace hv_8 := hv_8.le RG2_mono hM_67
          replace hv_10 := hv_10.le hM_67
          replace hv_17 := hv_17.le RG2_mono hM_67
          replace hr11 := hr11.le RP2_mono hM_67
          replace hv_60 := hv_60.le RP2_mono hM_67
          replace hz_62 := hz_62.le RP2_mono hM_67
          replace hv_66 := hv_66.le hM_67
          refine WL_guard_yes E rfl rfl ?_
          refine S_x (X_pu E S rfl rfl rfl (laws_same hz_68 hv_66) (Hp.le.refl _) ?_)
          clear E a S; rintro a _ w M_69 hM_69 rfl S E
          replace h0 := h0.le hM_69
          replace hb_1 := hM_69.2 _ _ hb_1
          replace hz_6 := hz_6.le hM_69
          replace hv_8 := hv_8.le RG2_mono hM_69
          replace hv_10 := hv_10.le hM_69
          replace hv_17 := hv_17.le RG2_mono hM_69
          replace hr11 := hr11.le RP2_mono hM_69
          replace hv_60 := hv_60.le RP2_mono hM_69
          replace hz_62 := hz_62.le RP2_mono hM_69
          replace hv_66 := hv_66.le hM_69
          replace hz_68 := hz_68.le hM_69
          refine S_v E rfl (R_pickT E rfl rfl) rfl ?_
          clear E a; intro a E
          refine S_v E rfl (R_move E rfl) rfl ?_
          clear E a; intro a E
          have hc_70 : (decide (((((grpS (fun x => (keyAt kk1 kn1 x 0, x)) l0).take k).filter (fun g : Int × List Int => decide (g.2.length = 1))).map (fun g : Int × List Int => g.2.headD 0)).length = ((l0).filter (fun x => decide (cn (fun x => keyAt kk1 kn1 x 0) l0 ((fun x => keyAt kk1 kn1 x 0) x) = 1))).length ∧ ∀ x ∈ (((grpS (fun x => (keyAt kk1 kn1 x 0, x)) l0).take k).filter (fun g : Int × List Int => decide (g.2.length = 1))).map (fun g : Int × List Int => g.2.headD 0), ((((grpS (fun x => (keyAt kk1 kn1 x 0, x)) l0).take k).filter (fun g : Int × List Int => decide (g.2.length = 1))).map (fun g : Int × List Int => g.2.headD 0)).count x = ((l0).filter (fun x => decide (cn (fun x => keyAt kk1 kn1 x 0) l0 ((fun x => keyAt kk1 kn1 x 0) x) = 1))).count x)) = true := by (clear S E; first | (simp; done) | decide | (rw [grpS_one]; decide) | (have h9 := hG _ (List.mem_of_getElem? (by assumption)); simp; omega) | (have h9 := hG _ (List.mem_of_getElem? (by assumption)); refine decide_eq_false ?_; omega) | (first | refine dec_t ?_ | refine dec_f ?_ | skip); first | (rw [etk]; exact G_counts (fun x => keyAt kk1 kn1 x 0) l0) | (rw [etk]; exact same_pq (G_alone (fun x => keyAt kk1 kn1 x 0) l0)) | (rw [etk]; exact same_pq (G_doub (fun x => keyAt kk1 kn1 x 0) l0)) | (rw [etk]; exact same_pq (G_all (fun x => keyAt kk1 kn1 x 0) l0)) | (rw [etk]; exact same_pq (firsts_perm (fun x => keyAt kk1 kn1 x 0) l0)) | (rw [etk]; exact (G_counts (fun x => keyAt kk1 kn1 x 0) l0).trans (cvb_counts (fun x => keyAt kk1 kn1 x 0) l0).symm) | (rw [etk]; exact G_lasts (fun x => keyAt kk1 kn1 x 0) l0) | (rw [etk]; exact same_pq ((G_alone (fun x => keyAt kk1 kn1 x 0) l0).trans (List.Perm.of_eq (ful_eq (fun x => keyAt kk1 kn1 x 0) l0).symm))) | (rw [etk]; exact same_pq ((G_doub (fun x => keyAt kk1 kn1 x 0) l0).trans (List.Perm.of_eq (fd_cano (fun x => keyAt kk1 kn1 x 0) l0).symm))))
          replace E := E.val (t := 107) rfl hc_70
          replace E := E.val (t := 108) rfl hc_70
          replace E := E.val (t := 109) rfl hc_70
          refine WL_guard_yes E rfl rfl ?_
          refine S_v E rfl (R_move E rfl) rfl ?_
          clear E a; intro a E
          refine WL_guard_yes E rfl rfl ?_
          refine S_v E rfl (R_move E rfl) rfl ?_
          clear E a; intro a E
          refine WL_guard_yes E rfl rfl ?_
          refine S_v E rfl (R_loadGM E rfl (Try.isAgg24 _) (Try.sizeOf24 _) S.imm hb_1) rfl ?_
          clear E a; intro a E
          refine WL_guard_yes E rfl rfl ?_
          refine S_x (X_pu E S rfl rfl rfl (spec_FindDuplicatesByK h0 (by omega) (by first | assumption | exact (fun x hx => by rcases List.mem_append.1 hx with h | h; exact hr0 x h; exact hr1 x h)) (by (first | omega | (simp; omega) | (simp; done) | (simp_all; omega) | grind))) (Hp.le.refl _) ?_)
          clear E a S; rintro a v_72 w M_71 hM_71 hv_72 S E
          replace h0 := h0.le hM_71
          replace hb_1 := hM_71.2 _ _ hb_1
          replace hz_6 := hz_6.le hM_71
          replace hv_8 := hv_8.le RG2_mono hM_71
          replace hv_10 := hv_10.le hM_71
          replace hv_17 := hv_17.le RG2_mono hM_71
          replace hr11 := hr11.le RP2_mono hM_71
          replace hv_60 := hv_60.le RP2_mono hM_71
          replace hz_62 := hz_62.le RP2_mono hM_71
          replace hv_66 := hv_66.le hM_71
          replace hz_68 := hz_68.le hM_71
          replace S := S.front2
          have S0 := S; clear S
          obtain ⟨M_73, hM_73, hz_74, S⟩ := S0.freezeI (by (first | omega | (simp; done) | (have h8 := hfl k; simp only [List.length_map] at *; omega)))
          clear S0
          replace h0 := h0.le hM_73
          replace hb_1 := hM_73.2 _ _ hb_1
          replace hz_6 := hz_6.le hM_73
          replace hv_8 := hv_8.le RG2_mono hM_73
          replace hv_10 := hv_10.le hM_73
          replace hv_17 := hv_17.le RG2_mono hM_73
          replace hr11 := hr11.le RP2_mono hM_73
          replace hv_60 := hv_60.le RP2_mono hM_73
          replace hz_62 := hz_62.le RP2_mono hM_73
          replace hv_66 := hv_66.le hM_73
          replace hz_68 := hz_68.le hM_73
          replace hv_72 := hv_72.le hM_73
          refine WL_guard_yes E rfl rfl ?_
          refine S_x (X_pu E S rfl rfl rfl (laws_same hz_74 hv_72) (Hp.le.refl _) ?_)
          clear E a S; rintro a _ w M_75 hM_75 rfl S E
          replace h0 := h0.le hM_75
          replace hb_1 := hM_75.2 _ _ hb_1
          replace hz_6 := hz_6.le hM_75
          replace hv_8 := hv_8.le RG2_mono hM_75
          replace hv_10 := hv_10.le hM_75
          replace hv_17 := hv_17.le RG2_mono hM_75
          replace hr11 := hr11.le RP2_mono hM_75
          replace hv_60 := hv_60.le RP2_mono hM_75
          replace hz_62 := hz_62.le RP2_mono hM_75
          replace hv_66 := hv_66.le hM_75
          replace hz_68 := hz_68.le hM_75
          replace hv_72 := hv_72.le hM_75
          replace hz_74 := hz_74.le hM_75
          refine S_v E rfl (R_pickT E rfl rfl) rfl ?_
          clear E a; intro a E
          refine S_v E rfl (R_move E rfl) rfl ?_
          clear E a; intro a E
          have hc_76 : (decide (((((grpS (fun x => (keyAt kk1 kn1 x 0, x)) l0).take k).filter (fun g : Int × List Int => !decide (g.2.length = 1))).map (fun g : Int × List Int => g.2.headD 0)).length = (cano (fun x => keyAt kk1 kn1 x 0) l0).length ∧ ∀ x ∈ (((grpS (fun x => (keyAt kk1 kn1 x 0, x)) l0).take k).filter (fun g : Int × List Int => !decide (g.2.length = 1))).map (fun g : Int × List Int => g.2.headD 0), ((((grpS (fun x => (keyAt kk1 kn1 x 0, x)) l0).take k).filter (fun g : Int × List Int => !decide (g.2.length = 1))).map (fun g : Int × List Int => g.2.headD 0)).count x = (cano (fun x => keyAt kk1 kn1 x 0) l0).count x)) = true := by (clear S E; first | (simp; done) | decide | (rw [grpS_one]; decide) | (have h9 := hG _ (List.mem_of_getElem? (by assumption)); simp; omega) | (have h9 := hG _ (List.mem_of_getElem? (by assumption)); refine decide_eq_false ?_; omega) | (first | refine dec_t ?_ | refine dec_f ?_ | skip); first | (rw [etk]; exact G_counts (fun x => keyAt kk1 kn1 x 0) l0) | (rw [etk]; exact same_pq (G_alone (fun x => keyAt kk1 kn1 x 0) l0)) | (rw [etk]; exact same_pq (G_doub (fun x => keyAt kk1 kn1 x 0) l0)) | (rw [etk]; exact same_pq (G_all (fun x => keyAt kk1 kn1 x 0) l0)) | (rw [etk]; exact same_pq (firsts_perm (fun x => keyAt kk1 kn1 x 0) l0)) | (rw [etk]; exact (G_counts (fun x => keyAt kk1 kn1 x 0) l0).trans (cvb_counts (fun x => keyAt kk1 kn1 x 0) l0).symm) | (rw [etk]; exact G_lasts (fun x => keyAt kk1 kn1 x 0) l0) | (rw [etk]; exact same_pq ((G_alone (fun x => keyAt kk1 kn1 x 0) l0).trans (List.Perm.of_eq (ful_eq (fun x => keyAt kk1 kn1 x 0) l0).symm))) | (rw [etk]; exact same_pq ((G_doub (fun x => keyAt kk1 kn1 x 0) l0).trans (List.Perm.of_eq (fd_cano (fun x => keyAt kk1 kn1 x 0) l0).symm))))
          replace E := E.val (t := 114) rfl hc_76
          replace E := E.val (t := 115) rfl hc_76
          replace E := E.val (t := 116) rfl hc_76
          refine WL_guard_yes E rfl rfl ?_
          refine S_v E rfl (R_move E rfl) rfl ?_
          clear E a; intro a E
          refine WL_guard_yes E rfl rfl ?_
          refine S_v E rfl (R_move E rfl) rfl ?_
          clear E a; intro a E
          have S0 := S; clear S
          obtain ⟨M_77, hM_77, hz_78, S⟩ := S0.freezeI (by (first | omega | (simp; done) | (have h8 := hfl k; simp only [List.length_map] at *; omega)))
          clear S0
          replace h0 := h0.le hM_77
          replace hb_1 := hM_77.2 _ _ hb_1
          replace hz_6 := hz_6.le hM_77
          replace hv_8 := hv_8.le RG2_mono hM_77
          replace hv_10 := hv_10.le hM_77
          replace hv_17 := hv_17.le RG2_mono hM_77
          replace hr11 := hr11.le RP2_mono hM_77
          replace hv_60 := hv_60.le RP2_mono hM_77
          replace hz_62 := hz_62.le RP2_mono hM_77
          replace hv_66 := hv_66.le hM_77
          replace hz_68 := hz_68.le hM_77
          replace hv_72 := hv_72.le hM_77
          replace hz_74 := hz_74.le hM_77
          refine WL_guard_yes E rfl rfl ?_
          refine S_x (X_pu E S rfl rfl rfl (laws_same hz_78 h0) (Hp.le.refl _) ?_)
          clear E a S; rintro a _ w M_79 hM_79 rfl S E
          replace h0 := h0.le hM_79
          replace hb_1 := hM_79.2 _ _ hb_1
          replace hz_6 := hz_6.le hM_79
          replace hv_8 := hv_8.le RG2_mono hM_79
          replace hv_10 := hv_10.le hM_79
          replace hv_17 := hv_17.le RG2_mono hM_79
          replace hr11 := hr11.le RP2_mono hM_79
          replace hv_60 := hv_60.le RP2_mono hM_79
          replace hz_62 := hz_62.le RP2_mono hM_79
          replace hv_66 := hv_66.le hM_79
          replace hz_68 := hz_68.le hM_79
          replace hv_72 := hv_72.le hM_79
          replace hz_74 := hz_74.le hM_79
          replace hz_78 := hz_78.le hM_79
          refine S_v E rfl (R_pickT E rfl rfl) rfl ?_
          clear E a; intro a E
          refine S_v E rfl (R_move E rfl) rfl ?_
          clear E a; intro a E
          have hc_80 : (decide (((((grpS (fun x => (keyAt kk1 kn1 x 0, x)) l0).take k).map Prod.snd).flatten).length = l0.length ∧ ∀ x ∈ (((grpS (fun x => (keyAt kk1 kn1 x 0, x)) l0).take k).map Prod.snd).flatten, ((((grpS (fun x => (keyAt kk1 kn1 x 0, x)) l0).take k).map Prod.snd).flatten).count x = l0.count x)) = true := by (clear S E; first | (simp; done) | decide | (rw [grpS_one]; decide) | (have h9 := hG _ (List.mem_of_getElem? (by assumption)); simp; omega) | (have h9 := hG _ (List.mem_of_getElem? (by assumption)); refine decide_eq_false ?_; omega) | (first | refine dec_t ?_ | refine dec_f ?_ | skip); first | (rw [etk]; exact G_counts (fun x => keyAt kk1 kn1 x 0) l0) | (rw [etk]; exact same_pq (G_alone (fun x => keyAt kk1 kn1 x 0) l0)) | (rw [etk]; exact same_pq (G_doub (fun x => keyAt kk1 kn1 x 0) l0)) | (rw [etk]; exact same_pq (G_all (fun x => keyAt kk1 kn1 x 0) l0)) | (rw [etk]; exact same_pq (firsts_perm (fun x => keyAt kk1 kn1 x 0) l0)) | (rw [etk]; exact (G_counts (fun x => keyAt kk1 kn1 x 0) l0).trans (cvb_counts (fun x => keyAt kk1 kn1 x 0) l0).symm) | (rw [etk]; exact G_lasts (fun x => keyAt kk1 kn1 x 0) l0) | (rw [etk]; exact same_pq ((G_alone (fun x => keyAt kk1 kn1 x 0) l0).trans (List.Perm.of_eq (ful_eq (fun x => keyAt kk1 kn1 x 0) l0).symm))) | (rw [etk]; exact same_pq ((G_doub (fun x => keyAt kk1 kn1 x 0) l0).trans (List.Perm.of_eq (fd_cano (fun x => keyAt kk1 kn1 x 0) l0).symm))))
          replace E := E.val (t := 119) rfl hc_80
          replace E := E.val (t := 120) rfl hc_80
          replace E := E.val (t := 121) rfl hc_80
          refine WL_guard_yes E rfl rfl ?_
          refine S_v E rfl (R_move E rfl) rfl ?_
          clear E a; intro a E
          refine WL_guard_yes E rfl rfl ?_
          refine S_v E rfl (R_move E rfl) rfl ?_
          clear E a; intro a E
          refine WL_guard_yes E rfl rfl ?_
          refine S_v E rfl (R_loadGM E rfl (Try.isAgg24 _) (Try.sizeOf24 _) S.imm hb_1) rfl ?_
          clear E a; intro a E
          refine WL_guard_yes E rfl rfl ?_
          refine S_x (X_pu E S rfl rfl rfl (impl_UniqBy h0 (by omega) (by (first | omega | (simp; omega) | (simp; done) | (simp_all; omega) | grind))) (Hp.le.refl _) ?_)
          clear E a S; rintro a v_82 w M_81 hM_81 hv_82 S E
          replace h0 := h0.le hM_81
          replace hb_1 := hM_81.2 _ _ hb_1
          replace hz_6 := hz_6.le hM_81
          replace hv_8 := hv_8.le RG2_mono hM_81
          replace hv_10 := hv_10.le hM_81
          replace hv_17 := hv_17.le RG2_mono hM_81
          replace hr11 := hr11.le RP2_mono hM_81
          replace hv_60 := hv_60.le RP2_mono hM_81
          replace hz_62 := hz_62.le RP2_mono hM_81
          replace hv_66 := hv_66.le hM_81
          replace hz_68 := hz_68.le hM_81
          replace hv_72 := hv_72.le hM_81
          replace hz_74 := hz_74.le hM_81
          replace hz_78 := hz_78.le hM_81
          have S0 := S; clear S
          obtain ⟨M_83, hM_83, hz_84, S⟩ := S0.freezeI (by (first | omega | (simp; done) | (have h8 := hfl k; simp only [List.length_map] at *; omega)))
          clear S0
          replace h0 := h0.le hM_83
          replace hb_1 := hM_83.2 _ _ hb_1
          replace hz_6 := hz_6.le hM_83
          replace hv_8 := hv_8.le RG2_mono hM_83
          replace hv_10 := hv_10.le hM_83
          replace hv_17 := hv_17.le RG2_mono hM_83
          replace hr11 := hr11.le RP2_mono hM_83
          replace hv_60 := hv_60.le RP2_mono hM_83
          replace hz_62 := hz_62.le RP2_mono hM_83
          replace hv_66 := hv_66.le hM_83
          replace hz_68 := hz_68.le hM_83
          replace hv_72 := hv_72.le hM_83
          replace hz_74 := hz_74.le hM_83
          replace hz_78 := hz_78.le hM_83
          replace hv_82 := hv_82.le hM_83
          refine WL_guard_yes E rfl rfl ?_
          refine S_x (X_pu E S rfl rfl rfl (laws_same hz_84 hv_82) (Hp.le.refl _) ?_)
          clear E a S; rintro a _ w M_85 hM_85 rfl S E
          replace h0 := h0.le hM_85
          replace hb_1 := hM_85.2 _ _ hb_1
          replace hz_6 := hz_6.le hM_85
          replace hv_8 := hv_8.le RG2_mono hM_85
          replace hv_10 := hv_10.le hM_85
          replace hv_17 := hv_17.le RG2_mono hM_85
          replace hr11 := hr11.le RP2_mono hM_85
          replace hv_60 := hv_60.le RP2_mono hM_85
          replace hz_62 := hz_62.le RP2_mono hM_85
          replace hv_66 := hv_66.le hM_85
          replace hz_68 := hz_68.le hM_85
          replace hv_72 := hv_72.le hM_85
          replace hz_74 := hz_74.le hM_85
          replace hz_78 := hz_78.le hM_85
          replace hv_82 := hv_82.le hM_85
          replace hz_84 := hz_84.le hM_85
          refine S_v E rfl (R_pickT E rfl rfl) rfl ?_
          clear E a; intro a E
          refine S_v E rfl (R_move E rfl) rfl ?_
          clear E a; intro a E
          have hc_86 : (decide ((((grpS (fun x => (keyAt kk1 kn1 x 0, x)) l0).take k).map (fun g : Int × List Int => g.2.headD 0)).length = ((uqS (fun x => keyAt kk1 kn1 x 0) l0).2).length ∧ ∀ x ∈ ((grpS (fun x => (keyAt kk1 kn1 x 0, x)) l0).take k).map (fun g : Int × List Int => g.2.headD 0), (((grpS (fun x => (keyAt kk1 kn1 x 0, x)) l0).take k).map (fun g : Int × List Int => g.2.headD 0)).count x = ((uqS (fun x => keyAt kk1 kn1 x 0) l0).2).count x)) = true := by (clear S E; first | (simp; done) | decide | (rw [grpS_one]; decide) | (have h9 := hG _ (List.mem_of_getElem? (by assumption)); simp; omega) | (have h9 := hG _ (List.mem_of_getElem? (by assumption)); refine decide_eq_false ?_; omega) | (first | refine dec_t ?_ | refine dec_f ?_ | skip); first | (rw [etk]; exact G_counts (fun x => keyAt kk1 kn1 x 0) l0) | (rw [etk]; exact same_pq (G_alone (fun x => keyAt kk1 kn1 x 0) l0)) | (rw [etk]; exact same_pq (G_doub (fun x => keyAt kk1 kn1 x 0) l0)) | (rw [etk]; exact same_pq (G_all (fun x => keyAt kk1 kn1 x 0) l0)) | (rw [etk]; exact same_pq (firsts_perm (fun x => keyAt kk1 kn1 x 0) l0)) | (rw [etk]; exact (G_counts (fun x => keyAt kk1 kn1 x 0) l0).trans (cvb_counts (fun x => keyAt kk1 kn1 x 0) l0).symm) | (rw [etk]; exact G_lasts (fun x => keyAt kk1 kn1 x 0) l0) | (rw [etk]; exact same_pq ((G_alone (fun x => keyAt kk1 kn1 x 0) l0).trans (List.Perm.of_eq (ful_eq (fun x => keyAt kk1 kn1 x 0) l0).symm))) | (rw [etk]; exact same_pq ((G_doub (fun x => keyAt kk1 kn1 x 0) l0).trans (List.Perm.of_eq (fd_cano (fun x => keyAt kk1 kn1 x 0) l0).symm))))
          replace E := E.val (t := 126) rfl hc_86
          replace E := E.val (t := 127) rfl hc_86
          replace E := E.val (t := 128) rfl hc_86
          refine WL_guard_yes E rfl rfl ?_
          refine S_v E rfl (R_move E rfl) rfl ?_
          clear E a; intro a E
          refine WL_guard_yes E rfl rfl ?_
          refine S_v E rfl (R_move E rfl) rfl ?_
          clear E a; intro a E
          refine WL_guard_yes E rfl rfl ?_
          refine S_v E rfl (R_loadGM E rfl (Try.isAgg24 _) (Try.sizeOf24 _) S.imm hb_1) rfl ?_
          clear E a; intro a E
          refine WL_guard_yes E rfl rfl ?_
          refine S_x (X_pu E S rfl rfl rfl (impl_CountValuesBy h0 (by omega) (by (first | omega | (simp; omega) | (simp; done) | (simp_all; omega) | grind))) (Hp.le.refl _) ?_)
          clear E a S; rintro a v_88 w M_87 hM_87 hv_88 S E
          replace h0 := h0.le hM_87
          replace hb_1 := hM_87.2 _ _ hb_1
          replace hz_6 := hz_6.le hM_87
          replace hv_8 := hv_8.le RG2_mono hM_87
          replace hv_10 := hv_10.le hM_87
          replace hv_17 := hv_17.le RG2_mono hM_87
          replace hr11 := hr11.le RP2_mono hM_87
          replace hv_60 := hv_60.le RP2_mono hM_87
          replace hz_62 := hz_62.le RP2_mono hM_87
          replace hv_66 := hv_66.le hM_87
          replace hz_68 := hz_68.le hM_87
          replace hv_72 := hv_72.le hM_87
          replace hz_74 := hz_74.le hM_87
          replace hz_78 := hz_78.le hM_87
          replace hv_82 := hv_82.le hM_87
          replace hz_84 := hz_84.le hM_87
          refine WL_guard_yes E rfl rfl ?_
          refine S_x (X_pu E S rfl rfl rfl (laws_eqPairs hz_62 hv_88) (Hp.le.refl _) ?_)
          clear E a S; rintro a _ w M_89 hM_89 rfl S E
          replace h0 := h0.le hM_89
          replace hb_1 := hM_89.2 _ _ hb_1
          replace hz_6 := hz_6.le hM_89
          replace hv_8 := hv_8.le RG2_mono hM_89
          replace hv_10 := hv_10.le hM_89
          replace hv_17 := hv_17.le RG2_mono hM_89
          replace hr11 := hr11.le RP2_mono hM_89
          replace hv_60 := hv_60.le RP2_mono hM_89
          replace hz_62 := hz_62.le RP2_mono hM_89
          replace hv_66 := hv_66.le hM_89
          replace hz_68 := hz_68.le hM_89
          replace hv_72 := hv_72.le hM_89
          replace hz_74 := hz_74.le hM_89
          replace hz_78 := hz_78.le hM_89
          replace hv_82 := hv_82.le hM_89
          replace hz_84 := hz_84.le hM_89
          replace hv_88 := hv_88.le RP2_mono hM_89
          refine S_v E rfl (R_pickT E rfl rfl) rfl ?_
          clear E a; intro a E
          refine S_v E rfl (R_move E rfl) rfl ?_
          clear E a; intro a E
          have hc_90 : (decide (((grpS (fun x => (keyAt kk1 kn1 x 0, x)) l0).take k).map (fun g : Int × List Int => (g.1, (g.2.length : Int))) = srtK Prod.fst (upM (fun x => keyAt kk1 kn1 x 0) [] l0))) = true := by (clear S E; first | (simp; done) | decide | (rw [grpS_one]; decide) | (have h9 := hG _ (List.mem_of_getElem? (by assumption)); simp; omega) | (have h9 := hG _ (List.mem_of_getElem? (by assumption)); refine decide_eq_false ?_; omega) | (first | refine dec_t ?_ | refine dec_f ?_ | skip); first | (rw [etk]; exact G_counts (fun x => keyAt kk1 kn1 x 0) l0) | (rw [etk]; exact same_pq (G_alone (fun x => keyAt kk1 kn1 x 0) l0)) | (rw [etk]; exact same_pq (G_doub (fun x => keyAt kk1 kn1 x 0) l0)) | (rw [etk]; exact same_pq (G_all (fun x => keyAt kk1 kn1 x 0) l0)) | (rw [etk]; exact same_pq (firsts_perm (fun x => keyAt kk1 kn1 x 0) l0)) | (rw [etk]; exact (G_counts (fun x => keyAt kk1 kn1 x 0) l0).trans (cvb_counts (fun x => keyAt kk1 kn1 x 0) l0).symm) | (rw [etk]; exact G_lasts (fun x => keyAt kk1 kn1 x 0) l0) | (rw [etk]; exact same_pq ((G_alone (fun x => keyAt kk1 kn1 x 0) l0).trans (List.Perm.of_eq (ful_eq (fun x => keyAt kk1 kn1 x 0) l0).symm))) | (rw [etk]; exact same_pq ((G_doub (fun x => keyAt kk1 kn1 x 0) l0).trans (List.Perm.of_eq (fd_cano (fun x => keyAt kk1 kn1 x 0) l0).symm))))
          replace E := E.val (t := 133) rfl hc_90
          replace E := E.val (t := 134) rfl hc_90
          replace E := E.val (t := 135) rfl hc_90
          refine WL_guard_yes E rfl rfl ?_
          refine S_v E rfl (R_move E rfl) rfl ?_
          clear E a; intro a E
          refine WL_guard_yes E rfl rfl ?_
          refine S_v E rfl (R_move E rfl) rfl ?_
          clear E a; intro a E
          refine WL_guard_yes E rfl rfl ?_
          refine S_v E rfl (R_loadGM E rfl (Try.isAgg24 _) (Try.sizeOf24 _) S.imm hb_1) rfl ?_
          clear E a; intro a E
          refine WL_guard_yes E rfl rfl ?_
          refine S_x (X_pu E S rfl rfl rfl (impl_KeyBy h0 (by omega) (by (first | omega | (simp; omega) | (simp; done) | (simp_all; omega) | grind))) (Hp.le.refl _) ?_)
          clear E a S; rintro a v_92 w M_91 hM_91 hv_92 S E
          replace h0 := h0.le hM_91
          replace hb_1 := hM_91.2 _ _ hb_1
          replace hz_6 := hz_6.le hM_91
          replace hv_8 := hv_8.le RG2_mono hM_91
          replace hv_10 := hv_10.le hM_91
          replace hv_17 := hv_17.le RG2_mono hM_91
          replace hr11 := hr11.le RP2_mono hM_91
          replace hv_60 := hv_60.le RP2_mono hM_91
          replace hz_62 := hz_62.le RP2_mono hM_91
          replace hv_66 := hv_66.le hM_91
          replace hz_68 := hz_68.le hM_91
          replace hv_72 := hv_72.le hM_91
          replace hz_74 := hz_74.le hM_91
          replace hz_78 := hz_78.le hM_91
          replace hv_82 := hv_82.le hM_91
          replace hz_84 := hz_84.le hM_91
          replace hv_88 := hv_88.le RP2_mono hM_91
          have S0 := S; clear S
          obtain ⟨M_93, hM_93, hz_94, S⟩ := S0.freezeR hr11 RP2_mono (by (first | omega | (simp; done) | (have h8 := hfl k; simp only [List.length_map] at *; omega)))
          clear S0
          replace h0 := h0.le hM_93
          replace hb_1 := hM_93.2 _ _ hb_1
          replace hz_6 := hz_6.le hM_93
          replace hv_8 := hv_8.le RG2_mono hM_93
          replace hv_10 := hv_10.le hM_93
          replace hv_17 := hv_17.le RG2_mono hM_93
          replace hv_60 := hv_60.le RP2_mono hM_93
          replace hz_62 := hz_62.le RP2_mono hM_93
          replace hv_66 := hv_66.le hM_93
          replace hz_68 := hz_68.le hM_93
          replace hv_72 := hv_72.le hM_93
          replace hz_74 := hz_74.le hM_93
          replace hz_78 := hz_78.le hM_93
          replace hv_82 := hv_82.le hM_93
          replace hz_84 := hz_84.le hM_93
          replace hv_88 := hv_88.le RP2_mono hM_93
          replace hv_92 := hv_92.le RP2_mono hM_93
          refine WL_guard_yes E rfl rfl ?_
          refine S_x (X_pu E S rfl rfl rfl (laws_eqPairs hz_94 hv_92) (Hp.le.refl _) ?_)
          clear E a S; rintro a _ w M_95 hM_95 rfl S E
          replace h0 := h0.le hM_95
          replace hb_1 := hM_95.2 _ _ hb_1
          replace hz_6 := hz_6.le hM_95
          replace hv_8 := hv_8.le RG2_mono hM_95
          replace hv_10 := hv_10.le hM_95
          replace hv_17 := hv_17.le RG2_mono hM_95
          replace hv_60 := hv_60.le RP2_mono hM_95
          replace hz_62 := hz_62.le RP2_mono hM_95
          replace hv_66 := hv_66.le hM_95
          replace hz_68 := hz_68.le hM_95
          replace hv_72 := hv_72.le hM_95
          replace hz_74 := hz_74.le hM_95
          replace hz_78 := hz_78.le hM_95
          replace hv_82 := hv_82.le hM_95
          replace hz_84 := hz_84.le hM_95
          replace hv_88 := hv_88.le RP2_mono hM_95
          replace hv_92 := hv_92.le RP2_mono hM_95
          replace hz_94 := hz_94.le RP2_mono hM_95
          refine S_v E rfl (R_pickT E rfl rfl) rfl ?_
          clear E a; intro a E
          refine S_v E rfl (R_move E rfl) rfl ?_
          clear E a; intro a E
          have hc_96 : (decide (((grpS (fun x => (keyAt kk1 kn1 x 0, x)) l0).take k).map (fun g : Int × List Int => (g.1, g.2.getLastD 0)) = entE ((l0).map fun x => (keyAt kk1 kn1 x 0, x)))) = true := by (clear S E; first | (simp; done) | decide | (rw [grpS_one]; decide) | (have h9 := hG _ (List.mem_of_getElem? (by assumption)); simp; omega) | (have h9 := hG _ (List.mem_of_getElem? (by assumption)); refine decide_eq_false ?_; omega) | (first | refine dec_t ?_ | refine dec_f ?_ | skip); first | (rw [etk]; exact G_counts (fun x => keyAt kk1 kn1 x 0) l0) | (rw [etk]; exact same_pq (G_alone (fun x => keyAt kk1 kn1 x 0) l0)) | (rw [etk]; exact same_pq (G_doub (fun x => keyAt kk1 kn1 x 0) l0)) | (rw [etk]; exact same_pq (G_all (fun x => keyAt kk1 kn1 x 0) l0)) | (rw [etk]; exact same_pq (firsts_perm (fun x => keyAt kk1 kn1 x 0) l0)) | (rw [etk]; exact (G_counts (fun x => keyAt kk1 kn1 x 0) l0).trans (cvb_counts (fun x => keyAt kk1 kn1 x 0) l0).symm) | (rw [etk]; exact G_lasts (fun x => keyAt kk1 kn1 x 0) l0) | (rw [etk]; exact same_pq ((G_alone (fun x => keyAt kk1 kn1 x 0) l0).trans (List.Perm.of_eq (ful_eq (fun x => keyAt kk1 kn1 x 0) l0).symm))) | (rw [etk]; exact same_pq ((G_doub (fun x => keyAt kk1 kn1 x 0) l0).trans (List.Perm.of_eq (fd_cano (fun x => keyAt kk1 kn1 x 0) l0).symm))))
          replace E := E.val (t := 140) rfl hc_96
          replace E := E.val (t := 141) rfl hc_96
          replace E := E.val (t := 142) rfl hc_96
          refine WL_guard_yes E rfl rfl ?_
          refine S_v E rfl (R_move E rfl) rfl ?_
          clear E a; intro a E
          refine WL_guard_yes E rfl rfl ?_
          refine S_v E rfl (R_move E rfl) rfl ?_
          clear E a; intro a E
          refine WL_guard_yes E rfl rfl ?_
          refine S_v E rfl (R_loadGM E rfl (Try.isAgg24 _) (Try.sizeOf24 _) S.imm hb_1) rfl ?_
          clear E a; intro a E
          refine WL_guard_yes E rfl rfl ?_
          refine S_x (X_pu E S rfl rfl rfl (impl_FindUniquesBy h0 (by omega) (by (first | omega | (simp; omega) | (simp; done) | (simp_all; omega) | grind))) (Hp.le.refl _) ?_)
          clear E a S; rintro a v_98 w M_97 hM_97 hv_98 S E
          replace h0 := h0.le hM_97
          replace hb_1 := hM_97.2 _ _ hb_1
          replace hz_6 := hz_6.le hM_97
          replace hv_8 := hv_8.le RG2_mono hM_97
          replace hv_10 := hv_10.le hM_97
          replace hv_17 := hv_17.le RG2_mono hM_97
          replace hv_60 := hv_60.le RP2_mono hM_97
          replace hz_62 := hz_62.le RP2_mono hM_97
          replace hv_66 := hv_66.le hM_97
          replace hz_68 := hz_68.le hM_97
          replace hv_72 := hv_72.le hM_97
          replace hz_74 := hz_74.le hM_97
          replace hz_78 := hz_78.le hM_97
          replace hv_82 := hv_82.le hM_97
          replace hz_84 := hz_84.le hM_97
          replace hv_88 := hv_88.le RP2_mono hM_97
          replace hv_92 := hv_92.le RP2_mono hM_97
          replace hz_94 := hz_94.le RP2_mono hM_97
          refine WL_guard_yes E rfl rfl ?_
          refine S_x (X_pu E S rfl rfl rfl (laws_same hz_68 hv_98) (Hp.le.refl _) ?_)
          clear E a S; rintro a _ w M_99 hM_99 rfl S E
          replace h0 := h0.le hM_99
          replace hb_1 := hM_99.2 _ _ hb_1
          replace hz_6 := hz_6.le hM_99
          replace hv_8 := hv_8.le RG2_mono hM_99
          replace hv_10 := hv_10.le hM_99
          replace hv_17 := hv_17.le RG2_mono hM_99
          replace hv_60 := hv_60.le RP2_mono hM_99
          replace hz_62 := hz_62.le RP2_mono hM_99
          replace hv_66 := hv_66.le hM_99
          replace hz_68 := hz_68.le hM_99
          replace hv_72 := hv_72.le hM_99
          replace hz_74 := hz_74.le hM_99
          replace hz_78 := hz_78.le hM_99
          replace hv_82 := hv_82.le hM_99
          replace hz_84 := hz_84.le hM_99
          replace hv_88 := hv_88.le RP2_mono hM_99
          replace hv_92 := hv_92.le RP2_mono hM_99
          replace hz_94 := hz_94.le RP2_mono hM_99
          replace hv_98 := hv_98.le hM_99
          refine S_v E rfl (R_pickT E rfl rfl) rfl ?_
          clear E a; intro a E
          refine S_v E rfl (R_move E rfl) rfl ?_
          clear E a; intro a E
          have hc_100 : (decide (((((grpS (fun x => (keyAt kk1 kn1 x 0, x)) l0).take k).filter (fun g : Int × List Int => decide (g.2.length = 1))).map (fun g : Int × List Int => g.2.headD 0)).length = ((l0).filter (fun x => !getK false (dupM (fun x => keyAt kk1 kn1 x 0) l0) ((fun x => keyAt kk1 kn1 x 0) x))).length ∧ ∀ x ∈ (((grpS (fun x => (keyAt kk1 kn1 x 0, x)) l0).take k).filter (fun g : Int × List Int => decide (g.2.length = 1))).map (fun g : Int × List Int => g.2.headD 0), ((((grpS (fun x => (keyAt kk1 kn1 x 0, x)) l0).take k).filter (fun g : Int × List Int => decide (g.2.length = 1))).map (fun g : Int × List Int => g.2.headD 0)).count x = ((l0).filter (fun x => !getK false (dupM (fun x => keyAt kk1 kn1 x 0) l0) ((fun x => keyAt kk1 kn1 x 0) x))).count x)) = true := by (clear S E; first | (simp; done) | decide | (rw [grpS_one]; decide) | (have h9 := hG _ (List.mem_of_getElem? (by assumption)); simp; omega) | (have h9 := hG _ (List.mem_of_getElem? (by assumption)); refine decide_eq_false ?_; omega) | (first | refine dec_t ?_ | refine dec_f ?_ | skip); first | (rw [etk]; exact G_counts (fun x => keyAt kk1 kn1 x 0) l0) | (rw [etk]; exact same_pq (G_alone (fun x => keyAt kk1 kn1 x 0) l0)) | (rw [etk]; exact same_pq (G_doub (fun x => keyAt kk1 kn1 x 0) l0)) | (rw [etk]; exact same_pq (G_all (fun x => keyAt kk1 kn1 x 0) l0)) | (rw [etk]; exact same_pq (firsts_perm (fun x => keyAt kk1 kn1 x 0) l0)) | (rw [etk]; exact (G_counts (fun x => keyAt kk1 kn1 x 0) l0).trans (cvb_counts (fun x => keyAt kk1 kn1 x 0) l0).symm) | (rw [etk]; exact G_lasts (fun x => keyAt kk1 kn1 x 0) l0) | (rw [etk]; exact same_pq ((G_alone (fun x => keyAt kk1 kn1 x 0) l0).trans (List.Perm.of_eq (ful_eq (fun x => keyAt kk1 kn1 x 0) l0).symm))) | (rw [etk]; exact same_pq ((G_doub (fun x => keyAt kk1 kn1 x 0) l0).trans (List.Perm.of_eq (fd_cano (fun x => keyAt kk1 kn1 x 0) l0).symm))))
          replace E := E.val (t := 147) rfl hc_100
          replace E := E.val (t := 148) rfl hc_100
          replace E := E.val (t := 149) rfl hc_100
          refine WL_guard_yes E rfl rfl ?_
          refine S_v E rfl (R_move E rfl) rfl ?_
          clear E a; intro a E
          refine WL_guard_yes E rfl rfl ?_
          refine S_v E rfl (R_move E rfl) rfl ?_
          clear E a; intro a E
          refine WL_guard_yes E rfl rfl ?_
          refine S_v E rfl (R_loadGM E rfl (Try.isAgg24 _) (Try.sizeOf24 _) S.imm hb_1) rfl ?_
          clear E a; intro a E
          refine WL_guard_yes E rfl rfl ?_
          refine S_x (X_pu E S rfl rfl rfl (impl_FindDuplicatesBy h0 (by omega) (by (first | omega | (simp; omega) | (simp; done) | (simp_all; omega) | grind))) (Hp.le.refl _) ?_)
          clear E a S; rintro a v_102 w M_101 hM_101 hv_102 S E
          replace h0 := h0.le hM_101
          replace hb_1 := hM_101.2 _ _ hb_1
          replace hz_6 := hz_6.le hM_101
          replace hv_8 := hv_8.le RG2_mono hM_101
          replace hv_10 := hv_10.le hM_101
          replace hv_17 := hv_17.le RG2_mono hM_101
          replace hv_60 := hv_60.le RP2_mono hM_101
          replace hz_62 := hz_62.le RP2_mono hM_101
          replace hv_66 := hv_66.le hM_101
          replace hz_68 := hz_68.le hM_101
          replace hv_72 := hv_72.le hM_101
          replace hz_74 := hz_74.le hM_101
          replace hz_78 := hz_78.le hM_101
          replace hv_82 := hv_82.le hM_101
          replace hz_84 := hz_84.le hM_101
          replace hv_88 := hv_88.le RP2_mono hM_101
          replace hv_92 := hv_92.le RP2_mono hM_101
          replace hz_94 := hz_94.le RP2_mono hM_101
          replace hv_98 := hv_98.le hM_101
          refine WL_guard_yes E rfl rfl ?_
          refine S_x (X_pu E S rfl rfl rfl (laws_same hz_74 hv_102) (Hp.le.refl _) ?_)
          clear E a S; rintro a _ w M_103 hM_103 rfl S E
          replace h0 := h0.le hM_103
          replace hb_1 := hM_103.2 _ _ hb_1
          replace hz_6 := hz_6.le hM_103
          replace hv_8 := hv_8.le RG2_mono hM_103
          replace hv_10 := hv_10.le hM_103
          replace hv_17 := hv_17.le RG2_mono hM_103
          replace hv_60 := hv_60.le RP2_mono hM_103
          replace hz_62 := hz_62.le RP2_mono hM_103
          replace hv_66 := hv_66.le hM_103
          replace hz_68 := hz_68.le hM_103
          replace hv_72 := hv_72.le hM_103
          replace hz_74 := hz_74.le hM_103
          replace hz_78 := hz_78.le hM_103
          replace hv_82 := hv_82.le hM_103
          replace hz_84 := hz_84.le hM_103
          replace hv_88 := hv_88.le RP2_mono hM_103
          replace hv_92 := hv_92.le RP2_mono hM_103
          replace hz_94 := hz_94.le RP2_mono hM_103
          replace hv_98 := hv_98.le hM_103
          replace hv_102 := hv_102.le hM_103
          refine S_v E rfl (R_pickT E rfl rfl) rfl ?_
          clear E a; intro a E
          refine S_v E rfl (R_assign E rfl) rfl ?_
          clear E a; intro a E
          refine WL_nil ?_
          refine T_n ?_
          refine WP_ret ?_
          exact F_ret1 E Try.results3 rfl ⟨_, rfl, M_103, (hM_2.trans (hM_5.trans (hM_7.trans (hM_11.trans (hM_12.trans (hM_14.trans (hM_16.trans (hM_26.trans (hM_59.trans (hM_61.trans (hM_63.trans (hM_65.trans (hM_67.trans (hM_69.trans (hM_71.trans (hM_73.trans (hM_75.trans (hM_77.trans (hM_79.trans (hM_81.trans (hM_83.trans (hM_85.trans (hM_87.trans (hM_89.trans (hM_91.trans (hM_93.trans (hM_95.trans (hM_97.trans (hM_99.trans (hM_101.trans hM_103)))))))))))))))))))))))))))))), (congrArg Value.bool (by (clear S E; first | (simp; done) | decide | (rw [grpS_one]; decide) | (have h9 := hG _ (List.mem_of_getElem? (by assumption)); simp; omega) | (have h9 := hG _ (List.mem_of_getElem? (by assumption)); refine decide_eq_false ?_; omega) | (first | refine dec_t ?_ | refine dec_f ?_ | skip); first | (rw [etk]; exact G_counts (fun x => keyAt kk1 kn1 x 0) l0) | (rw [etk]; exact same_pq (G_alone (fun x => keyAt kk1 kn1 x 0) l0)) | (rw [etk]; exact same_pq (G_doub (fun x => keyAt kk1 kn1 x 0) l0)) | (rw [etk]; exact same_pq (G_all (fun x => keyAt kk1 kn1 x 0) l0)) | (rw [etk]; exact same_pq (firsts_perm (fun x => keyAt kk1 kn1 x 0) l0)) | (rw [etk]; exact (G_counts (fun x => keyAt kk1 kn1 x 0) l0).trans (cvb_counts (fun x => keyAt kk1 kn1 x 0) l0).symm) | (rw [etk]; exact G_lasts (fun x => keyAt kk1 kn1 x 0) l0) | (rw [etk]; exact same_pq ((G_alone (fun x => keyAt kk1 kn1 x 0) l0).trans (List.Perm.of_eq (ful_eq (fun x => keyAt kk1 kn1 x 0) l0).symm))) | (rw [etk]; exact same_pq ((G_doub (fun x => keyAt kk1 kn1 x 0) l0).trans (List.Perm.of_eq (fd_cano (fun x => keyAt kk1 kn1 x 0) l0).symm)))))), S⟩

end Go.Proofs.Ytpncgdecfhfjmaa.wFnGroupsBack
