/- Walks through the functions that laws.FnUniques reaches: what each computes; no conditions beyond what each theorem states. -/
import Derived.Test.YtahbobhbookehaaGreatWFnUniquesb
set_option linter.unusedVariables false
set_option linter.unusedSimpArgs false
namespace Go.Proofs.YtahbobhbookehaaGreat.wFnUniques
open Go Go.Sl
set_option maxRecDepth 100000 in
set_option maxHeartbeats 4000000 in
theorem lo_Uniq {M : Hp} {v0 : Value} {l0 : List Int} (h0 : RdI M v0 l0) (hb : l0.length ≤ 1000000000000) :
    Pu Tryz.prog (.func (.func 44) #[] #[]) M [v0] (fun r M' => RdI M' r (keyL l0)) := by
  refine Pu_enter Tryz.func44 rfl Tryz.ntmps44 rfl Tryz.call44 ?_
  intro a w M1 H hM1 S E
  replace h0 := h0.le hM1
  have b0 := h0.bound
  refine WP_seq ?_
  refine WP_region ?_
  refine S_v E rfl (R_assign E rfl) rfl ?_
  clear E a; intro a E
  refine WL_nil ?_
  refine T_n ?_
  refine WP_seq ?_
  refine WP_region ?_
  refine S_v E rfl (R_move E rfl) rfl ?_
  clear E a; intro a E
  refine S_v E rfl (R_lenV E rfl T22 h0.len) rfl ?_
  clear E a; intro a E
  refine S_x (X_make0 (k := (l0).length) E S rfl rfl rfl T22 rfl (by omega) (by omega) (by omega) ?_)
  clear E a S; rintro a w v_1 E S
  replace S := S.made0
  refine S_v E rfl (R_assign E rfl) rfl ?_
  clear E a; intro a E
  refine WL_nil ?_
  refine T_n ?_
  refine WP_seq ?_
  refine WP_region ?_
  refine S_v E rfl (R_move E rfl) rfl ?_
  clear E a; intro a E
  refine S_v E rfl (R_lenV E rfl T22 h0.len) rfl ?_
  clear E a; intro a E
  refine S_x (X_makeMapR E S rfl MT67 rfl ?_)
  clear E a S; rintro a w b_2 E S
  replace S : St w M1 (OwnS b_2 ([] : List Int) :: _) := S
  refine S_v E rfl (R_assign E rfl) rfl ?_
  clear E a; intro a E
  refine WL_nil ?_
  refine T_n ?_
  refine WP_seq ?_
  refine WP_seq ?_
  refine WP_region ?_
  refine S_v E rfl (R_move E rfl) rfl ?_
  clear E a; intro a E
  refine S_v E rfl (R_lenV E rfl T22 h0.len) rfl ?_
  clear E a; intro a E
  refine S_v E rfl (R_move E rfl) rfl ?_
  clear E a; intro a E
  refine WL_nil ?_
  refine T_n ?_
  refine WP_block ?_
  replace S := S.front1
  replace S := S.front1
  replace S := S.reM (L' := (Sl.encS (keyL (l0.take 0)))) (congrArg Sl.encS (show ([] : List Int) = keyL (l0.take 0) by first | (simp [keyL]; done) | rfl | (rw [keyL_in (by assumption) (by assumption)]; done) | (rw [keyL_out (by assumption) (by assumption)]; done) | (rw [keyL_succ (by assumption)]; done)))
  replace S := S.front1
  replace S := S.re1 (l' := keyL (l0.take 0)) (by first | (simp [keyL]; done) | rfl | (rw [keyL_in (by assumption) (by assumption)]; done) | (rw [keyL_out (by assumption) (by assumption)]; done) | (rw [keyL_succ (by assumption)]; done))
  refine WP_loop (γ := Nat) (fun (k : Nat) a w => ∃ (M_3 : Hp) (u3 : Value), Hp.le M1 M_3 ∧ St w M_3 (OwnI 3 u3 (keyL (l0.take k)) :: OwnS b_2 (keyL (l0.take k)) :: H) ∧ Env a 44 [] [(0, v0), (3, u3), (4, .map (some b_2)), (15, .int .i64 (((l0).length : Nat) : Int)), (16, .int .i64 ((k : Nat) : Int))] ∧ (k ≤ (l0).length)) (fun k => ((l0).length) - k) 0 ⟨M1, _, Hp.le.refl _, S, E.keep ⟨rfl, rfl, rfl, rfl, rfl, trivial⟩, by ((try clear S); (try clear E); first | assumption | omega | rfl | (simp; done) | (simp_all; done) | (simp [List.take_add_one, *]; done) | grind [List.take_add_one])⟩ ?_
  try clear E
  try clear S
  try clear a
  try clear w
  rintro k a w ⟨M_3, u3, hM_3, S, E, hL0_0⟩
  replace h0 := h0.le hM_3
  have hkl := keyL_le' (l0.take k); simp only [List.length_take] at hkl
  refine WP_seq ?_
  refine WP_region ?_
  refine S_v E rfl (R_lss E rfl rfl) rfl ?_
  clear E a; intro a E
  refine WL_nil ?_
  refine T_n ?_
  refine WP_seq ?_
  refine WP_cond E rfl (fun hc_4 => ?_) (fun hc_4 => ?_)
  · replace hc_4 := of_decide_eq_true hc_4
    refine WP_skip ?_
    refine T_n ?_
    refine WP_seq ?_
    refine WP_block ?_
    refine WP_seq ?_
    refine WP_region ?_
    refine S_v E rfl (R_move E rfl) rfl ?_
    clear E a; intro a E
    refine S_v E rfl (R_assign E rfl) rfl ?_
    clear E a; intro a E
    refine WL_nil ?_
    refine T_n ?_
    refine WP_seq ?_
    refine WP_seq ?_
    refine WP_region ?_
    refine S_v E rfl (R_move E rfl) rfl ?_
    clear E a; intro a E
    refine S_v E rfl (R_move E rfl) rfl ?_
    clear E a; intro a E
    refine S_v E rfl (R_move E rfl) rfl ?_
    clear E a; intro a E
    obtain ⟨x_5, hx_5⟩ : ∃ x, (l0)[k]? = some x := ⟨_, List.getElem?_eq_getElem (by first | omega | (simp; done) | (simp; omega) | (simp_all; omega))⟩
    obtain ⟨p_6, hp_6, qp_6⟩ := h0.at hx_5
    refine S_v E rfl (R_idx E rfl rfl T22 hp_6 rfl) rfl ?_
    clear E a; intro a E
    refine S_v E rfl (R_loadM E rfl Tryz.isAgg3 S.imm qp_6) rfl ?_
    clear E a; intro a E
    replace S := S.front1
    refine S_x (X_lookupS E S rfl MT67 rfl rfl ?_)
    clear E a S; rintro a w E S
    replace S : St w M_3 (OwnS b_2 (keyL (l0.take k)) :: _) := S
    refine S_v E rfl (R_move E rfl) rfl ?_
    clear E a; intro a E
    refine S_v E rfl (R_extract E rfl rfl) rfl ?_
    clear E a; intro a E
    refine S_v E rfl (R_extract E rfl rfl) rfl ?_
    clear E a; intro a E
    refine S_x (X_alloc (cs := #[]) E S rfl Tryz.zeroValue80 rfl ?_)
    clear E a S; rintro a w b_7 E S
    refine S_x0 (X_storeG (us := []) E S rfl rfl (Tryz.sizeOf80 _) rfl (by intro u hu; cases hu) ?_)
    clear E a S; rintro a w E S
    replace S : St w M_3 (blk b_7 (.cells #[] 80) :: _) := S
    have S0 := S; clear S
    obtain ⟨M_8, hM_8, hb_9, S⟩ := S0.freezeB
    clear S0
    replace h0 := h0.le hM_8
    refine S_v E rfl (R_assign E rfl) rfl ?_
    clear E a; intro a E
    refine WL_nil ?_
    refine T_n ?_
    refine WP_seq ?_
    refine WP_region ?_
    refine S_v E rfl (R_move E rfl) rfl ?_
    clear E a; intro a E
    refine WL_nil ?_
    refine T_n ?_
    refine WP_cond E rfl (fun hc_10 => ?_) (fun hc_10 => ?_)
    · replace hc_10 := of_decide_eq_true hc_10
      refine WP_exit ?_
      refine T_x ?_
      refine B_x ?_
      refine T_n ?_
      refine WP_region ?_
      refine S_v E rfl (R_addx (m := ((k + 1 : Nat) : Int)) E rfl rfl (by omega) (by omega)) rfl ?_
      clear E a; intro a E
      refine S_v E rfl (R_move E rfl) rfl ?_
      clear E a; intro a E
      refine WL_nil ?_
      refine T_n ?_
      replace S := S.front1
      replace S := S.front1
      replace S := S.reM (L' := (Sl.encS (keyL (l0.take (k + 1))))) (congrArg Sl.encS (show keyL (l0.take k) = keyL (l0.take (k + 1)) by first | (simp [keyL]; done) | rfl | (rw [keyL_in (by assumption) (by assumption)]; done) | (rw [keyL_out (by assumption) (by assumption)]; done) | (rw [keyL_succ (by assumption)]; done)))
      replace S := S.front1
      replace S := S.re1 (l' := keyL (l0.take (k + 1))) (by first | (simp [keyL]; done) | rfl | (rw [keyL_in (by assumption) (by assumption)]; done) | (rw [keyL_out (by assumption) (by assumption)]; done) | (rw [keyL_succ (by assumption)]; done))
      exact ⟨k + 1, ⟨M_8, _, (hM_3.trans hM_8), S, E.keep ⟨rfl, rfl, rfl, rfl, rfl, trivial⟩, by ((try clear S); (try clear E); first | assumption | omega | rfl | (simp; done) | (simp_all; done) | (simp [List.take_add_one, *]; done) | grind [List.take_add_one])⟩, by omega⟩
    · replace hc_10 := of_decide_eq_false hc_10
      refine WP_skip ?_
      refine T_n ?_
      refine WP_seq ?_
      refine WP_region ?_
      refine S_v E rfl (R_move E rfl) rfl ?_
      clear E a; intro a E
      refine S_v E rfl (R_move E rfl) rfl ?_
      clear E a; intro a E
      refine S_v E rfl (R_move E rfl) rfl ?_
      clear E a; intro a E
      obtain ⟨p_11, hp_11, qp_11⟩ := h0.at hx_5
      refine S_v E rfl (R_idx E rfl rfl T22 hp_11 rfl) rfl ?_
      clear E a; intro a E
      refine S_v E rfl (R_loadM E rfl Tryz.isAgg3 S.imm qp_11) rfl ?_
      clear E a; intro a E
      refine S_v E rfl (R_build (u := .agg #[]) (vs := []) E rfl (fun w => FB80__  w)) rfl ?_
      clear E a; intro a E
      refine S_x0 (X_updateS E S MT67 rfl rfl rfl ?_)
      clear E a S; rintro a w E S
      refine WL_nil ?_
      refine T_n ?_
      refine WP_region ?_
      refine S_v E rfl (R_move E rfl) rfl ?_
      clear E a; intro a E
      refine S_v E rfl (R_move E rfl) rfl ?_
      clear E a; intro a E
      refine S_v E rfl (R_move E rfl) rfl ?_
      clear E a; intro a E
      obtain ⟨p_12, hp_12, qp_12⟩ := h0.at hx_5
      refine S_v E rfl (R_idx E rfl rfl T22 hp_12 rfl) rfl ?_
      clear E a; intro a E
      refine S_v E rfl (R_loadM E rfl Tryz.isAgg3 S.imm qp_12) rfl ?_
      clear E a; intro a E
      refine S_x (X_buildI (ys := [x_5]) E S rfl T22 rfl rfl rfl ?_)
      clear E a S; rintro a w v_13 E S
      replace S := S.front2
      replace S := S.front1
      refine S_x (X_appendB (xs := keyL (l0.take k)) (ys := [x_5]) E S rfl rfl rfl T22 (by first | omega | (simp; done) | (simp; omega) | (simp_all; omega)) ?_)
      clear E a S; rintro a w v_14 E S
      refine S_v E rfl (R_assign E rfl) rfl ?_
      clear E a; intro a E
      refine WL_nil ?_
      refine B_n ?_
      refine T_n ?_
      refine WP_region ?_
      refine S_v E rfl (R_addx (m := ((k + 1 : Nat) : Int)) E rfl rfl (by omega) (by omega)) rfl ?_
      clear E a; intro a E
      refine S_v E rfl (R_move E rfl) rfl ?_
      clear E a; intro a E
      refine WL_nil ?_
      refine T_n ?_
      replace S := S.front1
      replace S := S.reM (L' := (Sl.encS (keyL (l0.take (k + 1))))) (congrArg Sl.encS (show addS (keyL (l0.take k)) x_5 = keyL (l0.take (k + 1)) by first | (simp [keyL]; done) | rfl | (rw [keyL_in (by assumption) (by assumption)]; done) | (rw [keyL_out (by assumption) (by assumption)]; done) | (rw [keyL_succ (by assumption)]; done)))
      replace S := S.front1
      replace S := S.re1 (l' := keyL (l0.take (k + 1))) (by first | (simp [keyL]; done) | rfl | (rw [keyL_in (by assumption) (by assumption)]; done) | (rw [keyL_out (by assumption) (by assumption)]; done) | (rw [keyL_succ (by assumption)]; done))
      exact ⟨k + 1, ⟨M_8, _, (hM_3.trans hM_8), S, E.keep ⟨rfl, rfl, rfl, rfl, rfl, trivial⟩, by ((try clear S); (try clear E); first | assumption | omega | rfl | (simp; done) | (simp_all; done) | (simp [List.take_add_one, *]; done) | grind [List.take_add_one])⟩, by omega⟩
  · replace hc_4 := of_decide_eq_false hc_4
    refine WP_exit ?_
    refine T_x ?_
    refine T_x ?_
    refine B_x ?_
    refine T_n ?_
    refine WP_seq ?_
    refine WP_region ?_
    refine S_v E rfl (R_move E rfl) rfl ?_
    clear E a; intro a E
    refine S_v E rfl (R_assign E rfl) rfl ?_
    clear E a; intro a E
    refine WL_nil ?_
    refine T_n ?_
    refine WP_ret ?_
    have S0 := S; clear S
    obtain ⟨M_15, hM_15, hz_16, S⟩ := S0.freezeI (by (first | omega | (simp; omega) | (simp; done) | (simp_all; omega) | grind))
    clear S0
    replace h0 := h0.le hM_15
    exact F_ret1 E Tryz.results44 rfl ⟨_, rfl, M_15, (hM_3.trans hM_15), (by rw [show (keyL l0) = (keyL (l0.take k)) from by (rw [List.take_of_length_le (by omega)])]; exact hz_16), S.drop⟩

set_option maxRecDepth 100000 in
set_option maxHeartbeats 4000000 in
theorem impl_Uniq {M : Hp} {v0 : Value} {l0 : List Int} (h0 : RdI M v0 l0) (hb : l0.length ≤ 1000000000000) :
    Pu Tryz.prog (.func (.func 5) #[] #[]) M [v0] (fun r M' => RdI M' r (keyL l0)) := by
  refine Pu_enter Tryz.func5 rfl Tryz.ntmps5 rfl Tryz.call5 ?_
  intro a w M1 H hM1 S E
  replace h0 := h0.le hM1
  have b0 := h0.bound
  have hkl := keyL_le' l0
  refine WP_seq ?_
  refine WP_region ?_
  refine S_v E rfl (R_assign E rfl) rfl ?_
  clear E a; intro a E
  refine WL_nil ?_
  refine T_n ?_
  refine WP_seq ?_
  refine WP_region ?_
  refine S_v E rfl (R_move E rfl) rfl ?_
  clear E a; intro a E
  refine S_x (X_pu E S rfl rfl rfl (lo_Uniq h0 (by (first | omega | (simp; omega) | (simp; done) | (simp_all; omega) | grind))) (Hp.le.refl _) ?_)
  clear E a S; rintro a v_2 w M_1 hM_1 hv_2 S E
  replace h0 := h0.le hM_1
  refine S_v E rfl (R_assign E rfl) rfl ?_
  clear E a; intro a E
  refine WL_nil ?_
  refine T_n ?_
  refine WP_ret ?_
  exact F_ret1 E Tryz.results5 rfl ⟨_, rfl, M_1, hM_1, hv_2, S⟩

set_option maxRecDepth 100000 in
set_option maxHeartbeats 4000000 in
theorem laws_few {M : Hp} {v0 : Value} {l0 : List (List Int)} (h0 : RdII M v0 l0) :
    Pu Tryz.prog (.func (.func 6) #[] #[]) M [v0] (fun r M' => r = .bool (decide (∀ x ∈ l0, x.length ≤ 300))) := by
  refine Pu_enter Tryz.func6 rfl Tryz.ntmps6 rfl Tryz.call6 ?_
  intro a w M1 H hM1 S E
  replace h0 := h0.le hM1
  have b0 := h0.bound
  refine WP_seq ?_
  refine WP_region ?_
  refine S_v E rfl (R_assign E rfl) rfl ?_
  clear E a; intro a E
  refine WL_nil ?_
  refine T_n ?_
  refine WP_seq ?_
  refine WP_seq ?_
  refine WP_region ?_
  refine S_v E rfl (R_move E rfl) rfl ?_
  clear E a; intro a E
  refine S_v E rfl (R_lenV E rfl T50 h0.len) rfl ?_
  clear E a; intro a E
  refine S_v E rfl (R_move E rfl) rfl ?_
  clear E a; intro a E
  refine WL_nil ?_
  refine T_n ?_
  refine WP_block ?_
  refine WP_loop (γ := Nat) (fun (k : Nat) a w => ∃ (M_1 : Hp), Hp.le M1 M_1 ∧ St w M_1 (H) ∧ Env a 15 [] [(5, v0), (6, .int .i64 (((l0).length : Nat) : Int)), (7, .int .i64 ((k : Nat) : Int))] ∧ (k ≤ (l0).length) ∧ (∀ x ∈ l0.take k, x.length ≤ 300)) (fun k => ((l0).length) - k) 0 ⟨M1, Hp.le.refl _, S, E.keep ⟨rfl, rfl, rfl, trivial⟩, by ((try clear S); (try clear E); first | assumption | omega | rfl | (simp; done) | (simp_all; done) | (simp [List.take_add_one, *]; done) | grind [List.take_add_one]), by ((try clear S); (try clear E); first | assumption | omega | rfl | (simp; done) | (simp_all; done) | (simp [List.take_add_one, *]; done) | grind [List.take_add_one])⟩ ?_
  try clear E
  try clear S
  try clear a
  try clear w
  rintro k a w ⟨M_1, hM_1, S, E, hL0_0, hL0_1⟩
  replace h0 := h0.le hM_1
  refine WP_seq ?_
  refine WP_region ?_
  refine S_v E rfl (R_lss E rfl rfl) rfl ?_
  clear E a; intro a E
  refine WL_nil ?_
  refine T_n ?_
  refine WP_seq ?_
  refine WP_cond E rfl (fun hc_2 => ?_) (fun hc_2 => ?_)
  · replace hc_2 := of_decide_eq_true hc_2
    refine WP_skip ?_
    refine T_n ?_
    refine WP_seq ?_
    refine WP_block ?_
    refine WP_seq ?_
    refine WP_region ?_
    obtain ⟨x_3, hx_3⟩ : ∃ x, (l0)[k]? = some x := ⟨_, List.getElem?_eq_getElem (by first | omega | (simp; done) | (simp; omega) | (simp_all; omega))⟩
    obtain ⟨p_4, u_5, hp_4, qp_4, hu_5⟩ := h0.at hx_3
    have bu_5 := hu_5.bound
    refine S_v E rfl (R_idx E rfl rfl T50 hp_4 rfl) rfl ?_
    clear E a; intro a E
    refine S_v E rfl (R_loadM E rfl Tryz.isAgg22 S.imm qp_4) rfl ?_
    clear E a; intro a E
    refine S_v E rfl (R_assign E rfl) rfl ?_
    clear E a; intro a E
    refine WL_nil ?_
    refine T_n ?_
    refine WP_seq ?_
    refine WP_region ?_
    refine S_v E rfl (R_move E rfl) rfl ?_
    clear E a; intro a E
    refine S_v E rfl (R_lenV E rfl T22 hu_5.len) rfl ?_
    clear E a; intro a E
    refine S_v E rfl (R_gtr E rfl rfl) rfl ?_
    clear E a; intro a E
    refine WL_nil ?_
    refine T_n ?_
    refine WP_cond E rfl (fun hc_6 => ?_) (fun hc_6 => ?_)
    · replace hc_6 := of_decide_eq_true hc_6
      refine WP_seq ?_
      refine WP_region ?_
      refine S_v E rfl (R_assign E rfl) rfl ?_
      clear E a; intro a E
      refine WL_nil ?_
      refine T_n ?_
      refine WP_ret ?_
      refine B_r ?_
      refine T_r ?_
      refine T_r ?_
      refine B_r ?_
      refine T_r ?_
      exact F_ret1 E Tryz.results6 rfl ⟨_, rfl, M_1, hM_1, (bF (by ((try clear S); (try clear E); first | assumption | omega | rfl | (simp; done) | (simp_all; done) | (simp [List.take_add_one, *]; done) | grind [List.take_add_one]))), S⟩
    · replace hc_6 := of_decide_eq_false hc_6
      refine WP_skip ?_
      refine B_n ?_
      refine T_n ?_
      refine WP_region ?_
      refine S_v E rfl (R_addx (m := ((k + 1 : Nat) : Int)) E rfl rfl (by omega) (by omega)) rfl ?_
      clear E a; intro a E
      refine S_v E rfl (R_move E rfl) rfl ?_
      clear E a; intro a E
      refine WL_nil ?_
      refine T_n ?_
      exact ⟨k + 1, ⟨M_1, hM_1, S, E.keep ⟨rfl, rfl, rfl, trivial⟩, by ((try clear S); (try clear E); first | assumption | omega | rfl | (simp; done) | (simp_all; done) | (simp [List.take_add_one, *]; done) | grind [List.take_add_one]), by ((try clear S); (try clear E); first | assumption | omega | rfl | (simp; done) | (simp_all; done) | (simp [List.take_add_one, *]; done) | grind [List.take_add_one])⟩, by omega⟩
  · replace hc_2 := of_decide_eq_false hc_2
    refine WP_exit ?_
    refine T_x ?_
    refine T_x ?_
    refine B_x ?_
    refine T_n ?_
    refine WP_seq ?_
    refine WP_region ?_
    refine S_v E rfl (R_assign E rfl) rfl ?_
    clear E a; intro a E
    refine WL_nil ?_
    refine T_n ?_
    refine WP_ret ?_
    exact F_ret1 E Tryz.results6 rfl ⟨_, rfl, M_1, hM_1, (bT (by ((try clear S); (try clear E); first | assumption | omega | rfl | (simp; done) | (simp_all; done) | (simp [List.take_add_one, *]; done) | grind [List.take_add_one]))), S⟩

set_option maxRecDepth 100000 in
set_option maxHeartbeats 4000000 in
theorem laws_in {M : Hp} {v0 : Value} {l0 : List Int} (h0 : RdI M v0 l0){x1 : Int} :
    Pu Tryz.prog (.func (.func 7) #[] #[]) M [v0, .int .i64 x1] (fun r M' => r = .bool (decide (x1 ∈ l0))) := by
  refine Pu_enter Tryz.func7 rfl Tryz.ntmps7 rfl Tryz.call7 ?_
  intro a w M1 H hM1 S E
  replace h0 := h0.le hM1
  have b0 := h0.bound
  refine WP_seq ?_
  refine WP_region ?_
  refine S_v E rfl (R_assign E rfl) rfl ?_
  clear E a; intro a E
  refine WL_nil ?_
  refine T_n ?_
  refine WP_seq ?_
  refine WP_seq ?_
  refine WP_region ?_
  refine S_v E rfl (R_move E rfl) rfl ?_
  clear E a; intro a E
  refine S_v E rfl (R_lenV E rfl T22 h0.len) rfl ?_
  clear E a; intro a E
  refine S_v E rfl (R_move E rfl) rfl ?_
  clear E a; intro a E
  refine WL_nil ?_
  refine T_n ?_
  refine WP_block ?_
  refine WP_loop (γ := Nat) (fun (k : Nat) a w => ∃ (M_1 : Hp), Hp.le M1 M_1 ∧ St w M_1 (H) ∧ Env a 17 [] [(1, .int .i64 x1), (7, v0), (8, .int .i64 (((l0).length : Nat) : Int)), (9, .int .i64 ((k : Nat) : Int))] ∧ (k ≤ (l0).length) ∧ (x1 ∉ l0.take k)) (fun k => ((l0).length) - k) 0 ⟨M1, Hp.le.refl _, S, E.keep ⟨rfl, rfl, rfl, rfl, trivial⟩, by ((try clear S); (try clear E); first | assumption | omega | rfl | (simp; done) | (simp_all; done) | (simp [List.take_add_one, *]; done) | grind [List.take_add_one]), by ((try clear S); (try clear E); first | assumption | omega | rfl | (simp; done) | (simp_all; done) | (simp [List.take_add_one, *]; done) | grind [List.take_add_one])⟩ ?_
  try clear E
  try clear S
  try clear a
  try clear w
  rintro k a w ⟨M_1, hM_1, S, E, hL0_0, hL0_1⟩
  replace h0 := h0.le hM_1
  refine WP_seq ?_
  refine WP_region ?_
  refine S_v E rfl (R_lss E rfl rfl) rfl ?_
  clear E a; intro a E
  refine WL_nil ?_
  refine T_n ?_
  refine WP_seq ?_
  refine WP_cond E rfl (fun hc_2 => ?_) (fun hc_2 => ?_)
  · replace hc_2 := of_decide_eq_true hc_2
    refine WP_skip ?_
    refine T_n ?_
    refine WP_seq ?_
    refine WP_block ?_
    refine WP_seq ?_
    refine WP_region ?_
    obtain ⟨x_3, hx_3⟩ : ∃ x, (l0)[k]? = some x := ⟨_, List.getElem?_eq_getElem (by first | omega | (simp; done) | (simp; omega) | (simp_all; omega))⟩
    obtain ⟨p_4, hp_4, qp_4⟩ := h0.at hx_3
    refine S_v E rfl (R_idx E rfl rfl T22 hp_4 rfl) rfl ?_
    clear E a; intro a E
    refine S_v E rfl (R_loadM E rfl Tryz.isAgg3 S.imm qp_4) rfl ?_
    clear E a; intro a E
    refine S_v E rfl (R_assign E rfl) rfl ?_
    clear E a; intro a E
    refine WL_nil ?_
    refine T_n ?_
    refine WP_seq ?_
    refine WP_region ?_
    refine S_v E rfl (R_move E rfl) rfl ?_
    clear E a; intro a E
    refine S_v E rfl (R_move E rfl) rfl ?_
    clear E a; intro a E
    refine S_v E rfl (R_eql E rfl rfl) rfl ?_
    clear E a; intro a E
    refine WL_nil ?_
    refine T_n ?_
    refine WP_cond E rfl (fun hc_5 => ?_) (fun hc_5 => ?_)
    · replace hc_5 := of_decide_eq_true hc_5
      refine WP_seq ?_
      refine WP_region ?_
      refine S_v E rfl (R_assign E rfl) rfl ?_
      clear E a; intro a E
      refine WL_nil ?_
      refine T_n ?_
      refine WP_ret ?_
      refine B_r ?_
      refine T_r ?_
      refine T_r ?_
      refine B_r ?_
      refine T_r ?_
      exact F_ret1 E Tryz.results7 rfl ⟨_, rfl, M_1, hM_1, (bT (by (refine List.mem_of_getElem? (i := k) ?_; simp_all))), S⟩
    · replace hc_5 := of_decide_eq_false hc_5
      refine WP_skip ?_
      refine B_n ?_
      refine T_n ?_
      refine WP_region ?_
      refine S_v E rfl (R_addx (m := ((k + 1 : Nat) : Int)) E rfl rfl (by omega) (by omega)) rfl ?_
      clear E a; intro a E
      refine S_v E rfl (R_move E rfl) rfl ?_
      clear E a; intro a E
      refine WL_nil ?_
      refine T_n ?_
      exact ⟨k + 1, ⟨M_1, hM_1, S, E.keep ⟨rfl, rfl, rfl, rfl, trivial⟩, by ((try clear S); (try clear E); first | assumption | omega | rfl | (simp; done) | (simp_all; done) | (simp [List.take_add_one, *]; done) | grind [List.take_add_one]), by ((try clear S); (try clear E); first | assumption | omega | rfl | (simp; done) | (simp_all; done) | (simp [List.take_add_one, *]; done) | grind [List.take_add_one])⟩, by omega⟩
  · replace hc_2 := of_decide_eq_false hc_2
    refine WP_exit ?_
    refine T_x ?_
    refine T_x ?_
    refine B_x ?_
    refine T_n ?_
    refine WP_seq ?_
    refine WP_region ?_
    refine S_v E rfl (R_assign E rfl) rfl ?_
    clear E a; intro a E
    refine WL_nil ?_
    refine T_n ?_
    refine WP_ret ?_
    exact F_ret1 E Tryz.results7 rfl ⟨_, rfl, M_1, hM_1, (bF (by (rw [List.take_of_length_le (by omega)] at hL0_1; exact hL0_1))), S⟩

set_option maxRecDepth 100000 in
set_option maxHeartbeats 4000000 in
theorem laws_count {M : Hp} {v0 : Value} {l0 : List Int} (h0 : RdI M v0 l0){x1 : Int} :
    Pu Tryz.prog (.func (.func 8) #[] #[]) M [v0, .int .i64 x1] (fun r M' => r = .int .i64 (((l0).count x1 : Nat) : Int)) := by
  refine Pu_enter Tryz.func8 rfl Tryz.ntmps8 rfl Tryz.call8 ?_
  intro a w M1 H hM1 S E
  replace h0 := h0.le hM1
  have b0 := h0.bound
  have c0 := List.count_le_length (a := x1) (l := l0)
  refine WP_seq ?_
  refine WP_region ?_
  refine S_v E rfl (R_assign E rfl) rfl ?_
  clear E a; intro a E
  refine WL_nil ?_
  refine T_n ?_
  refine WP_seq ?_
  refine WP_region ?_
  refine S_v E rfl (R_assign E rfl) rfl ?_
  clear E a; intro a E
  refine WL_nil ?_
  refine T_n ?_
  refine WP_seq ?_
  refine WP_seq ?_
  refine WP_region ?_
  refine S_v E rfl (R_move E rfl) rfl ?_
  clear E a; intro a E
  refine S_v E rfl (R_lenV E rfl T22 h0.len) rfl ?_
  clear E a; intro a E
  refine S_v E rfl (R_move E rfl) rfl ?_
  clear E a; intro a E
  refine WL_nil ?_
  refine T_n ?_
  refine WP_block ?_
  refine WP_loop (γ := Nat) (fun (k : Nat) a w => ∃ (M_1 : Hp), Hp.le M1 M_1 ∧ St w M_1 (H) ∧ Env a 21 [] [(1, .int .i64 x1), (5, .int .i64 (((l0.take k).count x1 : Nat) : Int)), (8, v0), (9, .int .i64 (((l0).length : Nat) : Int)), (10, .int .i64 ((k : Nat) : Int))] ∧ (k ≤ (l0).length)) (fun k => ((l0).length) - k) 0 ⟨M1, Hp.le.refl _, S, E.keep ⟨rfl, look_nat (i := 0) rfl (by ((try clear S); (try clear E); first | assumption | omega | rfl | (simp; done) | (simp_all; done) | (simp [List.take_add_one, *]; done) | grind [List.take_add_one])), rfl, rfl, rfl, trivial⟩, by ((try clear S); (try clear E); first | assumption | omega | rfl | (simp; done) | (simp_all; done) | (simp [List.take_add_one, *]; done) | grind [List.take_add_one])⟩ ?_
  try clear E
  try clear S
  try clear a
  try clear w
  rintro k a w ⟨M_1, hM_1, S, E, hL0_0⟩
  replace h0 := h0.le hM_1
  have c1 := List.count_le_length (a := x1) (l := l0.take k)
  simp only [List.length_take] at c1
  refine WP_seq ?_
  refine WP_region ?_
  refine S_v E rfl (R_lss E rfl rfl) rfl ?_
  clear E a; intro a E
  refine WL_nil ?_
  refine T_n ?_
  refine WP_seq ?_
  refine WP_cond E rfl (fun hc_2 => ?_) (fun hc_2 => ?_)
  · replace hc_2 := of_decide_eq_true hc_2
    refine WP_skip ?_
    refine T_n ?_
    refine WP_seq ?_
    refine WP_block ?_
    refine WP_seq ?_
    refine WP_region ?_
    obtain ⟨x_3, hx_3⟩ : ∃ x, (l0)[k]? = some x := ⟨_, List.getElem?_eq_getElem (by first | omega | (simp; done) | (simp; omega) | (simp_all; omega))⟩
    obtain ⟨p_4, hp_4, qp_4⟩ := h0.at hx_3
    refine S_v E rfl (R_idx E rfl rfl T22 hp_4 rfl) rfl ?_
    clear E a; intro a E
    refine S_v E rfl (R_loadM E rfl Tryz.isAgg3 S.imm qp_4) rfl ?_
    clear E a; intro a E
    refine S_v E rfl (R_assign E rfl) rfl ?_
    clear E a; intro a E
    refine WL_nil ?_
    refine T_n ?_
    refine WP_seq ?_
    refine WP_region ?_
    refine S_v E rfl (R_move E rfl) rfl ?_
    clear E a; intro a E
    refine S_v E rfl (R_move E rfl) rfl ?_
    clear E a; intro a E
    refine S_v E rfl (R_eql E rfl rfl) rfl ?_
    clear E a; intro a E
    refine WL_nil ?_
    refine T_n ?_
    refine WP_cond E rfl (fun hc_5 => ?_) (fun hc_5 => ?_)
    · replace hc_5 := of_decide_eq_true hc_5
      refine WP_region ?_
      refine S_v E rfl (R_move E rfl) rfl ?_
      clear E a; intro a E
      refine S_v E rfl (R_addx (m := (((l0.take k).count x1 + 1 : Nat) : Int)) E rfl rfl (by omega) (by omega)) rfl ?_
      clear E a; intro a E
      refine S_v E rfl (R_assign E rfl) rfl ?_
      clear E a; intro a E
      refine WL_nil ?_
      refine B_n ?_
      refine T_n ?_
      refine WP_region ?_
      refine S_v E rfl (R_addx (m := ((k + 1 : Nat) : Int)) E rfl rfl (by omega) (by omega)) rfl ?_
      clear E a; intro a E
      refine S_v E rfl (R_move E rfl) rfl ?_
      clear E a; intro a E
      refine WL_nil ?_
      refine T_n ?_
      exact ⟨k + 1, ⟨M_1, hM_1, S, E.keep ⟨rfl, look_nat (i := (l0.take k).count x1 + 1) rfl (by ((try clear S); (try clear E); first | assumption | omega | rfl | (simp; done) | (simp_all; done) | (simp [List.take_add_one, *]; done) | grind [List.take_add_one])), rfl, rfl, rfl, trivial⟩, by ((try clear S); (try clear E); first | assumption | omega | rfl | (simp; done) | (simp_all; done) | (simp [List.take_add_one, *]; done) | grind [List.take_add_one])⟩, by omega⟩
    · replace hc_5 := of_decide_eq_false hc_5
      refine WP_skip ?_
      refine B_n ?_
      refine T_n ?_
      refine WP_region ?_
      refine S_v E rfl (R_addx (m := ((k + 1 : Nat) : Int)) E rfl rfl (by omega) (by omega)) rfl ?_
      clear E a; intro a E
      refine S_v E rfl (R_move E rfl) rfl ?_
      clear E a; intro a E
      refine WL_nil ?_
      refine T_n ?_
      exact ⟨k + 1, ⟨M_1, hM_1, S, E.keep ⟨rfl, look_nat (i := (l0.take k).count x1) rfl (by ((try clear S); (try clear E); first | assumption | omega | rfl | (simp; done) | (simp_all; done) | (simp [List.take_add_one, *]; done) | grind [List.take_add_one])), rfl, rfl, rfl, trivial⟩, by ((try clear S); (try clear E); first | assumption | omega | rfl | (simp; done) | (simp_all; done) | (simp [List.take_add_one, *]; done) | grind [List.take_add_one])⟩, by omega⟩
  · replace hc_2 := of_decide_eq_false hc_2
    refine WP_exit ?_
    refine T_x ?_
    refine T_x ?_
    refine B_x ?_
    refine T_n ?_
    refine WP_seq ?_
    refine WP_region ?_
    refine S_v E rfl (R_move E rfl) rfl ?_
    clear E a; intro a E
    refine S_v E rfl (R_assign E rfl) rfl ?_
    clear E a; intro a E
    refine WL_nil ?_
    refine T_n ?_
    refine WP_ret ?_
    exact F_ret1 E Tryz.results8 rfl ⟨_, rfl, M_1, hM_1, (congrArg (Value.int .i64) (by ((try clear S); (try clear E); first | assumption | omega | rfl | (simp; done) | (simp_all; done) | (simp [List.take_add_one, *]; done) | grind [List.take_add_one]))), S⟩

set_option maxRecDepth 100000 in
set_option maxHeartbeats 4000000 in
theorem laws_sorted {M : Hp} {v0 : Value} {l0 : List Int} (h0 : RdI M v0 l0) (hb : l0.length ≤ 1000000000000) :
    Pu Tryz.prog (.func (.func 9) #[] #[]) M [v0] (fun r M' => RdI M' r (setI l0)) := by
  refine Pu_enter Tryz.func9 rfl Tryz.ntmps9 rfl Tryz.call9 ?_
  intro a w M1 H hM1 S E
  replace h0 := h0.le hM1
  have b0 := h0.bound
  refine WP_seq ?_
  refine WP_region ?_
  refine S_v E rfl (R_assign E rfl) rfl ?_
  clear E a; intro a E
  refine WL_nil ?_
  refine T_n ?_
  refine WP_seq ?_
  refine WP_region ?_
  refine S_v E rfl (R_assign E rfl) rfl ?_
  clear E a; intro a E
  refine WL_nil ?_
  refine T_n ?_
  refine WP_seq ?_
  refine WP_seq ?_
  refine WP_region ?_
  refine S_v E rfl (R_move E rfl) rfl ?_
  clear E a; intro a E
  refine S_v E rfl (R_lenV E rfl T22 h0.len) rfl ?_
  clear E a; intro a E
  refine S_v E rfl (R_move E rfl) rfl ?_
  clear E a; intro a E
  refine WL_nil ?_
  refine T_n ?_
  refine WP_block ?_
  replace S := (S.ownNil (e := 3) (sz := 1)).made0
  replace S := S.re1 (l' := setI (l0.take 0)) (by first | (simp [setI]; done) | (rw [setI_take' (by assumption), insU_same (by rw [show l0[k]? = some _ by assumption]; assumption)]; done) | (rw [setI_take' (by assumption)]; exact set_bubble hsu.1 (by rw [show l0[k]? = some _ by assumption]; assumption) hL1_1 (by omega) (by first | (left; omega) | (right; exact ⟨_, bub_left (s := setI (l0.take k)) (x := (l0[k]?.getD 0)) (i := (setI (l0.take k)).length - j) (by omega) (by omega) (by assumption), by rw [← bub_at (s := setI (l0.take k)) (x := (l0[k]?.getD 0)) (i := (setI (l0.take k)).length - j) (by omega) (by assumption)]; assumption⟩))))
  refine WP_loop (γ := Nat) (fun (k : Nat) a w => ∃ (M_2 : Hp) (u3 : Value), Hp.le M1 M_2 ∧ St w M_2 (OwnI 3 u3 (setI (l0.take k)) :: H) ∧ Env a 57 [] [(3, u3), (7, v0), (8, .int .i64 (((l0).length : Nat) : Int)), (9, .int .i64 ((k : Nat) : Int))] ∧ (k ≤ (l0).length)) (fun k => ((l0).length) - k) 0 ⟨M1, _, Hp.le.refl _, S, E.keep ⟨rfl, rfl, rfl, rfl, trivial⟩, by ((try clear S); (try clear E); first | assumption | omega | rfl | (simp; done) | (simp_all; done) | (simp [List.take_add_one, *]; done) | grind [List.take_add_one])⟩ ?_
  try clear E
  try clear S
  try clear a
  try clear w
  rintro k a w ⟨M_2, u3, hM_2, S, E, hL0_0⟩
  replace h0 := h0.le hM_2
  have hsu := setI_spec (l0.take k); have hsl := hsu.2.2; simp only [List.length_take] at hsl
  refine WP_seq ?_
  refine WP_region ?_
  refine S_v E rfl (R_lss E rfl rfl) rfl ?_
  clear E a; intro a E
  refine WL_nil ?_
  refine T_n ?_
  refine WP_seq ?_
  refine WP_cond E rfl (fun hc_3 => ?_) (fun hc_3 => ?_)
  · replace hc_3 := of_decide_eq_true hc_3
    refine WP_skip ?_
    refine T_n ?_
    refine WP_seq ?_
    refine WP_block ?_
    refine WP_seq ?_
    refine WP_region ?_
    obtain ⟨x_4, hx_4⟩ : ∃ x, (l0)[k]? = some x := ⟨_, List.getElem?_eq_getElem (by first | omega | (simp; done) | (simp; omega) | (simp_all; omega))⟩
    obtain ⟨p_5, hp_5, qp_5⟩ := h0.at hx_4
    refine S_v E rfl (R_idx E rfl rfl T22 hp_5 rfl) rfl ?_
    clear E a; intro a E
    refine S_v E rfl (R_loadM E rfl Tryz.isAgg3 S.imm qp_5) rfl ?_
    clear E a; intro a E
    refine S_v E rfl (R_assign E rfl) rfl ?_
    clear E a; intro a E
    refine WL_nil ?_
    refine T_n ?_
    refine WP_seq ?_
    refine WP_seq ?_
    refine WP_region ?_
    refine S_v E rfl (R_move E rfl) rfl ?_
    clear E a; intro a E
    refine S_v E rfl (R_move E rfl) rfl ?_
    clear E a; intro a E
    obtain ⟨ML_6, hl_7, hv_8, S1, back⟩ := S.lendI (by omega)
    refine S_x (X_pu E S1 rfl rfl rfl (laws_in hv_8) (Hp.le.refl _) ?_)
    clear E a S; rintro a _ w M_9 hM_10 rfl S E
    replace S := back _ _ hM_10 S
    clear back S1
    refine WL_nil ?_
    refine T_n ?_
    refine WP_cond E rfl (fun hc_11 => ?_) (fun hc_11 => ?_)
    · replace hc_11 := of_decide_eq_true hc_11
      refine WP_exit ?_
      refine T_x ?_
      refine B_x ?_
      refine T_n ?_
      refine WP_region ?_
      refine S_v E rfl (R_addx (m := ((k + 1 : Nat) : Int)) E rfl rfl (by omega) (by omega)) rfl ?_
      clear E a; intro a E
      refine S_v E rfl (R_move E rfl) rfl ?_
      clear E a; intro a E
      refine WL_nil ?_
      refine T_n ?_
      replace S := S.re1 (l' := setI (l0.take (k + 1))) (by first | (simp [setI]; done) | (rw [setI_take' (by assumption), insU_same (by rw [show l0[k]? = some _ by assumption]; assumption)]; done) | (rw [setI_take' (by assumption)]; exact set_bubble hsu.1 (by rw [show l0[k]? = some _ by assumption]; assumption) hL1_1 (by omega) (by first | (left; omega) | (right; exact ⟨_, bub_left (s := setI (l0.take k)) (x := (l0[k]?.getD 0)) (i := (setI (l0.take k)).length - j) (by omega) (by omega) (by assumption), by rw [← bub_at (s := setI (l0.take k)) (x := (l0[k]?.getD 0)) (i := (setI (l0.take k)).length - j) (by omega) (by assumption)]; assumption⟩))))
      exact ⟨k + 1, ⟨M_2, _, hM_2, S, E.keep ⟨rfl, rfl, rfl, rfl, trivial⟩, by ((try clear S); (try clear E); first | assumption | omega | rfl | (simp; done) | (simp_all; done) | (simp [List.take_add_one, *]; done) | grind [List.take_add_one])⟩, by omega⟩
    · replace hc_11 := of_decide_eq_false hc_11
      refine WP_skip ?_
      refine T_n ?_
      refine WP_seq ?_
      refine WP_region ?_
      refine S_v E rfl (R_move E rfl) rfl ?_
      clear E a; intro a E
      refine S_v E rfl (R_move E rfl) rfl ?_
      clear E a; intro a E
      refine S_x (X_buildI (ys := [x_4]) E S rfl T22 rfl rfl rfl ?_)
      clear E a S; rintro a w v_12 E S
      replace S := S.front1
      replace S := S.front1
      refine S_x (X_appendB (xs := setI (l0.take k)) (ys := [x_4]) E S rfl rfl rfl T22 (by first | omega | (simp; done) | (simp; omega) | (simp_all; omega)) ?_)
      clear E a S; rintro a w v_13 E S
      refine S_v E rfl (R_assign E rfl) rfl ?_
      clear E a; intro a E
      refine WL_nil ?_
      refine T_n ?_
      refine WP_seq ?_
      refine WP_region ?_
      refine S_v E rfl (R_move E rfl) rfl ?_
      clear E a; intro a E
      refine S_v E rfl (R_lenV E rfl T22 S.lenC) rfl ?_
      clear E a; intro a E
      refine S_v E rfl (R_subx (m := ((((setI (l0.take k)) ++ [x_4]).length - 1 : Nat) : Int)) E rfl rfl (by first | omega | (simp; done) | (simp; omega)) (by first | omega | (simp; done) | (simp; omega))) rfl ?_
      clear E a; intro a E
      refine S_v E rfl (R_assign E rfl) rfl ?_
      clear E a; intro a E
      refine WL_nil ?_
      refine T_n ?_
      refine WP_block ?_
      replace S := S.re1 (l' := (setI (l0.take k)).take ((setI (l0.take k)).length - 0) ++ [(l0[k]?.getD 0)] ++ (setI (l0.take k)).drop ((setI (l0.take k)).length - 0)) (by first | (rw [show l0[k]? = some _ by assumption]; simp; done) | (have e1 := bub_at (s := setI (l0.take k)) (x := (l0[k]?.getD 0)) (i := (setI (l0.take k)).length - j) (by omega) (by assumption); have e2 := bub_left (s := setI (l0.take k)) (x := (l0[k]?.getD 0)) (i := (setI (l0.take k)).length - j) (by omega) (by omega) (by assumption); rw [show (setI (l0.take k)).length - (j + 1) = (setI (l0.take k)).length - j - 1 by omega, bubble_step (by omega) (by omega) e2, e1]))
      refine WP_loop (γ := Nat) (fun (j : Nat) a w => ∃ (M_14 : Hp), Hp.le M_2 M_14 ∧ St w M_14 (OwnI 3 v_13 ((setI (l0.take k)).take ((setI (l0.take k)).length - j) ++ [(l0[k]?.getD 0)] ++ (setI (l0.take k)).drop ((setI (l0.take k)).length - j)) :: H) ∧ Env a 57 [] [(3, v_13), (6, .int .i64 (((setI (l0.take k)).length - j : Nat) : Int)), (7, v0), (8, .int .i64 (((l0).length : Nat) : Int)), (9, .int .i64 ((k : Nat) : Int))] ∧ (j ≤ (setI (l0.take k)).length) ∧ (∀ y ∈ (setI (l0.take k)).drop ((setI (l0.take k)).length - j), (l0[k]?.getD 0) < y)) (fun j => (setI (l0.take k)).length - j) 0 ⟨M_2, Hp.le.refl _, S, E.keep ⟨rfl, look_nat (i := ((setI (l0.take k)) ++ [x_4]).length - 1) rfl (by (first | (simp; done) | (simp; omega))), rfl, rfl, rfl, trivial⟩, (by omega), (by simp)⟩ ?_
      try clear E
      try clear S
      try clear a
      try clear w
      rintro j a w ⟨M_14, hM_14, S, E, hL1_0, hL1_1⟩
      replace h0 := h0.le hM_14
      refine WP_seq ?_
      refine WP_seq ?_
      replace S := S.mono_heap (w' := World.drew _) rfl
      obtain ⟨p_15, hp_15⟩ := S.ptrC (k := (setI (l0.take k)).length - j) (by first | omega | (simp; done) | (simp; omega) | (simp_all; omega))
      obtain ⟨x_16, hx_16⟩ : ∃ x, ((setI (l0.take k)).take ((setI (l0.take k)).length - j) ++ [(l0[k]?.getD 0)] ++ (setI (l0.take k)).drop ((setI (l0.take k)).length - j))[(setI (l0.take k)).length - j]? = some x := ⟨_, List.getElem?_eq_getElem (by first | omega | (simp; done) | (simp; omega) | (simp_all; omega))⟩
      obtain ⟨p_17, hp_17⟩ := S.ptrC (k := (setI (l0.take k)).length - j - 1) (by first | omega | (simp; done) | (simp; omega) | (simp_all; omega))
      obtain ⟨x_18, hx_18⟩ : ∃ x, ((setI (l0.take k)).take ((setI (l0.take k)).length - j) ++ [(l0[k]?.getD 0)] ++ (setI (l0.take k)).drop ((setI (l0.take k)).length - j))[(setI (l0.take k)).length - j - 1]? = some x := ⟨_, List.getElem?_eq_getElem (by first | omega | (simp; done) | (simp; omega) | (simp_all; omega))⟩
      refine WP_drawn (C := fun x w => agree M_14 w ∧ (x = 6 → w.cell? p_15 = some (.int .i64 x_16)) ∧ (x = 11 → w.cell? p_17 = some (.int .i64 x_18))) (bf := (fun i => [])) [0, 1, 2, 3, 4, 5, 6, 7, 8, 9, 10, 11, 12, 13] [0, 1, 2, 3, 4, 5, 6, 7, 8, 9, 10, 11, 12, 13] Tryz.mixed (by kernel_rfl) (fun x hq => ⟨S.imm, fun _ => S.cellI hp_15 hx_16, fun _ => S.cellI hp_17 hx_18⟩) ?_
      refine D_v E rfl rfl rfl (fun w hC => (R_move E rfl)) ?_
      clear E a; intro a E
      refine D_v E rfl rfl rfl (fun w hC => (R_gtr E rfl rfl)) ?_
      clear E a; intro a E
      refine D_v E rfl rfl rfl (fun w hC => (R_move E rfl)) ?_
      clear E a; intro a E
      refine split_bool (decide (0 < (((setI (l0.take k)).length - j : Nat) : Int))) (fun hc_19 => ?_) (fun hc_19 => ?_)
      · replace E := E.val (t := 24) rfl hc_19
        replace E := E.val (t := 25) rfl hc_19
        replace hc_19 := of_decide_eq_true hc_19
        refine D_vyes E rfl rfl rfl rfl rfl (fun w hC => (R_move E rfl)) ?_
        clear E a; intro a E
        refine D_vyes E rfl rfl rfl rfl rfl (fun w hC => (R_move E rfl)) ?_
        clear E a; intro a E
        refine D_vyes E rfl rfl rfl rfl rfl (fun w hC => (R_idx E rfl rfl T22 hp_15 rfl)) ?_
        clear E a; intro a E
        refine D_vyes E rfl rfl rfl rfl rfl (fun w hC => (R_load E rfl (Tryz.isAgg3 _) (hC.2.1 rfl))) ?_
        clear E a; intro a E
        refine D_vyes E rfl rfl rfl rfl rfl (fun w hC => (R_move E rfl)) ?_
        clear E a; intro a E
        refine D_vyes E rfl rfl rfl rfl rfl (fun w hC => (R_move E rfl)) ?_
        clear E a; intro a E
        refine D_vyes E rfl rfl rfl rfl rfl (fun w hC => (R_subx (m := (((setI (l0.take k)).length - j - 1 : Nat) : Int)) E rfl rfl (by first | omega | (simp; done) | (simp; omega)) (by first | omega | (simp; done) | (simp; omega)))) ?_
        clear E a; intro a E
        refine D_vyes E rfl rfl rfl rfl rfl (fun w hC => (R_idx E rfl rfl T22 hp_17 rfl)) ?_
        clear E a; intro a E
        refine D_vyes E rfl rfl rfl rfl rfl (fun w hC => (R_load E rfl (Tryz.isAgg3 _) (hC.2.2 rfl))) ?_
        clear E a; intro a E
        refine D_vyes E rfl rfl rfl rfl rfl (fun w hC => (R_lss E rfl rfl)) ?_
        clear E a; intro a E
        refine D_v E rfl rfl rfl (fun w hC => (R_pickT E rfl rfl)) ?_
        clear E a; intro a E
        refine D_end (NoP_n ?_)
        refine T_n ?_
        refine WP_cond E rfl (fun hc_20 => ?_) (fun hc_20 => ?_)
        · replace hc_20 := of_decide_eq_true hc_20
          refine WP_skip ?_
          refine T_n ?_
          refine WP_seq ?_
          refine WP_block ?_
          replace S := S.mono_heap (w' := World.drew _) rfl
          refine WP_drawn (C := fun x w => agree M_14 w ∧ (x = 9 → w.cell? p_17 = some (.int .i64 x_18)) ∧ (x = 13 → w.cell? p_15 = some (.int .i64 x_16))) (bf := (fun i => bif Nat.beq i 15 then [9, 13] else bif Nat.beq i 17 then [9, 13] else [])) [0, 1, 2, 3, 4, 5, 6, 7, 8, 9, 10, 11, 12, 13, 14, 16] [0, 1, 2, 3, 4, 5, 6, 7, 8, 9, 10, 11, 12, 13, 14, 15, 16, 17] Tryz.mixed (by kernel_rfl) (fun x hq => ⟨S.imm, fun _ => S.cellI hp_17 hx_18, fun _ => S.cellI hp_15 hx_16⟩) ?_
          refine D_v E rfl rfl rfl (fun w hC => (R_move E rfl)) ?_
          clear E a; intro a E
          refine D_v E rfl rfl rfl (fun w hC => (R_move E rfl)) ?_
          clear E a; intro a E
          refine D_v E rfl rfl rfl (fun w hC => (R_move E rfl)) ?_
          clear E a; intro a E
          refine D_v E rfl rfl rfl (fun w hC => (R_move E rfl)) ?_
          clear E a; intro a E
          refine D_v E rfl rfl rfl (fun w hC => (R_subx (m := (((setI (l0.take k)).length - j - 1 : Nat) : Int)) E rfl rfl (by omega) (by omega))) ?_
          clear E a; intro a E
          refine D_v E rfl rfl rfl (fun w hC => (R_move E rfl)) ?_
          clear E a; intro a E
          refine D_v E rfl rfl rfl (fun w hC => (R_move E rfl)) ?_
          clear E a; intro a E
          refine D_v E rfl rfl rfl (fun w hC => (R_subx (m := (((setI (l0.take k)).length - j - 1 : Nat) : Int)) E rfl rfl (by omega) (by omega))) ?_
          clear E a; intro a E
          refine D_v E rfl rfl rfl (fun w hC => (R_idx E rfl rfl T22 hp_17 rfl)) ?_
          clear E a; intro a E
          refine D_v E rfl rfl rfl (fun w hC => (R_load E rfl (Tryz.isAgg3 _) (hC.2.1 rfl))) ?_
          clear E a; intro a E
          refine D_v E rfl rfl rfl (fun w hC => (R_move E rfl)) ?_
          clear E a; intro a E
          refine D_v E rfl rfl rfl (fun w hC => (R_move E rfl)) ?_
          clear E a; intro a E
          refine D_v E rfl rfl rfl (fun w hC => (R_idx E rfl rfl T22 hp_15 rfl)) ?_
          clear E a; intro a E
          refine D_v E rfl rfl rfl (fun w hC => (R_load E rfl (Tryz.isAgg3 _) (hC.2.2 rfl))) ?_
          clear E a; intro a E
          refine D_v E rfl rfl rfl (fun w hC => (R_idx E rfl rfl T22 hp_15 rfl)) ?_
          clear E a; intro a E
          refine D_x rfl rfl rfl (X_storeI E S rfl rfl (Tryz.sizeOf3 _) hp_15 ?_)
          clear E a S; rintro a w E S
          refine ⟨fun x hq hb => ⟨(agree_le (Hp.le.refl _) S.imm), (fun e => by subst e; exact absurd hb (by decide)), (fun e => by subst e; exact absurd hb (by decide))⟩, ?_⟩
          refine D_v E rfl rfl rfl (fun w hC => (R_idx E rfl rfl T22 hp_17 rfl)) ?_
          clear E a; intro a E
          refine D_x rfl rfl rfl (X_storeI E S rfl rfl (Tryz.sizeOf3 _) hp_17 ?_)
          clear E a S; rintro a w E S
          refine ⟨fun x hq hb => ⟨(agree_le (Hp.le.refl _) S.imm), (fun e => by subst e; exact absurd hb (by decide)), (fun e => by subst e; exact absurd hb (by decide))⟩, ?_⟩
          refine D_end (NoP_n ?_)
          refine B_n ?_
          refine T_n ?_
          refine WP_region ?_
          refine S_v E rfl (R_move E rfl) rfl ?_
          clear E a; intro a E
          refine S_v E rfl (R_subx (m := (((setI (l0.take k)).length - j - 1 : Nat) : Int)) E rfl rfl (by first | omega | (simp; done) | (simp; omega)) (by first | omega | (simp; done) | (simp; omega))) rfl ?_
          clear E a; intro a E
          refine S_v E rfl (R_assign E rfl) rfl ?_
          clear E a; intro a E
          refine WL_nil ?_
          refine T_n ?_
          replace S := S.re1 (l' := (setI (l0.take k)).take ((setI (l0.take k)).length - (j + 1)) ++ [(l0[k]?.getD 0)] ++ (setI (l0.take k)).drop ((setI (l0.take k)).length - (j + 1))) (by first | (rw [show l0[k]? = some _ by assumption]; simp; done) | (have e1 := bub_at (s := setI (l0.take k)) (x := (l0[k]?.getD 0)) (i := (setI (l0.take k)).length - j) (by omega) (by assumption); have e2 := bub_left (s := setI (l0.take k)) (x := (l0[k]?.getD 0)) (i := (setI (l0.take k)).length - j) (by omega) (by omega) (by assumption); rw [show (setI (l0.take k)).length - (j + 1) = (setI (l0.take k)).length - j - 1 by omega, bubble_step (by omega) (by omega) e2, e1]))
          exact ⟨j + 1, ⟨M_14, hM_14, S, E.keep ⟨rfl, look_nat (i := (setI (l0.take k)).length - j - 1) rfl (by (omega)), rfl, rfl, rfl, trivial⟩, (by omega), (by rw [show (setI (l0.take k)).length - (j + 1) = (setI (l0.take k)).length - j - 1 by omega]; exact drop_bub hL1_1 (by omega) (by omega) (bub_left (s := setI (l0.take k)) (x := (l0[k]?.getD 0)) (i := (setI (l0.take k)).length - j) (by omega) (by omega) (by assumption)) (by rw [← bub_at (s := setI (l0.take k)) (x := (l0[k]?.getD 0)) (i := (setI (l0.take k)).length - j) (by omega) (by assumption)]; assumption))⟩, by omega⟩
        · replace hc_20 := of_decide_eq_false hc_20
          refine WP_exit ?_
          refine T_x ?_
          refine T_x ?_
          refine B_x ?_
          refine B_n ?_
          refine T_n ?_
          refine WP_region ?_
          refine S_v E rfl (R_addx (m := ((k + 1 : Nat) : Int)) E rfl rfl (by omega) (by omega)) rfl ?_
          clear E a; intro a E
          refine S_v E rfl (R_move E rfl) rfl ?_
          clear E a; intro a E
          refine WL_nil ?_
          refine T_n ?_
          replace S := S.re1 (l' := setI (l0.take (k + 1))) (by first | (simp [setI]; done) | (rw [setI_take' (by assumption), insU_same (by rw [show l0[k]? = some _ by assumption]; assumption)]; done) | (rw [setI_take' (by assumption)]; exact set_bubble hsu.1 (by rw [show l0[k]? = some _ by assumption]; assumption) hL1_1 (by omega) (by first | (left; omega) | (right; exact ⟨_, bub_left (s := setI (l0.take k)) (x := (l0[k]?.getD 0)) (i := (setI (l0.take k)).length - j) (by omega) (by omega) (by assumption), by rw [← bub_at (s := setI (l0.take k)) (x := (l0[k]?.getD 0)) (i := (setI (l0.take k)).length - j) (by omega) (by assumption)]; assumption⟩))))
          exact ⟨k + 1, ⟨M_14, _, (hM_2.trans hM_14), S, E.keep ⟨rfl, rfl, rfl, rfl, trivial⟩, by ((try clear S); (try clear E); first | assumption | omega | rfl | (simp; done) | (simp_all; done) | (simp [List.take_add_one, *]; done) | grind [List.take_add_one])⟩, by omega⟩
      · replace E := E.val (t := 24) rfl hc_19
        replace E := E.val (t := 25) rfl hc_19
        replace hc_19 := of_decide_eq_false hc_19
        refine D_no E rfl rfl rfl rfl rfl fun a E => ?_
        refine D_no E rfl rfl rfl rfl rfl fun a E => ?_
        refine D_no E rfl rfl rfl rfl rfl fun a E => ?_
        refine D_no E rfl rfl rfl rfl rfl fun a E => ?_
        refine D_no E rfl rfl rfl rfl rfl fun a E => ?_
        refine D_no E rfl rfl rfl rfl rfl fun a E => ?_
        refine D_no E rfl rfl rfl rfl rfl fun a E => ?_
        refine D_no E rfl rfl rfl rfl rfl fun a E => ?_
        refine D_no E rfl rfl rfl rfl rfl fun a E => ?_
        refine D_no E rfl rfl rfl rfl rfl fun a E => ?_
        refine D_v E rfl rfl rfl (fun w hC => (R_pickF E rfl rfl)) ?_
        clear E a; intro a E
        refine D_end (NoP_n ?_)
        refine T_n ?_
        refine WP_condF E rfl rfl ?_
        refine WP_exit ?_
        refine T_x ?_
        refine T_x ?_
        refine B_x ?_
        refine B_n ?_
        refine T_n ?_
        refine WP_region ?_
        refine S_v E rfl (R_addx (m := ((k + 1 : Nat) : Int)) E rfl rfl (by omega) (by omega)) rfl ?_
        clear E a; intro a E
        refine S_v E rfl (R_move E rfl) rfl ?_
        clear E a; intro a E
        refine WL_nil ?_
        refine T_n ?_
        replace S := S.re1 (l' := setI (l0.take (k + 1))) (by first | (simp [setI]; done) | (rw [setI_take' (by assumption), insU_same (by rw [show l0[k]? = some _ by assumption]; assumption)]; done) | (rw [setI_take' (by assumption)]; exact set_bubble hsu.1 (by rw [show l0[k]? = some _ by assumption]; assumption) hL1_1 (by omega) (by first | (left; omega) | (right; exact ⟨_, bub_left (s := setI (l0.take k)) (x := (l0[k]?.getD 0)) (i := (setI (l0.take k)).length - j) (by omega) (by omega) (by assumption), by rw [← bub_at (s := setI (l0.take k)) (x := (l0[k]?.getD 0)) (i := (setI (l0.take k)).length - j) (by omega) (by assumption)]; assumption⟩))))
        exact ⟨k + 1, ⟨M_14, _, (hM_2.trans hM_14), S, E.keep ⟨rfl, rfl, rfl, rfl, trivial⟩, by ((try clear S); (try clear E); first | assumption | omega | rfl | (simp; done) | (simp_all; done) | (simp [List.take_add_one, *]; done) | grind [List.take_add_one])⟩, by omega⟩
  · replace hc_3 := of_decide_eq_false hc_3
    refine WP_exit ?_
    refine T_x ?_
    refine T_x ?_
    refine B_x ?_
    refine T_n ?_
    refine WP_seq ?_
    refine WP_region ?_
    refine S_v E rfl (R_move E rfl) rfl ?_
    clear E a; intro a E
    refine S_v E rfl (R_assign E rfl) rfl ?_
    clear E a; intro a E
    refine WL_nil ?_
    refine T_n ?_
    refine WP_ret ?_
    have S0 := S; clear S
    obtain ⟨M_21, hM_21, hz_22, S⟩ := S0.freezeI (by (first | omega | (simp; omega) | (simp; done) | (simp_all; omega) | grind))
    clear S0
    replace h0 := h0.le hM_21
    exact F_ret1 E Tryz.results9 rfl ⟨_, rfl, M_21, (hM_2.trans hM_21), (by rw [show (setI l0) = (setI (l0.take k)) from by (rw [List.take_of_length_le (by omega)])]; exact hz_22), S⟩

set_option maxRecDepth 100000 in
set_option maxHeartbeats 4000000 in
theorem spec_same {M : Hp}  :
    Pu Tryz.prog (.func (.func 46) #[] #[]) M [] (fun r M' => r = .agg #[.int .i64 5, .int .i64 0]) := by
  refine Pu_enter Tryz.func46 rfl Tryz.ntmps46 rfl Tryz.call46 ?_
  intro a w M1 H hM1 S E
  refine WP_seq ?_
  refine WP_region ?_
  refine S_x (X_alloc (cs := #[.int .i64 0, .int .i64 0]) E S rfl Tryz.zeroValue53 rfl ?_)
  clear E a S; rintro a w b_1 E S
  refine WL_nil ?_
  refine T_n ?_
  refine WP_seq ?_
  refine WP_region ?_
  refine S_v E rfl (R_build (u := .agg #[.int .i64 5, .int .i64 0]) (vs := [.int .i64 5]) E rfl (fun w => FB53_0_i 5 w)) rfl ?_
  clear E a; intro a E
  refine S_x0 (X_storeG (us := [.int .i64 5, .int .i64 0]) E S rfl rfl (Tryz.sizeOf53 _) rfl (by intro u hu; simp only [List.mem_cons, List.not_mem_nil, or_false] at hu; rcases hu with rfl | rfl <;> first | exact rfl | exact rfl) ?_)
  clear E a S; rintro a w E S
  replace S : St w M1 (blk b_1 (.cells #[.int .i64 5, .int .i64 0] 53) :: _) := S
  refine WL_nil ?_
  refine T_n ?_
  refine WP_ret ?_
  replace S : St w M1 (mks [] :: _) := S.empty
  replace E : Env a 2 (([] : List Nat).map mk) _ := E
  replace S := S.front1
  replace S := S.front1
  exact F_retCG1 (cs := [.int .i64 5, .int .i64 0]) E S Tryz.results46 rfl (fun w => Tryz.isAgg53 w) (fun w => Tryz.sizeOf53 w) (fun w S => ⟨_, rfl, M1, (Hp.le.refl _), rfl, S.drop⟩)

set_option maxRecDepth 100000 in
set_option maxHeartbeats 4000000 in
theorem spec_mod {M : Hp} {x0 x1 : Int} (hn : x1 ≠ 0) (g0 : -9223372036854775808 ≤ x0 ∧ x0 ≤ 9223372036854775807) (g1 : -9223372036854775808 ≤ x1 ∧ x1 ≤ 9223372036854775807) :
    Pu Tryz.prog (.func (.func 107) #[] #[]) M [.int .i64 x0, .int .i64 x1] (fun r M' => r = .int .i64 (x0 % x1)) := by
  refine Pu_enter Tryz.func107 rfl Tryz.ntmps107 rfl Tryz.call107 ?_
  intro a w M1 H hM1 S E
  refine WP_seq ?_
  refine WP_region ?_
  refine S_v E rfl (R_assign E rfl) rfl ?_
  clear E a; intro a E
  refine WL_nil ?_
  refine T_n ?_
  refine WP_seq ?_
  refine WP_region ?_
  refine S_v E rfl (R_move E rfl) rfl ?_
  clear E a; intro a E
  refine S_v E rfl (R_convm (m := x1 % 18446744073709551616) E rfl Tryz.underlying3 Tryz.underlying117 (by first | (rw [u64_wrap]; omega) | (rw [u64_wrap]; simp; omega) | rw [u64_wrap])) rfl ?_
  clear E a; intro a E
  refine S_v E rfl (R_assign E rfl) rfl ?_
  clear E a; intro a E
  refine WL_nil ?_
  refine T_n ?_
  refine WP_seq ?_
  refine WP_seq ?_
  refine WP_region ?_
  refine S_v E rfl (R_move E rfl) rfl ?_
  clear E a; intro a E
  refine S_v E rfl (R_lss E rfl rfl) rfl ?_
  clear E a; intro a E
  refine WL_nil ?_
  refine T_n ?_
  refine WP_cond E rfl (fun hc_1 => ?_) (fun hc_1 => ?_)
  · replace hc_1 := of_decide_eq_true hc_1
    refine WP_region ?_
    refine S_v E rfl (R_move E rfl) rfl ?_
    clear E a; intro a E
    refine S_v E rfl (R_negm (m := -x1) E rfl (by first | (rw [u64_wrap]; omega) | rw [u64_wrap])) rfl ?_
    clear E a; intro a E
    refine S_v E rfl (R_assign E rfl) rfl ?_
    clear E a; intro a E
    refine WL_nil ?_
    refine T_n ?_
    refine WP_seq ?_
    refine WP_seq ?_
    refine WP_region ?_
    refine S_v E rfl (R_move E rfl) rfl ?_
    clear E a; intro a E
    refine S_v E rfl (R_geq E rfl rfl) rfl ?_
    clear E a; intro a E
    refine WL_nil ?_
    refine T_n ?_
    refine WP_cond E rfl (fun hc_2 => ?_) (fun hc_2 => ?_)
    · replace hc_2 := of_decide_eq_true hc_2
      refine WP_seq ?_
      refine WP_region ?_
      refine S_v E rfl (R_move E rfl) rfl ?_
      clear E a; intro a E
      refine S_v E rfl (R_convm (m := x0) E rfl Tryz.underlying3 Tryz.underlying117 (by first | (rw [u64_wrap]; omega) | (rw [u64_wrap]; simp; omega) | rw [u64_wrap])) rfl ?_
      clear E a; intro a E
      refine S_v E rfl (R_move E rfl) rfl ?_
      clear E a; intro a E
      have hr_3 := tmod_nn (p := x0) (q := -x1) (by omega) (by omega)
      refine S_v E rfl (R_rem E rfl rfl (by first | decide | omega)) rfl ?_
      clear E a; intro a E
      refine S_v E rfl (R_convx E rfl Tryz.underlying117 Tryz.underlying3 (by omega)) rfl ?_
      clear E a; intro a E
      refine S_v E rfl (R_assign E rfl) rfl ?_
      clear E a; intro a E
      refine WL_nil ?_
      refine T_n ?_
      refine WP_ret ?_
      refine T_r ?_
      exact F_ret1 E Tryz.results107 rfl ⟨_, rfl, M1, (Hp.le.refl _), (congrArg (Value.int .i64) (by (clear E S; first | (have en : x1 < 0 := (by omega); have e3 : x0 % (-x1) = x0 % x1 := Int.emod_neg ..; have a1 := modA x0 (-x1) (by omega); omega) | (have e : x1 % 18446744073709551616 = x1 := (by omega); simp only [e] at *; have a1 := modA x0 x1 (by omega); omega)))), S⟩
    · replace hc_2 := of_decide_eq_false hc_2
      refine WP_skip ?_
      refine T_n ?_
      refine WP_seq ?_
      refine WP_region ?_
      refine S_v E rfl (R_move E rfl) rfl ?_
      clear E a; intro a E
      refine S_v E rfl (R_convm (m := x0 % 18446744073709551616) E rfl Tryz.underlying3 Tryz.underlying117 (by first | (rw [u64_wrap]; omega) | (rw [u64_wrap]; simp; omega) | rw [u64_wrap])) rfl ?_
      clear E a; intro a E
      refine S_v E rfl (R_negm (m := -x0) E rfl (by first | (rw [u64_wrap]; omega) | rw [u64_wrap])) rfl ?_
      clear E a; intro a E
      refine S_v E rfl (R_move E rfl) rfl ?_
      clear E a; intro a E
      have hr_4 := tmod_nn (p := -x0) (q := -x1) (by omega) (by omega)
      refine S_v E rfl (R_rem E rfl rfl (by first | decide | omega)) rfl ?_
      clear E a; intro a E
      refine S_v E rfl (R_assign E rfl) rfl ?_
      clear E a; intro a E
      refine WL_nil ?_
      refine T_n ?_
      refine WP_seq ?_
      refine WP_seq ?_
      refine WP_region ?_
      refine S_v E rfl (R_move E rfl) rfl ?_
      clear E a; intro a E
      refine S_v E rfl (R_gtr E rfl rfl) rfl ?_
      clear E a; intro a E
      refine WL_nil ?_
      refine T_n ?_
      refine WP_cond E rfl (fun hc_5 => ?_) (fun hc_5 => ?_)
      · replace hc_5 := of_decide_eq_true hc_5
        refine WP_region ?_
        refine S_v E rfl (R_move E rfl) rfl ?_
        clear E a; intro a E
        refine S_v E rfl (R_move E rfl) rfl ?_
        clear E a; intro a E
        refine S_v E rfl (R_subm (m := (-x1) - (Int.tmod (-x0) (-x1))) E rfl rfl (by first | (rw [u64_wrap]; omega) | rw [u64_wrap])) rfl ?_
        clear E a; intro a E
        refine S_v E rfl (R_assign E rfl) rfl ?_
        clear E a; intro a E
        refine WL_nil ?_
        refine T_n ?_
        refine WP_seq ?_
        refine WP_region ?_
        refine S_v E rfl (R_move E rfl) rfl ?_
        clear E a; intro a E
        refine S_v E rfl (R_convx E rfl Tryz.underlying117 Tryz.underlying3 (by omega)) rfl ?_
        clear E a; intro a E
        refine S_v E rfl (R_assign E rfl) rfl ?_
        clear E a; intro a E
        refine WL_nil ?_
        refine T_n ?_
        refine WP_ret ?_
        exact F_ret1 E Tryz.results107 rfl ⟨_, rfl, M1, (Hp.le.refl _), (congrArg (Value.int .i64) (by (clear E S; first | (have en : x1 < 0 := (by omega); have e3 : x0 % (-x1) = x0 % x1 := Int.emod_neg ..; have a1 := modA x0 (-x1) (by omega); omega) | (have e : x1 % 18446744073709551616 = x1 := (by omega); simp only [e] at *; have a1 := modA x0 x1 (by omega); omega)))), S⟩
      · replace hc_5 := of_decide_eq_false hc_5
        refine WP_skip ?_
        refine T_n ?_
        refine WP_seq ?_
        refine WP_region ?_
        refine S_v E rfl (R_move E rfl) rfl ?_
        clear E a; intro a E
        refine S_v E rfl (R_convx E rfl Tryz.underlying117 Tryz.underlying3 (by omega)) rfl ?_
        clear E a; intro a E
        refine S_v E rfl (R_assign E rfl) rfl ?_
        clear E a; intro a E
        refine WL_nil ?_
        refine T_n ?_
        refine WP_ret ?_
        exact F_ret1 E Tryz.results107 rfl ⟨_, rfl, M1, (Hp.le.refl _), (congrArg (Value.int .i64) (by (clear E S; first | (have en : x1 < 0 := (by omega); have e3 : x0 % (-x1) = x0 % x1 := Int.emod_neg ..; have a1 := modA x0 (-x1) (by omega); omega) | (have e : x1 % 18446744073709551616 = x1 := (by omega); simp only [e] at *; have a1 := modA x0 x1 (by omega); omega)))), S⟩
  · replace hc_1 := of_decide_eq_false hc_1
    refine WP_skip ?_
    refine T_n ?_
    refine WP_seq ?_
    refine WP_seq ?_
    refine WP_region ?_
    refine S_v E rfl (R_move E rfl) rfl ?_
    clear E a; intro a E
    refine S_v E rfl (R_geq E rfl rfl) rfl ?_
    clear E a; intro a E
    refine WL_nil ?_
    refine T_n ?_
    refine WP_cond E rfl (fun hc_6 => ?_) (fun hc_6 => ?_)
    · replace hc_6 := of_decide_eq_true hc_6
      refine WP_seq ?_
      refine WP_region ?_
      refine S_v E rfl (R_move E rfl) rfl ?_
      clear E a; intro a E
      refine S_v E rfl (R_convm (m := x0) E rfl Tryz.underlying3 Tryz.underlying117 (by first | (rw [u64_wrap]; omega) | (rw [u64_wrap]; simp; omega) | rw [u64_wrap])) rfl ?_
      clear E a; intro a E
      refine S_v E rfl (R_move E rfl) rfl ?_
      clear E a; intro a E
      have hr_7 := tmod_nn (p := x0) (q := x1 % 18446744073709551616) (by omega) (by omega)
      refine S_v E rfl (R_rem E rfl rfl (by first | decide | omega)) rfl ?_
      clear E a; intro a E
      refine S_v E rfl (R_convx E rfl Tryz.underlying117 Tryz.underlying3 (by omega)) rfl ?_
      clear E a; intro a E
      refine S_v E rfl (R_assign E rfl) rfl ?_
      clear E a; intro a E
      refine WL_nil ?_
      refine T_n ?_
      refine WP_ret ?_
      refine T_r ?_
      exact F_ret1 E Tryz.results107 rfl ⟨_, rfl, M1, (Hp.le.refl _), (congrArg (Value.int .i64) (by (clear E S; first | (have en : x1 < 0 := (by omega); have e3 : x0 % (-x1) = x0 % x1 := Int.emod_neg ..; have a1 := modA x0 (-x1) (by omega); omega) | (have e : x1 % 18446744073709551616 = x1 := (by omega); simp only [e] at *; have a1 := modA x0 x1 (by omega); omega)))), S⟩
    · replace hc_6 := of_decide_eq_false hc_6
      refine WP_skip ?_
      refine T_n ?_
      refine WP_seq ?_
      refine WP_region ?_
      refine S_v E rfl (R_move E rfl) rfl ?_
      clear E a; intro a E
      refine S_v E rfl (R_convm (m := x0 % 18446744073709551616) E rfl Tryz.underlying3 Tryz.underlying117 (by first | (rw [u64_wrap]; omega) | (rw [u64_wrap]; simp; omega) | rw [u64_wrap])) rfl ?_
      clear E a; intro a E
      refine S_v E rfl (R_negm (m := -x0) E rfl (by first | (rw [u64_wrap]; omega) | rw [u64_wrap])) rfl ?_
      clear E a; intro a E
      refine S_v E rfl (R_move E rfl) rfl ?_
      clear E a; intro a E
      have hr_8 := tmod_nn (p := -x0) (q := x1 % 18446744073709551616) (by omega) (by omega)
      refine S_v E rfl (R_rem E rfl rfl (by first | decide | omega)) rfl ?_
      clear E a; intro a E
      refine S_v E rfl (R_assign E rfl) rfl ?_
      clear E a; intro a E
      refine WL_nil ?_
      refine T_n ?_
      refine WP_seq ?_
      refine WP_seq ?_
      refine WP_region ?_
      refine S_v E rfl (R_move E rfl) rfl ?_
      clear E a; intro a E
      refine S_v E rfl (R_gtr E rfl rfl) rfl ?_
      clear E a; intro a E
      refine WL_nil ?_
      refine T_n ?_
      refine WP_cond E rfl (fun hc_9 => ?_) (fun hc_9 => ?_)
      · replace hc_9 := of_decide_eq_true hc_9
        refine WP_region ?_
        refine S_v E rfl (R_move E rfl) rfl ?_
        clear E a; intro a E
        refine S_v E rfl (R_move E rfl) rfl ?_
        clear E a; intro a E
        refine S_v E rfl (R_subm (m := (x1 % 18446744073709551616) - (Int.tmod (-x0) (x1 % 18446744073709551616))) E rfl rfl (by first | (rw [u64_wrap]; omega) | rw [u64_wrap])) rfl ?_
        clear E a; intro a E
        refine S_v E rfl (R_assign E rfl) rfl ?_
        clear E a; intro a E
        refine WL_nil ?_
        refine T_n ?_
        refine WP_seq ?_
        refine WP_region ?_
        refine S_v E rfl (R_move E rfl) rfl ?_
        clear E a; intro a E
        refine S_v E rfl (R_convx E rfl Tryz.underlying117 Tryz.underlying3 (by omega)) rfl ?_
        clear E a; intro a E
        refine S_v E rfl (R_assign E rfl) rfl ?_
        clear E a; intro a E
        refine WL_nil ?_
        refine T_n ?_
        refine WP_ret ?_
        exact F_ret1 E Tryz.results107 rfl ⟨_, rfl, M1, (Hp.le.refl _), (congrArg (Value.int .i64) (by (clear E S; first | (have en : x1 < 0 := (by omega); have e3 : x0 % (-x1) = x0 % x1 := Int.emod_neg ..; have a1 := modA x0 (-x1) (by omega); omega) | (have e : x1 % 18446744073709551616 = x1 := (by omega); simp only [e] at *; have a1 := modA x0 x1 (by omega); omega)))), S⟩
      · replace hc_9 := of_decide_eq_false hc_9
        refine WP_skip ?_
        refine T_n ?_
        refine WP_seq ?_
        refine WP_region ?_
        refine S_v E rfl (R_move E rfl) rfl ?_
        clear E a; intro a E
        refine S_v E rfl (R_convx E rfl Tryz.underlying117 Tryz.underlying3 (by omega)) rfl ?_
        clear E a; intro a E
        refine S_v E rfl (R_assign E rfl) rfl ?_
        clear E a; intro a E
        refine WL_nil ?_
        refine T_n ?_
        refine WP_ret ?_
        exact F_ret1 E Tryz.results107 rfl ⟨_, rfl, M1, (Hp.le.refl _), (congrArg (Value.int .i64) (by (clear E S; first | (have en : x1 < 0 := (by omega); have e3 : x0 % (-x1) = x0 % x1 := Int.emod_neg ..; have a1 := modA x0 (-x1) (by omega); omega) | (have e : x1 % 18446744073709551616 = x1 := (by omega); simp only [e] at *; have a1 := modA x0 x1 (by omega); omega)))), S⟩

set_option maxRecDepth 100000 in
set_option maxHeartbeats 4000000 in
theorem SKey_Of_c {M : Hp} {kk0 kn0 : Int} (gk0 : -9223372036854775808 ≤ kn0 ∧ kn0 ≤ 9223372036854775807){x1 x2 : Int} (gx : -9223372036854775808 ≤ x1 ∧ x1 ≤ 9223372036854775807) :
    PuC Tryz.prog 96 M [.agg #[.int .i64 kk0, .int .i64 kn0], .int .i64 x1, .int .i64 x2] (fun r M' => r = .int .i64 (keyAt kk0 kn0 x1 x2)) := by
  refine PuC_enter Tryz.func96 rfl Tryz.ntmps96 rfl ?_
  intro a w M1 H hM1 S E
  refine WP_seq ?_
  refine WP_region ?_
  refine S_x (X_box (cs := #[.int .i64 kk0, .int .i64 kn0]) E S rfl rfl rfl ?_)
  clear E a S; rintro a w b_1 E S
  obtain ⟨M_2, hM_2, hb_1, S⟩ := S.freezeB
  refine S_v E rfl (R_assign E rfl) rfl ?_
  clear E a; intro a E
  refine WL_nil ?_
  refine T_n ?_
  refine WP_seq ?_
  refine WP_seq ?_
  refine WP_region ?_
  refine S_v E rfl (R_fieldAddr E rfl (FA53_0 _)) rfl ?_
  clear E a; intro a E
  refine S_v E rfl (R_loadM E rfl Tryz.isAgg3 S.imm (cellM_boxo hb_1 rfl)) rfl ?_
  clear E a; intro a E
  refine WL_nil ?_
  refine T_n ?_
  refine WP_block ?_
  refine WP_seq ?_
  refine WP_region ?_
  refine S_v E rfl (R_eql E rfl rfl) rfl ?_
  clear E a; intro a E
  refine S_v E rfl (R_assign E rfl) rfl ?_
  clear E a; intro a E
  refine WL_nil ?_
  refine T_n ?_
  refine WP_cond E rfl (fun hc_3 => ?_) (fun hc_3 => ?_)
  · replace hc_3 := of_decide_eq_true hc_3
    refine WP_seq ?_
    refine WP_region ?_
    refine S_v E rfl (R_move E rfl) rfl ?_
    clear E a; intro a E
    refine S_v E rfl (R_fieldAddr E rfl (FA53_1 _)) rfl ?_
    clear E a; intro a E
    refine S_v E rfl (R_loadM E rfl Tryz.isAgg3 S.imm (cellM_boxo hb_1 rfl)) rfl ?_
    clear E a; intro a E
    refine S_v E rfl (R_add E rfl rfl) rfl ?_
    clear E a; intro a E
    refine S_v E rfl (R_assign E rfl) rfl ?_
    clear E a; intro a E
    refine WL_nil ?_
    refine T_n ?_
    refine WP_ret ?_
    refine B_r ?_
    refine T_r ?_
    exact F_ret1 E Tryz.results96 rfl ⟨_, rfl, M_2, hM_2, (congrArg (Value.int .i64) (by (clear E S; unfold keyAt w64; first | (simp [*]; done) | (simp_all; done)))), S⟩
  · replace hc_3 := of_decide_eq_false hc_3
    refine WP_seq ?_
    refine WP_region ?_
    refine S_v E rfl (R_eql E rfl rfl) rfl ?_
    clear E a; intro a E
    refine S_v E rfl (R_assign E rfl) rfl ?_
    clear E a; intro a E
    refine WL_nil ?_
    refine T_n ?_
    refine WP_cond E rfl (fun hc_4 => ?_) (fun hc_4 => ?_)
    · replace hc_4 := of_decide_eq_true hc_4
      refine WP_seq ?_
      refine WP_region ?_
      refine S_v E rfl (R_move E rfl) rfl ?_
      clear E a; intro a E
      refine S_v E rfl (R_fieldAddr E rfl (FA53_1 _)) rfl ?_
      clear E a; intro a E
      refine S_v E rfl (R_loadM E rfl Tryz.isAgg3 S.imm (cellM_boxo hb_1 rfl)) rfl ?_
      clear E a; intro a E
      refine S_v E rfl (R_mul E rfl rfl) rfl ?_
      clear E a; intro a E
      refine S_v E rfl (R_assign E rfl) rfl ?_
      clear E a; intro a E
      refine WL_nil ?_
      refine T_n ?_
      refine WP_ret ?_
      refine B_r ?_
      refine T_r ?_
      exact F_ret1 E Tryz.results96 rfl ⟨_, rfl, M_2, hM_2, (congrArg (Value.int .i64) (by (clear E S; unfold keyAt w64; first | (simp [*]; done) | (simp_all; done)))), S⟩
    · replace hc_4 := of_decide_eq_false hc_4
      refine WP_seq ?_
      refine WP_region ?_
      refine S_v E rfl (R_eql E rfl rfl) rfl ?_
      clear E a; intro a E
      refine S_v E rfl (R_assign E rfl) rfl ?_
      clear E a; intro a E
      refine WL_nil ?_
      refine T_n ?_
      refine WP_cond E rfl (fun hc_5 => ?_) (fun hc_5 => ?_)
      · replace hc_5 := of_decide_eq_true hc_5
        refine WP_seq ?_
        refine WP_region ?_
        refine S_v E rfl (R_fieldAddr E rfl (FA53_1 _)) rfl ?_
        clear E a; intro a E
        refine S_v E rfl (R_loadM E rfl Tryz.isAgg3 S.imm (cellM_boxo hb_1 rfl)) rfl ?_
        clear E a; intro a E
        refine S_v E rfl (R_neq E rfl rfl) rfl ?_
        clear E a; intro a E
        refine WL_nil ?_
        refine T_n ?_
        refine WP_cond E rfl (fun hc_6 => ?_) (fun hc_6 => ?_)
        · replace hc_6 := of_decide_eq_true hc_6
          refine WP_seq ?_
          refine WP_region ?_
          refine S_v E rfl (R_move E rfl) rfl ?_
          clear E a; intro a E
          refine S_v E rfl (R_fieldAddr E rfl (FA53_1 _)) rfl ?_
          clear E a; intro a E
          refine S_v E rfl (R_loadM E rfl Tryz.isAgg3 S.imm (cellM_boxo hb_1 rfl)) rfl ?_
          clear E a; intro a E
          refine S_x (X_pu E S rfl rfl rfl (spec_mod (by first | omega | assumption) (by omega) (by omega)) (Hp.le.refl _) ?_)
          clear E a S; rintro a _ w M_7 hM_7 rfl S E
          replace hb_1 := hM_7.2 _ _ hb_1
          refine S_v E rfl (R_assign E rfl) rfl ?_
          clear E a; intro a E
          refine WL_nil ?_
          refine T_n ?_
          refine WP_ret ?_
          refine B_r ?_
          refine T_r ?_
          exact F_ret1 E Tryz.results96 rfl ⟨_, rfl, M_7, (hM_2.trans hM_7), (congrArg (Value.int .i64) (by (clear E S; unfold keyAt w64; first | (simp [*]; done) | (simp_all; done)))), S⟩
        · replace hc_6 := of_decide_eq_false hc_6
          refine WP_skip ?_
          refine B_n ?_
          refine T_n ?_
          refine WP_seq ?_
          refine WP_region ?_
          refine S_v E rfl (R_move E rfl) rfl ?_
          clear E a; intro a E
          refine S_v E rfl (R_assign E rfl) rfl ?_
          clear E a; intro a E
          refine WL_nil ?_
          refine T_n ?_
          refine WP_ret ?_
          exact F_ret1 E Tryz.results96 rfl ⟨_, rfl, M_2, hM_2, (congrArg (Value.int .i64) (by (clear E S; unfold keyAt w64; first | (simp [*]; done) | (simp_all; done)))), S⟩
      · replace hc_5 := of_decide_eq_false hc_5
        refine WP_seq ?_
        refine WP_region ?_
        refine S_v E rfl (R_eql E rfl rfl) rfl ?_
        clear E a; intro a E
        refine S_v E rfl (R_assign E rfl) rfl ?_
        clear E a; intro a E
        refine WL_nil ?_
        refine T_n ?_
        refine WP_cond E rfl (fun hc_8 => ?_) (fun hc_8 => ?_)
        · replace hc_8 := of_decide_eq_true hc_8
          refine WP_seq ?_
          refine WP_region ?_
          refine S_v E rfl (R_fieldAddr E rfl (FA53_1 _)) rfl ?_
          clear E a; intro a E
          refine S_v E rfl (R_loadM E rfl Tryz.isAgg3 S.imm (cellM_boxo hb_1 rfl)) rfl ?_
          clear E a; intro a E
          refine S_v E rfl (R_assign E rfl) rfl ?_
          clear E a; intro a E
          refine WL_nil ?_
          refine T_n ?_
          refine WP_ret ?_
          refine B_r ?_
          refine T_r ?_
          exact F_ret1 E Tryz.results96 rfl ⟨_, rfl, M_2, hM_2, (congrArg (Value.int .i64) (by (clear E S; unfold keyAt w64; first | (simp [*]; done) | (simp_all; done)))), S⟩
        · replace hc_8 := of_decide_eq_false hc_8
          refine WP_seq ?_
          refine WP_region ?_
          refine S_v E rfl (R_eql E rfl rfl) rfl ?_
          clear E a; intro a E
          refine S_v E rfl (R_assign E rfl) rfl ?_
          clear E a; intro a E
          refine WL_nil ?_
          refine T_n ?_
          refine WP_cond E rfl (fun hc_9 => ?_) (fun hc_9 => ?_)
          · replace hc_9 := of_decide_eq_true hc_9
            refine WP_seq ?_
            refine WP_region ?_
            refine S_v E rfl (R_move E rfl) rfl ?_
            clear E a; intro a E
            refine S_v E rfl (R_assign E rfl) rfl ?_
            clear E a; intro a E
            refine WL_nil ?_
            refine T_n ?_
            refine WP_ret ?_
            refine B_r ?_
            refine T_r ?_
            exact F_ret1 E Tryz.results96 rfl ⟨_, rfl, M_2, hM_2, (congrArg (Value.int .i64) (by (clear E S; unfold keyAt w64; first | (simp [*]; done) | (simp_all; done)))), S⟩
          · replace hc_9 := of_decide_eq_false hc_9
            refine WP_skip ?_
            refine B_n ?_
            refine T_n ?_
            refine WP_seq ?_
            refine WP_region ?_
            refine S_v E rfl (R_move E rfl) rfl ?_
            clear E a; intro a E
            refine S_v E rfl (R_assign E rfl) rfl ?_
            clear E a; intro a E
            refine WL_nil ?_
            refine T_n ?_
            refine WP_ret ?_
            exact F_ret1 E Tryz.results96 rfl ⟨_, rfl, M_2, hM_2, (congrArg (Value.int .i64) (by (clear E S; unfold keyAt w64; first | (simp [*]; done) | (simp_all; done)))), S⟩
theorem SKey_Of {M : Hp} {kk0 kn0 : Int} (gk0 : -9223372036854775808 ≤ kn0 ∧ kn0 ≤ 9223372036854775807){x1 x2 : Int} (gx : -9223372036854775808 ≤ x1 ∧ x1 ≤ 9223372036854775807) :
    Pu Tryz.prog (.func (.func 96) #[.agg #[.int .i64 kk0, .int .i64 kn0]] #[]) M [.int .i64 x1, .int .i64 x2] (fun r M' => r = .int .i64 (keyAt kk0 kn0 x1 x2)) := PuC.pu Tryz.call96 rfl (SKey_Of_c gk0 gx)
theorem SKey_Of_d {M : Hp} {kk0 kn0 : Int} (gk0 : -9223372036854775808 ≤ kn0 ∧ kn0 ≤ 9223372036854775807){x1 x2 : Int} (gx : -9223372036854775808 ≤ x1 ∧ x1 ≤ 9223372036854775807) :
    Pu Tryz.prog (.func (.func 96) #[] #[]) M [.agg #[.int .i64 kk0, .int .i64 kn0], .int .i64 x1, .int .i64 x2] (fun r M' => r = .int .i64 (keyAt kk0 kn0 x1 x2)) := PuC.pu Tryz.call96 rfl (SKey_Of_c gk0 gx)

set_option maxRecDepth 100000 in
set_option maxHeartbeats 4000000 in
theorem spec_keys {M : Hp} {v0 : Value} {l0 : List Int} (h0 : RdI M v0 l0){kk1 kn1 : Int} (gk1 : -9223372036854775808 ≤ kn1 ∧ kn1 ≤ 9223372036854775807) (hr0 : (∀ x ∈ l0, -9223372036854775808 ≤ x ∧ x ≤ 9223372036854775807)) (hb : l0.length ≤ 1000000000000) :
    Pu Tryz.prog (.func (.func 77) #[] #[]) M [v0, .agg #[.int .i64 kk1, .int .i64 kn1]] (fun r M' => RdI M' r ((l0).map (fun x => keyAt kk1 kn1 x 0))) := by
  refine Pu_enter Tryz.func77 rfl Tryz.ntmps77 rfl Tryz.call77 ?_
  intro a w M1 H hM1 S E
  replace h0 := h0.le hM1
  have b0 := h0.bound
  refine WP_seq ?_
  refine WP_region ?_
  refine S_x (X_box (cs := #[.int .i64 kk1, .int .i64 kn1]) E S rfl rfl rfl ?_)
  clear E a S; rintro a w b_1 E S
  obtain ⟨M_2, hM_2, hb_1, S⟩ := S.freezeB
  replace h0 := h0.le hM_2
  refine S_v E rfl (R_assign E rfl) rfl ?_
  clear E a; intro a E
  refine WL_nil ?_
  refine T_n ?_
  refine WP_seq ?_
  refine WP_region ?_
  refine S_v E rfl (R_assign E rfl) rfl ?_
  clear E a; intro a E
  refine WL_nil ?_
  refine T_n ?_
  refine WP_seq ?_
  refine WP_seq ?_
  refine WP_region ?_
  refine S_v E rfl (R_move E rfl) rfl ?_
  clear E a; intro a E
  refine S_v E rfl (R_lenV E rfl T22 h0.len) rfl ?_
  clear E a; intro a E
  refine S_v E rfl (R_move E rfl) rfl ?_
  clear E a; intro a E
  refine WL_nil ?_
  refine T_n ?_
  refine WP_block ?_
  replace S := (S.ownNil (e := 3) (sz := 1)).made0
  replace S := S.re1 (l' := (l0.take 0).map (fun x => keyAt kk1 kn1 x 0)) (by first | (simp; done) | (rw [map_take_s (fun x => keyAt kk1 kn1 x 0) (by assumption)]; done))
  refine WP_loop (γ := Nat) (fun (k : Nat) a w => ∃ (M_4 : Hp) (u5 : Value), Hp.le M_2 M_4 ∧ St w M_4 (OwnI 3 u5 ((l0.take k).map (fun x => keyAt kk1 kn1 x 0)) :: H) ∧ Env a 22 [] [(3, .pointer (some ⟨b_1, 0, none⟩)), (5, u5), (8, v0), (9, .int .i64 (((l0).length : Nat) : Int)), (10, .int .i64 ((k : Nat) : Int))] ∧ (k ≤ (l0).length)) (fun k => ((l0).length) - k) 0 ⟨M_2, _, Hp.le.refl _, S, E.keep ⟨rfl, rfl, rfl, rfl, rfl, trivial⟩, by ((try clear S); (try clear E); first | assumption | omega | rfl | (simp; done) | (simp_all; done) | (simp [List.take_add_one, *]; done) | grind [List.take_add_one])⟩ ?_
  try clear E
  try clear S
  try clear a
  try clear w
  rintro k a w ⟨M_4, u5, hM_4, S, E, hL0_0⟩
  replace h0 := h0.le hM_4
  replace hb_1 := hM_4.2 _ _ hb_1
  refine WP_seq ?_
  refine WP_region ?_
  refine S_v E rfl (R_lss E rfl rfl) rfl ?_
  clear E a; intro a E
  refine WL_nil ?_
  refine T_n ?_
  refine WP_seq ?_
  refine WP_cond E rfl (fun hc_5 => ?_) (fun hc_5 => ?_)
  · replace hc_5 := of_decide_eq_true hc_5
    refine WP_skip ?_
    refine T_n ?_
    refine WP_seq ?_
    refine WP_block ?_
    refine WP_seq ?_
    refine WP_region ?_
    obtain ⟨x_6, hx_6⟩ : ∃ x, (l0)[k]? = some x := ⟨_, List.getElem?_eq_getElem (by first | omega | (simp; done) | (simp; omega) | (simp_all; omega))⟩
    obtain ⟨p_7, hp_7, qp_7⟩ := h0.at hx_6
    refine S_v E rfl (R_idx E rfl rfl T22 hp_7 rfl) rfl ?_
    clear E a; intro a E
    refine S_v E rfl (R_loadM E rfl Tryz.isAgg3 S.imm qp_7) rfl ?_
    clear E a; intro a E
    refine S_v E rfl (R_assign E rfl) rfl ?_
    clear E a; intro a E
    refine WL_nil ?_
    refine T_n ?_
    refine WP_region ?_
    refine S_v E rfl (R_move E rfl) rfl ?_
    clear E a; intro a E
    refine S_v E rfl (R_loadGM E rfl (Tryz.isAgg53 _) (Tryz.sizeOf53 _) S.imm hb_1) rfl ?_
    clear E a; intro a E
    refine S_v E rfl (R_move E rfl) rfl ?_
    clear E a; intro a E
    refine S_x (X_pu E S rfl rfl rfl (SKey_Of_d (by omega) (by first | omega | assumption | exact hr0 _ (List.mem_of_getElem? (by assumption)) | exact zi2_rng hr0 (by assumption) | exact (ent_rng hr0 _ (List.mem_of_getElem? (by assumption))).1 | exact (ent_rng hr0 _ (List.mem_of_getElem? (by assumption))).2)) (Hp.le.refl _) ?_)
    clear E a S; rintro a _ w M_8 hM_8 rfl S E
    replace h0 := h0.le hM_8
    replace hb_1 := hM_8.2 _ _ hb_1
    refine S_x (X_buildI (ys := [keyAt kk1 kn1 x_6 0]) E S rfl T22 rfl rfl rfl ?_)
    clear E a S; rintro a w v_9 E S
    replace S := S.front1
    replace S := S.front1
    refine S_x (X_appendB (xs := (l0.take k).map (fun x => keyAt kk1 kn1 x 0)) (ys := [keyAt kk1 kn1 x_6 0]) E S rfl rfl rfl T22 (by first | omega | (simp; done) | (simp; omega) | (simp_all; omega)) ?_)
    clear E a S; rintro a w v_10 E S
    refine S_v E rfl (R_assign E rfl) rfl ?_
    clear E a; intro a E
    refine WL_nil ?_
    refine B_n ?_
    refine T_n ?_
    refine WP_region ?_
    refine S_v E rfl (R_addx (m := ((k + 1 : Nat) : Int)) E rfl rfl (by omega) (by omega)) rfl ?_
    clear E a; intro a E
    refine S_v E rfl (R_move E rfl) rfl ?_
    clear E a; intro a E
    refine WL_nil ?_
    refine T_n ?_
    replace S := S.re1 (l' := (l0.take (k + 1)).map (fun x => keyAt kk1 kn1 x 0)) (by first | (simp; done) | (rw [map_take_s (fun x => keyAt kk1 kn1 x 0) (by assumption)]; done))
    exact ⟨k + 1, ⟨M_8, _, (hM_4.trans hM_8), S, E.keep ⟨rfl, rfl, rfl, rfl, rfl, trivial⟩, by ((try clear S); (try clear E); first | assumption | omega | rfl | (simp; done) | (simp_all; done) | (simp [List.take_add_one, *]; done) | grind [List.take_add_one])⟩, by omega⟩
  · replace hc_5 := of_decide_eq_false hc_5
    refine WP_exit ?_
    refine T_x ?_
    refine T_x ?_
    refine B_x ?_
    refine T_n ?_
    refine WP_seq ?_
    refine WP_region ?_
    refine S_v E rfl (R_move E rfl) rfl ?_
    clear E a; intro a E
    refine S_v E rfl (R_assign E rfl) rfl ?_
    clear E a; intro a E
    refine WL_nil ?_
    refine T_n ?_
    refine WP_ret ?_
    have S0 := S; clear S
    obtain ⟨M_11, hM_11, hz_12, S⟩ := S0.freezeI (by (first | omega | (simp; omega) | (simp; done) | (simp_all; omega) | grind))
    clear S0
    replace h0 := h0.le hM_11
    replace hb_1 := hM_11.2 _ _ hb_1
    exact F_ret1 E Tryz.results77 rfl ⟨_, rfl, M_11, (hM_2.trans (hM_4.trans hM_11)), (by rw [show ((l0).map (fun x => keyAt kk1 kn1 x 0)) = ((l0.take k).map (fun x => keyAt kk1 kn1 x 0)) from by (rw [List.take_of_length_le (by omega)])]; exact hz_12), S⟩

set_option maxRecDepth 100000 in
set_option maxHeartbeats 4000000 in
theorem spec_IndexOf {M : Hp} {v0 : Value} {l0 : List Int} (h0 : RdI M v0 l0){x1 : Int} :
    Pu Tryz.prog (.func (.func 78) #[] #[]) M [v0, .int .i64 x1] (fun r M' => r = .int .i64 (fiI (eqx x1) l0)) := by
  refine Pu_enter Tryz.func78 rfl Tryz.ntmps78 rfl Tryz.call78 ?_
  intro a w M1 H hM1 S E
  replace h0 := h0.le hM1
  have b0 := h0.bound
  refine WP_seq ?_
  refine WP_region ?_
  refine S_v E rfl (R_assign E rfl) rfl ?_
  clear E a; intro a E
  refine WL_nil ?_
  refine T_n ?_
  refine WP_seq ?_
  refine WP_seq ?_
  refine WP_region ?_
  refine S_v E rfl (R_move E rfl) rfl ?_
  clear E a; intro a E
  refine S_v E rfl (R_lenV E rfl T22 h0.len) rfl ?_
  clear E a; intro a E
  refine S_v E rfl (R_move E rfl) rfl ?_
  clear E a; intro a E
  refine WL_nil ?_
  refine T_n ?_
  refine WP_block ?_
  refine WP_loop (γ := Nat) (fun (k : Nat) a w => ∃ (M_1 : Hp), Hp.le M1 M_1 ∧ St w M_1 (H) ∧ Env a 19 [] [(0, v0), (1, .int .i64 x1), (7, .int .i64 (((l0).length : Nat) : Int)), (8, .int .i64 ((k : Nat) : Int))] ∧ (k ≤ (l0).length) ∧ (∀ y ∈ l0.take k, eqx x1 y = false)) (fun k => ((l0).length) - k) 0 ⟨M1, Hp.le.refl _, S, E.keep ⟨rfl, rfl, rfl, rfl, trivial⟩, by ((try clear S); (try clear E); first | assumption | omega | rfl | (simp; done) | (simp_all; done) | (simp [List.take_add_one, *]; done) | grind [List.take_add_one]), (by simp)⟩ ?_
  try clear E
  try clear S
  try clear a
  try clear w
  rintro k a w ⟨M_1, hM_1, S, E, hL0_0, hL0_1⟩
  replace h0 := h0.le hM_1
  refine WP_seq ?_
  refine WP_region ?_
  refine S_v E rfl (R_lss E rfl rfl) rfl ?_
  clear E a; intro a E
  refine WL_nil ?_
  refine T_n ?_
  refine WP_seq ?_
  refine WP_cond E rfl (fun hc_2 => ?_) (fun hc_2 => ?_)
  · replace hc_2 := of_decide_eq_true hc_2
    refine WP_skip ?_
    refine T_n ?_
    refine WP_seq ?_
    refine WP_block ?_
    refine WP_seq ?_
    refine WP_region ?_
    refine S_v E rfl (R_move E rfl) rfl ?_
    clear E a; intro a E
    refine S_v E rfl (R_assign E rfl) rfl ?_
    clear E a; intro a E
    refine WL_nil ?_
    refine T_n ?_
    refine WP_seq ?_
    refine WP_region ?_
    refine S_v E rfl (R_move E rfl) rfl ?_
    clear E a; intro a E
    refine S_v E rfl (R_move E rfl) rfl ?_
    clear E a; intro a E
    obtain ⟨x_3, hx_3⟩ : ∃ x, (l0)[k]? = some x := ⟨_, List.getElem?_eq_getElem (by first | omega | (simp; done) | (simp; omega) | (simp_all; omega))⟩
    obtain ⟨p_4, hp_4, qp_4⟩ := h0.at hx_3
    refine S_v E rfl (R_idx E rfl rfl T22 hp_4 rfl) rfl ?_
    clear E a; intro a E
    refine S_v E rfl (R_loadM E rfl Tryz.isAgg3 S.imm qp_4) rfl ?_
    clear E a; intro a E
    refine S_v E rfl (R_move E rfl) rfl ?_
    clear E a; intro a E
    refine S_v E rfl (R_eql E rfl rfl) rfl ?_
    clear E a; intro a E
    refine WL_nil ?_
    refine T_n ?_
    refine WP_cond E rfl (fun hc_5 => ?_) (fun hc_5 => ?_)
    · replace hc_5 := of_decide_eq_true hc_5
      refine WP_seq ?_
      refine WP_region ?_
      refine S_v E rfl (R_move E rfl) rfl ?_
      clear E a; intro a E
      refine S_v E rfl (R_assign E rfl) rfl ?_
      clear E a; intro a E
      refine WL_nil ?_
      refine T_n ?_
      refine WP_ret ?_
      refine B_r ?_
      refine T_r ?_
      refine T_r ?_
      refine B_r ?_
      refine T_r ?_
      exact F_ret1 E Tryz.results78 rfl ⟨_, rfl, M_1, hM_1, (congrArg (Value.int .i64) (by (first | exact (fi_yes (f := eqx x1) hL0_1 (by assumption) (by first | exact eqx_yes (by assumption) | exact eqx_yes' (by assumption))).1 | exact ((fi_yes (f := eqx x1) hL0_1 (by assumption) (by first | exact eqx_yes (by assumption) | exact eqx_yes' (by assumption))).1).symm | exact (fi_no (f := eqx x1) hL0_1 (by omega)).1 | exact ((fi_no (f := eqx x1) hL0_1 (by omega)).1).symm))), S⟩
    · replace hc_5 := of_decide_eq_false hc_5
      refine WP_skip ?_
      refine B_n ?_
      refine T_n ?_
      refine WP_region ?_
      refine S_v E rfl (R_addx (m := ((k + 1 : Nat) : Int)) E rfl rfl (by omega) (by omega)) rfl ?_
      clear E a; intro a E
      refine S_v E rfl (R_move E rfl) rfl ?_
      clear E a; intro a E
      refine WL_nil ?_
      refine T_n ?_
      exact ⟨k + 1, ⟨M_1, hM_1, S, E.keep ⟨rfl, rfl, rfl, rfl, trivial⟩, by ((try clear S); (try clear E); first | assumption | omega | rfl | (simp; done) | (simp_all; done) | (simp [List.take_add_one, *]; done) | grind [List.take_add_one]), (by exact take_all (P := fun y => eqx x1 y = false) hL0_1 (by assumption) (by first | exact eqx_no (by assumption) | exact eqx_no' (by assumption)))⟩, by omega⟩
  · replace hc_2 := of_decide_eq_false hc_2
    refine WP_exit ?_
    refine T_x ?_
    refine T_x ?_
    refine B_x ?_
    refine T_n ?_
    refine WP_seq ?_
    refine WP_region ?_
    refine S_v E rfl (R_assign E rfl) rfl ?_
    clear E a; intro a E
    refine WL_nil ?_
    refine T_n ?_
    refine WP_ret ?_
    exact F_ret1 E Tryz.results78 rfl ⟨_, rfl, M_1, hM_1, (congrArg (Value.int .i64) (by (first | exact (fi_yes (f := eqx x1) hL0_1 (by assumption) (by first | exact eqx_yes (by assumption) | exact eqx_yes' (by assumption))).1 | exact ((fi_yes (f := eqx x1) hL0_1 (by assumption) (by first | exact eqx_yes (by assumption) | exact eqx_yes' (by assumption))).1).symm | exact (fi_no (f := eqx x1) hL0_1 (by omega)).1 | exact ((fi_no (f := eqx x1) hL0_1 (by omega)).1).symm))), S⟩

set_option maxRecDepth 100000 in
set_option maxHeartbeats 4000000 in
theorem spec_UniqBy {M : Hp} {v0 : Value} {l0 : List Int} (h0 : RdI M v0 l0){kk1 kn1 : Int} (gk1 : -9223372036854775808 ≤ kn1 ∧ kn1 ≤ 9223372036854775807) (hr0 : (∀ x ∈ l0, -9223372036854775808 ≤ x ∧ x ≤ 9223372036854775807)) (hb : l0.length ≤ 1000000000000) (hid : l0.map (fun x => keyAt kk1 kn1 x 0) = l0) :
    Pu Tryz.prog (.func (.func 45) #[] #[]) M [v0, .agg #[.int .i64 kk1, .int .i64 kn1]] (fun r M' => RdI M' r (keyL l0)) := by
  refine Pu_enter Tryz.func45 rfl Tryz.ntmps45 rfl Tryz.call45 ?_
  intro a w M1 H hM1 S E
  replace h0 := h0.le hM1
  have b0 := h0.bound
  refine WP_seq ?_
  refine WP_region ?_
  refine S_x (X_box (cs := #[.int .i64 kk1, .int .i64 kn1]) E S rfl rfl rfl ?_)
  clear E a S; rintro a w b_1 E S
  obtain ⟨M_2, hM_2, hb_1, S⟩ := S.freezeB
  replace h0 := h0.le hM_2
  refine S_v E rfl (R_assign E rfl) rfl ?_
  clear E a; intro a E
  refine WL_nil ?_
  refine T_n ?_
  refine WP_seq ?_
  refine WP_region ?_
  refine S_v E rfl (R_assign E rfl) rfl ?_
  clear E a; intro a E
  refine WL_nil ?_
  refine T_n ?_
  refine WP_seq ?_
  refine WP_region ?_
  refine S_v E rfl (R_move E rfl) rfl ?_
  clear E a; intro a E
  refine S_v E rfl (R_loadGM E rfl (Tryz.isAgg53 _) (Tryz.sizeOf53 _) S.imm hb_1) rfl ?_
  clear E a; intro a E
  refine S_x (X_pu E S rfl rfl rfl (spec_keys h0 (by omega) (by first | assumption | exact (fun x hx => by rcases List.mem_append.1 hx with h | h; exact hr0 x h; exact hr1 x h)) (by (first | omega | (simp; omega) | (simp; done) | (simp_all; omega) | grind))) (Hp.le.refl _) ?_)
  clear E a S; rintro a v_4 w M_3 hM_3 hv_4 S E
  replace h0 := h0.le hM_3
  replace hb_1 := hM_3.2 _ _ hb_1
  replace hv_4 : RdI M_3 v_4 l0 := by rw [hid] at hv_4; exact hv_4
  refine S_v E rfl (R_assign E rfl) rfl ?_
  clear E a; intro a E
  refine WL_nil ?_
  refine T_n ?_
  refine WP_seq ?_
  refine WP_seq ?_
  refine WP_region ?_
  refine S_v E rfl (R_move E rfl) rfl ?_
  clear E a; intro a E
  refine S_v E rfl (R_lenV E rfl T22 h0.len) rfl ?_
  clear E a; intro a E
  refine S_v E rfl (R_move E rfl) rfl ?_
  clear E a; intro a E
  refine WL_nil ?_
  refine T_n ?_
  refine WP_block ?_
  replace S := (S.ownNil (e := 3) (sz := 1)).made0
  replace S := S.re1 (l' := keyL (l0.take 0)) (by first | (simp [keyL]; done) | (rw [ky_new (by assumption) (by assumption)]; done) | (rw [ky_old (by assumption) (by assumption)]; done))
  refine WP_loop (γ := Nat) (fun (k : Nat) a w => ∃ (M_6 : Hp) (u5 : Value), Hp.le M_3 M_6 ∧ St w M_6 (OwnI 3 u5 (keyL (l0.take k)) :: H) ∧ Env a 33 [] [(5, u5), (6, v_4), (12, v0), (13, .int .i64 (((l0).length : Nat) : Int)), (14, .int .i64 ((k : Nat) : Int))] ∧ (k ≤ (l0).length)) (fun k => ((l0).length) - k) 0 ⟨M_3, _, Hp.le.refl _, S, E.keep ⟨rfl, rfl, rfl, rfl, rfl, trivial⟩, by ((try clear S); (try clear E); first | assumption | omega | rfl | (simp; done) | (simp_all; done) | (simp [List.take_add_one, *]; done) | grind [List.take_add_one])⟩ ?_
  try clear E
  try clear S
  try clear a
  try clear w
  rintro k a w ⟨M_6, u5, hM_6, S, E, hL0_0⟩
  replace h0 := h0.le hM_6
  replace hb_1 := hM_6.2 _ _ hb_1
  replace hv_4 := hv_4.le hM_6
  have hkt := keyL_le' (l0.take k); rw [List.length_take] at hkt
  refine WP_seq ?_
  refine WP_region ?_
  refine S_v E rfl (R_lss E rfl rfl) rfl ?_
  clear E a; intro a E
  refine WL_nil ?_
  refine T_n ?_
  refine WP_seq ?_
  refine WP_cond E rfl (fun hc_7 => ?_) (fun hc_7 => ?_)
  · replace hc_7 := of_decide_eq_true hc_7
    refine WP_skip ?_
    refine T_n ?_
    refine WP_seq ?_
    refine WP_block ?_
    refine WP_seq ?_
    refine WP_region ?_
    refine S_v E rfl (R_move E rfl) rfl ?_
    clear E a; intro a E
    obtain ⟨x_8, hx_8⟩ : ∃ x, (l0)[k]? = some x := ⟨_, List.getElem?_eq_getElem (by first | omega | (simp; done) | (simp; omega) | (simp_all; omega))⟩
    obtain ⟨p_9, hp_9, qp_9⟩ := h0.at hx_8
    refine S_v E rfl (R_idx E rfl rfl T22 hp_9 rfl) rfl ?_
    clear E a; intro a E
    refine S_v E rfl (R_loadM E rfl Tryz.isAgg3 S.imm qp_9) rfl ?_
    clear E a; intro a E
    refine S_v E rfl (R_assign E rfl) rfl ?_
    clear E a; intro a E
    refine S_v E rfl (R_assign E rfl) rfl ?_
    clear E a; intro a E
    refine WL_nil ?_
    refine T_n ?_
    refine WP_seq ?_
    refine WP_region ?_
    refine S_v E rfl (R_move E rfl) rfl ?_
    clear E a; intro a E
    refine S_v E rfl (R_move E rfl) rfl ?_
    clear E a; intro a E
    refine S_v E rfl (R_move E rfl) rfl ?_
    clear E a; intro a E
    obtain ⟨p_10, hp_10, qp_10⟩ := hv_4.at hx_8
    refine S_v E rfl (R_idx E rfl rfl T22 hp_10 rfl) rfl ?_
    clear E a; intro a E
    refine S_v E rfl (R_loadM E rfl Tryz.isAgg3 S.imm qp_10) rfl ?_
    clear E a; intro a E
    refine S_x (X_pu E S rfl rfl rfl (spec_IndexOf hv_4) (Hp.le.refl _) ?_)
    clear E a S; rintro a _ w M_11 hM_11 rfl S E
    replace h0 := h0.le hM_11
    replace hb_1 := hM_11.2 _ _ hb_1
    replace hv_4 := hv_4.le hM_11
    refine S_v E rfl (R_move E rfl) rfl ?_
    clear E a; intro a E
    refine S_v E rfl (R_eql E rfl rfl) rfl ?_
    clear E a; intro a E
    refine WL_nil ?_
    refine T_n ?_
    refine WP_cond E rfl (fun hc_12 => ?_) (fun hc_12 => ?_)
    · replace hc_12 := of_decide_eq_true hc_12
      refine WP_region ?_
      refine S_v E rfl (R_move E rfl) rfl ?_
      clear E a; intro a E
      refine S_v E rfl (R_move E rfl) rfl ?_
      clear E a; intro a E
      refine S_x (X_buildI (ys := [x_8]) E S rfl T22 rfl rfl rfl ?_)
      clear E a S; rintro a w v_13 E S
      replace S := S.front1
      replace S := S.front1
      refine S_x (X_appendB (xs := keyL (l0.take k)) (ys := [x_8]) E S rfl rfl rfl T22 (by (simp only [List.length_cons, List.length_nil] at *; omega)) ?_)
      clear E a S; rintro a w v_14 E S
      refine S_v E rfl (R_assign E rfl) rfl ?_
      clear E a; intro a E
      refine WL_nil ?_
      refine B_n ?_
      refine T_n ?_
      refine WP_region ?_
      refine S_v E rfl (R_addx (m := ((k + 1 : Nat) : Int)) E rfl rfl (by omega) (by omega)) rfl ?_
      clear E a; intro a E
      refine S_v E rfl (R_move E rfl) rfl ?_
      clear E a; intro a E
      refine WL_nil ?_
      refine T_n ?_
      replace S := S.re1 (l' := keyL (l0.take (k + 1))) (by first | (simp [keyL]; done) | (rw [ky_new (by assumption) (by assumption)]; done) | (rw [ky_old (by assumption) (by assumption)]; done))
      exact ⟨k + 1, ⟨M_11, _, (hM_6.trans hM_11), S, E.keep ⟨rfl, rfl, rfl, rfl, rfl, trivial⟩, by ((try clear S); (try clear E); first | assumption | omega | rfl | (simp; done) | (simp_all; done) | (simp [List.take_add_one, *]; done) | grind [List.take_add_one])⟩, by omega⟩
    · replace hc_12 := of_decide_eq_false hc_12
      refine WP_skip ?_
      refine B_n ?_
      refine T_n ?_
      refine WP_region ?_
      refine S_v E rfl (R_addx (m := ((k + 1 : Nat) : Int)) E rfl rfl (by omega) (by omega)) rfl ?_
      clear E a; intro a E
      refine S_v E rfl (R_move E rfl) rfl ?_
      clear E a; intro a E
      refine WL_nil ?_
      refine T_n ?_
      replace S := S.re1 (l' := keyL (l0.take (k + 1))) (by first | (simp [keyL]; done) | (rw [ky_new (by assumption) (by assumption)]; done) | (rw [ky_old (by assumption) (by assumption)]; done))
      exact ⟨k + 1, ⟨M_11, _, (hM_6.trans hM_11), S, E.keep ⟨rfl, rfl, rfl, rfl, rfl, trivial⟩, by ((try clear S); (try clear E); first | assumption | omega | rfl | (simp; done) | (simp_all; done) | (simp [List.take_add_one, *]; done) | grind [List.take_add_one])⟩, by omega⟩
  · replace hc_7 := of_decide_eq_false hc_7
    refine WP_exit ?_
    refine T_x ?_
    refine T_x ?_
    refine B_x ?_
    refine T_n ?_
    refine WP_seq ?_
    refine WP_region ?_
    refine S_v E rfl (R_move E rfl) rfl ?_
    clear E a; intro a E
    refine S_v E rfl (R_assign E rfl) rfl ?_
    clear E a; intro a E
    refine WL_nil ?_
    refine T_n ?_
    refine WP_ret ?_
    have S0 := S; clear S
    obtain ⟨M_15, hM_15, hz_16, S⟩ := S0.freezeI (by (have hkt := keyL_le' (l0.take k); rw [List.length_take] at hkt; omega))
    clear S0
    replace h0 := h0.le hM_15
    replace hb_1 := hM_15.2 _ _ hb_1
    replace hv_4 := hv_4.le hM_15
    exact F_ret1 E Tryz.results45 rfl ⟨_, rfl, M_15, (hM_2.trans (hM_3.trans (hM_6.trans hM_15))), (by rw [show (keyL l0) = (keyL (l0.take k)) from by (rw [List.take_of_length_le (by omega)])]; exact hz_16), S⟩

set_option maxRecDepth 100000 in
set_option maxHeartbeats 4000000 in
theorem spec_Uniq {M : Hp} {v0 : Value} {l0 : List Int} (h0 : RdI M v0 l0) (hr0 : (∀ x ∈ l0, -9223372036854775808 ≤ x ∧ x ≤ 9223372036854775807)) (hb : l0.length ≤ 1000000000000) :
    Pu Tryz.prog (.func (.func 11) #[] #[]) M [v0] (fun r M' => RdI M' r (keyL l0)) := by
  refine Pu_enter Tryz.func11 rfl Tryz.ntmps11 rfl Tryz.call11 ?_
  intro a w M1 H hM1 S E
  replace h0 := h0.le hM1
  have b0 := h0.bound
  refine WP_seq ?_
  refine WP_region ?_
  refine S_v E rfl (R_assign E rfl) rfl ?_
  clear E a; intro a E
  refine WL_nil ?_
  refine T_n ?_
  refine WP_seq ?_
  refine WP_region ?_
  refine S_v E rfl (R_move E rfl) rfl ?_
  clear E a; intro a E
  refine S_x (X_pu E S rfl rfl rfl (spec_same ) (Hp.le.refl _) ?_)
  clear E a S; rintro a _ w M_1 hM_1 rfl S E
  replace h0 := h0.le hM_1
  refine S_x (X_pu E S rfl rfl rfl (spec_UniqBy h0 (by omega) (by first | assumption | exact (fun x hx => by rcases List.mem_append.1 hx with h | h; exact hr0 x h; exact hr1 x h)) (by (first | omega | (simp; omega) | (simp; done) | (simp_all; omega) | grind)) (by first | assumption | exact map_key5 _ _)) (Hp.le.refl _) ?_)
  clear E a S; rintro a v_3 w M_2 hM_2 hv_3 S E
  replace h0 := h0.le hM_2
  refine S_v E rfl (R_assign E rfl) rfl ?_
  clear E a; intro a E
  refine WL_nil ?_
  refine T_n ?_
  refine WP_ret ?_
  exact F_ret1 E Tryz.results11 rfl ⟨_, rfl, M_2, (hM_1.trans hM_2), hv_3, S⟩

set_option maxRecDepth 100000 in
set_option maxHeartbeats 4000000 in
theorem laws_eq {M : Hp} {v0 v1 : Value} {l0 l1 : List Int} (h0 : RdI M v0 l0) (h1 : RdI M v1 l1) :
    Pu Tryz.prog (.func (.func 10) #[] #[]) M [v0, v1] (fun r M' => r = .bool (decide (l0 = l1))) := by
  refine Pu_enter Tryz.func10 rfl Tryz.ntmps10 rfl Tryz.call10 ?_
  intro a w M1 H hM1 S E
  replace h0 := h0.le hM1
  replace h1 := h1.le hM1
  have b0 := h0.bound
  have b1 := h1.bound
  refine WP_seq ?_
  refine WP_region ?_
  refine S_v E rfl (R_assign E rfl) rfl ?_
  clear E a; intro a E
  refine WL_nil ?_
  refine T_n ?_
  refine WP_seq ?_
  refine WP_seq ?_
  refine WP_region ?_
  refine S_v E rfl (R_move E rfl) rfl ?_
  clear E a; intro a E
  refine S_v E rfl (R_lenV E rfl T22 h0.len) rfl ?_
  clear E a; intro a E
  refine S_v E rfl (R_move E rfl) rfl ?_
  clear E a; intro a E
  refine S_v E rfl (R_lenV E rfl T22 h1.len) rfl ?_
  clear E a; intro a E
  refine S_v E rfl (R_neq E rfl rfl) rfl ?_
  clear E a; intro a E
  refine WL_nil ?_
  refine T_n ?_
  refine WP_cond E rfl (fun hc_1 => ?_) (fun hc_1 => ?_)
  · replace hc_1 := of_decide_eq_true hc_1
    refine WP_seq ?_
    refine WP_region ?_
    refine S_v E rfl (R_assign E rfl) rfl ?_
    clear E a; intro a E
    refine WL_nil ?_
    refine T_n ?_
    refine WP_ret ?_
    refine T_r ?_
    exact F_ret1 E Tryz.results10 rfl ⟨_, rfl, M1, (Hp.le.refl _), (bF (by ((try clear S); (try clear E); first | assumption | omega | rfl | (simp; done) | (simp_all; done) | (simp [List.take_add_one, *]; done) | grind [List.take_add_one]))), S⟩
  · replace hc_1 := of_decide_eq_false hc_1
    refine WP_skip ?_
    refine T_n ?_
    refine WP_seq ?_
    refine WP_seq ?_
    refine WP_region ?_
    refine S_v E rfl (R_move E rfl) rfl ?_
    clear E a; intro a E
    refine S_v E rfl (R_lenV E rfl T22 h0.len) rfl ?_
    clear E a; intro a E
    refine S_v E rfl (R_move E rfl) rfl ?_
    clear E a; intro a E
    refine WL_nil ?_
    refine T_n ?_
    refine WP_block ?_
    refine WP_loop (γ := Nat) (fun (k : Nat) a w => ∃ (M_2 : Hp), Hp.le M1 M_2 ∧ St w M_2 (H) ∧ Env a 26 [] [(0, v0), (1, v1), (12, .int .i64 (((l0).length : Nat) : Int)), (13, .int .i64 ((k : Nat) : Int))] ∧ (k ≤ (l0).length) ∧ (l0.length = l1.length) ∧ (l0.take k = l1.take k)) (fun k => ((l0).length) - k) 0 ⟨M1, Hp.le.refl _, S, E.keep ⟨rfl, rfl, rfl, rfl, trivial⟩, by ((try clear S); (try clear E); first | assumption | omega | rfl | (simp; done) | (simp_all; done) | (simp [List.take_add_one, *]; done) | grind [List.take_add_one]), by ((try clear S); (try clear E); first | assumption | omega | rfl | (simp; done) | (simp_all; done) | (simp [List.take_add_one, *]; done) | grind [List.take_add_one]), by ((try clear S); (try clear E); first | assumption | omega | rfl | (simp; done) | (simp_all; done) | (simp [List.take_add_one, *]; done) | grind [List.take_add_one])⟩ ?_
    try clear E
    try clear S
    try clear a
    try clear w
    rintro k a w ⟨M_2, hM_2, S, E, hL0_0, hL0_1, hL0_2⟩
    replace h0 := h0.le hM_2
    replace h1 := h1.le hM_2
    refine WP_seq ?_
    refine WP_region ?_
    refine S_v E rfl (R_lss E rfl rfl) rfl ?_
    clear E a; intro a E
    refine WL_nil ?_
    refine T_n ?_
    refine WP_seq ?_
    refine WP_cond E rfl (fun hc_3 => ?_) (fun hc_3 => ?_)
    · replace hc_3 := of_decide_eq_true hc_3
      refine WP_skip ?_
      refine T_n ?_
      refine WP_seq ?_
      refine WP_block ?_
      refine WP_seq ?_
      refine WP_region ?_
      refine S_v E rfl (R_move E rfl) rfl ?_
      clear E a; intro a E
      refine S_v E rfl (R_assign E rfl) rfl ?_
      clear E a; intro a E
      refine WL_nil ?_
      refine T_n ?_
      refine WP_seq ?_
      replace S := S.mono_heap (w' := World.drew _) rfl
      refine WP_drawn (C := fun x w => agree M_2 w) (bf := (fun i => [])) [0, 1, 2, 3, 4, 5, 6, 7, 8] [0, 1, 2, 3, 4, 5, 6, 7, 8] Tryz.mixed (by kernel_rfl) (fun x hq => S.imm) ?_
      refine D_v E rfl rfl rfl (fun w hC => (R_move E rfl)) ?_
      clear E a; intro a E
      refine D_v E rfl rfl rfl (fun w hC => (R_move E rfl)) ?_
      clear E a; intro a E
      obtain ⟨x_4, hx_4⟩ : ∃ x, (l0)[k]? = some x := ⟨_, List.getElem?_eq_getElem (by first | omega | (simp; done) | (simp; omega) | (simp_all; omega))⟩
      obtain ⟨p_5, hp_5, qp_5⟩ := h0.at hx_4
      refine D_v E rfl rfl rfl (fun w hC => (R_idx E rfl rfl T22 hp_5 rfl)) ?_
      clear E a; intro a E
      refine D_v E rfl rfl rfl (fun w hC => (R_loadM E rfl Tryz.isAgg3 hC qp_5)) ?_
      clear E a; intro a E
      refine D_v E rfl rfl rfl (fun w hC => (R_move E rfl)) ?_
      clear E a; intro a E
      refine D_v E rfl rfl rfl (fun w hC => (R_move E rfl)) ?_
      clear E a; intro a E
      obtain ⟨x_6, hx_6⟩ : ∃ x, (l1)[k]? = some x := ⟨_, List.getElem?_eq_getElem (by first | omega | (simp; done) | (simp; omega) | (simp_all; omega))⟩
      obtain ⟨p_7, hp_7, qp_7⟩ := h1.at hx_6
      refine D_v E rfl rfl rfl (fun w hC => (R_idx E rfl rfl T22 hp_7 rfl)) ?_
      clear E a; intro a E
      refine D_v E rfl rfl rfl (fun w hC => (R_loadM E rfl Tryz.isAgg3 hC qp_7)) ?_
      clear E a; intro a E
      refine D_v E rfl rfl rfl (fun w hC => (R_neq E rfl rfl)) ?_
      clear E a; intro a E
      refine D_end (NoP_n ?_)
      refine T_n ?_
      refine WP_cond E rfl (fun hc_8 => ?_) (fun hc_8 => ?_)
      · replace hc_8 := of_decide_eq_true hc_8
        refine WP_seq ?_
        refine WP_region ?_
        refine S_v E rfl (R_assign E rfl) rfl ?_
        clear E a; intro a E
        refine WL_nil ?_
        refine T_n ?_
        refine WP_ret ?_
        refine B_r ?_
        refine T_r ?_
        refine T_r ?_
        refine B_r ?_
        refine T_r ?_
        exact F_ret1 E Tryz.results10 rfl ⟨_, rfl, M_2, hM_2, (bF (by ((try clear S); (try clear E); first | assumption | omega | rfl | (simp; done) | (simp_all; done) | (simp [List.take_add_one, *]; done) | grind [List.take_add_one]))), S⟩
      · replace hc_8 := of_decide_eq_false hc_8
        refine WP_skip ?_
        refine B_n ?_
        refine T_n ?_
        refine WP_region ?_
        refine S_v E rfl (R_addx (m := ((k + 1 : Nat) : Int)) E rfl rfl (by omega) (by omega)) rfl ?_
        clear E a; intro a E
        refine S_v E rfl (R_move E rfl) rfl ?_
        clear E a; intro a E
        refine WL_nil ?_
        refine T_n ?_
        exact ⟨k + 1, ⟨M_2, hM_2, S, E.keep ⟨rfl, rfl, rfl, rfl, trivial⟩, by ((try clear S); (try clear E); first | assumption | omega | rfl | (simp; done) | (simp_all; done) | (simp [List.take_add_one, *]; done) | grind [List.take_add_one]), by ((try clear S); (try clear E); first | assumption | omega | rfl | (simp; done) | (simp_all; done) | (simp [List.take_add_one, *]; done) | grind [List.take_add_one]), by ((try clear S); (try clear E); first | assumption | omega | rfl | (simp; done) | (simp_all; done) | (simp [List.take_add_one, *]; done) | grind [List.take_add_one])⟩, by omega⟩
    · replace hc_3 := of_decide_eq_false hc_3
      refine WP_exit ?_
      refine T_x ?_
      refine T_x ?_
      refine B_x ?_
      refine T_n ?_
      refine WP_seq ?_
      refine WP_region ?_
      refine S_v E rfl (R_assign E rfl) rfl ?_
      clear E a; intro a E
      refine WL_nil ?_
      refine T_n ?_
      refine WP_ret ?_
      exact F_ret1 E Tryz.results10 rfl ⟨_, rfl, M_2, hM_2, (bT (by ((try clear S); (try clear E); first | assumption | omega | rfl | (simp; done) | (simp_all; done) | (simp [List.take_add_one, *]; done) | grind [List.take_add_one]))), S⟩

set_option maxRecDepth 100000 in
set_option maxHeartbeats 4000000 in
theorem spec_Count {M : Hp} {v0 : Value} {l0 : List Int} (h0 : RdI M v0 l0){x1 : Int} :
    Pu Tryz.prog (.func (.func 79) #[] #[]) M [v0, .int .i64 x1] (fun r M' => r = .int .i64 (((l0).count x1 : Nat) : Int)) := by
  refine Pu_enter Tryz.func79 rfl Tryz.ntmps79 rfl Tryz.call79 ?_
  intro a w M1 H hM1 S E
  replace h0 := h0.le hM1
  have b0 := h0.bound
  have c0 := List.count_le_length (a := x1) (l := l0)
  refine WP_seq ?_
  refine WP_region ?_
  refine S_v E rfl (R_assign E rfl) rfl ?_
  clear E a; intro a E
  refine WL_nil ?_
  refine T_n ?_
  refine WP_seq ?_
  refine WP_region ?_
  refine S_v E rfl (R_assign E rfl) rfl ?_
  clear E a; intro a E
  refine WL_nil ?_
  refine T_n ?_
  refine WP_seq ?_
  refine WP_seq ?_
  refine WP_region ?_
  refine S_v E rfl (R_move E rfl) rfl ?_
  clear E a; intro a E
  refine S_v E rfl (R_lenV E rfl T22 h0.len) rfl ?_
  clear E a; intro a E
  refine S_v E rfl (R_move E rfl) rfl ?_
  clear E a; intro a E
  refine WL_nil ?_
  refine T_n ?_
  refine WP_block ?_
  refine WP_loop (γ := Nat) (fun (k : Nat) a w => ∃ (M_1 : Hp), Hp.le M1 M_1 ∧ St w M_1 (H) ∧ Env a 22 [] [(0, v0), (1, .int .i64 x1), (5, .int .i64 (((l0.take k).count x1 : Nat) : Int)), (8, .int .i64 (((l0).length : Nat) : Int)), (9, .int .i64 ((k : Nat) : Int))] ∧ (k ≤ (l0).length)) (fun k => ((l0).length) - k) 0 ⟨M1, Hp.le.refl _, S, E.keep ⟨rfl, rfl, look_nat (i := 0) rfl (by (simp)), rfl, rfl, trivial⟩, by ((try clear S); (try clear E); first | assumption | omega | rfl | (simp; done) | (simp_all; done) | (simp [List.take_add_one, *]; done) | grind [List.take_add_one])⟩ ?_
  try clear E
  try clear S
  try clear a
  try clear w
  rintro k a w ⟨M_1, hM_1, S, E, hL0_0⟩
  replace h0 := h0.le hM_1
  have ck := List.count_le_length (a := x1) (l := l0.take k); simp only [List.length_take] at ck
  refine WP_seq ?_
  refine WP_region ?_
  refine S_v E rfl (R_lss E rfl rfl) rfl ?_
  clear E a; intro a E
  refine WL_nil ?_
  refine T_n ?_
  refine WP_seq ?_
  refine WP_cond E rfl (fun hc_2 => ?_) (fun hc_2 => ?_)
  · replace hc_2 := of_decide_eq_true hc_2
    refine WP_skip ?_
    refine T_n ?_
    refine WP_seq ?_
    refine WP_block ?_
    refine WP_seq ?_
    refine WP_region ?_
    refine S_v E rfl (R_move E rfl) rfl ?_
    clear E a; intro a E
    refine S_v E rfl (R_assign E rfl) rfl ?_
    clear E a; intro a E
    refine WL_nil ?_
    refine T_n ?_
    refine WP_seq ?_
    refine WP_region ?_
    refine S_v E rfl (R_move E rfl) rfl ?_
    clear E a; intro a E
    refine S_v E rfl (R_move E rfl) rfl ?_
    clear E a; intro a E
    obtain ⟨x_3, hx_3⟩ : ∃ x, (l0)[k]? = some x := ⟨_, List.getElem?_eq_getElem (by first | omega | (simp; done) | (simp; omega) | (simp_all; omega))⟩
    obtain ⟨p_4, hp_4, qp_4⟩ := h0.at hx_3
    refine S_v E rfl (R_idx E rfl rfl T22 hp_4 rfl) rfl ?_
    clear E a; intro a E
    refine S_v E rfl (R_loadM E rfl Tryz.isAgg3 S.imm qp_4) rfl ?_
    clear E a; intro a E
    refine S_v E rfl (R_move E rfl) rfl ?_
    clear E a; intro a E
    refine S_v E rfl (R_eql E rfl rfl) rfl ?_
    clear E a; intro a E
    refine WL_nil ?_
    refine T_n ?_
    refine WP_cond E rfl (fun hc_5 => ?_) (fun hc_5 => ?_)
    · replace hc_5 := of_decide_eq_true hc_5
      refine WP_region ?_
      refine S_v E rfl (R_move E rfl) rfl ?_
      clear E a; intro a E
      refine S_v E rfl (R_addx (m := (((l0.take k).count x1 + 1 : Nat) : Int)) E rfl rfl (by omega) (by omega)) rfl ?_
      clear E a; intro a E
      refine S_v E rfl (R_assign E rfl) rfl ?_
      clear E a; intro a E
      refine WL_nil ?_
      refine B_n ?_
      refine T_n ?_
      refine WP_region ?_
      refine S_v E rfl (R_addx (m := ((k + 1 : Nat) : Int)) E rfl rfl (by omega) (by omega)) rfl ?_
      clear E a; intro a E
      refine S_v E rfl (R_move E rfl) rfl ?_
      clear E a; intro a E
      refine WL_nil ?_
      refine T_n ?_
      exact ⟨k + 1, ⟨M_1, hM_1, S, E.keep ⟨rfl, rfl, look_nat (i := (l0.take k).count x1 + 1) rfl (by (rw [List.take_add_one, show l0[k]? = some _ by assumption, List.count_append]; simp_all)), rfl, rfl, trivial⟩, by ((try clear S); (try clear E); first | assumption | omega | rfl | (simp; done) | (simp_all; done) | (simp [List.take_add_one, *]; done) | grind [List.take_add_one])⟩, by omega⟩
    · replace hc_5 := of_decide_eq_false hc_5
      refine WP_skip ?_
      refine B_n ?_
      refine T_n ?_
      refine WP_region ?_
      refine S_v E rfl (R_addx (m := ((k + 1 : Nat) : Int)) E rfl rfl (by omega) (by omega)) rfl ?_
      clear E a; intro a E
      refine S_v E rfl (R_move E rfl) rfl ?_
      clear E a; intro a E
      refine WL_nil ?_
      refine T_n ?_
      exact ⟨k + 1, ⟨M_1, hM_1, S, E.keep ⟨rfl, rfl, look_nat (i := (l0.take k).count x1) rfl (by (rw [List.take_add_one, show l0[k]? = some _ by assumption, List.count_append]; simp_all)), rfl, rfl, trivial⟩, by ((try clear S); (try clear E); first | assumption | omega | rfl | (simp; done) | (simp_all; done) | (simp [List.take_add_one, *]; done) | grind [List.take_add_one])⟩, by omega⟩
  · replace hc_2 := of_decide_eq_false hc_2
    refine WP_exit ?_
    refine T_x ?_
    refine T_x ?_
    refine B_x ?_
    refine T_n ?_
    refine WP_seq ?_
    refine WP_region ?_
    refine S_v E rfl (R_move E rfl) rfl ?_
    clear E a; intro a E
    refine S_v E rfl (R_assign E rfl) rfl ?_
    clear E a; intro a E
    refine WL_nil ?_
    refine T_n ?_
    refine WP_ret ?_
    exact F_ret1 E Tryz.results79 rfl ⟨_, rfl, M_1, hM_1, (congrArg (Value.int .i64) (by (rw [List.take_of_length_le (by omega)]))), S⟩

set_option maxRecDepth 100000 in
set_option maxHeartbeats 4000000 in
theorem spec_FindUniquesBy {M : Hp} {v0 : Value} {l0 : List Int} (h0 : RdI M v0 l0){kk1 kn1 : Int} (gk1 : -9223372036854775808 ≤ kn1 ∧ kn1 ≤ 9223372036854775807) (hr0 : (∀ x ∈ l0, -9223372036854775808 ≤ x ∧ x ≤ 9223372036854775807)) (hb : l0.length ≤ 1000000000000) (hid : l0.map (fun x => keyAt kk1 kn1 x 0) = l0) :
    Pu Tryz.prog (.func (.func 47) #[] #[]) M [v0, .agg #[.int .i64 kk1, .int .i64 kn1]] (fun r M' => RdI M' r ((l0).filter (fun x => decide ((l0).count x = 1)))) := by
  refine Pu_enter Tryz.func47 rfl Tryz.ntmps47 rfl Tryz.call47 ?_
  intro a w M1 H hM1 S E
  replace h0 := h0.le hM1
  have b0 := h0.bound
  refine WP_seq ?_
  refine WP_region ?_
  refine S_x (X_box (cs := #[.int .i64 kk1, .int .i64 kn1]) E S rfl rfl rfl ?_)
  clear E a S; rintro a w b_1 E S
  obtain ⟨M_2, hM_2, hb_1, S⟩ := S.freezeB
  replace h0 := h0.le hM_2
  refine S_v E rfl (R_assign E rfl) rfl ?_
  clear E a; intro a E
  refine WL_nil ?_
  refine T_n ?_
  refine WP_seq ?_
  refine WP_region ?_
  refine S_v E rfl (R_assign E rfl) rfl ?_
  clear E a; intro a E
  refine WL_nil ?_
  refine T_n ?_
  refine WP_seq ?_
  refine WP_region ?_
  refine S_v E rfl (R_move E rfl) rfl ?_
  clear E a; intro a E
  refine S_v E rfl (R_loadGM E rfl (Tryz.isAgg53 _) (Tryz.sizeOf53 _) S.imm hb_1) rfl ?_
  clear E a; intro a E
  refine S_x (X_pu E S rfl rfl rfl (spec_keys h0 (by omega) (by first | assumption | exact (fun x hx => by rcases List.mem_append.1 hx with h | h; exact hr0 x h; exact hr1 x h)) (by (first | omega | (simp; omega) | (simp; done) | (simp_all; omega) | grind))) (Hp.le.refl _) ?_)
  clear E a S; rintro a v_4 w M_3 hM_3 hv_4 S E
  replace h0 := h0.le hM_3
  replace hb_1 := hM_3.2 _ _ hb_1
  replace hv_4 : RdI M_3 v_4 l0 := by rw [hid] at hv_4; exact hv_4
  refine S_v E rfl (R_assign E rfl) rfl ?_
  clear E a; intro a E
  refine WL_nil ?_
  refine T_n ?_
  refine WP_seq ?_
  refine WP_seq ?_
  refine WP_region ?_
  refine S_v E rfl (R_move E rfl) rfl ?_
  clear E a; intro a E
  refine S_v E rfl (R_lenV E rfl T22 h0.len) rfl ?_
  clear E a; intro a E
  refine S_v E rfl (R_move E rfl) rfl ?_
  clear E a; intro a E
  refine WL_nil ?_
  refine T_n ?_
  refine WP_block ?_
  replace S := (S.ownNil (e := 3) (sz := 1)).made0
  replace S := S.re1 (l' := (l0.take 0).filter (fun x => decide (l0.count x = 1))) (by first | (simp; done) | exact once_yes (by assumption) (by omega) | exact once_no (by assumption) (by omega))
  refine WP_loop (γ := Nat) (fun (k : Nat) a w => ∃ (M_6 : Hp) (u5 : Value), Hp.le M_3 M_6 ∧ St w M_6 (OwnI 3 u5 ((l0.take k).filter (fun x => decide (l0.count x = 1))) :: H) ∧ Env a 32 [] [(5, u5), (6, v_4), (12, v0), (13, .int .i64 (((l0).length : Nat) : Int)), (14, .int .i64 ((k : Nat) : Int))] ∧ (k ≤ (l0).length)) (fun k => ((l0).length) - k) 0 ⟨M_3, _, Hp.le.refl _, S, E.keep ⟨rfl, rfl, rfl, rfl, rfl, trivial⟩, by ((try clear S); (try clear E); first | assumption | omega | rfl | (simp; done) | (simp_all; done) | (simp [List.take_add_one, *]; done) | grind [List.take_add_one])⟩ ?_
  try clear E
  try clear S
  try clear a
  try clear w
  rintro k a w ⟨M_6, u5, hM_6, S, E, hL0_0⟩
  replace h0 := h0.le hM_6
  replace hb_1 := hM_6.2 _ _ hb_1
  replace hv_4 := hv_4.le hM_6
  have hkt := List.length_filter_le (fun x => decide (l0.count x = 1)) (l0.take k); rw [List.length_take] at hkt
  refine WP_seq ?_
  refine WP_region ?_
  refine S_v E rfl (R_lss E rfl rfl) rfl ?_
  clear E a; intro a E
  refine WL_nil ?_
  refine T_n ?_
  refine WP_seq ?_
  refine WP_cond E rfl (fun hc_7 => ?_) (fun hc_7 => ?_)
  · replace hc_7 := of_decide_eq_true hc_7
    refine WP_skip ?_
    refine T_n ?_
    refine WP_seq ?_
    refine WP_block ?_
    refine WP_seq ?_
    refine WP_region ?_
    refine S_v E rfl (R_move E rfl) rfl ?_
    clear E a; intro a E
    obtain ⟨x_8, hx_8⟩ : ∃ x, (l0)[k]? = some x := ⟨_, List.getElem?_eq_getElem (by first | omega | (simp; done) | (simp; omega) | (simp_all; omega))⟩
    obtain ⟨p_9, hp_9, qp_9⟩ := h0.at hx_8
    refine S_v E rfl (R_idx E rfl rfl T22 hp_9 rfl) rfl ?_
    clear E a; intro a E
    refine S_v E rfl (R_loadM E rfl Tryz.isAgg3 S.imm qp_9) rfl ?_
    clear E a; intro a E
    refine S_v E rfl (R_assign E rfl) rfl ?_
    clear E a; intro a E
    refine S_v E rfl (R_assign E rfl) rfl ?_
    clear E a; intro a E
    refine WL_nil ?_
    refine T_n ?_
    refine WP_seq ?_
    refine WP_region ?_
    refine S_v E rfl (R_move E rfl) rfl ?_
    clear E a; intro a E
    refine S_v E rfl (R_move E rfl) rfl ?_
    clear E a; intro a E
    refine S_v E rfl (R_move E rfl) rfl ?_
    clear E a; intro a E
    obtain ⟨p_10, hp_10, qp_10⟩ := hv_4.at hx_8
    refine S_v E rfl (R_idx E rfl rfl T22 hp_10 rfl) rfl ?_
    clear E a; intro a E
    refine S_v E rfl (R_loadM E rfl Tryz.isAgg3 S.imm qp_10) rfl ?_
    clear E a; intro a E
    refine S_x (X_pu E S rfl rfl rfl (spec_Count hv_4) (Hp.le.refl _) ?_)
    clear E a S; rintro a _ w M_11 hM_11 rfl S E
    replace h0 := h0.le hM_11
    replace hb_1 := hM_11.2 _ _ hb_1
    replace hv_4 := hv_4.le hM_11
    refine S_v E rfl (R_eql E rfl rfl) rfl ?_
    clear E a; intro a E
    refine WL_nil ?_
    refine T_n ?_
    refine WP_cond E rfl (fun hc_12 => ?_) (fun hc_12 => ?_)
    · replace hc_12 := of_decide_eq_true hc_12
      refine WP_region ?_
      refine S_v E rfl (R_move E rfl) rfl ?_
      clear E a; intro a E
      refine S_v E rfl (R_move E rfl) rfl ?_
      clear E a; intro a E
      refine S_x (X_buildI (ys := [x_8]) E S rfl T22 rfl rfl rfl ?_)
      clear E a S; rintro a w v_13 E S
      replace S := S.front1
      replace S := S.front1
      refine S_x (X_appendB (xs := (l0.take k).filter (fun x => decide (l0.count x = 1))) (ys := [x_8]) E S rfl rfl rfl T22 (by (simp only [List.length_cons, List.length_nil] at *; omega)) ?_)
      clear E a S; rintro a w v_14 E S
      refine S_v E rfl (R_assign E rfl) rfl ?_
      clear E a; intro a E
      refine WL_nil ?_
      refine B_n ?_
      refine T_n ?_
      refine WP_region ?_
      refine S_v E rfl (R_addx (m := ((k + 1 : Nat) : Int)) E rfl rfl (by omega) (by omega)) rfl ?_
      clear E a; intro a E
      refine S_v E rfl (R_move E rfl) rfl ?_
      clear E a; intro a E
      refine WL_nil ?_
      refine T_n ?_
      replace S := S.re1 (l' := (l0.take (k + 1)).filter (fun x => decide (l0.count x = 1))) (by first | (simp; done) | exact once_yes (by assumption) (by omega) | exact once_no (by assumption) (by omega))
      exact ⟨k + 1, ⟨M_11, _, (hM_6.trans hM_11), S, E.keep ⟨rfl, rfl, rfl, rfl, rfl, trivial⟩, by ((try clear S); (try clear E); first | assumption | omega | rfl | (simp; done) | (simp_all; done) | (simp [List.take_add_one, *]; done) | grind [List.take_add_one])⟩, by omega⟩
    · replace hc_12 := of_decide_eq_false hc_12
      refine WP_skip ?_
      refine B_n ?_
      refine T_n ?_
      refine WP_region ?_
      refine S_v E rfl (R_addx (m := ((k + 1 : Nat) : Int)) E rfl rfl (by omega) (by omega)) rfl ?_
      clear E a; intro a E
      refine S_v E rfl (R_move E rfl) rfl ?_
      clear E a; intro a E
      refine WL_nil ?_
      refine T_n ?_
      replace S := S.re1 (l' := (l0.take (k + 1)).filter (fun x => decide (l0.count x = 1))) (by first | (simp; done) | exact once_yes (by assumption) (by omega) | exact once_no (by assumption) (by omega))
      exact ⟨k + 1, ⟨M_11, _, (hM_6.trans hM_11), S, E.keep ⟨rfl, rfl, rfl, rfl, rfl, trivial⟩, by ((try clear S); (try clear E); first | assumption | omega | rfl | (simp; done) | (simp_all; done) | (simp [List.take_add_one, *]; done) | grind [List.take_add_one])⟩, by omega⟩
  · replace hc_7 := of_decide_eq_false hc_7
    refine WP_exit ?_
    refine T_x ?_
    refine T_x ?_
    refine B_x ?_
    refine T_n ?_
    refine WP_seq ?_
    refine WP_region ?_
    refine S_v E rfl (R_move E rfl) rfl ?_
    clear E a; intro a E
    refine S_v E rfl (R_assign E rfl) rfl ?_
    clear E a; intro a E
    refine WL_nil ?_
    refine T_n ?_
    refine WP_ret ?_
    have S0 := S; clear S
    obtain ⟨M_15, hM_15, hz_16, S⟩ := S0.freezeI (by (have hkt := List.length_filter_le (fun x => decide (l0.count x = 1)) (l0.take k); rw [List.length_take] at hkt; omega))
    clear S0
    replace h0 := h0.le hM_15
    replace hb_1 := hM_15.2 _ _ hb_1
    replace hv_4 := hv_4.le hM_15
    exact F_ret1 E Tryz.results47 rfl ⟨_, rfl, M_15, (hM_2.trans (hM_3.trans (hM_6.trans hM_15))), (by rw [show ((l0).filter (fun x => decide ((l0).count x = 1))) = ((l0.take k).filter (fun x => decide (l0.count x = 1))) from by (rw [List.take_of_length_le (by omega)])]; exact hz_16), S⟩

set_option maxRecDepth 100000 in
set_option maxHeartbeats 4000000 in
theorem spec_FindUniques {M : Hp} {v0 : Value} {l0 : List Int} (h0 : RdI M v0 l0) (hr0 : (∀ x ∈ l0, -9223372036854775808 ≤ x ∧ x ≤ 9223372036854775807)) (hb : l0.length ≤ 1000000000000) :
    Pu Tryz.prog (.func (.func 12) #[] #[]) M [v0] (fun r M' => RdI M' r ((l0).filter (fun x => decide ((l0).count x = 1)))) := by
  refine Pu_enter Tryz.func12 rfl Tryz.ntmps12 rfl Tryz.call12 ?_
  intro a w M1 H hM1 S E
  replace h0 := h0.le hM1
  have b0 := h0.bound
  refine WP_seq ?_
  refine WP_region ?_
  refine S_v E rfl (R_assign E rfl) rfl ?_
  clear E a; intro a E
  refine WL_nil ?_
  refine T_n ?_
  refine WP_seq ?_
  refine WP_region ?_
  refine S_v E rfl (R_move E rfl) rfl ?_
  clear E a; intro a E
  refine S_x (X_pu E S rfl rfl rfl (spec_same ) (Hp.le.refl _) ?_)
  clear E a S; rintro a _ w M_1 hM_1 rfl S E
  replace h0 := h0.le hM_1
  refine S_x (X_pu E S rfl rfl rfl (spec_FindUniquesBy h0 (by omega) (by first | assumption | exact (fun x hx => by rcases List.mem_append.1 hx with h | h; exact hr0 x h; exact hr1 x h)) (by (first | omega | (simp; omega) | (simp; done) | (simp_all; omega) | grind)) (by first | assumption | exact map_key5 _ _)) (Hp.le.refl _) ?_)
  clear E a S; rintro a v_3 w M_2 hM_2 hv_3 S E
  replace h0 := h0.le hM_2
  refine S_v E rfl (R_assign E rfl) rfl ?_
  clear E a; intro a E
  refine WL_nil ?_
  refine T_n ?_
  refine WP_ret ?_
  exact F_ret1 E Tryz.results12 rfl ⟨_, rfl, M_2, (hM_1.trans hM_2), hv_3, S⟩

set_option maxRecDepth 100000 in
set_option maxHeartbeats 4000000 in
theorem spec_FindDuplicatesBy {M : Hp} {v0 : Value} {l0 : List Int} (h0 : RdI M v0 l0){kk1 kn1 : Int} (gk1 : -9223372036854775808 ≤ kn1 ∧ kn1 ≤ 9223372036854775807) (hr0 : (∀ x ∈ l0, -9223372036854775808 ≤ x ∧ x ≤ 9223372036854775807)) (hb : l0.length ≤ 1000000000000) (hid : l0.map (fun x => keyAt kk1 kn1 x 0) = l0) :
    Pu Tryz.prog (.func (.func 48) #[] #[]) M [v0, .agg #[.int .i64 kk1, .int .i64 kn1]] (fun r M' => RdI M' r ((keyL l0).filter (fun x => decide (1 < (l0).count x)))) := by
  refine Pu_enter Tryz.func48 rfl Tryz.ntmps48 rfl Tryz.call48 ?_
  intro a w M1 H hM1 S E
  replace h0 := h0.le hM1
  have b0 := h0.bound
  refine WP_seq ?_
  refine WP_region ?_
  refine S_x (X_box (cs := #[.int .i64 kk1, .int .i64 kn1]) E S rfl rfl rfl ?_)
  clear E a S; rintro a w b_1 E S
  obtain ⟨M_2, hM_2, hb_1, S⟩ := S.freezeB
  replace h0 := h0.le hM_2
  refine S_v E rfl (R_assign E rfl) rfl ?_
  clear E a; intro a E
  refine WL_nil ?_
  refine T_n ?_
  refine WP_seq ?_
  refine WP_region ?_
  refine S_v E rfl (R_assign E rfl) rfl ?_
  clear E a; intro a E
  refine WL_nil ?_
  refine T_n ?_
  refine WP_seq ?_
  refine WP_region ?_
  refine S_v E rfl (R_move E rfl) rfl ?_
  clear E a; intro a E
  refine S_v E rfl (R_loadGM E rfl (Tryz.isAgg53 _) (Tryz.sizeOf53 _) S.imm hb_1) rfl ?_
  clear E a; intro a E
  refine S_x (X_pu E S rfl rfl rfl (spec_keys h0 (by omega) (by first | assumption | exact (fun x hx => by rcases List.mem_append.1 hx with h | h; exact hr0 x h; exact hr1 x h)) (by (first | omega | (simp; omega) | (simp; done) | (simp_all; omega) | grind))) (Hp.le.refl _) ?_)
  clear E a S; rintro a v_4 w M_3 hM_3 hv_4 S E
  replace h0 := h0.le hM_3
  replace hb_1 := hM_3.2 _ _ hb_1
  replace hv_4 : RdI M_3 v_4 l0 := by rw [hid] at hv_4; exact hv_4
  refine S_v E rfl (R_assign E rfl) rfl ?_
  clear E a; intro a E
  refine WL_nil ?_
  refine T_n ?_
  refine WP_seq ?_
  refine WP_seq ?_
  refine WP_region ?_
  refine S_v E rfl (R_move E rfl) rfl ?_
  clear E a; intro a E
  refine S_v E rfl (R_lenV E rfl T22 h0.len) rfl ?_
  clear E a; intro a E
  refine S_v E rfl (R_move E rfl) rfl ?_
  clear E a; intro a E
  refine WL_nil ?_
  refine T_n ?_
  refine WP_block ?_
  replace S := (S.ownNil (e := 3) (sz := 1)).made0
  replace S := S.re1 (l' := (keyL (l0.take 0)).filter (fun x => decide (1 < l0.count x))) (by first | (simp [keyL]; done) | exact dq_yes (by assumption) (by omega) (by assumption) | exact dq_old (by assumption) (by assumption) | exact dq_few (by assumption) (by omega))
  refine WP_loop (γ := Nat) (fun (k : Nat) a w => ∃ (M_6 : Hp) (u5 : Value), Hp.le M_3 M_6 ∧ St w M_6 (OwnI 3 u5 ((keyL (l0.take k)).filter (fun x => decide (1 < l0.count x))) :: H) ∧ Env a 42 [] [(5, u5), (6, v_4), (12, v0), (13, .int .i64 (((l0).length : Nat) : Int)), (14, .int .i64 ((k : Nat) : Int))] ∧ (k ≤ (l0).length)) (fun k => ((l0).length) - k) 0 ⟨M_3, _, Hp.le.refl _, S, E.keep ⟨rfl, rfl, rfl, rfl, rfl, trivial⟩, by ((try clear S); (try clear E); first | assumption | omega | rfl | (simp; done) | (simp_all; done) | (simp [List.take_add_one, *]; done) | grind [List.take_add_one])⟩ ?_
  try clear E
  try clear S
  try clear a
  try clear w
  rintro k a w ⟨M_6, u5, hM_6, S, E, hL0_0⟩
  replace h0 := h0.le hM_6
  replace hb_1 := hM_6.2 _ _ hb_1
  replace hv_4 := hv_4.le hM_6
  have hkt := Nat.le_trans (List.length_filter_le (fun x => decide (1 < l0.count x)) (keyL (l0.take k))) (keyL_le' (l0.take k)); rw [List.length_take] at hkt
  refine WP_seq ?_
  refine WP_region ?_
  refine S_v E rfl (R_lss E rfl rfl) rfl ?_
  clear E a; intro a E
  refine WL_nil ?_
  refine T_n ?_
  refine WP_seq ?_
  refine WP_cond E rfl (fun hc_7 => ?_) (fun hc_7 => ?_)
  · replace hc_7 := of_decide_eq_true hc_7
    refine WP_skip ?_
    refine T_n ?_
    refine WP_seq ?_
    refine WP_block ?_
    refine WP_seq ?_
    refine WP_region ?_
    refine S_v E rfl (R_move E rfl) rfl ?_
    clear E a; intro a E
    obtain ⟨x_8, hx_8⟩ : ∃ x, (l0)[k]? = some x := ⟨_, List.getElem?_eq_getElem (by first | omega | (simp; done) | (simp; omega) | (simp_all; omega))⟩
    obtain ⟨p_9, hp_9, qp_9⟩ := h0.at hx_8
    refine S_v E rfl (R_idx E rfl rfl T22 hp_9 rfl) rfl ?_
    clear E a; intro a E
    refine S_v E rfl (R_loadM E rfl Tryz.isAgg3 S.imm qp_9) rfl ?_
    clear E a; intro a E
    refine S_v E rfl (R_assign E rfl) rfl ?_
    clear E a; intro a E
    refine S_v E rfl (R_assign E rfl) rfl ?_
    clear E a; intro a E
    refine WL_nil ?_
    refine T_n ?_
    refine WP_seq ?_
    refine WP_region ?_
    refine S_v E rfl (R_move E rfl) rfl ?_
    clear E a; intro a E
    refine S_v E rfl (R_move E rfl) rfl ?_
    clear E a; intro a E
    refine S_v E rfl (R_move E rfl) rfl ?_
    clear E a; intro a E
    obtain ⟨p_10, hp_10, qp_10⟩ := hv_4.at hx_8
    refine S_v E rfl (R_idx E rfl rfl T22 hp_10 rfl) rfl ?_
    clear E a; intro a E
    refine S_v E rfl (R_loadM E rfl Tryz.isAgg3 S.imm qp_10) rfl ?_
    clear E a; intro a E
    refine S_x (X_pu E S rfl rfl rfl (spec_Count hv_4) (Hp.le.refl _) ?_)
    clear E a S; rintro a _ w M_11 hM_11 rfl S E
    replace h0 := h0.le hM_11
    replace hb_1 := hM_11.2 _ _ hb_1
    replace hv_4 := hv_4.le hM_11
    refine S_v E rfl (R_gtr E rfl rfl) rfl ?_
    clear E a; intro a E
    refine S_v E rfl (R_move E rfl) rfl ?_
    clear E a; intro a E
    refine split_bool (decide (1 < (((l0).count x_8 : Nat) : Int))) (fun hc_12 => ?_) (fun hc_12 => ?_)
    · replace E := E.val (t := 25) rfl hc_12
      replace E := E.val (t := 26) rfl hc_12
      replace hc_12 := of_decide_eq_true hc_12
      refine WL_guard_yes E rfl rfl ?_
      refine S_v E rfl (R_move E rfl) rfl ?_
      clear E a; intro a E
      refine WL_guard_yes E rfl rfl ?_
      refine S_v E rfl (R_move E rfl) rfl ?_
      clear E a; intro a E
      refine WL_guard_yes E rfl rfl ?_
      refine S_v E rfl (R_move E rfl) rfl ?_
      clear E a; intro a E
      obtain ⟨p_13, hp_13, qp_13⟩ := hv_4.at hx_8
      refine WL_guard_yes E rfl rfl ?_
      refine S_v E rfl (R_idx E rfl rfl T22 hp_13 rfl) rfl ?_
      clear E a; intro a E
      refine WL_guard_yes E rfl rfl ?_
      refine S_v E rfl (R_loadM E rfl Tryz.isAgg3 S.imm qp_13) rfl ?_
      clear E a; intro a E
      refine WL_guard_yes E rfl rfl ?_
      refine S_x (X_pu E S rfl rfl rfl (spec_IndexOf hv_4) (Hp.le.refl _) ?_)
      clear E a S; rintro a _ w M_14 hM_14 rfl S E
      replace h0 := h0.le hM_14
      replace hb_1 := hM_14.2 _ _ hb_1
      replace hv_4 := hv_4.le hM_14
      refine WL_guard_yes E rfl rfl ?_
      refine S_v E rfl (R_move E rfl) rfl ?_
      clear E a; intro a E
      refine WL_guard_yes E rfl rfl ?_
      refine S_v E rfl (R_eql E rfl rfl) rfl ?_
      clear E a; intro a E
      refine S_v E rfl (R_pickT E rfl rfl) rfl ?_
      clear E a; intro a E
      refine WL_nil ?_
      refine T_n ?_
      refine WP_cond E rfl (fun hc_15 => ?_) (fun hc_15 => ?_)
      · replace hc_15 := of_decide_eq_true hc_15
        refine WP_region ?_
        refine S_v E rfl (R_move E rfl) rfl ?_
        clear E a; intro a E
        refine S_v E rfl (R_move E rfl) rfl ?_
        clear E a; intro a E
        refine S_x (X_buildI (ys := [x_8]) E S rfl T22 rfl rfl rfl ?_)
        clear E a S; rintro a w v_16 E S
        replace S := S.front1
        replace S := S.front1
        refine S_x (X_appendB (xs := (keyL (l0.take k)).filter (fun x => decide (1 < l0.count x))) (ys := [x_8]) E S rfl rfl rfl T22 (by (simp only [List.length_cons, List.length_nil] at *; omega)) ?_)
        clear E a S; rintro a w v_17 E S
        refine S_v E rfl (R_assign E rfl) rfl ?_
        clear E a; intro a E
        refine WL_nil ?_
        refine B_n ?_
        refine T_n ?_
        refine WP_region ?_
        refine S_v E rfl (R_addx (m := ((k + 1 : Nat) : Int)) E rfl rfl (by omega) (by omega)) rfl ?_
        clear E a; intro a E
        refine S_v E rfl (R_move E rfl) rfl ?_
        clear E a; intro a E
        refine WL_nil ?_
        refine T_n ?_
        replace S := S.re1 (l' := (keyL (l0.take (k + 1))).filter (fun x => decide (1 < l0.count x))) (by first | (simp [keyL]; done) | exact dq_yes (by assumption) (by omega) (by assumption) | exact dq_old (by assumption) (by assumption) | exact dq_few (by assumption) (by omega))
        exact ⟨k + 1, ⟨M_14, _, (hM_6.trans (hM_11.trans hM_14)), S, E.keep ⟨rfl, rfl, rfl, rfl, rfl, trivial⟩, by ((try clear S); (try clear E); first | assumption | omega | rfl | (simp; done) | (simp_all; done) | (simp [List.take_add_one, *]; done) | grind [List.take_add_one])⟩, by omega⟩
      · replace hc_15 := of_decide_eq_false hc_15
        refine WP_skip ?_
        refine B_n ?_
        refine T_n ?_
        refine WP_region ?_
        refine S_v E rfl (R_addx (m := ((k + 1 : Nat) : Int)) E rfl rfl (by omega) (by omega)) rfl ?_
        clear E a; intro a E
        refine S_v E rfl (R_move E rfl) rfl ?_
        clear E a; intro a E
        refine WL_nil ?_
        refine T_n ?_
        replace S := S.re1 (l' := (keyL (l0.take (k + 1))).filter (fun x => decide (1 < l0.count x))) (by first | (simp [keyL]; done) | exact dq_yes (by assumption) (by omega) (by assumption) | exact dq_old (by assumption) (by assumption) | exact dq_few (by assumption) (by omega))
        exact ⟨k + 1, ⟨M_14, _, (hM_6.trans (hM_11.trans hM_14)), S, E.keep ⟨rfl, rfl, rfl, rfl, rfl, trivial⟩, by ((try clear S); (try clear E); first | assumption | omega | rfl | (simp; done) | (simp_all; done) | (simp [List.take_add_one, *]; done) | grind [List.take_add_one])⟩, by omega⟩
    · replace E := E.val (t := 25) rfl hc_12
      replace E := E.val (t := 26) rfl hc_12
      replace hc_12 := of_decide_eq_false hc_12
      refine WL_guard_no E rfl rfl rfl rfl fun a E => ?_
      refine WL_guard_no E rfl rfl rfl rfl fun a E => ?_
      refine WL_guard_no E rfl rfl rfl rfl fun a E => ?_
      refine WL_guard_no E rfl rfl rfl rfl fun a E => ?_
      refine WL_guard_no E rfl rfl rfl rfl fun a E => ?_
      refine WL_guard_no E rfl rfl rfl rfl fun a E => ?_
      refine WL_guard_no E rfl rfl rfl rfl fun a E => ?_
      refine WL_guard_no E rfl rfl rfl rfl fun a E => ?_
      refine S_v E rfl (R_pickF E rfl rfl) rfl ?_
      clear E a; intro a E
      refine WL_nil ?_
      refine T_n ?_
      refine WP_condF E rfl rfl ?_
      refine WP_skip ?_
      refine B_n ?_
      refine T_n ?_
      refine WP_region ?_
      refine S_v E rfl (R_addx (m := ((k + 1 : Nat) : Int)) E rfl rfl (by omega) (by omega)) rfl ?_
      clear E a; intro a E
      refine S_v E rfl (R_move E rfl) rfl ?_
      clear E a; intro a E
      refine WL_nil ?_
      refine T_n ?_
      replace S := S.re1 (l' := (keyL (l0.take (k + 1))).filter (fun x => decide (1 < l0.count x))) (by first | (simp [keyL]; done) | exact dq_yes (by assumption) (by omega) (by assumption) | exact dq_old (by assumption) (by assumption) | exact dq_few (by assumption) (by omega))
      exact ⟨k + 1, ⟨M_11, _, (hM_6.trans hM_11), S, E.keep ⟨rfl, rfl, rfl, rfl, rfl, trivial⟩, by ((try clear S); (try clear E); first | assumption | omega | rfl | (simp; done) | (simp_all; done) | (simp [List.take_add_one, *]; done) | grind [List.take_add_one])⟩, by omega⟩
  · replace hc_7 := of_decide_eq_false hc_7
    refine WP_exit ?_
    refine T_x ?_
    refine T_x ?_
    refine B_x ?_
    refine T_n ?_
    refine WP_seq ?_
    refine WP_region ?_
    refine S_v E rfl (R_move E rfl) rfl ?_
    clear E a; intro a E
    refine S_v E rfl (R_assign E rfl) rfl ?_
    clear E a; intro a E
    refine WL_nil ?_
    refine T_n ?_
    refine WP_ret ?_
    have S0 := S; clear S
    obtain ⟨M_18, hM_18, hz_19, S⟩ := S0.freezeI (by (have hkt := Nat.le_trans (List.length_filter_le (fun x => decide (1 < l0.count x)) (keyL (l0.take k))) (keyL_le' (l0.take k)); rw [List.length_take] at hkt; omega))
    clear S0
    replace h0 := h0.le hM_18
    replace hb_1 := hM_18.2 _ _ hb_1
    replace hv_4 := hv_4.le hM_18
    exact F_ret1 E Tryz.results48 rfl ⟨_, rfl, M_18, (hM_2.trans (hM_3.trans (hM_6.trans hM_18))), (by rw [show ((keyL l0).filter (fun x => decide (1 < (l0).count x))) = ((keyL (l0.take k)).filter (fun x => decide (1 < l0.count x))) from by (rw [List.take_of_length_le (by omega)])]; exact hz_19), S⟩

set_option maxRecDepth 100000 in
set_option maxHeartbeats 4000000 in
theorem spec_FindDuplicates {M : Hp} {v0 : Value} {l0 : List Int} (h0 : RdI M v0 l0) (hr0 : (∀ x ∈ l0, -9223372036854775808 ≤ x ∧ x ≤ 9223372036854775807)) (hb : l0.length ≤ 1000000000000) :
    Pu Tryz.prog (.func (.func 13) #[] #[]) M [v0] (fun r M' => RdI M' r ((keyL l0).filter (fun x => decide (1 < (l0).count x)))) := by
  refine Pu_enter Tryz.func13 rfl Tryz.ntmps13 rfl Tryz.call13 ?_
  intro a w M1 H hM1 S E
  replace h0 := h0.le hM1
  have b0 := h0.bound
  refine WP_seq ?_
  refine WP_region ?_
  refine S_v E rfl (R_assign E rfl) rfl ?_
  clear E a; intro a E
  refine WL_nil ?_
  refine T_n ?_
  refine WP_seq ?_
  refine WP_region ?_
  refine S_v E rfl (R_move E rfl) rfl ?_
  clear E a; intro a E
  refine S_x (X_pu E S rfl rfl rfl (spec_same ) (Hp.le.refl _) ?_)
  clear E a S; rintro a _ w M_1 hM_1 rfl S E
  replace h0 := h0.le hM_1
  refine S_x (X_pu E S rfl rfl rfl (spec_FindDuplicatesBy h0 (by omega) (by first | assumption | exact (fun x hx => by rcases List.mem_append.1 hx with h | h; exact hr0 x h; exact hr1 x h)) (by (first | omega | (simp; omega) | (simp; done) | (simp_all; omega) | grind)) (by first | assumption | exact map_key5 _ _)) (Hp.le.refl _) ?_)
  clear E a S; rintro a v_3 w M_2 hM_2 hv_3 S E
  replace h0 := h0.le hM_2
  refine S_v E rfl (R_assign E rfl) rfl ?_
  clear E a; intro a E
  refine WL_nil ?_
  refine T_n ?_
  refine WP_ret ?_
  exact F_ret1 E Tryz.results13 rfl ⟨_, rfl, M_2, (hM_1.trans hM_2), hv_3, S⟩

set_option maxRecDepth 100000 in
set_option maxHeartbeats 4000000 in
theorem spec_Sorted {M : Hp} {v0 : Value} {l0 : List Int} (h0 : RdI M v0 l0) (hb : l0.length ≤ 1000000000000) :
    Pu Tryz.prog (.func (.func 50) #[] #[]) M [v0] (fun r M' => RdI M' r (sortI l0)) := by
  refine Pu_enter Tryz.func50 rfl Tryz.ntmps50 rfl Tryz.call50 ?_
  intro a w M1 H hM1 S E
  replace h0 := h0.le hM1
  have b0 := h0.bound
  refine WP_seq ?_
  refine WP_region ?_
  refine S_v E rfl (R_assign E rfl) rfl ?_
  clear E a; intro a E
  refine WL_nil ?_
  refine T_n ?_
  refine WP_seq ?_
  refine WP_region ?_
  refine S_v E rfl (R_assign E rfl) rfl ?_
  clear E a; intro a E
  refine WL_nil ?_
  refine T_n ?_
  refine WP_seq ?_
  refine WP_seq ?_
  refine WP_region ?_
  refine S_v E rfl (R_move E rfl) rfl ?_
  clear E a; intro a E
  refine S_v E rfl (R_lenV E rfl T22 h0.len) rfl ?_
  clear E a; intro a E
  refine S_v E rfl (R_move E rfl) rfl ?_
  clear E a; intro a E
  refine WL_nil ?_
  refine T_n ?_
  refine WP_block ?_
  replace S := (S.ownNil (e := 3) (sz := 1)).made0
  replace S := S.re1 (l' := sortI (l0.take 0)) (by first | (simp [sortI]; done) | (rw [sortI_take (by assumption), ← ins_at (j := j) (by omega) (by intro y hy; have h9 := hL1_1 y hy; rw [show l0[k]? = some _ by assumption] at h9; exact h9) (by first | (left; omega) | (right; exact ⟨_, by assumption, by assumption⟩))]; done) | (rw [sortI_take (by assumption), ← ins_at (j := j) (by omega) (by intro y hy; have h9 := hL1_1 y hy; rw [show l0[k]? = some _ by assumption] at h9; exact h9) (by first | (left; omega) | (right; exact ⟨_, by assumption, by assumption⟩))]; simp; done))
  refine WP_loop (γ := Nat) (fun (k : Nat) a w => ∃ (M_2 : Hp) (u3 : Value), Hp.le M1 M_2 ∧ St w M_2 (OwnI 3 u3 (sortI (l0.take k)) :: H) ∧ Env a 41 [] [(3, u3), (7, v0), (8, .int .i64 (((l0).length : Nat) : Int)), (9, .int .i64 ((k : Nat) : Int))] ∧ (k ≤ (l0).length)) (fun k => ((l0).length) - k) 0 ⟨M1, _, Hp.le.refl _, S, E.keep ⟨rfl, rfl, rfl, rfl, trivial⟩, by ((try clear S); (try clear E); first | assumption | omega | rfl | (simp; done) | (simp_all; done) | (simp [List.take_add_one, *]; done) | grind [List.take_add_one])⟩ ?_
  try clear E
  try clear S
  try clear a
  try clear w
  rintro k a w ⟨M_2, u3, hM_2, S, E, hL0_0⟩
  replace h0 := h0.le hM_2
  have hsl := sortI_len (l0.take k); simp only [List.length_take] at hsl
  refine WP_seq ?_
  refine WP_region ?_
  refine S_v E rfl (R_lss E rfl rfl) rfl ?_
  clear E a; intro a E
  refine WL_nil ?_
  refine T_n ?_
  refine WP_seq ?_
  refine WP_cond E rfl (fun hc_3 => ?_) (fun hc_3 => ?_)
  · replace hc_3 := of_decide_eq_true hc_3
    refine WP_skip ?_
    refine T_n ?_
    refine WP_seq ?_
    refine WP_block ?_
    refine WP_seq ?_
    refine WP_region ?_
    obtain ⟨x_4, hx_4⟩ : ∃ x, (l0)[k]? = some x := ⟨_, List.getElem?_eq_getElem (by first | omega | (simp; done) | (simp; omega) | (simp_all; omega))⟩
    obtain ⟨p_5, hp_5, qp_5⟩ := h0.at hx_4
    refine S_v E rfl (R_idx E rfl rfl T22 hp_5 rfl) rfl ?_
    clear E a; intro a E
    refine S_v E rfl (R_loadM E rfl Tryz.isAgg3 S.imm qp_5) rfl ?_
    clear E a; intro a E
    refine S_v E rfl (R_assign E rfl) rfl ?_
    clear E a; intro a E
    refine WL_nil ?_
    refine T_n ?_
    refine WP_seq ?_
    refine WP_region ?_
    refine S_v E rfl (R_assign E rfl) rfl ?_
    clear E a; intro a E
    refine WL_nil ?_
    refine T_n ?_
    refine WP_seq ?_
    refine WP_block ?_
    refine WP_loop (γ := Nat) (fun (j : Nat) a w => ∃ (M_6 : Hp), Hp.le M_2 M_6 ∧ St w M_6 (OwnI 3 u3 (sortI (l0.take k)) :: H) ∧ Env a 41 [] [(3, u3), (5, .int .i64 x_4), (6, .int .i64 ((j : Nat) : Int)), (7, v0), (8, .int .i64 (((l0).length : Nat) : Int)), (9, .int .i64 ((k : Nat) : Int))] ∧ (j ≤ (sortI (l0.take k)).length) ∧ (∀ y ∈ (sortI (l0.take k)).take j, y ≤ (l0[k]?.getD 0))) (fun j => (sortI (l0.take k)).length - j) 0 ⟨M_2, Hp.le.refl _, S, E.keep ⟨rfl, rfl, rfl, rfl, rfl, rfl, trivial⟩, (by omega), (by simp)⟩ ?_
    try clear E
    try clear S
    try clear a
    try clear w
    rintro j a w ⟨M_6, hM_6, S, E, hL1_0, hL1_1⟩
    replace h0 := h0.le hM_6
    refine WP_seq ?_
    refine WP_seq ?_
    refine WP_region ?_
    refine S_v E rfl (R_move E rfl) rfl ?_
    clear E a; intro a E
    refine S_v E rfl (R_move E rfl) rfl ?_
    clear E a; intro a E
    refine S_v E rfl (R_lenV E rfl T22 S.lenC) rfl ?_
    clear E a; intro a E
    refine S_v E rfl (R_lss E rfl rfl) rfl ?_
    clear E a; intro a E
    refine S_v E rfl (R_move E rfl) rfl ?_
    clear E a; intro a E
    refine split_bool (decide (((j : Nat) : Int) < (((sortI (l0.take k)).length : Nat) : Int))) (fun hc_7 => ?_) (fun hc_7 => ?_)
    · replace E := E.val (t := 16) rfl hc_7
      replace E := E.val (t := 17) rfl hc_7
      replace hc_7 := of_decide_eq_true hc_7
      refine WL_guard_yes E rfl rfl ?_
      refine S_v E rfl (R_move E rfl) rfl ?_
      clear E a; intro a E
      refine WL_guard_yes E rfl rfl ?_
      refine S_v E rfl (R_move E rfl) rfl ?_
      clear E a; intro a E
      obtain ⟨p_8, hp_8⟩ := S.ptrC (k := j) (by first | omega | (simp; done) | (simp; omega) | (simp_all; omega))
      refine WL_guard_yes E rfl rfl ?_
      refine S_v E rfl (R_idx E rfl rfl T22 hp_8 rfl) rfl ?_
      clear E a; intro a E
      obtain ⟨x_9, hx_9⟩ : ∃ x, (sortI (l0.take k))[j]? = some x := ⟨_, List.getElem?_eq_getElem (by first | omega | (simp; done) | (simp; omega) | (simp_all; omega))⟩
      refine WL_guard_yes E rfl rfl ?_
      refine S_v E rfl (R_load E rfl (Tryz.isAgg3 _) (S.cellI hp_8 hx_9)) rfl ?_
      clear E a; intro a E
      refine WL_guard_yes E rfl rfl ?_
      refine S_v E rfl (R_move E rfl) rfl ?_
      clear E a; intro a E
      refine WL_guard_yes E rfl rfl ?_
      refine S_v E rfl (R_leq E rfl rfl) rfl ?_
      clear E a; intro a E
      refine S_v E rfl (R_pickT E rfl rfl) rfl ?_
      clear E a; intro a E
      refine WL_nil ?_
      refine T_n ?_
      refine WP_cond E rfl (fun hc_10 => ?_) (fun hc_10 => ?_)
      · replace hc_10 := of_decide_eq_true hc_10
        refine WP_skip ?_
        refine T_n ?_
        refine WP_block ?_
        refine WP_region ?_
        refine S_v E rfl (R_move E rfl) rfl ?_
        clear E a; intro a E
        refine S_v E rfl (R_addx (m := ((j + 1 : Nat) : Int)) E rfl rfl (by omega) (by omega)) rfl ?_
        clear E a; intro a E
        refine S_v E rfl (R_assign E rfl) rfl ?_
        clear E a; intro a E
        refine WL_nil ?_
        refine B_n ?_
        refine T_n ?_
        exact ⟨j + 1, ⟨M_6, hM_6, S, E.keep ⟨rfl, rfl, rfl, rfl, rfl, rfl, trivial⟩, (by omega), (by exact take_all (P := fun y => y ≤ (l0[k]?.getD 0)) hL1_1 (by assumption) (by rw [show l0[k]? = some _ by assumption]; assumption))⟩, by omega⟩
      · replace hc_10 := of_decide_eq_false hc_10
        refine WP_exit ?_
        refine T_x ?_
        refine T_x ?_
        refine B_x ?_
        refine T_n ?_
        refine DG_start Tryz.mixed ?_
        refine DG_split 0 6 (by decide) (by kernel_rfl) ?_ ?_
        · refine DG_split 4 6 (by decide) (by kernel_rfl) ?_ ?_
          · replace S := S.mono_heap (w' := World.drew _) rfl
            refine DG_end (C := fun x w => agree M_6 w) (bf := (fun i => [])) [1, 2, 3, 5, 8, 9, 10, 12] [1, 2, 3, 5, 8, 9, 10, 0, 4, 6, 7, 11, 12] (by kernel_rfl) (fun x hq => S.imm) ?_
            refine D_v E rfl rfl rfl (fun w hC => (R_move E rfl)) ?_
            clear E a; intro a E
            refine D_v E rfl rfl rfl (fun w hC => (R_move E rfl)) ?_
            clear E a; intro a E
            have S0 := S; clear S
            obtain ⟨M_11, hM_11, hz_12, S⟩ := S0.freezeI (by (first | omega | (simp; omega) | (simp; done) | (simp_all; omega) | grind))
            clear S0
            replace h0 := h0.le hM_11
            obtain ⟨v_13, sv_13, hv_13⟩ := hz_12.subv 0 j (by first | omega | (simp; done) | (simp; omega) | (simp_all; omega)) (by first | omega | (simp; done) | (simp; omega) | (simp_all; omega))
            simp only [List.drop_zero] at hv_13
            replace hv_13 : RdI M_11 v_13 ((sortI (l0.take k)).take j) := hv_13
            refine D_v E rfl rfl rfl (fun w hC => (R_sliceH E rfl rfl T22 sv_13 (by omega))) ?_
            clear E a; intro a E
            refine D_v E rfl rfl rfl (fun w hC => (R_move E rfl)) ?_
            clear E a; intro a E
            refine D_v E rfl rfl rfl (fun w hC => (R_move E rfl)) ?_
            clear E a; intro a E
            refine D_v E rfl rfl rfl (fun w hC => (R_move E rfl)) ?_
            clear E a; intro a E
            obtain ⟨v_14, sv_14, hv_14⟩ := hz_12.subv j ((sortI (l0.take k)).length) (by first | omega | (simp; done) | (simp; omega) | (simp_all; omega)) (by first | omega | (simp; done) | (simp; omega) | (simp_all; omega))
            simp only [List.take_length] at hv_14
            replace hv_14 : RdI M_11 v_14 ((sortI (l0.take k)).drop j) := hv_14
            refine D_v E rfl rfl rfl (fun w hC => (R_sliceL E rfl rfl T22 hz_12.len sv_14 (by omega))) ?_
            clear E a; intro a E
            refine D_x rfl rfl rfl (X_buildI (ys := []) E S rfl T22 rfl rfl rfl ?_)
            clear E a S; rintro a w v_15 E S
            refine ⟨fun x hq hb => (agree_le hM_11 S.imm), ?_⟩
            refine D_x rfl rfl rfl (X_appendI (xs := ([] : List Int)) E S rfl rfl rfl T22 hv_13 (by first | omega | (simp; done) | (simp; omega) | (simp_all; omega)) ?_)
            clear E a S; rintro a w v_16 E S
            refine ⟨fun x hq hb => (agree_le hM_11 S.imm), ?_⟩
            refine D_x rfl rfl rfl (X_buildI (ys := [x_4]) E S rfl T22 rfl rfl rfl ?_)
            clear E a S; rintro a w v_17 E S
            refine ⟨fun x hq hb => (agree_le hM_11 S.imm), ?_⟩
            replace S := S.front1
            replace S := S.front1
            refine D_x rfl rfl rfl (X_appendB (xs := [] ++ ((sortI (l0.take k)).take j)) (ys := [x_4]) E S rfl rfl rfl T22 (by first | omega | (simp; done) | (simp; omega) | (simp_all; omega)) ?_)
            clear E a S; rintro a w v_18 E S
            refine ⟨fun x hq hb => (agree_le hM_11 S.imm), ?_⟩
            refine D_x rfl rfl rfl (X_appendI (xs := ([] ++ ((sortI (l0.take k)).take j)) ++ [x_4]) E S rfl rfl rfl T22 hv_14 (by first | omega | (simp; done) | (simp; omega) | (simp_all; omega)) ?_)
            clear E a S; rintro a w v_19 E S
            refine ⟨fun x hq hb => (agree_le hM_11 S.imm), ?_⟩
            refine D_v E rfl rfl rfl (fun w hC => (R_assign E rfl)) ?_
            clear E a; intro a E
            refine D_end (NoP_n ?_)
            refine B_n ?_
            refine T_n ?_
            refine WP_region ?_
            refine S_v E rfl (R_addx (m := ((k + 1 : Nat) : Int)) E rfl rfl (by omega) (by omega)) rfl ?_
            clear E a; intro a E
            refine S_v E rfl (R_move E rfl) rfl ?_
            clear E a; intro a E
            refine WL_nil ?_
            refine T_n ?_
            replace S := S.re1 (l' := sortI (l0.take (k + 1))) (by first | (simp [sortI]; done) | (rw [sortI_take (by assumption), ← ins_at (j := j) (by omega) (by intro y hy; have h9 := hL1_1 y hy; rw [show l0[k]? = some _ by assumption] at h9; exact h9) (by first | (left; omega) | (right; exact ⟨_, by assumption, by assumption⟩))]; done) | (rw [sortI_take (by assumption), ← ins_at (j := j) (by omega) (by intro y hy; have h9 := hL1_1 y hy; rw [show l0[k]? = some _ by assumption] at h9; exact h9) (by first | (left; omega) | (right; exact ⟨_, by assumption, by assumption⟩))]; simp; done))
            exact ⟨k + 1, ⟨M_11, _, (hM_2.trans (hM_6.trans hM_11)), S, E.keep ⟨rfl, rfl, rfl, rfl, trivial⟩, by ((try clear S); (try clear E); first | assumption | omega | rfl | (simp; done) | (simp_all; done) | (simp [List.take_add_one, *]; done) | grind [List.take_add_one])⟩, by omega⟩
          · replace S := S.mono_heap (w' := World.drew _) rfl
            refine DG_end (C := fun x w => agree M_6 w) (bf := (fun i => [])) [1, 2, 3, 5, 8, 9, 10, 12] [1, 2, 3, 5, 8, 9, 10, 0, 6, 4, 7, 11, 12] (by kernel_rfl) (fun x hq => S.imm) ?_
            refine D_v E rfl rfl rfl (fun w hC => (R_move E rfl)) ?_
            clear E a; intro a E
            refine D_v E rfl rfl rfl (fun w hC => (R_move E rfl)) ?_
            clear E a; intro a E
            have S0 := S; clear S
            obtain ⟨M_20, hM_20, hz_21, S⟩ := S0.freezeI (by (first | omega | (simp; omega) | (simp; done) | (simp_all; omega) | grind))
            clear S0
            replace h0 := h0.le hM_20
            obtain ⟨v_22, sv_22, hv_22⟩ := hz_21.subv 0 j (by first | omega | (simp; done) | (simp; omega) | (simp_all; omega)) (by first | omega | (simp; done) | (simp; omega) | (simp_all; omega))
            simp only [List.drop_zero] at hv_22
            replace hv_22 : RdI M_20 v_22 ((sortI (l0.take k)).take j) := hv_22
            refine D_v E rfl rfl rfl (fun w hC => (R_sliceH E rfl rfl T22 sv_22 (by omega))) ?_
            clear E a; intro a E
            refine D_v E rfl rfl rfl (fun w hC => (R_move E rfl)) ?_
            clear E a; intro a E
            refine D_v E rfl rfl rfl (fun w hC => (R_move E rfl)) ?_
            clear E a; intro a E
            refine D_v E rfl rfl rfl (fun w hC => (R_move E rfl)) ?_
            clear E a; intro a E
            obtain ⟨v_23, sv_23, hv_23⟩ := hz_21.subv j ((sortI (l0.take k)).length) (by first | omega | (simp; done) | (simp; omega) | (simp_all; omega)) (by first | omega | (simp; done) | (simp; omega) | (simp_all; omega))
            simp only [List.take_length] at hv_23
            replace hv_23 : RdI M_20 v_23 ((sortI (l0.take k)).drop j) := hv_23
            refine D_v E rfl rfl rfl (fun w hC => (R_sliceL E rfl rfl T22 hz_21.len sv_23 (by omega))) ?_
            clear E a; intro a E
            refine D_x rfl rfl rfl (X_buildI (ys := []) E S rfl T22 rfl rfl rfl ?_)
            clear E a S; rintro a w v_24 E S
            refine ⟨fun x hq hb => (agree_le hM_20 S.imm), ?_⟩
            refine D_x rfl rfl rfl (X_buildI (ys := [x_4]) E S rfl T22 rfl rfl rfl ?_)
            clear E a S; rintro a w v_25 E S
            refine ⟨fun x hq hb => (agree_le hM_20 S.imm), ?_⟩
            replace S := S.front1
            refine D_x rfl rfl rfl (X_appendI (xs := ([] : List Int)) E S rfl rfl rfl T22 hv_22 (by first | omega | (simp; done) | (simp; omega) | (simp_all; omega)) ?_)
            clear E a S; rintro a w v_26 E S
            refine ⟨fun x hq hb => (agree_le hM_20 S.imm), ?_⟩
            replace S := S.front1
            refine D_x rfl rfl rfl (X_appendB (xs := [] ++ ((sortI (l0.take k)).take j)) (ys := [x_4]) E S rfl rfl rfl T22 (by first | omega | (simp; done) | (simp; omega) | (simp_all; omega)) ?_)
            clear E a S; rintro a w v_27 E S
            refine ⟨fun x hq hb => (agree_le hM_20 S.imm), ?_⟩
            refine D_x rfl rfl rfl (X_appendI (xs := ([] ++ ((sortI (l0.take k)).take j)) ++ [x_4]) E S rfl rfl rfl T22 hv_23 (by first | omega | (simp; done) | (simp; omega) | (simp_all; omega)) ?_)
            clear E a S; rintro a w v_28 E S
            refine ⟨fun x hq hb => (agree_le hM_20 S.imm), ?_⟩
            refine D_v E rfl rfl rfl (fun w hC => (R_assign E rfl)) ?_
            clear E a; intro a E
            refine D_end (NoP_n ?_)
            refine B_n ?_
            refine T_n ?_
            refine WP_region ?_
            refine S_v E rfl (R_addx (m := ((k + 1 : Nat) : Int)) E rfl rfl (by omega) (by omega)) rfl ?_
            clear E a; intro a E
            refine S_v E rfl (R_move E rfl) rfl ?_
            clear E a; intro a E
            refine WL_nil ?_
            refine T_n ?_
            replace S := S.re1 (l' := sortI (l0.take (k + 1))) (by first | (simp [sortI]; done) | (rw [sortI_take (by assumption), ← ins_at (j := j) (by omega) (by intro y hy; have h9 := hL1_1 y hy; rw [show l0[k]? = some _ by assumption] at h9; exact h9) (by first | (left; omega) | (right; exact ⟨_, by assumption, by assumption⟩))]; done) | (rw [sortI_take (by assumption), ← ins_at (j := j) (by omega) (by intro y hy; have h9 := hL1_1 y hy; rw [show l0[k]? = some _ by assumption] at h9; exact h9) (by first | (left; omega) | (right; exact ⟨_, by assumption, by assumption⟩))]; simp; done))
            exact ⟨k + 1, ⟨M_20, _, (hM_2.trans (hM_6.trans hM_20)), S, E.keep ⟨rfl, rfl, rfl, rfl, trivial⟩, by ((try clear S); (try clear E); first | assumption | omega | rfl | (simp; done) | (simp_all; done) | (simp [List.take_add_one, *]; done) | grind [List.take_add_one])⟩, by omega⟩
        · replace S := S.mono_heap (w' := World.drew _) rfl
          refine DG_end (C := fun x w => agree M_6 w) (bf := (fun i => [])) [1, 2, 3, 5, 8, 9, 10, 12] [1, 2, 3, 5, 8, 9, 10, 6, 0, 4, 7, 11, 12] (by kernel_rfl) (fun x hq => S.imm) ?_
          refine D_v E rfl rfl rfl (fun w hC => (R_move E rfl)) ?_
          clear E a; intro a E
          refine D_v E rfl rfl rfl (fun w hC => (R_move E rfl)) ?_
          clear E a; intro a E
          have S0 := S; clear S
          obtain ⟨M_29, hM_29, hz_30, S⟩ := S0.freezeI (by (first | omega | (simp; omega) | (simp; done) | (simp_all; omega) | grind))
          clear S0
          replace h0 := h0.le hM_29
          obtain ⟨v_31, sv_31, hv_31⟩ := hz_30.subv 0 j (by first | omega | (simp; done) | (simp; omega) | (simp_all; omega)) (by first | omega | (simp; done) | (simp; omega) | (simp_all; omega))
          simp only [List.drop_zero] at hv_31
          replace hv_31 : RdI M_29 v_31 ((sortI (l0.take k)).take j) := hv_31
          refine D_v E rfl rfl rfl (fun w hC => (R_sliceH E rfl rfl T22 sv_31 (by omega))) ?_
          clear E a; intro a E
          refine D_v E rfl rfl rfl (fun w hC => (R_move E rfl)) ?_
          clear E a; intro a E
          refine D_v E rfl rfl rfl (fun w hC => (R_move E rfl)) ?_
          clear E a; intro a E
          refine D_v E rfl rfl rfl (fun w hC => (R_move E rfl)) ?_
          clear E a; intro a E
          obtain ⟨v_32, sv_32, hv_32⟩ := hz_30.subv j ((sortI (l0.take k)).length) (by first | omega | (simp; done) | (simp; omega) | (simp_all; omega)) (by first | omega | (simp; done) | (simp; omega) | (simp_all; omega))
          simp only [List.take_length] at hv_32
          replace hv_32 : RdI M_29 v_32 ((sortI (l0.take k)).drop j) := hv_32
          refine D_v E rfl rfl rfl (fun w hC => (R_sliceL E rfl rfl T22 hz_30.len sv_32 (by omega))) ?_
          clear E a; intro a E
          refine D_x rfl rfl rfl (X_buildI (ys := [x_4]) E S rfl T22 rfl rfl rfl ?_)
          clear E a S; rintro a w v_33 E S
          refine ⟨fun x hq hb => (agree_le hM_29 S.imm), ?_⟩
          refine D_x rfl rfl rfl (X_buildI (ys := []) E S rfl T22 rfl rfl rfl ?_)
          clear E a S; rintro a w v_34 E S
          refine ⟨fun x hq hb => (agree_le hM_29 S.imm), ?_⟩
          refine D_x rfl rfl rfl (X_appendI (xs := ([] : List Int)) E S rfl rfl rfl T22 hv_31 (by first | omega | (simp; done) | (simp; omega) | (simp_all; omega)) ?_)
          clear E a S; rintro a w v_35 E S
          refine ⟨fun x hq hb => (agree_le hM_29 S.imm), ?_⟩
          replace S := S.front1
          refine D_x rfl rfl rfl (X_appendB (xs := [] ++ ((sortI (l0.take k)).take j)) (ys := [x_4]) E S rfl rfl rfl T22 (by first | omega | (simp; done) | (simp; omega) | (simp_all; omega)) ?_)
          clear E a S; rintro a w v_36 E S
          refine ⟨fun x hq hb => (agree_le hM_29 S.imm), ?_⟩
          refine D_x rfl rfl rfl (X_appendI (xs := ([] ++ ((sortI (l0.take k)).take j)) ++ [x_4]) E S rfl rfl rfl T22 hv_32 (by first | omega | (simp; done) | (simp; omega) | (simp_all; omega)) ?_)
          clear E a S; rintro a w v_37 E S
          refine ⟨fun x hq hb => (agree_le hM_29 S.imm), ?_⟩
          refine D_v E rfl rfl rfl (fun w hC => (R_assign E rfl)) ?_
          clear E a; intro a E
          refine D_end (NoP_n ?_)
          refine B_n ?_
          refine T_n ?_
          refine WP_region ?_
          refine S_v E rfl (R_addx (m := ((k + 1 : Nat) : Int)) E rfl rfl (by omega) (by omega)) rfl ?_
          clear E a; intro a E
          refine S_v E rfl (R_move E rfl) rfl ?_
          clear E a; intro a E
          refine WL_nil ?_
          refine T_n ?_
          replace S := S.re1 (l' := sortI (l0.take (k + 1))) (by first | (simp [sortI]; done) | (rw [sortI_take (by assumption), ← ins_at (j := j) (by omega) (by intro y hy; have h9 := hL1_1 y hy; rw [show l0[k]? = some _ by assumption] at h9; exact h9) (by first | (left; omega) | (right; exact ⟨_, by assumption, by assumption⟩))]; done) | (rw [sortI_take (by assumption), ← ins_at (j := j) (by omega) (by intro y hy; have h9 := hL1_1 y hy; rw [show l0[k]? = some _ by assumption] at h9; exact h9) (by first | (left; omega) | (right; exact ⟨_, by assumption, by assumption⟩))]; simp; done))
          exact ⟨k + 1, ⟨M_29, _, (hM_2.trans (hM_6.trans hM_29)), S, E.keep ⟨rfl, rfl, rfl, rfl, trivial⟩, by ((try clear S); (try clear E); first | assumption | omega | rfl | (simp; done) | (simp_all; done) | (simp [List.take_add_one, *]; done) | grind [List.take_add_one])⟩, by omega⟩
    · replace E := E.val (t := 16) rfl hc_7
      replace E := E.val (t := 17) rfl hc_7
      replace hc_7 := of_decide_eq_false hc_7
      refine WL_guard_no E rfl rfl rfl rfl fun a E => ?_
      refine WL_guard_no E rfl rfl rfl rfl fun a E => ?_
      refine WL_guard_no E rfl rfl rfl rfl fun a E => ?_
      refine WL_guard_no E rfl rfl rfl rfl fun a E => ?_
      refine WL_guard_no E rfl rfl rfl rfl fun a E => ?_
      refine WL_guard_no E rfl rfl rfl rfl fun a E => ?_
      refine S_v E rfl (R_pickF E rfl rfl) rfl ?_
      clear E a; intro a E
      refine WL_nil ?_
      refine T_n ?_
      refine WP_condF E rfl rfl ?_
      refine WP_exit ?_
      refine T_x ?_
      refine T_x ?_
      refine B_x ?_
      refine T_n ?_
      refine DG_start Tryz.mixed ?_
      refine DG_split 0 6 (by decide) (by kernel_rfl) ?_ ?_
      · refine DG_split 4 6 (by decide) (by kernel_rfl) ?_ ?_
        · replace S := S.mono_heap (w' := World.drew _) rfl
          refine DG_end (C := fun x w => agree M_6 w) (bf := (fun i => [])) [1, 2, 3, 5, 8, 9, 10, 12] [1, 2, 3, 5, 8, 9, 10, 0, 4, 6, 7, 11, 12] (by kernel_rfl) (fun x hq => S.imm) ?_
          refine D_v E rfl rfl rfl (fun w hC => (R_move E rfl)) ?_
          clear E a; intro a E
          refine D_v E rfl rfl rfl (fun w hC => (R_move E rfl)) ?_
          clear E a; intro a E
          have S0 := S; clear S
          obtain ⟨M_38, hM_38, hz_39, S⟩ := S0.freezeI (by (first | omega | (simp; omega) | (simp; done) | (simp_all; omega) | grind))
          clear S0
          replace h0 := h0.le hM_38
          obtain ⟨v_40, sv_40, hv_40⟩ := hz_39.subv 0 j (by first | omega | (simp; done) | (simp; omega) | (simp_all; omega)) (by first | omega | (simp; done) | (simp; omega) | (simp_all; omega))
          simp only [List.drop_zero] at hv_40
          replace hv_40 : RdI M_38 v_40 ((sortI (l0.take k)).take j) := hv_40
          refine D_v E rfl rfl rfl (fun w hC => (R_sliceH E rfl rfl T22 sv_40 (by omega))) ?_
          clear E a; intro a E
          refine D_v E rfl rfl rfl (fun w hC => (R_move E rfl)) ?_
          clear E a; intro a E
          refine D_v E rfl rfl rfl (fun w hC => (R_move E rfl)) ?_
          clear E a; intro a E
          refine D_v E rfl rfl rfl (fun w hC => (R_move E rfl)) ?_
          clear E a; intro a E
          obtain ⟨v_41, sv_41, hv_41⟩ := hz_39.subv j ((sortI (l0.take k)).length) (by first | omega | (simp; done) | (simp; omega) | (simp_all; omega)) (by first | omega | (simp; done) | (simp; omega) | (simp_all; omega))
          simp only [List.take_length] at hv_41
          replace hv_41 : RdI M_38 v_41 ((sortI (l0.take k)).drop j) := hv_41
          refine D_v E rfl rfl rfl (fun w hC => (R_sliceL E rfl rfl T22 hz_39.len sv_41 (by omega))) ?_
          clear E a; intro a E
          refine D_x rfl rfl rfl (X_buildI (ys := []) E S rfl T22 rfl rfl rfl ?_)
          clear E a S; rintro a w v_42 E S
          refine ⟨fun x hq hb => (agree_le hM_38 S.imm), ?_⟩
          refine D_x rfl rfl rfl (X_appendI (xs := ([] : List Int)) E S rfl rfl rfl T22 hv_40 (by first | omega | (simp; done) | (simp; omega) | (simp_all; omega)) ?_)
          clear E a S; rintro a w v_43 E S
          refine ⟨fun x hq hb => (agree_le hM_38 S.imm), ?_⟩
          refine D_x rfl rfl rfl (X_buildI (ys := [x_4]) E S rfl T22 rfl rfl rfl ?_)
          clear E a S; rintro a w v_44 E S
          refine ⟨fun x hq hb => (agree_le hM_38 S.imm), ?_⟩
          replace S := S.front1
          replace S := S.front1
          refine D_x rfl rfl rfl (X_appendB (xs := [] ++ ((sortI (l0.take k)).take j)) (ys := [x_4]) E S rfl rfl rfl T22 (by first | omega | (simp; done) | (simp; omega) | (simp_all; omega)) ?_)
          clear E a S; rintro a w v_45 E S
          refine ⟨fun x hq hb => (agree_le hM_38 S.imm), ?_⟩
          refine D_x rfl rfl rfl (X_appendI (xs := ([] ++ ((sortI (l0.take k)).take j)) ++ [x_4]) E S rfl rfl rfl T22 hv_41 (by first | omega | (simp; done) | (simp; omega) | (simp_all; omega)) ?_)
          clear E a S; rintro a w v_46 E S
          refine ⟨fun x hq hb => (agree_le hM_38 S.imm), ?_⟩
          refine D_v E rfl rfl rfl (fun w hC => (R_assign E rfl)) ?_
          clear E a; intro a E
          refine D_end (NoP_n ?_)
          refine B_n ?_
          refine T_n ?_
          refine WP_region ?_
          refine S_v E rfl (R_addx (m := ((k + 1 : Nat) : Int)) E rfl rfl (by omega) (by omega)) rfl ?_
          clear E a; intro a E
          refine S_v E rfl (R_move E rfl) rfl ?_
          clear E a; intro a E
          refine WL_nil ?_
          refine T_n ?_
          replace S := S.re1 (l' := sortI (l0.take (k + 1))) (by first | (simp [sortI]; done) | (rw [sortI_take (by assumption), ← ins_at (j := j) (by omega) (by intro y hy; have h9 := hL1_1 y hy; rw [show l0[k]? = some _ by assumption] at h9; exact h9) (by first | (left; omega) | (right; exact ⟨_, by assumption, by assumption⟩))]; done) | (rw [sortI_take (by assumption), ← ins_at (j := j) (by omega) (by intro y hy; have h9 := hL1_1 y hy; rw [show l0[k]? = some _ by assumption] at h9; exact h9) (by first | (left; omega) | (right; exact ⟨_, by assumption, by assumption⟩))]; simp; done))
          exact ⟨k + 1, ⟨M_38, _, (hM_2.trans (hM_6.trans hM_38)), S, E.keep ⟨rfl, rfl, rfl, rfl, trivial⟩, by ((try clear S); (try clear E); first | assumption | omega | rfl | (simp; done) | (simp_all; done) | (simp [List.take_add_one, *]; done) | grind [List.take_add_one])⟩, by omega⟩
        · replace S := S.mono_heap (w' := World.drew _) rfl
          refine DG_end (C := fun x w => agree M_6 w) (bf := (fun i => [])) [1, 2, 3, 5, 8, 9, 10, 12] [1, 2, 3, 5, 8, 9, 10, 0, 6, 4, 7, 11, 12] (by kernel_rfl) (fun x hq => S.imm) ?_
          refine D_v E rfl rfl rfl (fun w hC => (R_move E rfl)) ?_
          clear E a; intro a E
          refine D_v E rfl rfl rfl (fun w hC => (R_move E rfl)) ?_
          clear E a; intro a E
          have S0 := S; clear S
          obtain ⟨M_47, hM_47, hz_48, S⟩ := S0.freezeI (by (first | omega | (simp; omega) | (simp; done) | (simp_all; omega) | grind))
          clear S0
          replace h0 := h0.le hM_47
          obtain ⟨v_49, sv_49, hv_49⟩ := hz_48.subv 0 j (by first | omega | (simp; done) | (simp; omega) | (simp_all; omega)) (by first | omega | (simp; done) | (simp; omega) | (simp_all; omega))
          simp only [List.drop_zero] at hv_49
          replace hv_49 : RdI M_47 v_49 ((sortI (l0.take k)).take j) := hv_49
          refine D_v E rfl rfl rfl (fun w hC => (R_sliceH E rfl rfl T22 sv_49 (by omega))) ?_
          clear E a; intro a E
          refine D_v E rfl rfl rfl (fun w hC => (R_move E rfl)) ?_
          clear E a; intro a E
          refine D_v E rfl rfl rfl (fun w hC => (R_move E rfl)) ?_
          clear E a; intro a E
          refine D_v E rfl rfl rfl (fun w hC => (R_move E rfl)) ?_
          clear E a; intro a E
          obtain ⟨v_50, sv_50, hv_50⟩ := hz_48.subv j ((sortI (l0.take k)).length) (by first | omega | (simp; done) | (simp; omega) | (simp_all; omega)) (by first | omega | (simp; done) | (simp; omega) | (simp_all; omega))
          simp only [List.take_length] at hv_50
          replace hv_50 : RdI M_47 v_50 ((sortI (l0.take k)).drop j) := hv_50
          refine D_v E rfl rfl rfl (fun w hC => (R_sliceL E rfl rfl T22 hz_48.len sv_50 (by omega))) ?_
          clear E a; intro a E
          refine D_x rfl rfl rfl (X_buildI (ys := []) E S rfl T22 rfl rfl rfl ?_)
          clear E a S; rintro a w v_51 E S
          refine ⟨fun x hq hb => (agree_le hM_47 S.imm), ?_⟩
          refine D_x rfl rfl rfl (X_buildI (ys := [x_4]) E S rfl T22 rfl rfl rfl ?_)
          clear E a S; rintro a w v_52 E S
          refine ⟨fun x hq hb => (agree_le hM_47 S.imm), ?_⟩
          replace S := S.front1
          refine D_x rfl rfl rfl (X_appendI (xs := ([] : List Int)) E S rfl rfl rfl T22 hv_49 (by first | omega | (simp; done) | (simp; omega) | (simp_all; omega)) ?_)
          clear E a S; rintro a w v_53 E S
          refine ⟨fun x hq hb => (agree_le hM_47 S.imm), ?_⟩
          replace S := S.front1
          refine D_x rfl rfl rfl (X_appendB (xs := [] ++ ((sortI (l0.take k)).take j)) (ys := [x_4]) E S rfl rfl rfl T22 (by first | omega | (simp; done) | (simp; omega) | (simp_all; omega)) ?_)
          clear E a S; rintro a w v_54 E S
          refine ⟨fun x hq hb => (agree_le hM_47 S.imm), ?_⟩
          refine D_x rfl rfl rfl (X_appendI (xs := ([] ++ ((sortI (l0.take k)).take j)) ++ [x_4]) E S rfl rfl rfl T22 hv_50 (by first | omega | (simp; done) | (simp; omega) | (simp_all; omega)) ?_)
          clear E a S; rintro a w v_55 E S
          refine ⟨fun x hq hb => (agree_le hM_47 S.imm), ?_⟩
          refine D_v E rfl rfl rfl (fun w hC => (R_assign E rfl)) ?_
          clear E a; intro a E
          refine D_end (NoP_n ?_)
          refine B_n ?_
          refine T_n ?_
          refine WP_region ?_
          refine S_v E rfl (R_addx (m := ((k + 1 : Nat) : Int)) E rfl rfl (by omega) (by omega)) rfl ?_
          clear E a; intro a E
          refine S_v E rfl (R_move E rfl) rfl ?_
          clear E a; intro a E
          refine WL_nil ?_
          refine T_n ?_
          replace S := S.re1 (l' := sortI (l0.take (k + 1))) (by first | (simp [sortI]; done) | (rw [sortI_take (by assumption), ← ins_at (j := j) (by omega) (by intro y hy; have h9 := hL1_1 y hy; rw [show l0[k]? = some _ by assumption] at h9; exact h9) (by first | (left; omega) | (right; exact ⟨_, by assumption, by assumption⟩))]; done) | (rw [sortI_take (by assumption), ← ins_at (j := j) (by omega) (by intro y hy; have h9 := hL1_1 y hy; rw [show l0[k]? = some _ by assumption] at h9; exact h9) (by first | (left; omega) | (right; exact ⟨_, by assumption, by assumption⟩))]; simp; done))
          exact ⟨k + 1, ⟨M_47, _, (hM_2.trans (hM_6.trans hM_47)), S, E.keep ⟨rfl, rfl, rfl, rfl, trivial⟩, by ((try clear S); (try clear E); first | assumption | omega | rfl | (simp; done) | (simp_all; done) | (simp [List.take_add_one, *]; done) | grind [List.take_add_one])⟩, by omega⟩
      · replace S := S.mono_heap (w' := World.drew _) rfl
        refine DG_end (C := fun x w => agree M_6 w) (bf := (fun i => [])) [1, 2, 3, 5, 8, 9, 10, 12] [1, 2, 3, 5, 8, 9, 10, 6, 0, 4, 7, 11, 12] (by kernel_rfl) (fun x hq => S.imm) ?_
        refine D_v E rfl rfl rfl (fun w hC => (R_move E rfl)) ?_
        clear E a; intro a E
        refine D_v E rfl rfl rfl (fun w hC => (R_move E rfl)) ?_
        clear E a; intro a E
        have S0 := S; clear S
        obtain ⟨M_56, hM_56, hz_57, S⟩ := S0.freezeI (by (first | omega | (simp; omega) | (simp; done) | (simp_all; omega) | grind))
        clear S0
        replace h0 := h0.le hM_56
        obtain ⟨v_58, sv_58, hv_58⟩ := hz_57.subv 0 j (by first | omega | (simp; done) | (simp; omega) | (simp_all; omega)) (by first | omega | (simp; done) | (simp; omega) | (simp_all; omega))
        simp only [List.drop_zero] at hv_58
        replace hv_58 : RdI M_56 v_58 ((sortI (l0.take k)).take j) := hv_58
        refine D_v E rfl rfl rfl (fun w hC => (R_sliceH E rfl rfl T22 sv_58 (by omega))) ?_
        clear E a; intro a E
        refine D_v E rfl rfl rfl (fun w hC => (R_move E rfl)) ?_
        clear E a; intro a E
        refine D_v E rfl rfl rfl (fun w hC => (R_move E rfl)) ?_
        clear E a; intro a E
        refine D_v E rfl rfl rfl (fun w hC => (R_move E rfl)) ?_
        clear E a; intro a E
        obtain ⟨v_59, sv_59, hv_59⟩ := hz_57.subv j ((sortI (l0.take k)).length) (by first | omega | (simp; done) | (simp; omega) | (simp_all; omega)) (by first | omega | (simp; done) | (simp; omega) | (simp_all; omega))
        simp only [List.take_length] at hv_59
        replace hv_59 : RdI M_56 v_59 ((sortI (l0.take k)).drop j) := hv_59
        refine D_v E rfl rfl rfl (fun w hC => (R_sliceL E rfl rfl T22 hz_57.len sv_59 (by omega))) ?_
        clear E a; intro a E
        refine D_x rfl rfl rfl (X_buildI (ys := [x_4]) E S rfl T22 rfl rfl rfl ?_)
        clear E a S; rintro a w v_60 E S
        refine ⟨fun x hq hb => (agree_le hM_56 S.imm), ?_⟩
        refine D_x rfl rfl rfl (X_buildI (ys := []) E S rfl T22 rfl rfl rfl ?_)
        clear E a S; rintro a w v_61 E S
        refine ⟨fun x hq hb => (agree_le hM_56 S.imm), ?_⟩
        refine D_x rfl rfl rfl (X_appendI (xs := ([] : List Int)) E S rfl rfl rfl T22 hv_58 (by first | omega | (simp; done) | (simp; omega) | (simp_all; omega)) ?_)
        clear E a S; rintro a w v_62 E S
        refine ⟨fun x hq hb => (agree_le hM_56 S.imm), ?_⟩
        replace S := S.front1
        refine D_x rfl rfl rfl (X_appendB (xs := [] ++ ((sortI (l0.take k)).take j)) (ys := [x_4]) E S rfl rfl rfl T22 (by first | omega | (simp; done) | (simp; omega) | (simp_all; omega)) ?_)
        clear E a S; rintro a w v_63 E S
        refine ⟨fun x hq hb => (agree_le hM_56 S.imm), ?_⟩
        refine D_x rfl rfl rfl (X_appendI (xs := ([] ++ ((sortI (l0.take k)).take j)) ++ [x_4]) E S rfl rfl rfl T22 hv_59 (by first | omega | (simp; done) | (simp; omega) | (simp_all; omega)) ?_)
        clear E a S; rintro a w v_64 E S
        refine ⟨fun x hq hb => (agree_le hM_56 S.imm), ?_⟩
        refine D_v E rfl rfl rfl (fun w hC => (R_assign E rfl)) ?_
        clear E a; intro a E
        refine D_end (NoP_n ?_)
        refine B_n ?_
        refine T_n ?_
        refine WP_region ?_
        refine S_v E rfl (R_addx (m := ((k + 1 : Nat) : Int)) E rfl rfl (by omega) (by omega)) rfl ?_
        clear E a; intro a E
        refine S_v E rfl (R_move E rfl) rfl ?_
        clear E a; intro a E
        refine WL_nil ?_
        refine T_n ?_
        replace S := S.re1 (l' := sortI (l0.take (k + 1))) (by first | (simp [sortI]; done) | (rw [sortI_take (by assumption), ← ins_at (j := j) (by omega) (by intro y hy; have h9 := hL1_1 y hy; rw [show l0[k]? = some _ by assumption] at h9; exact h9) (by first | (left; omega) | (right; exact ⟨_, by assumption, by assumption⟩))]; done) | (rw [sortI_take (by assumption), ← ins_at (j := j) (by omega) (by intro y hy; have h9 := hL1_1 y hy; rw [show l0[k]? = some _ by assumption] at h9; exact h9) (by first | (left; omega) | (right; exact ⟨_, by assumption, by assumption⟩))]; simp; done))
        exact ⟨k + 1, ⟨M_56, _, (hM_2.trans (hM_6.trans hM_56)), S, E.keep ⟨rfl, rfl, rfl, rfl, trivial⟩, by ((try clear S); (try clear E); first | assumption | omega | rfl | (simp; done) | (simp_all; done) | (simp [List.take_add_one, *]; done) | grind [List.take_add_one])⟩, by omega⟩
  · replace hc_3 := of_decide_eq_false hc_3
    refine WP_exit ?_
    refine T_x ?_
    refine T_x ?_
    refine B_x ?_
    refine T_n ?_
    refine WP_seq ?_
    refine WP_region ?_
    refine S_v E rfl (R_move E rfl) rfl ?_
    clear E a; intro a E
    refine S_v E rfl (R_assign E rfl) rfl ?_
    clear E a; intro a E
    refine WL_nil ?_
    refine T_n ?_
    refine WP_ret ?_
    have S0 := S; clear S
    obtain ⟨M_65, hM_65, hz_66, S⟩ := S0.freezeI (by (first | omega | (simp; omega) | (simp; done) | (simp_all; omega) | grind))
    clear S0
    replace h0 := h0.le hM_65
    exact F_ret1 E Tryz.results50 rfl ⟨_, rfl, M_65, (hM_2.trans hM_65), (by rw [show (sortI l0) = (sortI (l0.take k)) from by (rw [List.take_of_length_le (by omega)])]; exact hz_66), S⟩

set_option maxRecDepth 100000 in
set_option maxHeartbeats 4000000 in
theorem spec_Keyify {M : Hp} {v0 : Value} {l0 : List Int} (h0 : RdI M v0 l0) (hr0 : (∀ x ∈ l0, -9223372036854775808 ≤ x ∧ x ≤ 9223372036854775807)) (hb : l0.length ≤ 1000000000000) :
    Pu Tryz.prog (.func (.func 16) #[] #[]) M [v0] (fun r M' => RdI M' r (setI l0)) := by
  refine Pu_enter Tryz.func16 rfl Tryz.ntmps16 rfl Tryz.call16 ?_
  intro a w M1 H hM1 S E
  replace h0 := h0.le hM1
  have b0 := h0.bound
  have hkl := keyL_le' l0
  refine WP_seq ?_
  refine WP_region ?_
  refine S_v E rfl (R_assign E rfl) rfl ?_
  clear E a; intro a E
  refine WL_nil ?_
  refine T_n ?_
  refine WP_seq ?_
  refine WP_region ?_
  refine S_v E rfl (R_move E rfl) rfl ?_
  clear E a; intro a E
  refine S_x (X_pu E S rfl rfl rfl (spec_Uniq h0 (by first | assumption | exact (fun x hx => by rcases List.mem_append.1 hx with h | h; exact hr0 x h; exact hr1 x h)) (by (first | omega | (simp; omega) | (simp; done) | (simp_all; omega) | grind))) (Hp.le.refl _) ?_)
  clear E a S; rintro a v_2 w M_1 hM_1 hv_2 S E
  replace h0 := h0.le hM_1
  refine S_x (X_pu E S rfl rfl rfl (spec_Sorted hv_2 (by (first | omega | (simp; omega) | (simp; done) | (simp_all; omega) | grind))) (Hp.le.refl _) ?_)
  clear E a S; rintro a v_4 w M_3 hM_3 hv_4 S E
  replace h0 := h0.le hM_3
  replace hv_2 := hv_2.le hM_3
  refine S_v E rfl (R_assign E rfl) rfl ?_
  clear E a; intro a E
  refine WL_nil ?_
  refine T_n ?_
  refine WP_ret ?_
  exact F_ret1 E Tryz.results16 rfl ⟨_, rfl, M_3, (hM_1.trans hM_3), (by rw [show (setI l0) = (sortI (keyL l0)) from by (first | exact (sortI_key _).symm | exact sortI_key _)]; exact hv_4), S⟩

set_option maxRecDepth 100000 in
set_option maxHeartbeats 4000000 in
theorem spec_CountValuesBy {M : Hp} {v0 : Value} {l0 : List Int} (h0 : RdI M v0 l0){kk1 kn1 : Int} (gk1 : -9223372036854775808 ≤ kn1 ∧ kn1 ≤ 9223372036854775807) (hr0 : (∀ x ∈ l0, -9223372036854775808 ≤ x ∧ x ≤ 9223372036854775807)) (hb : l0.length ≤ 1000000000000) (hid : l0.map (fun x => keyAt kk1 kn1 x 0) = l0) :
    Pu Tryz.prog (.func (.func 49) #[] #[]) M [v0, .agg #[.int .i64 kk1, .int .i64 kn1]] (fun r M' => RdS 2 RP2 M' r ((setI l0).map fun x => (x, ((l0).count x : Int)))) := by
  refine Pu_enter Tryz.func49 rfl Tryz.ntmps49 rfl Tryz.call49 ?_
  intro a w M1 H hM1 S E
  replace h0 := h0.le hM1
  have b0 := h0.bound
  have hsl := (setI_spec l0).2.2
  refine WP_seq ?_
  refine WP_region ?_
  refine S_x (X_box (cs := #[.int .i64 kk1, .int .i64 kn1]) E S rfl rfl rfl ?_)
  clear E a S; rintro a w b_1 E S
  obtain ⟨M_2, hM_2, hb_1, S⟩ := S.freezeB
  replace h0 := h0.le hM_2
  refine S_v E rfl (R_assign E rfl) rfl ?_
  clear E a; intro a E
  refine WL_nil ?_
  refine T_n ?_
  refine WP_seq ?_
  refine WP_region ?_
  refine S_v E rfl (R_assign E rfl) rfl ?_
  clear E a; intro a E
  refine WL_nil ?_
  refine T_n ?_
  refine WP_seq ?_
  refine WP_region ?_
  refine S_v E rfl (R_move E rfl) rfl ?_
  clear E a; intro a E
  refine S_v E rfl (R_loadGM E rfl (Tryz.isAgg53 _) (Tryz.sizeOf53 _) S.imm hb_1) rfl ?_
  clear E a; intro a E
  refine S_x (X_pu E S rfl rfl rfl (spec_keys h0 (by omega) (by first | assumption | exact (fun x hx => by rcases List.mem_append.1 hx with h | h; exact hr0 x h; exact hr1 x h)) (by (first | omega | (simp; omega) | (simp; done) | (simp_all; omega) | grind))) (Hp.le.refl _) ?_)
  clear E a S; rintro a v_4 w M_3 hM_3 hv_4 S E
  replace h0 := h0.le hM_3
  replace hb_1 := hM_3.2 _ _ hb_1
  replace hv_4 : RdI M_3 v_4 l0 := by rw [hid] at hv_4; exact hv_4
  refine S_v E rfl (R_assign E rfl) rfl ?_
  clear E a; intro a E
  refine WL_nil ?_
  refine T_n ?_
  refine WP_seq ?_
  refine WP_seq ?_
  refine WP_region ?_
  refine S_v E rfl (R_move E rfl) rfl ?_
  clear E a; intro a E
  refine S_x (X_pu E S rfl rfl rfl (spec_Keyify hv_4 (by first | assumption | exact (fun x hx => by rcases List.mem_append.1 hx with h | h; exact hr0 x h; exact hr1 x h)) (by (first | omega | (simp; omega) | (simp; done) | (simp_all; omega) | grind))) (Hp.le.refl _) ?_)
  clear E a S; rintro a v_6 w M_5 hM_5 hv_6 S E
  replace h0 := h0.le hM_5
  replace hb_1 := hM_5.2 _ _ hb_1
  replace hv_4 := hv_4.le hM_5
  refine S_v E rfl (R_lenV E rfl T22 hv_6.len) rfl ?_
  clear E a; intro a E
  refine S_v E rfl (R_move E rfl) rfl ?_
  clear E a; intro a E
  refine WL_nil ?_
  refine T_n ?_
  refine WP_block ?_
  replace S : St w M_5 (OwnC 55 2 (.slice none 0 0) ([] : List (Int × Int)).length [] :: _) := S.ownNil
  have hr_8 : RowsR RP2 2 M_5 ([] : List (Int × Int)) [] := RowsR.nil
  have hre : ([] : List (Int × Int)) = ((setI l0).take 0).map (fun x => (x, (l0.count x : Int))) := by first | (simp; done) | (rw [tk_snoc (by assumption), List.map_append]; rfl)
  replace S := S.reR hre
  replace hr_8 := hr_8.eq hre
  clear hre
  refine WP_loop (γ := Nat) (fun (k : Nat) a w => ∃ (M_9 : Hp) (u5 : Value) (xs5 : List Value), Hp.le M_5 M_9 ∧ St w M_9 (OwnC 55 2 u5 (((setI l0).take k).map (fun x => (x, (l0.count x : Int)))).length xs5 :: H) ∧ Env a 29 [] [(5, u5), (6, v_4), (13, v_6), (14, .int .i64 (((setI l0).length : Nat) : Int)), (15, .int .i64 ((k : Nat) : Int))] ∧ (k ≤ (setI l0).length) ∧ RowsR RP2 2 M_9 (((setI l0).take k).map (fun x => (x, (l0.count x : Int)))) xs5) (fun k => ((setI l0).length) - k) 0 ⟨M_5, _, _, Hp.le.refl _, S, E.keep ⟨rfl, rfl, rfl, rfl, rfl, trivial⟩, by ((try clear S); (try clear E); first | assumption | omega | rfl | (simp; done) | (simp_all; done) | (simp [List.take_add_one, *]; done) | grind [List.take_add_one]), hr_8⟩ ?_
  try clear E
  try clear S
  try clear a
  try clear w
  rintro k a w ⟨M_9, u5, xs5, hM_9, S, E, hL0_0, hr5⟩
  replace h0 := h0.le hM_9
  replace hb_1 := hM_9.2 _ _ hb_1
  replace hv_4 := hv_4.le hM_9
  replace hv_6 := hv_6.le hM_9
  have hkt := List.length_take_le k (setI l0)
  refine WP_seq ?_
  refine WP_region ?_
  refine S_v E rfl (R_lss E rfl rfl) rfl ?_
  clear E a; intro a E
  refine WL_nil ?_
  refine T_n ?_
  refine WP_seq ?_
  refine WP_cond E rfl (fun hc_10 => ?_) (fun hc_10 => ?_)
  · replace hc_10 := of_decide_eq_true hc_10
    refine WP_skip ?_
    refine T_n ?_
    refine WP_seq ?_
    refine WP_block ?_
    refine WP_seq ?_
    refine WP_region ?_
    obtain ⟨x_11, hx_11⟩ : ∃ x, (setI l0)[k]? = some x := ⟨_, List.getElem?_eq_getElem (by first | omega | (simp; done) | (simp; omega) | (simp_all; omega))⟩
    obtain ⟨p_12, hp_12, qp_12⟩ := hv_6.at hx_11
    refine S_v E rfl (R_idx E rfl rfl T22 hp_12 rfl) rfl ?_
    clear E a; intro a E
    refine S_v E rfl (R_loadM E rfl Tryz.isAgg3 S.imm qp_12) rfl ?_
    clear E a; intro a E
    refine S_v E rfl (R_assign E rfl) rfl ?_
    clear E a; intro a E
    refine WL_nil ?_
    refine T_n ?_
    refine WP_region ?_
    refine S_v E rfl (R_move E rfl) rfl ?_
    clear E a; intro a E
    refine S_v E rfl (R_move E rfl) rfl ?_
    clear E a; intro a E
    refine S_v E rfl (R_move E rfl) rfl ?_
    clear E a; intro a E
    refine S_v E rfl (R_move E rfl) rfl ?_
    clear E a; intro a E
    refine S_x (X_pu E S rfl rfl rfl (spec_Count hv_4) (Hp.le.refl _) ?_)
    clear E a S; rintro a _ w M_13 hM_13 rfl S E
    replace h0 := h0.le hM_13
    replace hb_1 := hM_13.2 _ _ hb_1
    replace hv_4 := hv_4.le hM_13
    replace hv_6 := hv_6.le hM_13
    replace hr5 := hr5.le RP2_mono hM_13
    refine S_v E rfl (R_build (u := .agg #[.int .i64 x_11, .int .i64 (((l0).count x_11 : Nat) : Int)]) (vs := [.int .i64 x_11, .int .i64 (((l0).count x_11 : Nat) : Int)]) E rfl (fun w => FB55_0_1_ii x_11 (((l0).count x_11 : Nat) : Int) w)) rfl ?_
    clear E a; intro a E
    refine S_x (X_buildA1 (R := RP2) (cs := [.int .i64 x_11, .int .i64 (((l0).count x_11 : Nat) : Int)]) (x0 := (x_11, (((l0).count x_11 : Nat) : Int))) RP2_mono E S rfl T32 rfl rfl rfl rfl ?_)
    clear E a S; rintro a v_14 w M_15 hM_15 hv_14 S E
    replace h0 := h0.le hM_15
    replace hb_1 := hM_15.2 _ _ hb_1
    replace hv_4 := hv_4.le hM_15
    replace hv_6 := hv_6.le hM_15
    replace hr5 := hr5.le RP2_mono hM_15
    refine S_x (X_appendR (R := RP2) (zs := ((setI l0).take k).map (fun x => (x, (l0.count x : Int)))) (ys := [(x_11, (((l0).count x_11 : Nat) : Int))]) E S hr5 rfl rfl rfl T32 hv_14 one_RP2 (by (simp only [List.length_map, List.length_cons, List.length_nil] at *; omega)) (by (simp only [List.length_map, List.length_cons, List.length_nil] at *; omega)) ?_)
    clear E a S; rintro a w v_16 xs_17 E hr_18 S
    refine S_v E rfl (R_assign E rfl) rfl ?_
    clear E a; intro a E
    refine WL_nil ?_
    refine B_n ?_
    refine T_n ?_
    refine WP_region ?_
    refine S_v E rfl (R_addx (m := ((k + 1 : Nat) : Int)) E rfl rfl (by omega) (by omega)) rfl ?_
    clear E a; intro a E
    refine S_v E rfl (R_move E rfl) rfl ?_
    clear E a; intro a E
    refine WL_nil ?_
    refine T_n ?_
    have hre : (((setI l0).take k).map (fun x => (x, (l0.count x : Int)))) ++ [(x_11, (((l0).count x_11 : Nat) : Int))] = ((setI l0).take (k + 1)).map (fun x => (x, (l0.count x : Int))) := by first | (simp; done) | (rw [tk_snoc (by assumption), List.map_append]; rfl)
    replace S := S.reR hre
    replace hr_18 := hr_18.eq hre
    clear hre
    exact ⟨k + 1, ⟨M_15, _, _, (hM_9.trans (hM_13.trans hM_15)), S, E.keep ⟨rfl, rfl, rfl, rfl, rfl, trivial⟩, by ((try clear S); (try clear E); first | assumption | omega | rfl | (simp; done) | (simp_all; done) | (simp [List.take_add_one, *]; done) | grind [List.take_add_one]), hr_18⟩, by omega⟩
  · replace hc_10 := of_decide_eq_false hc_10
    refine WP_exit ?_
    refine T_x ?_
    refine T_x ?_
    refine B_x ?_
    refine T_n ?_
    refine WP_seq ?_
    refine WP_region ?_
    refine S_v E rfl (R_move E rfl) rfl ?_
    clear E a; intro a E
    refine S_v E rfl (R_assign E rfl) rfl ?_
    clear E a; intro a E
    refine WL_nil ?_
    refine T_n ?_
    refine WP_ret ?_
    have S0 := S; clear S
    obtain ⟨M_19, hM_19, hz_20, S⟩ := S0.freezeR hr5 RP2_mono (by (rw [List.length_map]; have hkt := List.length_take_le k (setI l0); omega))
    clear S0
    replace h0 := h0.le hM_19
    replace hb_1 := hM_19.2 _ _ hb_1
    replace hv_4 := hv_4.le hM_19
    replace hv_6 := hv_6.le hM_19
    exact F_ret1 E Tryz.results49 rfl ⟨_, rfl, M_19, (hM_2.trans (hM_3.trans (hM_5.trans (hM_9.trans hM_19)))), (by rw [show ((setI l0).map fun x => (x, ((l0).count x : Int))) = (((setI l0).take k).map (fun x => (x, (l0.count x : Int)))) from by (rw [List.take_of_length_le (by omega)])]; exact hz_20), S⟩

set_option maxRecDepth 100000 in
set_option maxHeartbeats 4000000 in
theorem spec_CountValues {M : Hp} {v0 : Value} {l0 : List Int} (h0 : RdI M v0 l0) (hr0 : (∀ x ∈ l0, -9223372036854775808 ≤ x ∧ x ≤ 9223372036854775807)) (hb : l0.length ≤ 1000000000000) :
    Pu Tryz.prog (.func (.func 15) #[] #[]) M [v0] (fun r M' => RdS 2 RP2 M' r ((setI l0).map fun x => (x, ((l0).count x : Int)))) := by
  refine Pu_enter Tryz.func15 rfl Tryz.ntmps15 rfl Tryz.call15 ?_
  intro a w M1 H hM1 S E
  replace h0 := h0.le hM1
  have b0 := h0.bound
  refine WP_seq ?_
  refine WP_region ?_
  refine S_v E rfl (R_assign E rfl) rfl ?_
  clear E a; intro a E
  refine WL_nil ?_
  refine T_n ?_
  refine WP_seq ?_
  refine WP_region ?_
  refine S_v E rfl (R_move E rfl) rfl ?_
  clear E a; intro a E
  refine S_x (X_pu E S rfl rfl rfl (spec_same ) (Hp.le.refl _) ?_)
  clear E a S; rintro a _ w M_1 hM_1 rfl S E
  replace h0 := h0.le hM_1
  refine S_x (X_pu E S rfl rfl rfl (spec_CountValuesBy h0 (by omega) (by first | assumption | exact (fun x hx => by rcases List.mem_append.1 hx with h | h; exact hr0 x h; exact hr1 x h)) (by (first | omega | (simp; omega) | (simp; done) | (simp_all; omega) | grind)) (by first | assumption | exact map_key5 _ _)) (Hp.le.refl _) ?_)
  clear E a S; rintro a v_3 w M_2 hM_2 hv_3 S E
  replace h0 := h0.le hM_2
  refine S_v E rfl (R_assign E rfl) rfl ?_
  clear E a; intro a E
  refine WL_nil ?_
  refine T_n ?_
  refine WP_ret ?_
  exact F_ret1 E Tryz.results15 rfl ⟨_, rfl, M_2, (hM_1.trans hM_2), hv_3, S⟩

set_option maxRecDepth 100000 in
set_option maxHeartbeats 4000000 in
theorem laws_eqRef {M : Hp} {v0 : Value} {l0 : List (Int × Int)} (h0 : RdS 2 RP2 M v0 l0) {v1 : Value} {l1 : List (Int × Int)} (h1 : RdS 2 RP2 M v1 l1) :
    Pu Tryz.prog (.func (.func 14) #[] #[]) M [v0, v1] (fun r M' => r = .bool (decide (l0 = l1))) := by
  refine Pu_enter Tryz.func14 rfl Tryz.ntmps14 rfl Tryz.call14 ?_
  intro a w M1 H hM1 S E
  replace h0 := h0.le RP2_mono hM1
  replace h1 := h1.le RP2_mono hM1
  have b0 := h0.bound
  have b1 := h1.bound
  refine WP_seq ?_
  refine WP_region ?_
  refine S_v E rfl (R_assign E rfl) rfl ?_
  clear E a; intro a E
  refine WL_nil ?_
  refine T_n ?_
  refine WP_seq ?_
  refine WP_seq ?_
  refine WP_region ?_
  refine S_v E rfl (R_move E rfl) rfl ?_
  clear E a; intro a E
  refine S_v E rfl (R_lenV E rfl T25 h0.len) rfl ?_
  clear E a; intro a E
  refine S_v E rfl (R_move E rfl) rfl ?_
  clear E a; intro a E
  refine S_v E rfl (R_lenV E rfl T32 h1.len) rfl ?_
  clear E a; intro a E
  refine S_v E rfl (R_neq E rfl rfl) rfl ?_
  clear E a; intro a E
  refine WL_nil ?_
  refine T_n ?_
  refine WP_cond E rfl (fun hc_1 => ?_) (fun hc_1 => ?_)
  · replace hc_1 := of_decide_eq_true hc_1
    refine WP_seq ?_
    refine WP_region ?_
    refine S_v E rfl (R_assign E rfl) rfl ?_
    clear E a; intro a E
    refine WL_nil ?_
    refine T_n ?_
    refine WP_ret ?_
    refine T_r ?_
    exact F_ret1 E Tryz.results14 rfl ⟨_, rfl, M1, (Hp.le.refl _), (bF (by (first | (simp; done) | exact eqp_no (by assumption) (by assumption) (p2_ne (by assumption)) | (have h9 : l0.take k = l1.take k := (by assumption); rwa [List.take_of_length_le (by omega), List.take_of_length_le (by omega)] at h9) | (intro h9; subst h9; omega) | (intro h9; subst h9; simp_all; done)))), S⟩
  · replace hc_1 := of_decide_eq_false hc_1
    refine WP_skip ?_
    refine T_n ?_
    refine WP_seq ?_
    refine WP_seq ?_
    refine WP_region ?_
    refine S_v E rfl (R_move E rfl) rfl ?_
    clear E a; intro a E
    refine S_v E rfl (R_lenV E rfl T25 h0.len) rfl ?_
    clear E a; intro a E
    refine S_v E rfl (R_move E rfl) rfl ?_
    clear E a; intro a E
    refine WL_nil ?_
    refine T_n ?_
    refine WP_block ?_
    refine WP_loop (γ := Nat) (fun (k : Nat) a w => ∃ (M_2 : Hp), Hp.le M1 M_2 ∧ St w M_2 (H) ∧ Env a 26 [] [(0, v0), (1, v1), (12, .int .i64 (((l0).length : Nat) : Int)), (13, .int .i64 ((k : Nat) : Int))] ∧ (k ≤ (l0).length) ∧ (l0.length = l1.length) ∧ (l0.take k = l1.take k)) (fun k => ((l0).length) - k) 0 ⟨M1, Hp.le.refl _, S, E.keep ⟨rfl, rfl, rfl, rfl, trivial⟩, by ((try clear S); (try clear E); first | assumption | omega | rfl | (simp; done) | (simp_all; done) | (simp [List.take_add_one, *]; done) | grind [List.take_add_one]), by ((try clear S); (try clear E); first | assumption | omega | rfl | (simp; done) | (simp_all; done) | (simp [List.take_add_one, *]; done) | grind [List.take_add_one]), by ((try clear S); (try clear E); first | assumption | omega | rfl | (simp; done) | (simp_all; done) | (simp [List.take_add_one, *]; done) | grind [List.take_add_one])⟩ ?_
    try clear E
    try clear S
    try clear a
    try clear w
    rintro k a w ⟨M_2, hM_2, S, E, hL0_0, hL0_1, hL0_2⟩
    replace h0 := h0.le RP2_mono hM_2
    replace h1 := h1.le RP2_mono hM_2
    refine WP_seq ?_
    refine WP_region ?_
    refine S_v E rfl (R_lss E rfl rfl) rfl ?_
    clear E a; intro a E
    refine WL_nil ?_
    refine T_n ?_
    refine WP_seq ?_
    refine WP_cond E rfl (fun hc_3 => ?_) (fun hc_3 => ?_)
    · replace hc_3 := of_decide_eq_true hc_3
      refine WP_skip ?_
      refine T_n ?_
      refine WP_seq ?_
      refine WP_block ?_
      refine WP_seq ?_
      refine WP_region ?_
      refine S_v E rfl (R_move E rfl) rfl ?_
      clear E a; intro a E
      refine S_v E rfl (R_assign E rfl) rfl ?_
      clear E a; intro a E
      refine WL_nil ?_
      refine T_n ?_
      refine WP_seq ?_
      replace S := S.mono_heap (w' := World.drew _) rfl
      refine WP_drawn (C := fun x w => agree M_2 w) (bf := (fun i => [])) [0, 1, 2, 3, 4, 5, 6, 7, 8] [0, 1, 2, 3, 4, 5, 6, 7, 8] Tryz.mixed (by kernel_rfl) (fun x hq => S.imm) ?_
      refine D_v E rfl rfl rfl (fun w hC => (R_move E rfl)) ?_
      clear E a; intro a E
      refine D_v E rfl rfl rfl (fun w hC => (R_move E rfl)) ?_
      clear E a; intro a E
      obtain ⟨x_4, hx_4⟩ : ∃ x, (l0)[k]? = some x := ⟨_, List.getElem?_eq_getElem (by first | omega | (simp; done) | (simp; omega) | (simp_all; omega))⟩
      obtain ⟨p_5, hp_5, qp_5⟩ := RdP2.at h0 hx_4
      refine D_v E rfl rfl rfl (fun w hC => (R_idx E rfl rfl T25 hp_5 rfl)) ?_
      clear E a; intro a E
      refine D_v E rfl rfl rfl (fun w hC => (R_loadA (cs := [.int .i64 x_4.1, .int .i64 x_4.2]) E rfl (Tryz.isAgg29 _) (Tryz.sizeOf29 _) hC qp_5)) ?_
      clear E a; intro a E
      refine D_v E rfl rfl rfl (fun w hC => (R_move E rfl)) ?_
      clear E a; intro a E
      refine D_v E rfl rfl rfl (fun w hC => (R_move E rfl)) ?_
      clear E a; intro a E
      obtain ⟨x_6, hx_6⟩ : ∃ x, (l1)[k]? = some x := ⟨_, List.getElem?_eq_getElem (by first | omega | (simp; done) | (simp; omega) | (simp_all; omega))⟩
      obtain ⟨p_7, hp_7, qp_7⟩ := RdP2.at h1 hx_6
      refine D_v E rfl rfl rfl (fun w hC => (R_idx E rfl rfl T32 hp_7 rfl)) ?_
      clear E a; intro a E
      refine D_v E rfl rfl rfl (fun w hC => (R_loadA (cs := [.int .i64 x_6.1, .int .i64 x_6.2]) E rfl (Tryz.isAgg55 _) (Tryz.sizeOf55 _) hC qp_7)) ?_
      clear E a; intro a E
      refine D_v E rfl rfl rfl (fun w hC => (R_neqA E rfl rfl (by kernel_rfl) (EQ55 x_4.1 x_4.2 x_6.1 x_6.2 _))) ?_
      clear E a; intro a E
      refine D_end (NoP_n ?_)
      refine T_n ?_
      refine WP_cond E rfl (fun hc_8 => ?_) (fun hc_8 => ?_)
      · replace hc_8 := of_decide_eq_true hc_8
        refine WP_seq ?_
        refine WP_region ?_
        refine S_v E rfl (R_assign E rfl) rfl ?_
        clear E a; intro a E
        refine WL_nil ?_
        refine T_n ?_
        refine WP_ret ?_
        refine B_r ?_
        refine T_r ?_
        refine T_r ?_
        refine B_r ?_
        refine T_r ?_
        exact F_ret1 E Tryz.results14 rfl ⟨_, rfl, M_2, hM_2, (bF (by (first | (simp; done) | exact eqp_no (by assumption) (by assumption) (p2_ne (by assumption)) | (have h9 : l0.take k = l1.take k := (by assumption); rwa [List.take_of_length_le (by omega), List.take_of_length_le (by omega)] at h9) | (intro h9; subst h9; omega) | (intro h9; subst h9; simp_all; done)))), S⟩
      · replace hc_8 := of_decide_eq_false hc_8
        refine WP_skip ?_
        refine B_n ?_
        refine T_n ?_
        refine WP_region ?_
        refine S_v E rfl (R_addx (m := ((k + 1 : Nat) : Int)) E rfl rfl (by omega) (by omega)) rfl ?_
        clear E a; intro a E
        refine S_v E rfl (R_move E rfl) rfl ?_
        clear E a; intro a E
        refine WL_nil ?_
        refine T_n ?_
        exact ⟨k + 1, ⟨M_2, hM_2, S, E.keep ⟨rfl, rfl, rfl, rfl, trivial⟩, by ((try clear S); (try clear E); first | assumption | omega | rfl | (simp; done) | (simp_all; done) | (simp [List.take_add_one, *]; done) | grind [List.take_add_one]), by ((try clear S); (try clear E); first | assumption | omega | rfl | (simp; done) | (simp_all; done) | (simp [List.take_add_one, *]; done) | grind [List.take_add_one]), (by exact eqp_step (by assumption) (by assumption) (by assumption) (p2_eq (by first | assumption | exact Decidable.not_not.1 (by assumption))))⟩, by omega⟩
    · replace hc_3 := of_decide_eq_false hc_3
      refine WP_exit ?_
      refine T_x ?_
      refine T_x ?_
      refine B_x ?_
      refine T_n ?_
      refine WP_seq ?_
      refine WP_region ?_
      refine S_v E rfl (R_assign E rfl) rfl ?_
      clear E a; intro a E
      refine WL_nil ?_
      refine T_n ?_
      refine WP_ret ?_
      exact F_ret1 E Tryz.results14 rfl ⟨_, rfl, M_2, hM_2, (bT (by (first | (simp; done) | exact eqp_no (by assumption) (by assumption) (p2_ne (by assumption)) | (have h9 : l0.take k = l1.take k := (by assumption); rwa [List.take_of_length_le (by omega), List.take_of_length_le (by omega)] at h9) | (intro h9; subst h9; omega) | (intro h9; subst h9; simp_all; done)))), S⟩

set_option maxRecDepth 100000 in
set_option maxHeartbeats 4000000 in
theorem slices_Values1 {M : Hp} {v0 : Value} {l0 : List Int} (h0 : RdI M v0 l0){bx1 : Nat} (hbx1 : M bx1 = some (.cells #[v0] 22)) :
    SeqV Tryz.prog (.func (.func 83) #[] #[.pointer (some ⟨bx1, 0, none⟩)]) M (RInt) l0 := by
  refine SeqV_enter Tryz.func83 rfl Tryz.ntmps83 rfl Tryz.call83 ?_
  intro y J X a w M1 c H hJM hM1 hY hJ S E
  replace hbx1 := hM1.2 _ _ hbx1
  replace h0 := h0.le hM1
  have b0 := h0.bound
  refine WP_seq ?_
  refine WP_region ?_
  refine S_v E rfl (R_loadM E rfl Tryz.isAgg22 S.imm (cellM_box hbx1)) rfl ?_
  clear E a; intro a E
  refine S_v E rfl (R_lenV E rfl T22 h0.len) rfl ?_
  clear E a; intro a E
  refine S_v E rfl (R_move E rfl) rfl ?_
  clear E a; intro a E
  refine WL_nil ?_
  refine T_n ?_
  refine WP_block ?_
  refine WP_loop (γ := Nat) (fun (k : Nat) a w => ∃ (M_1 : Hp) (cL0 : HProp), Hp.le M1 M_1 ∧ St w M_1 (mks [] :: cL0 :: H) ∧ Env a 16 (([] : List Nat).map mk) [(0, y), (5, v0), (6, .int .i64 (((l0).length : Nat) : Int)), (7, .int .i64 ((k : Nat) : Int))] ∧ (k ≤ (l0).length) ∧ J (l0.take k) M_1 cL0) (fun k => ((l0).length) - k) 0 ⟨M1, _, Hp.le.refl _, S, E.keep ⟨rfl, rfl, rfl, rfl, trivial⟩, by ((try clear S); (try clear E); first | assumption | omega | rfl | (simp; done) | (simp_all; done) | (simp [List.take_add_one, *]; done) | grind [List.take_add_one]), J_eq hJ (by ((try clear S); (try clear E); first | assumption | omega | rfl | (simp; done) | (simp_all; done) | (simp [List.take_add_one, *]; done) | grind [List.take_add_one]))⟩ ?_
  try clear E
  try clear S
  try clear a
  try clear w
  rintro k a w ⟨M_1, cL0, hM_1, S, E, hL0_0, hJ⟩
  replace hbx1 := hM_1.2 _ _ hbx1
  replace h0 := h0.le hM_1
  refine WP_seq ?_
  refine WP_region ?_
  refine S_v E rfl (R_lss E rfl rfl) rfl ?_
  clear E a; intro a E
  refine WL_nil ?_
  refine T_n ?_
  refine WP_seq ?_
  refine WP_cond E rfl (fun hc_2 => ?_) (fun hc_2 => ?_)
  · replace hc_2 := of_decide_eq_true hc_2
    refine WP_skip ?_
    refine T_n ?_
    refine WP_seq ?_
    refine WP_block ?_
    refine WP_seq ?_
    refine WP_region ?_
    obtain ⟨x_3, hx_3⟩ : ∃ x, (l0)[k]? = some x := ⟨_, List.getElem?_eq_getElem (by first | omega | (simp; done) | (simp; omega) | (simp_all; omega))⟩
    obtain ⟨p_4, hp_4, qp_4⟩ := h0.at hx_3
    refine S_v E rfl (R_idx E rfl rfl T22 hp_4 rfl) rfl ?_
    clear E a; intro a E
    refine S_v E rfl (R_loadM E rfl Tryz.isAgg3 S.imm qp_4) rfl ?_
    clear E a; intro a E
    refine S_v E rfl (R_assign E rfl) rfl ?_
    clear E a; intro a E
    refine WL_nil ?_
    refine T_n ?_
    refine WP_seq ?_
    refine WP_region ?_
    refine S_v E rfl (R_move E rfl) rfl ?_
    clear E a; intro a E
    refine S_v E rfl (R_move E rfl) rfl ?_
    clear E a; intro a E
    replace S := S.front1
    refine S_x (X_yield (x := x_3) E S rfl rfl rfl hY hM_1 (by (first | (simp; done) | exact List.prefix_refl _ | (rw [pre_take (by assumption)]; exact List.take_prefix _ _) | exact pre_take_lt (by assumption))) rfl hJ ?_)
    clear E a S; rintro a w M_5 c_6 go_7 hM_5 hJ S E
    replace hbx1 := hM_5.2 _ _ hbx1
    replace h0 := h0.le hM_5
    cases go_7
    · replace hJ : X (l0.take k ++ [x_3]) M_5 c_6 := hJ
      refine S_v E rfl (R_not E rfl) rfl ?_
      clear E a; intro a E
      refine WL_nil ?_
      refine T_n ?_
      refine WP_condT E rfl rfl ?_
      refine WP_ret ?_
      refine B_r ?_
      refine T_r ?_
      refine T_r ?_
      refine B_r ?_
      replace S := S.front1
      exact F_retM0 E S Tryz.results83 (fun w S => ⟨_, rfl, M_5, _, (hM_1.trans hM_5), .inr ⟨(l0.take k ++ [x_3]), (by first | assumption | ((first | (simp; done) | exact List.prefix_refl _ | (rw [pre_take (by assumption)]; exact List.take_prefix _ _) | exact pre_take_lt (by assumption)))), hJ⟩, S⟩)
    · replace hJ : J (l0.take k ++ [x_3]) M_5 c_6 := hJ
      refine S_v E rfl (R_not E rfl) rfl ?_
      clear E a; intro a E
      refine WL_nil ?_
      refine T_n ?_
      refine WP_condF E rfl rfl ?_
      refine WP_skip ?_
      refine B_n ?_
      refine T_n ?_
      refine WP_region ?_
      refine S_v E rfl (R_addx (m := ((k + 1 : Nat) : Int)) E rfl rfl (by omega) (by omega)) rfl ?_
      clear E a; intro a E
      refine S_v E rfl (R_move E rfl) rfl ?_
      clear E a; intro a E
      refine WL_nil ?_
      refine T_n ?_
      replace S := S.front1
      exact ⟨k + 1, ⟨M_5, _, (hM_1.trans hM_5), S, E.keep ⟨rfl, rfl, rfl, rfl, trivial⟩, by ((try clear S); (try clear E); first | assumption | omega | rfl | (simp; done) | (simp_all; done) | (simp [List.take_add_one, *]; done) | grind [List.take_add_one]), J_eq hJ (by ((try clear S); (try clear E); first | assumption | omega | rfl | (simp; done) | (simp_all; done) | (simp [List.take_add_one, *]; done) | grind [List.take_add_one]))⟩, by omega⟩
  · replace hc_2 := of_decide_eq_false hc_2
    refine WP_exit ?_
    refine T_x ?_
    refine T_x ?_
    refine B_x ?_
    refine F_nrm ?_
    replace S := S.front1
    replace S := S.front1
    have hpre : l0.take k = l0 := by ((try clear S); (try clear E); first | rfl | (simp; done) | (simp_all; done) | grind [List.take_add_one])
    rw [hpre] at hJ
    exact F_retM0 E S Tryz.results83 (fun w S => ⟨_, rfl, M_1, _, hM_1, .inl hJ, S⟩)

set_option maxRecDepth 100000 in
set_option maxHeartbeats 4000000 in
theorem slices_Values {M : Hp} {v0 : Value} {l0 : List Int} (h0 : RdI M v0 l0) :
    Pu Tryz.prog (.func (.func 53) #[] #[]) M [v0] (fun r M' => SeqV Tryz.prog r M' RInt l0) := by
  refine Pu_enter Tryz.func53 rfl Tryz.ntmps53 rfl Tryz.call53 ?_
  intro a w M1 H hM1 S E
  replace h0 := h0.le hM1
  have b0 := h0.bound
  refine WP_seq ?_
  refine WP_region ?_
  refine S_x (X_box (cs := #[v0]) E S rfl rfl (cells_one (RdS.one' h0)) ?_)
  clear E a S; rintro a w b_1 E S
  obtain ⟨M_2, hM_2, hb_1, S⟩ := S.freezeB
  replace h0 := h0.le hM_2
  refine S_v E rfl (R_assign E rfl) rfl ?_
  clear E a; intro a E
  refine WL_nil ?_
  refine T_n ?_
  refine WP_seq ?_
  refine WP_region ?_
  refine S_v E rfl (R_makeFunc E rfl rfl) rfl ?_
  clear E a; intro a E
  refine S_v E rfl (R_assign E rfl) rfl ?_
  clear E a; intro a E
  refine WL_nil ?_
  refine T_n ?_
  refine WP_ret ?_
  exact F_ret1 E Tryz.results53 rfl ⟨_, rfl, M_2, hM_2, (SeqV_eq (slices_Values1 h0 hb_1) (by ((try clear S); (try clear E); first | rfl | (simp; done) | (simp_all; done) | grind [List.take_add_one]))), S⟩

set_option maxRecDepth 100000 in
set_option maxHeartbeats 4000000 in
theorem it_UniqBy1 {M : Hp} {v0 : Value} {l0 : List Int} (h0 : SeqV Tryz.prog v0 M (RInt) l0) {v1 : Value} {f1 : Int → Int} (h1 : PF1I Tryz.prog v1 M f1) {bx1 : Nat} (hbx1 : M bx1 = some (.cells #[v0] 59)) {bx2 : Nat} (hbx2 : M bx2 = some (.cells #[v1] 84)) :
    SeqV Tryz.prog (.func (.func 97) #[] #[.pointer (some ⟨bx1, 0, none⟩), .pointer (some ⟨bx2, 0, none⟩)]) M (RInt) ((uqS f1 l0).2) := by
  refine SeqV_enter Tryz.func97 rfl Tryz.ntmps97 rfl Tryz.call97 ?_
  intro y J X a w M1 c H hJM hM1 hY hJ S E
  replace h0 := h0.le hM1
  replace h1 := h1.le hM1
  replace hbx1 := hM1.2 _ _ hbx1
  replace hbx2 := hM1.2 _ _ hbx2
  refine WP_seq ?_
  refine WP_region ?_
  refine S_x (X_box (cs := #[y]) E S rfl rfl (cells_one hY.1) ?_)
  clear E a S; rintro a w b_1 E S
  obtain ⟨M_2, hM_2, hb_1, S⟩ := S.freezeB
  replace h0 := h0.le hM_2
  replace h1 := h1.le hM_2
  replace hbx1 := hM_2.2 _ _ hbx1
  replace hbx2 := hM_2.2 _ _ hbx2
  replace hJ := hJM _ _ _ _ hM_2 hJ
  refine WL_nil ?_
  refine T_n ?_
  refine WP_seq ?_
  refine WP_region ?_
  refine S_x (X_makeMap E S rfl ?_)
  clear E a S; rintro a w b_3 E S
  replace S : St w M_2 (OwnS b_3 ([] : List Int) :: _) := S
  refine S_x (X_alloc (cs := #[.map none]) E S rfl Tryz.zeroValue67 rfl ?_)
  clear E a S; rintro a w b_4 E S
  refine S_x0 (X_store E S rfl rfl (Tryz.sizeOf67 _) rfl ?_)
  clear E a S; rintro a w E S
  refine WL_nil ?_
  refine T_n ?_
  refine WP_seq ?_
  refine WP_region ?_
  refine S_v E rfl (R_loadM E rfl Tryz.isAgg59 S.imm (cellM_box hbx1)) rfl ?_
  clear E a; intro a E
  refine WL_nil ?_
  refine T_n ?_
  refine WP_block ?_
  replace S := S.front3
  replace S := S.front2
  replace S := S.front2
  replace E := E.keep (l' := [(2, .pointer (some ⟨bx2, 0, none⟩)), (3, .pointer (some ⟨b_1, 0, none⟩)), (4, .pointer (some ⟨b_4, 0, none⟩)), (10, v0)]) ⟨rfl, rfl, rfl, rfl, trivial⟩
  replace S := S.front2
  replace S := S.front2
  replace S := S.reM (L' := (Sl.encS ((uqS f1 (([] : List Int))).1))) (congrArg Sl.encS (show ([] : List Int) = (uqS f1 (([] : List Int))).1 by first | (simp [uqS]; done) | (refine uqa_out ?_; first | assumption | (simp_all; done)) | (refine uqa_in ?_; first | assumption | (simp_all; done))))
  replace S := S.front2
  have S0 := S; clear S; have S := St.pack [blk b_4 (.cells #[.map (some b_3)] 67), OwnS b_3 ((uqS f1 (([] : List Int))).1), c] S0; clear S0
  refine WP_range (RV := RInt) (l := l0) (fun pre M c => ∃ (c0 : HProp), c = bigs [blk b_4 (.cells #[.map (some b_3)] 67), OwnS b_3 ((uqS f1 (pre)).1), c0] ∧ (J ((uqS f1 (pre)).2) M c0)) (fun cd pre M c => cd = .ret ∧ ∃ z, z <+: ((uqS f1 l0).2) ∧ X z M c) E S rfl h0 (Hp.le.refl _) (fun _ _ _ h => by rw [h]; rfl) (by decide) (by rintro _ M M' c hM ⟨c0, rfl, f0⟩; exact ⟨_, rfl, hJM _ _ _ _ hM f0⟩) ⟨_, rfl, J_eq hJ (by (simp [uqS]))⟩ ?_ ?_ ?_
  clear E S
  · rintro lb_6 rec_7 pre x _ a w M_5 _ G hM_5 hp_8 rfl ⟨c0, rfl, f0⟩ E S
    replace E : Env a 30 [] [(11, .int .i64 x), (2, .pointer (some ⟨bx2, 0, none⟩)), (3, .pointer (some ⟨b_1, 0, none⟩)), (4, .pointer (some ⟨b_4, 0, none⟩)), (10, v0)] := E
    replace S := S.swap.unpack3
    have hq0 := prefix_lt hp_8
    replace h0 := h0.le hM_5
    replace h1 := h1.le hM_5
    replace hbx1 := hM_5.2 _ _ hbx1
    replace hbx2 := hM_5.2 _ _ hbx2
    replace hb_1 := hM_5.2 _ _ hb_1
    refine WP_region ?_
    refine S_v E rfl (R_assign E rfl) rfl ?_
    clear E a; intro a E
    refine WL_nil ?_
    refine T_n ?_
    replace S := S.front3
    refine rb S ?_
    clear S; intro w S
    refine WP_block ?_
    refine WP_seq ?_
    refine WP_region ?_
    refine S_v E rfl (R_loadM E rfl Tryz.isAgg84 S.imm (cellM_box hbx2)) rfl ?_
    clear E a; intro a E
    refine S_v E rfl (R_move E rfl) rfl ?_
    clear E a; intro a E
    refine S_x (X_pu E S rfl rfl rfl (h1.2 x) (Hp.le.refl _) ?_)
    clear E a S; rintro a _ w M_10 hM_10 rfl S E
    replace h0 := h0.le hM_10
    replace h1 := h1.le hM_10
    replace hbx1 := hM_10.2 _ _ hbx1
    replace hbx2 := hM_10.2 _ _ hbx2
    replace hb_1 := hM_10.2 _ _ hb_1
    replace f0 := hJM _ _ _ _ hM_10 f0
    refine S_v E rfl (R_assign E rfl) rfl ?_
    clear E a; intro a E
    refine WL_nil ?_
    refine T_n ?_
    refine WP_seq ?_
    refine WP_region ?_
    refine S_v E rfl (R_load E rfl (Tryz.isAgg67 _) (cell_blk (S.mem (.tail _ (.head _))))) rfl ?_
    clear E a; intro a E
    refine S_v E rfl (R_move E rfl) rfl ?_
    clear E a; intro a E
    replace S := S.front2
    refine S_x (X_lookupS E S rfl MT67 rfl rfl ?_)
    clear E a S; rintro a w E S
    replace S : St w M_10 (OwnS b_3 ((uqS f1 (pre)).1) :: _) := S
    refine S_v E rfl (R_move E rfl) rfl ?_
    clear E a; intro a E
    refine S_v E rfl (R_extract E rfl rfl) rfl ?_
    clear E a; intro a E
    refine S_v E rfl (R_extract E rfl rfl) rfl ?_
    clear E a; intro a E
    refine S_x (X_alloc (cs := #[]) E S rfl Tryz.zeroValue80 rfl ?_)
    clear E a S; rintro a w b_11 E S
    refine S_x0 (X_storeG (us := []) E S rfl rfl (Tryz.sizeOf80 _) rfl (by intro u hu; cases hu) ?_)
    clear E a S; rintro a w E S
    replace S : St w M_10 (blk b_11 (.cells #[] 80) :: _) := S
    have S0 := S; clear S
    obtain ⟨M_12, hM_12, hb_13, S⟩ := S0.freezeB
    clear S0
    replace h0 := h0.le hM_12
    replace h1 := h1.le hM_12
    replace hbx1 := hM_12.2 _ _ hbx1
    replace hbx2 := hM_12.2 _ _ hbx2
    replace hb_1 := hM_12.2 _ _ hb_1
    replace f0 := hJM _ _ _ _ hM_12 f0
    refine S_v E rfl (R_assign E rfl) rfl ?_
    clear E a; intro a E
    refine WL_nil ?_
    refine T_n ?_
    refine WP_seq ?_
    refine WP_region ?_
    refine S_v E rfl (R_move E rfl) rfl ?_
    clear E a; intro a E
    refine S_v E rfl (R_not E rfl) rfl ?_
    clear E a; intro a E
    refine WL_nil ?_
    refine T_n ?_
    refine WP_cond E rfl (fun hc_14 => ?_) (fun hc_14 => ?_)
    · refine WP_seq ?_
      refine WP_seq ?_
      refine WP_region ?_
      refine S_v E rfl (R_loadM E rfl Tryz.isAgg85 S.imm (cellM_box hb_1)) rfl ?_
      clear E a; intro a E
      refine S_v E rfl (R_move E rfl) rfl ?_
      clear E a; intro a E
      replace S := S.front3
      refine S_x (X_yield (x := x) E S rfl rfl rfl hY (hM_2.trans (hM_5.trans (hM_10.trans hM_12))) (by (refine uqp (by assumption) ?_; first | assumption | (simp_all; done))) rfl f0 ?_)
      clear E a S; rintro a w M_15 c_16 go_17 hM_15 f0 S E
      replace h0 := h0.le hM_15
      replace h1 := h1.le hM_15
      replace hbx1 := hM_15.2 _ _ hbx1
      replace hbx2 := hM_15.2 _ _ hbx2
      replace hb_1 := hM_15.2 _ _ hb_1
      replace hb_13 := hM_15.2 _ _ hb_13
      cases go_17
      · replace f0 : X ((uqS f1 (pre)).2 ++ [x]) M_15 c_16 := f0
        refine S_v E rfl (R_not E rfl) rfl ?_
        clear E a; intro a E
        refine WL_nil ?_
        refine T_n ?_
        refine WP_condT E rfl rfl ?_
        refine WP_ret ?_
        refine T_r ?_
        refine B_r ?_
        replace S := S.front1
        replace S := S.drop
        replace S := S.front2
        replace S := S.drop
        replace S := S.front1
        exact ⟨M_15, _, (hM_10.trans (hM_12.trans hM_15)), ⟨rfl, _, (by first | assumption | ((refine uqp (by assumption) ?_; first | assumption | (simp_all; done))) | (exact uqq (by assumption))), f0⟩, S⟩
      · replace f0 : J ((uqS f1 (pre)).2 ++ [x]) M_15 c_16 := f0
        refine S_v E rfl (R_not E rfl) rfl ?_
        clear E a; intro a E
        refine WL_nil ?_
        refine T_n ?_
        refine WP_condF E rfl rfl ?_
        refine WP_skip ?_
        refine T_n ?_
        refine WP_region ?_
        refine S_v E rfl (R_load E rfl (Tryz.isAgg67 _) (cell_blk (S.mem (.tail _ (.tail _ (.tail _ (.head _))))))) rfl ?_
        clear E a; intro a E
        refine S_v E rfl (R_move E rfl) rfl ?_
        clear E a; intro a E
        refine S_v E rfl (R_build (u := .agg #[]) (vs := []) E rfl (fun w => FB80__  w)) rfl ?_
        clear E a; intro a E
        replace S := S.front1
        refine S_x0 (X_updateS E S MT67 rfl rfl rfl ?_)
        clear E a S; rintro a w E S
        refine WL_nil ?_
        refine B_n ?_
        replace S := S.front1
        replace S := S.front1
        replace S := S.front3
        replace S := S.front2
        replace S := S.front2
        replace S := S.reM (L' := (Sl.encS ((uqS f1 ((pre ++ [x]))).1))) (congrArg Sl.encS (show addS ((uqS f1 (pre)).1) (f1 x) = (uqS f1 ((pre ++ [x]))).1 by first | (simp [uqS]; done) | (refine uqa_out ?_; first | assumption | (simp_all; done)) | (refine uqa_in ?_; first | assumption | (simp_all; done))))
        replace S := S.front2
        have S0 := S; clear S; have S := (St.pack [blk b_4 (.cells #[.map (some b_3)] 67), OwnS b_3 ((uqS f1 ((pre ++ [x]))).1), c_16] S0).swap; clear S0
        exact ⟨M_15, _, (hM_10.trans (hM_12.trans hM_15)), ⟨_, rfl, J_eq f0 (by (first | (refine uqb_out ?_; first | assumption | (simp_all; done)) | (refine uqb_in ?_; first | assumption | (simp_all; done))))⟩, S⟩
    · refine WP_skip ?_
      refine B_n ?_
      replace S := S.front3
      replace S := S.front1
      replace S := S.front3
      replace S := S.front2
      replace S := S.front2
      replace S := S.reM (L' := (Sl.encS ((uqS f1 ((pre ++ [x]))).1))) (congrArg Sl.encS (show (uqS f1 (pre)).1 = (uqS f1 ((pre ++ [x]))).1 by first | (simp [uqS]; done) | (refine uqa_out ?_; first | assumption | (simp_all; done)) | (refine uqa_in ?_; first | assumption | (simp_all; done))))
      replace S := S.front2
      have S0 := S; clear S; have S := (St.pack [blk b_4 (.cells #[.map (some b_3)] 67), OwnS b_3 ((uqS f1 ((pre ++ [x]))).1), c0] S0).swap; clear S0
      exact ⟨M_12, _, (hM_10.trans hM_12), ⟨_, rfl, J_eq f0 (by (first | (refine uqb_out ?_; first | assumption | (simp_all; done)) | (refine uqb_in ?_; first | assumption | (simp_all; done))))⟩, S⟩
  · rintro a w M_18 _ D_19 hM_18 ⟨c0, rfl, f0⟩ S E
    replace S := S.unpack3
    replace h0 := h0.le hM_18
    replace h1 := h1.le hM_18
    replace hbx1 := hM_18.2 _ _ hbx1
    replace hbx2 := hM_18.2 _ _ hbx2
    replace hb_1 := hM_18.2 _ _ hb_1
    refine B_n ?_
    refine F_nrm ?_
    replace S := S.drop
    replace S := S.drop
    replace S := S.front1
    have hpre : (uqS f1 (l0)).2 = (uqS f1 l0).2 := by ((try clear S); (try clear E); first | rfl | (simp; done) | (simp_all; done) | grind [List.take_add_one])
    rw [hpre] at f0
    exact F_retM0 E S Tryz.results97 (fun w S => ⟨_, rfl, M_18, _, (hM_2.trans hM_18), .inl f0, S⟩)
  · rintro a w M_20 c_ D_21 p_22 _ hM_20 hp_23 ⟨rfl, z_, hz_, f0⟩ S E
    replace h0 := h0.le hM_20
    replace h1 := h1.le hM_20
    replace hbx1 := hM_20.2 _ _ hbx1
    replace hbx2 := hM_20.2 _ _ hbx2
    replace hb_1 := hM_20.2 _ _ hb_1
    refine WP_ret ?_
    refine B_r ?_
    replace S := S.front1
    exact F_retM0 E S Tryz.results97 (fun w S => ⟨_, rfl, M_20, _, (hM_2.trans hM_20), .inr ⟨z_, (by first | assumption | (exact uqq (by assumption))), f0⟩, S⟩)

set_option maxRecDepth 100000 in
set_option maxHeartbeats 4000000 in
theorem it_UniqBy {M : Hp} {v0 : Value} {l0 : List Int} (h0 : SeqV Tryz.prog v0 M (RInt) l0) {v1 : Value} {f1 : Int → Int} (h1 : PF1I Tryz.prog v1 M f1) :
    Pu Tryz.prog (.func (.func 81) #[] #[]) M [v0, v1] (fun r M' => SeqV Tryz.prog r M' RInt ((uqS f1 l0).2)) := by
  refine Pu_enter Tryz.func81 rfl Tryz.ntmps81 rfl Tryz.call81 ?_
  intro a w M1 H hM1 S E
  replace h0 := h0.le hM1
  replace h1 := h1.le hM1
  refine WP_seq ?_
  refine WP_region ?_
  refine S_x (X_box (cs := #[v0]) E S rfl rfl (cells_one h0.1) ?_)
  clear E a S; rintro a w b_1 E S
  obtain ⟨M_2, hM_2, hb_1, S⟩ := S.freezeB
  replace h0 := h0.le hM_2
  replace h1 := h1.le hM_2
  refine S_x (X_box (cs := #[v1]) E S rfl rfl (cells_one h1.1) ?_)
  clear E a S; rintro a w b_3 E S
  obtain ⟨M_4, hM_4, hb_3, S⟩ := S.freezeB
  replace h0 := h0.le hM_4
  replace h1 := h1.le hM_4
  replace hb_1 := hM_4.2 _ _ hb_1
  refine S_v E rfl (R_assign E rfl) rfl ?_
  clear E a; intro a E
  refine WL_nil ?_
  refine T_n ?_
  refine WP_seq ?_
  refine WP_region ?_
  refine S_v E rfl (R_makeFunc E rfl rfl) rfl ?_
  clear E a; intro a E
  refine S_v E rfl (R_assign E rfl) rfl ?_
  clear E a; intro a E
  refine WL_nil ?_
  refine T_n ?_
  refine WP_ret ?_
  exact F_ret1 E Tryz.results81 rfl ⟨_, rfl, M_4, (hM_2.trans hM_4), (SeqV_eq (it_UniqBy1 (f1 := f1) h0 h1 hb_1 hb_3) (by ((try clear S); (try clear E); first | rfl | (simp; done) | (simp_all; done) | grind [List.take_add_one]))), S⟩

set_option maxRecDepth 100000 in
set_option maxHeartbeats 4000000 in
theorem it_Uniq1_ {M : Hp} {x0 : Int} :
    Pu Tryz.prog (.func (.func 82) #[] #[]) M [.int .i64 x0] (fun r M' => r = .int .i64 x0) := by
  refine Pu_enter Tryz.func82 rfl Tryz.ntmps82 rfl Tryz.call82 ?_
  intro a w M1 H hM1 S E
  refine WP_seq ?_
  refine WP_region ?_
  refine S_v E rfl (R_assign E rfl) rfl ?_
  clear E a; intro a E
  refine WL_nil ?_
  refine T_n ?_
  refine WP_seq ?_
  refine WP_region ?_
  refine S_v E rfl (R_move E rfl) rfl ?_
  clear E a; intro a E
  refine S_v E rfl (R_assign E rfl) rfl ?_
  clear E a; intro a E
  refine WL_nil ?_
  refine T_n ?_
  refine WP_ret ?_
  exact F_ret1 E Tryz.results82 rfl ⟨_, rfl, M1, (Hp.le.refl _), rfl, S⟩

set_option maxRecDepth 100000 in
set_option maxHeartbeats 4000000 in
theorem it_Uniq_ {M : Hp} {v0 : Value} {l0 : List Int} (h0 : SeqV Tryz.prog v0 M (RInt) l0) :
    Pu Tryz.prog (.func (.func 52) #[] #[]) M [v0] (fun r M' => SeqV Tryz.prog r M' RInt ((uqS (fun x => x) l0).2)) := by
  refine Pu_enter Tryz.func52 rfl Tryz.ntmps52 rfl Tryz.call52 ?_
  intro a w M1 H hM1 S E
  replace h0 := h0.le hM1
  refine WP_seq ?_
  refine WP_region ?_
  refine S_v E rfl (R_assign E rfl) rfl ?_
  clear E a; intro a E
  refine WL_nil ?_
  refine T_n ?_
  refine WP_seq ?_
  refine WP_region ?_
  refine S_v E rfl (R_move E rfl) rfl ?_
  clear E a; intro a E
  refine S_x (X_pu E S rfl rfl rfl (it_UniqBy h0 ⟨rfl, fun zx0 => it_Uniq1_ (x0 := zx0) ⟩) (Hp.le.refl _) ?_)
  clear E a S; rintro a v_2 w M_1 hM_1 hv_2 S E
  replace h0 := h0.le hM_1
  refine S_v E rfl (R_assign E rfl) rfl ?_
  clear E a; intro a E
  refine WL_nil ?_
  refine T_n ?_
  refine WP_ret ?_
  exact F_ret1 E Tryz.results52 rfl ⟨_, rfl, M_1, hM_1, hv_2, S⟩

set_option maxRecDepth 100000 in
set_option maxHeartbeats 4000000 in
theorem slices_AppendSeq {M : Hp} {v1 : Value} {l1 : List Int} (h1 : SeqV Tryz.prog v1 M (RInt) l1)(hb : l1.length ≤ 1000000000000) :
    Pu Tryz.prog (.func (.func 80) #[] #[]) M [.slice none 0 0, v1] (fun r M' => RdI M' r l1) := by
  refine Pu_enter Tryz.func80 rfl Tryz.ntmps80 rfl Tryz.call80 ?_
  intro a w M1 H hM1 S E
  replace h1 := h1.le hM1
  replace S : St w M1 (mks [] :: _) := S.empty
  replace E : Env a 13 (([] : List Nat).map mk) _ := E
  refine WP_seq ?_
  refine WP_region ?_
  refine S_x (X_box (cs := #[.slice none 0 0]) E S rfl rfl rfl ?_)
  clear E a S; rintro a w b_1 E S
  refine S_v E rfl (R_assign E rfl) rfl ?_
  clear E a; intro a E
  refine WL_nil ?_
  refine T_n ?_
  refine WP_seq ?_
  refine WP_seq ?_
  refine WP_region ?_
  refine S_v E rfl (R_move E rfl) rfl ?_
  clear E a; intro a E
  refine WL_nil ?_
  refine T_n ?_
  refine WP_block ?_
  replace S := (S.ownNil (e := 3) (sz := 1)).made0
  replace S := S.front1
  replace E := E.keep (l' := [(2, .pointer (some ⟨b_1, 0, none⟩)), (6, v1)]) ⟨rfl, rfl, trivial⟩
  replace S := S.front1
  replace S := S.re1 (l' := ([] : List Int)) (by ((try clear S); (try clear E); first | assumption | omega | rfl | (simp; done) | (simp_all; done) | (simp [List.take_add_one, *]; done) | grind [List.take_add_one]))
  replace S := S.front1
  have S0 := S; clear S; have S := St.pack [blk b_1 (.cells #[(.slice none 0 0)] 22), OwnI 3 (.slice none 0 0) ([] : List Int)] S0; clear S0
  refine WP_range (RV := RInt) (l := l1) (fun pre M c => ∃ (u2 : Value), c = bigs [blk b_1 (.cells #[u2] 22), OwnI 3 u2 pre]) (fun _ _ _ _ => False) E S rfl h1 (Hp.le.refl _) (fun _ _ _ h => by rw [h]; rfl) (by decide) (by rintro _ M M' c hM ⟨u2, rfl⟩; exact ⟨_, rfl⟩) ⟨_, rfl⟩ ?_ ?_ ?_
  clear E S
  · rintro lb_4 rec_5 pre x _ a w M_3 _ G hM_3 hp_6 rfl ⟨u2, rfl⟩ E S
    replace E : Env a 13 [] [(7, .int .i64 x), (2, .pointer (some ⟨b_1, 0, none⟩)), (6, v1)] := E
    replace S := S.swap.unpack2
    have hq0 := prefix_lt hp_6
    replace h1 := h1.le hM_3
    refine WP_region ?_
    refine S_v E rfl (R_assign E rfl) rfl ?_
    clear E a; intro a E
    refine WL_nil ?_
    refine T_n ?_
    replace S := S.front2
    refine rb S ?_
    clear S; intro w S
    refine WP_block ?_
    refine WP_region ?_
    refine S_v E rfl (R_load E rfl (Tryz.isAgg22 _) (cell_blk (S.mem (.tail _ (.head _))))) rfl ?_
    clear E a; intro a E
    refine S_v E rfl (R_move E rfl) rfl ?_
    clear E a; intro a E
    refine S_x (X_buildI (ys := [x]) E S rfl T22 rfl rfl rfl ?_)
    clear E a S; rintro a w v_8 E S
    replace S := S.front3
    replace S := S.front1
    refine S_x (X_appendB (xs := pre) (ys := [x]) E S rfl rfl rfl T22 (by first | omega | (simp; done) | (simp; omega) | (simp_all; omega)) ?_)
    clear E a S; rintro a w v_9 E S
    have ho_10 := S.oneI
    replace S := S.front2
    refine S_x0 (X_store E S rfl rfl (Tryz.sizeOf22 _) ho_10 ?_)
    clear E a S; rintro a w E S
    refine WL_nil ?_
    refine B_n ?_
    replace S := S.front1
    replace S := S.front1
    replace S := S.front1
    replace S := S.front1
    have S0 := S; clear S; have S := (St.pack [blk b_1 (.cells #[v_9] 22), OwnI 3 v_9 (pre ++ [x])] S0).swap; clear S0
    exact ⟨M_3, _, (Hp.le.refl _), ⟨_, rfl⟩, S⟩
  · rintro a w M_11 _ D_12 hM_11 ⟨u2, rfl⟩ S E
    replace S := S.unpack2
    replace h1 := h1.le hM_11
    refine B_n ?_
    refine T_n ?_
    refine WP_seq ?_
    refine WP_region ?_
    refine S_v E rfl (R_load E rfl (Tryz.isAgg22 _) (cell_blk (S.mem (.head _)))) rfl ?_
    clear E a; intro a E
    refine S_v E rfl (R_assign E rfl) rfl ?_
    clear E a; intro a E
    refine WL_nil ?_
    refine T_n ?_
    refine WP_ret ?_
    replace S := S.front1
    have S0 := S; clear S
    obtain ⟨M_13, hM_13, hz_14, S⟩ := S0.freezeI (by (first | omega | (simp; omega) | (simp; done) | (simp_all; omega) | grind))
    clear S0
    replace h1 := h1.le hM_13
    replace S := S.drop
    exact F_retM1 E S Tryz.results80 rfl (fun w S => ⟨_, rfl, M_13, (hM_11.trans hM_13), hz_14, S⟩)
  · rintro _ _ _ _ _ _ _ _ _ hX; exact hX.elim

set_option maxRecDepth 100000 in
set_option maxHeartbeats 4000000 in
theorem slices_Collect {M : Hp} {v0 : Value} {l0 : List Int} (h0 : SeqV Tryz.prog v0 M (RInt) l0)(hb : l0.length ≤ 1000000000000) :
    Pu Tryz.prog (.func (.func 51) #[] #[]) M [v0] (fun r M' => RdI M' r l0) := by
  refine Pu_enter Tryz.func51 rfl Tryz.ntmps51 rfl Tryz.call51 ?_
  intro a w M1 H hM1 S E
  replace h0 := h0.le hM1
  refine WP_seq ?_
  refine WP_region ?_
  refine S_v E rfl (R_assign E rfl) rfl ?_
  clear E a; intro a E
  refine WL_nil ?_
  refine T_n ?_
  refine WP_seq ?_
  refine WP_region ?_
  refine S_v E rfl (R_move E rfl) rfl ?_
  clear E a; intro a E
  refine S_x (X_pu E S rfl rfl rfl (slices_AppendSeq h0 (by (first | omega | (simp; omega) | (simp; done) | (simp_all; omega) | grind))) (Hp.le.refl _) ?_)
  clear E a S; rintro a v_2 w M_1 hM_1 hv_2 S E
  replace h0 := h0.le hM_1
  refine S_v E rfl (R_assign E rfl) rfl ?_
  clear E a; intro a E
  refine WL_nil ?_
  refine T_n ?_
  refine WP_ret ?_
  exact F_ret1 E Tryz.results51 rfl ⟨_, rfl, M_1, hM_1, hv_2, S⟩

set_option maxRecDepth 100000 in
set_option maxHeartbeats 4000000 in
theorem impl_UniqSeq {M : Hp} {v0 : Value} {l0 : List Int} (h0 : RdI M v0 l0) (hb : l0.length ≤ 1000000000000) :
    Pu Tryz.prog (.func (.func 17) #[] #[]) M [v0] (fun r M' => RdI M' r ((uqS (fun x => x) l0).2)) := by
  refine Pu_enter Tryz.func17 rfl Tryz.ntmps17 rfl Tryz.call17 ?_
  intro a w M1 H hM1 S E
  replace h0 := h0.le hM1
  have b0 := h0.bound
  have hul := uqS_len (fun x => x) l0
  refine WP_seq ?_
  refine WP_region ?_
  refine S_v E rfl (R_assign E rfl) rfl ?_
  clear E a; intro a E
  refine WL_nil ?_
  refine T_n ?_
  refine WP_seq ?_
  refine WP_region ?_
  refine S_v E rfl (R_move E rfl) rfl ?_
  clear E a; intro a E
  refine S_x (X_pu E S rfl rfl rfl (slices_Values h0) (Hp.le.refl _) ?_)
  clear E a S; rintro a v_2 w M_1 hM_1 hv_2 S E
  replace h0 := h0.le hM_1
  refine S_x (X_pu E S rfl rfl rfl (it_Uniq_ hv_2) (Hp.le.refl _) ?_)
  clear E a S; rintro a v_4 w M_3 hM_3 hv_4 S E
  replace h0 := h0.le hM_3
  replace hv_2 := hv_2.le hM_3
  refine S_x (X_pu E S rfl rfl rfl (slices_Collect hv_4 (by (first | omega | (simp; omega) | (simp; done) | (simp_all; omega) | grind))) (Hp.le.refl _) ?_)
  clear E a S; rintro a v_6 w M_5 hM_5 hv_6 S E
  replace h0 := h0.le hM_5
  replace hv_2 := hv_2.le hM_5
  replace hv_4 := hv_4.le hM_5
  refine S_v E rfl (R_assign E rfl) rfl ?_
  clear E a; intro a E
  refine WL_nil ?_
  refine T_n ?_
  refine WP_ret ?_
  exact F_ret1 E Tryz.results17 rfl ⟨_, rfl, M_5, (hM_1.trans (hM_3.trans hM_5)), hv_6, S⟩

set_option maxRecDepth 100000 in
set_option maxHeartbeats 4000000 in
theorem lo_FindUniques {M : Hp} {v0 : Value} {l0 : List Int} (h0 : RdI M v0 l0) (hb : l0.length ≤ 1000000000000) :
    Pu Tryz.prog (.func (.func 54) #[] #[]) M [v0] (fun r M' => RdI M' r ((l0).filter (fun x => !getK false (dupM (fun x => x) l0) ((fun x => x) x)))) := by
  refine Pu_enter Tryz.func54 rfl Tryz.ntmps54 rfl Tryz.call54 ?_
  intro a w M1 H hM1 S E
  replace h0 := h0.le hM1
  have b0 := h0.bound
  refine WP_seq ?_
  refine WP_region ?_
  refine S_v E rfl (R_assign E rfl) rfl ?_
  clear E a; intro a E
  refine WL_nil ?_
  refine T_n ?_
  refine WP_seq ?_
  refine WP_region ?_
  refine S_v E rfl (R_move E rfl) rfl ?_
  clear E a; intro a E
  refine S_v E rfl (R_lenV E rfl T22 h0.len) rfl ?_
  clear E a; intro a E
  refine S_x (X_makeMapR E S rfl MT86 rfl ?_)
  clear E a S; rintro a w b_1 E S
  replace S : St w M1 (OwnE Value.bool b_1 ([] : List (Int × Bool)) :: _) := S
  refine S_v E rfl (R_assign E rfl) rfl ?_
  clear E a; intro a E
  refine WL_nil ?_
  refine T_n ?_
  refine WP_seq ?_
  refine WP_region ?_
  refine S_v E rfl (R_assign E rfl) rfl ?_
  clear E a; intro a E
  refine WL_nil ?_
  refine T_n ?_
  refine WP_seq ?_
  refine WP_seq ?_
  refine WP_region ?_
  refine S_v E rfl (R_move E rfl) rfl ?_
  clear E a; intro a E
  refine S_v E rfl (R_lenV E rfl T22 h0.len) rfl ?_
  clear E a; intro a E
  refine S_v E rfl (R_move E rfl) rfl ?_
  clear E a; intro a E
  refine WL_nil ?_
  refine T_n ?_
  refine WP_block ?_
  replace S := S.reM (L' := (encE Value.bool (dupM (fun x => x) (l0.take 0)))) (congrArg (encE Value.bool) (show ([] : List (Int × Bool)) = dupM (fun x => x) (l0.take 0) by first | rfl | (simp [dupM]; done) | exact dup_y (f := (fun x => x)) (by assumption) (by assumption) | exact dup_n (f := (fun x => x)) (by assumption) (by assumption)))
  refine WP_loop (γ := Nat) (fun (k : Nat) a w => ∃ (M_2 : Hp), Hp.le M1 M_2 ∧ St w M_2 (OwnE Value.bool b_1 (dupM (fun x => x) (l0.take k)) :: H) ∧ Env a 67 [] [(0, v0), (3, .map (some b_1)), (4, .int .i64 ((cntT (dupM (fun x => x) (l0.take k)) : Nat) : Int)), (15, .int .i64 (((l0).length : Nat) : Int)), (16, .int .i64 ((k : Nat) : Int))] ∧ (k ≤ (l0).length)) (fun k => ((l0).length) - k) 0 ⟨M1, Hp.le.refl _, S, E.keep ⟨rfl, rfl, look_nat (i := 0) rfl (by (simp [dupM, cntT])), rfl, rfl, trivial⟩, by ((try clear S); (try clear E); first | assumption | omega | rfl | (simp; done) | (simp_all; done) | (simp [List.take_add_one, *]; done) | grind [List.take_add_one])⟩ ?_
  try clear E
  try clear S
  try clear a
  try clear w
  rintro k a w ⟨M_2, hM_2, S, E, hL0_0⟩
  replace h0 := h0.le hM_2
  have hdl := dupM_len (fun x => x) (l0.take k); rw [List.length_take] at hdl
  have hct := cntT_le (dupM (fun x => x) (l0.take k))
  refine WP_seq ?_
  refine WP_region ?_
  refine S_v E rfl (R_lss E rfl rfl) rfl ?_
  clear E a; intro a E
  refine WL_nil ?_
  refine T_n ?_
  refine WP_seq ?_
  refine WP_cond E rfl (fun hc_3 => ?_) (fun hc_3 => ?_)
  · replace hc_3 := of_decide_eq_true hc_3
    refine WP_skip ?_
    refine T_n ?_
    refine WP_seq ?_
    refine WP_block ?_
    refine WP_seq ?_
    refine WP_region ?_
    refine S_v E rfl (R_move E rfl) rfl ?_
    clear E a; intro a E
    refine S_v E rfl (R_assign E rfl) rfl ?_
    clear E a; intro a E
    refine WL_nil ?_
    refine T_n ?_
    refine WP_seq ?_
    refine WP_region ?_
    refine S_v E rfl (R_move E rfl) rfl ?_
    clear E a; intro a E
    refine S_v E rfl (R_move E rfl) rfl ?_
    clear E a; intro a E
    refine S_v E rfl (R_move E rfl) rfl ?_
    clear E a; intro a E
    obtain ⟨x_4, hx_4⟩ : ∃ x, (l0)[k]? = some x := ⟨_, List.getElem?_eq_getElem (by first | omega | (simp; done) | (simp; omega) | (simp_all; omega))⟩
    obtain ⟨p_5, hp_5, qp_5⟩ := h0.at hx_4
    refine S_v E rfl (R_idx E rfl rfl T22 hp_5 rfl) rfl ?_
    clear E a; intro a E
    refine S_v E rfl (R_loadM E rfl Tryz.isAgg3 S.imm qp_5) rfl ?_
    clear E a; intro a E
    refine S_x (X_lookupE (vf := Value.bool) (zb := false) E S rfl MT86 rfl rfl ?_)
    clear E a S; rintro a w E S
    replace S : St w M_2 (OwnE Value.bool b_1 (dupM (fun x => x) (l0.take k)) :: _) := S
    refine S_v E rfl (R_move E rfl) rfl ?_
    clear E a; intro a E
    refine S_v E rfl (R_extract E rfl rfl) rfl ?_
    clear E a; intro a E
    refine S_v E rfl (R_extract E rfl rfl) rfl ?_
    clear E a; intro a E
    refine S_v E rfl (R_assign E rfl) rfl ?_
    clear E a; intro a E
    refine S_v E rfl (R_assign E rfl) rfl ?_
    clear E a; intro a E
    refine WL_nil ?_
    refine T_n ?_
    refine WP_seq ?_
    refine WP_region ?_
    refine S_v E rfl (R_move E rfl) rfl ?_
    clear E a; intro a E
    refine S_v E rfl (R_not E rfl) rfl ?_
    clear E a; intro a E
    refine WL_nil ?_
    refine T_n ?_
    refine WP_cond E rfl (fun hc_6 => ?_) (fun hc_6 => ?_)
    · refine WP_seq ?_
      refine WP_region ?_
      refine S_v E rfl (R_move E rfl) rfl ?_
      clear E a; intro a E
      refine S_v E rfl (R_move E rfl) rfl ?_
      clear E a; intro a E
      refine S_v E rfl (R_move E rfl) rfl ?_
      clear E a; intro a E
      obtain ⟨p_7, hp_7, qp_7⟩ := h0.at hx_4
      refine S_v E rfl (R_idx E rfl rfl T22 hp_7 rfl) rfl ?_
      clear E a; intro a E
      refine S_v E rfl (R_loadM E rfl Tryz.isAgg3 S.imm qp_7) rfl ?_
      clear E a; intro a E
      refine S_v E rfl (R_move E rfl) rfl ?_
      clear E a; intro a E
      refine S_x0 (X_updateE (vf := Value.bool) (u := hasK (dupM (fun x => x) (l0.take k)) x_4) E S MT86 rfl rfl rfl ?_)
      clear E a S; rintro a w E S
      refine WL_nil ?_
      refine T_n ?_
      refine WP_seq ?_
      refine WP_region ?_
      refine S_v E rfl (R_move E rfl) rfl ?_
      clear E a; intro a E
      refine WL_nil ?_
      refine T_n ?_
      refine WP_cond E rfl (fun hc_8 => ?_) (fun hc_8 => ?_)
      · refine WP_region ?_
        refine S_v E rfl (R_move E rfl) rfl ?_
        clear E a; intro a E
        refine S_v E rfl (R_addx (m := ((cntT (dupM (fun x => x) (l0.take k)) + 1 : Nat) : Int)) E rfl rfl (by first | omega | (have hdl := dupM_len (fun x => x) (l0.take k); rw [List.length_take] at hdl; have hct := cntT_le (dupM (fun x => x) (l0.take k)); omega)) (by first | omega | (have hdl := dupM_len (fun x => x) (l0.take k); rw [List.length_take] at hdl; have hct := cntT_le (dupM (fun x => x) (l0.take k)); omega))) rfl ?_
        clear E a; intro a E
        refine S_v E rfl (R_assign E rfl) rfl ?_
        clear E a; intro a E
        refine WL_nil ?_
        refine B_n ?_
        refine T_n ?_
        refine WP_region ?_
        refine S_v E rfl (R_addx (m := ((k + 1 : Nat) : Int)) E rfl rfl (by first | omega | (have hdl := dupM_len (fun x => x) (l0.take k); rw [List.length_take] at hdl; have hct := cntT_le (dupM (fun x => x) (l0.take k)); omega)) (by first | omega | (have hdl := dupM_len (fun x => x) (l0.take k); rw [List.length_take] at hdl; have hct := cntT_le (dupM (fun x => x) (l0.take k)); omega))) rfl ?_
        clear E a; intro a E
        refine S_v E rfl (R_move E rfl) rfl ?_
        clear E a; intro a E
        refine WL_nil ?_
        refine T_n ?_
        replace S := S.reM (L' := (encE Value.bool (dupM (fun x => x) (l0.take (k + 1))))) (congrArg (encE Value.bool) (show putK (dupM (fun x => x) (l0.take k)) x_4 (hasK (dupM (fun x => x) (l0.take k)) x_4) = dupM (fun x => x) (l0.take (k + 1)) by first | rfl | (simp [dupM]; done) | exact dup_y (f := (fun x => x)) (by assumption) (by assumption) | exact dup_n (f := (fun x => x)) (by assumption) (by assumption)))
        exact ⟨k + 1, ⟨M_2, hM_2, S, E.keep ⟨rfl, rfl, look_nat (i := cntT (dupM (fun x => x) (l0.take k)) + 1) rfl (by (first | (have h9 := cnt_y (f := (fun x => x)) (by assumption) (by assumption); omega) | (have h9 := cnt_n (f := (fun x => x)) (by assumption) (by assumption) (by assumption); omega) | (have h9 := cnt_i (f := (fun x => x)) (by assumption) (by assumption) (by assumption); omega))), rfl, rfl, trivial⟩, by ((try clear S); (try clear E); first | assumption | omega | rfl | (simp; done) | (simp_all; done) | (simp [List.take_add_one, *]; done) | grind [List.take_add_one])⟩, by omega⟩
      · refine WP_skip ?_
        refine B_n ?_
        refine T_n ?_
        refine WP_region ?_
        refine S_v E rfl (R_addx (m := ((k + 1 : Nat) : Int)) E rfl rfl (by first | omega | (have hdl := dupM_len (fun x => x) (l0.take k); rw [List.length_take] at hdl; have hct := cntT_le (dupM (fun x => x) (l0.take k)); omega)) (by first | omega | (have hdl := dupM_len (fun x => x) (l0.take k); rw [List.length_take] at hdl; have hct := cntT_le (dupM (fun x => x) (l0.take k)); omega))) rfl ?_
        clear E a; intro a E
        refine S_v E rfl (R_move E rfl) rfl ?_
        clear E a; intro a E
        refine WL_nil ?_
        refine T_n ?_
        replace S := S.reM (L' := (encE Value.bool (dupM (fun x => x) (l0.take (k + 1))))) (congrArg (encE Value.bool) (show putK (dupM (fun x => x) (l0.take k)) x_4 (hasK (dupM (fun x => x) (l0.take k)) x_4) = dupM (fun x => x) (l0.take (k + 1)) by first | rfl | (simp [dupM]; done) | exact dup_y (f := (fun x => x)) (by assumption) (by assumption) | exact dup_n (f := (fun x => x)) (by assumption) (by assumption)))
        exact ⟨k + 1, ⟨M_2, hM_2, S, E.keep ⟨rfl, rfl, look_nat (i := cntT (dupM (fun x => x) (l0.take k))) rfl (by (first | (have h9 := cnt_y (f := (fun x => x)) (by assumption) (by assumption); omega) | (have h9 := cnt_n (f := (fun x => x)) (by assumption) (by assumption) (by assumption); omega) | (have h9 := cnt_i (f := (fun x => x)) (by assumption) (by assumption) (by assumption); omega))), rfl, rfl, trivial⟩, by ((try clear S); (try clear E); first | assumption | omega | rfl | (simp; done) | (simp_all; done) | (simp [List.take_add_one, *]; done) | grind [List.take_add_one])⟩, by omega⟩
    · refine WP_skip ?_
      refine B_n ?_
      refine T_n ?_
      refine WP_region ?_
      refine S_v E rfl (R_addx (m := ((k + 1 : Nat) : Int)) E rfl rfl (by first | omega | (have hdl := dupM_len (fun x => x) (l0.take k); rw [List.length_take] at hdl; have hct := cntT_le (dupM (fun x => x) (l0.take k)); omega)) (by first | omega | (have hdl := dupM_len (fun x => x) (l0.take k); rw [List.length_take] at hdl; have hct := cntT_le (dupM (fun x => x) (l0.take k)); omega))) rfl ?_
      clear E a; intro a E
      refine S_v E rfl (R_move E rfl) rfl ?_
      clear E a; intro a E
      refine WL_nil ?_
      refine T_n ?_
      replace S := S.reM (L' := (encE Value.bool (dupM (fun x => x) (l0.take (k + 1))))) (congrArg (encE Value.bool) (show dupM (fun x => x) (l0.take k) = dupM (fun x => x) (l0.take (k + 1)) by first | rfl | (simp [dupM]; done) | exact dup_y (f := (fun x => x)) (by assumption) (by assumption) | exact dup_n (f := (fun x => x)) (by assumption) (by assumption)))
      exact ⟨k + 1, ⟨M_2, hM_2, S, E.keep ⟨rfl, rfl, look_nat (i := cntT (dupM (fun x => x) (l0.take k))) rfl (by (first | (have h9 := cnt_y (f := (fun x => x)) (by assumption) (by assumption); omega) | (have h9 := cnt_n (f := (fun x => x)) (by assumption) (by assumption) (by assumption); omega) | (have h9 := cnt_i (f := (fun x => x)) (by assumption) (by assumption) (by assumption); omega))), rfl, rfl, trivial⟩, by ((try clear S); (try clear E); first | assumption | omega | rfl | (simp; done) | (simp_all; done) | (simp [List.take_add_one, *]; done) | grind [List.take_add_one])⟩, by omega⟩
  · replace hc_3 := of_decide_eq_false hc_3
    refine WP_exit ?_
    refine T_x ?_
    refine T_x ?_
    refine B_x ?_
    refine T_n ?_
    refine WP_seq ?_
    refine WP_region ?_
    refine S_v E rfl (R_move E rfl) rfl ?_
    clear E a; intro a E
    refine S_v E rfl ((R_lenO E S MT86 rfl).trans (by rw [encE_len])) rfl ?_
    clear E a; intro a E
    refine S_v E rfl (R_move E rfl) rfl ?_
    clear E a; intro a E
    refine S_v E rfl (R_subx (m := (((dupM (fun x => x) (l0.take k)).length - (cntT (dupM (fun x => x) (l0.take k))) : Nat) : Int)) E rfl rfl (by first | omega | (have hdl := dupM_len (fun x => x) (l0.take k); rw [List.length_take] at hdl; have hct := cntT_le (dupM (fun x => x) (l0.take k)); omega)) (by first | omega | (have hdl := dupM_len (fun x => x) (l0.take k); rw [List.length_take] at hdl; have hct := cntT_le (dupM (fun x => x) (l0.take k)); omega))) rfl ?_
    clear E a; intro a E
    refine S_x (X_make0 (k := (dupM (fun x => x) (l0.take k)).length - (cntT (dupM (fun x => x) (l0.take k)))) E S rfl rfl rfl T22 rfl (by omega) (by (have hdl := dupM_len (fun x => x) (l0.take k); rw [List.length_take] at hdl; have hct := cntT_le (dupM (fun x => x) (l0.take k)); omega)) (by (have hdl := dupM_len (fun x => x) (l0.take k); rw [List.length_take] at hdl; have hct := cntT_le (dupM (fun x => x) (l0.take k)); omega)) ?_)
    clear E a S; rintro a w v_9 E S
    replace S := S.made0
    refine S_v E rfl (R_assign E rfl) rfl ?_
    clear E a; intro a E
    refine WL_nil ?_
    refine T_n ?_
    refine WP_seq ?_
    refine WP_seq ?_
    refine WP_region ?_
    refine S_v E rfl (R_move E rfl) rfl ?_
    clear E a; intro a E
    refine S_v E rfl (R_lenV E rfl T22 h0.len) rfl ?_
    clear E a; intro a E
    refine S_v E rfl (R_move E rfl) rfl ?_
    clear E a; intro a E
    refine WL_nil ?_
    refine T_n ?_
    refine WP_block ?_
    replace S := S.front1
    replace S := S.front1
    replace S := S.front1
    replace S := S.front1
    replace S := S.re1 (l' := (l0.take 0).filter (fun x => !getK false (dupM (fun x => x) (l0.take k)) ((fun x => x) x))) (by first | rfl | (simp; done) | exact flt1_yes (f := fun x => !getK false (dupM (fun x => x) (l0.take k)) ((fun x => x) x)) (by assumption) (by assumption) | exact flt1_no (f := fun x => !getK false (dupM (fun x => x) (l0.take k)) ((fun x => x) x)) (by assumption) (by assumption))
    refine WP_loop (γ := Nat) (fun (j : Nat) a w => ∃ (M_10 : Hp) (u8 : Value), Hp.le M_2 M_10 ∧ St w M_10 (OwnI 3 u8 ((l0.take j).filter (fun x => !getK false (dupM (fun x => x) (l0.take k)) ((fun x => x) x))) :: OwnE Value.bool b_1 (dupM (fun x => x) (l0.take k)) :: H) ∧ Env a 67 [] [(0, v0), (3, .map (some b_1)), (8, u8), (46, .int .i64 (((l0).length : Nat) : Int)), (47, .int .i64 ((j : Nat) : Int))] ∧ (j ≤ (l0).length)) (fun j => ((l0).length) - j) 0 ⟨M_2, _, Hp.le.refl _, S, E.keep ⟨rfl, rfl, rfl, rfl, rfl, trivial⟩, by ((try clear S); (try clear E); first | assumption | omega | rfl | (simp; done) | (simp_all; done) | (simp [List.take_add_one, *]; done) | grind [List.take_add_one])⟩ ?_
    try clear E
    try clear S
    try clear a
    try clear w
    rintro j a w ⟨M_10, u8, hM_10, S, E, hL1_0⟩
    replace h0 := h0.le hM_10
    have hfl := List.length_filter_le (fun x => !getK false (dupM (fun x => x) (l0.take k)) ((fun x => x) x)) (l0.take j); rw [List.length_take] at hfl
    refine WP_seq ?_
    refine WP_region ?_
    refine S_v E rfl (R_lss E rfl rfl) rfl ?_
    clear E a; intro a E
    refine WL_nil ?_
    refine T_n ?_
    refine WP_seq ?_
    refine WP_cond E rfl (fun hc_11 => ?_) (fun hc_11 => ?_)
    · replace hc_11 := of_decide_eq_true hc_11
      refine WP_skip ?_
      refine T_n ?_
      refine WP_seq ?_
      refine WP_block ?_
      refine WP_seq ?_
      refine WP_region ?_
      refine S_v E rfl (R_move E rfl) rfl ?_
      clear E a; intro a E
      refine S_v E rfl (R_assign E rfl) rfl ?_
      clear E a; intro a E
      refine WL_nil ?_
      refine T_n ?_
      refine WP_seq ?_
      refine WP_region ?_
      refine S_v E rfl (R_move E rfl) rfl ?_
      clear E a; intro a E
      refine S_v E rfl (R_move E rfl) rfl ?_
      clear E a; intro a E
      refine S_v E rfl (R_move E rfl) rfl ?_
      clear E a; intro a E
      obtain ⟨x_12, hx_12⟩ : ∃ x, (l0)[j]? = some x := ⟨_, List.getElem?_eq_getElem (by first | omega | (simp; done) | (simp; omega) | (simp_all; omega))⟩
      obtain ⟨p_13, hp_13, qp_13⟩ := h0.at hx_12
      refine S_v E rfl (R_idx E rfl rfl T22 hp_13 rfl) rfl ?_
      clear E a; intro a E
      refine S_v E rfl (R_loadM E rfl Tryz.isAgg3 S.imm qp_13) rfl ?_
      clear E a; intro a E
      replace S := S.front1
      refine S_x (X_lookupE1 (vf := Value.bool) (zb := false) E S rfl MT86 rfl rfl ?_)
      clear E a S; rintro a w E S
      replace S : St w M_10 (OwnE Value.bool b_1 (dupM (fun x => x) (l0.take k)) :: _) := S
      refine S_v E rfl (R_assign E rfl) rfl ?_
      clear E a; intro a E
      refine WL_nil ?_
      refine T_n ?_
      refine WP_seq ?_
      refine WP_region ?_
      refine S_v E rfl (R_move E rfl) rfl ?_
      clear E a; intro a E
      refine S_v E rfl (R_not E rfl) rfl ?_
      clear E a; intro a E
      refine WL_nil ?_
      refine T_n ?_
      refine WP_cond E rfl (fun hc_14 => ?_) (fun hc_14 => ?_)
      · refine WP_region ?_
        refine S_v E rfl (R_move E rfl) rfl ?_
        clear E a; intro a E
        refine S_v E rfl (R_move E rfl) rfl ?_
        clear E a; intro a E
        refine S_v E rfl (R_move E rfl) rfl ?_
        clear E a; intro a E
        obtain ⟨p_15, hp_15, qp_15⟩ := h0.at hx_12
        refine S_v E rfl (R_idx E rfl rfl T22 hp_15 rfl) rfl ?_
        clear E a; intro a E
        refine S_v E rfl (R_loadM E rfl Tryz.isAgg3 S.imm qp_15) rfl ?_
        clear E a; intro a E
        refine S_x (X_buildI (ys := [x_12]) E S rfl T22 rfl rfl rfl ?_)
        clear E a S; rintro a w v_16 E S
        replace S := S.front2
        replace S := S.front1
        refine S_x (X_appendB (xs := (l0.take j).filter (fun x => !getK false (dupM (fun x => x) (l0.take k)) ((fun x => x) x))) (ys := [x_12]) E S rfl rfl rfl T22 (by (simp only [List.length_cons, List.length_nil] at *; omega)) ?_)
        clear E a S; rintro a w v_17 E S
        refine S_v E rfl (R_assign E rfl) rfl ?_
        clear E a; intro a E
        refine WL_nil ?_
        refine B_n ?_
        refine T_n ?_
        refine WP_region ?_
        refine S_v E rfl (R_addx (m := ((j + 1 : Nat) : Int)) E rfl rfl (by first | omega | (have hdl := dupM_len (fun x => x) (l0.take k); rw [List.length_take] at hdl; have hct := cntT_le (dupM (fun x => x) (l0.take k)); omega)) (by first | omega | (have hdl := dupM_len (fun x => x) (l0.take k); rw [List.length_take] at hdl; have hct := cntT_le (dupM (fun x => x) (l0.take k)); omega))) rfl ?_
        clear E a; intro a E
        refine S_v E rfl (R_move E rfl) rfl ?_
        clear E a; intro a E
        refine WL_nil ?_
        refine T_n ?_
        replace S := S.front1
        replace S := S.front1
        replace S := S.re1 (l' := (l0.take (j + 1)).filter (fun x => !getK false (dupM (fun x => x) (l0.take k)) ((fun x => x) x))) (by first | rfl | (simp; done) | exact flt1_yes (f := fun x => !getK false (dupM (fun x => x) (l0.take k)) ((fun x => x) x)) (by assumption) (by assumption) | exact flt1_no (f := fun x => !getK false (dupM (fun x => x) (l0.take k)) ((fun x => x) x)) (by assumption) (by assumption))
        exact ⟨j + 1, ⟨M_10, _, hM_10, S, E.keep ⟨rfl, rfl, rfl, rfl, rfl, trivial⟩, by ((try clear S); (try clear E); first | assumption | omega | rfl | (simp; done) | (simp_all; done) | (simp [List.take_add_one, *]; done) | grind [List.take_add_one])⟩, by omega⟩
      · refine WP_skip ?_
        refine B_n ?_
        refine T_n ?_
        refine WP_region ?_
        refine S_v E rfl (R_addx (m := ((j + 1 : Nat) : Int)) E rfl rfl (by first | omega | (have hdl := dupM_len (fun x => x) (l0.take k); rw [List.length_take] at hdl; have hct := cntT_le (dupM (fun x => x) (l0.take k)); omega)) (by first | omega | (have hdl := dupM_len (fun x => x) (l0.take k); rw [List.length_take] at hdl; have hct := cntT_le (dupM (fun x => x) (l0.take k)); omega))) rfl ?_
        clear E a; intro a E
        refine S_v E rfl (R_move E rfl) rfl ?_
        clear E a; intro a E
        refine WL_nil ?_
        refine T_n ?_
        replace S := S.front1
        replace S := S.front1
        replace S := S.front1
        replace S := S.re1 (l' := (l0.take (j + 1)).filter (fun x => !getK false (dupM (fun x => x) (l0.take k)) ((fun x => x) x))) (by first | rfl | (simp; done) | exact flt1_yes (f := fun x => !getK false (dupM (fun x => x) (l0.take k)) ((fun x => x) x)) (by assumption) (by assumption) | exact flt1_no (f := fun x => !getK false (dupM (fun x => x) (l0.take k)) ((fun x => x) x)) (by assumption) (by assumption))
        exact ⟨j + 1, ⟨M_10, _, hM_10, S, E.keep ⟨rfl, rfl, rfl, rfl, rfl, trivial⟩, by ((try clear S); (try clear E); first | assumption | omega | rfl | (simp; done) | (simp_all; done) | (simp [List.take_add_one, *]; done) | grind [List.take_add_one])⟩, by omega⟩
    · replace hc_11 := of_decide_eq_false hc_11
      refine WP_exit ?_
      refine T_x ?_
      refine T_x ?_
      refine B_x ?_
      refine T_n ?_
      refine WP_seq ?_
      refine WP_region ?_
      refine S_v E rfl (R_move E rfl) rfl ?_
      clear E a; intro a E
      refine S_v E rfl (R_assign E rfl) rfl ?_
      clear E a; intro a E
      refine WL_nil ?_
      refine T_n ?_
      refine WP_ret ?_
      have S0 := S; clear S
      obtain ⟨M_18, hM_18, hz_19, S⟩ := S0.freezeI (by (have hfl := List.length_filter_le (fun x => !getK false (dupM (fun x => x) (l0.take k)) ((fun x => x) x)) (l0.take j); rw [List.length_take] at hfl; omega))
      clear S0
      replace h0 := h0.le hM_18
      exact F_ret1 E Tryz.results54 rfl ⟨_, rfl, M_18, (hM_2.trans (hM_10.trans hM_18)), (by rw [show ((l0).filter (fun x => !getK false (dupM (fun x => x) l0) ((fun x => x) x))) = ((l0.take j).filter (fun x => !getK false (dupM (fun x => x) (l0.take k)) ((fun x => x) x))) from by (rw [List.take_of_length_le (l := l0) (i := k) (by omega), List.take_of_length_le (l := l0) (i := j) (by omega)])]; exact hz_19), S.drop⟩

set_option maxRecDepth 100000 in
set_option maxHeartbeats 4000000 in
theorem impl_FindUniques {M : Hp} {v0 : Value} {l0 : List Int} (h0 : RdI M v0 l0) (hb : l0.length ≤ 1000000000000) :
    Pu Tryz.prog (.func (.func 18) #[] #[]) M [v0] (fun r M' => RdI M' r ((l0).filter (fun x => !getK false (dupM (fun x => x) l0) ((fun x => x) x)))) := by
  refine Pu_enter Tryz.func18 rfl Tryz.ntmps18 rfl Tryz.call18 ?_
  intro a w M1 H hM1 S E
  replace h0 := h0.le hM1
  have b0 := h0.bound
  refine WP_seq ?_
  refine WP_region ?_
  refine S_v E rfl (R_assign E rfl) rfl ?_
  clear E a; intro a E
  refine WL_nil ?_
  refine T_n ?_
  refine WP_seq ?_
  refine WP_region ?_
  refine S_v E rfl (R_move E rfl) rfl ?_
  clear E a; intro a E
  refine S_x (X_pu E S rfl rfl rfl (lo_FindUniques h0 (by (first | omega | (simp; omega) | (simp; done) | (simp_all; omega) | grind))) (Hp.le.refl _) ?_)
  clear E a S; rintro a v_2 w M_1 hM_1 hv_2 S E
  replace h0 := h0.le hM_1
  refine S_v E rfl (R_assign E rfl) rfl ?_
  clear E a; intro a E
  refine WL_nil ?_
  refine T_n ?_
  refine WP_ret ?_
  exact F_ret1 E Tryz.results18 rfl ⟨_, rfl, M_1, hM_1, hv_2, S⟩

set_option maxRecDepth 100000 in
set_option maxHeartbeats 4000000 in
theorem lo_FindDuplicates {M : Hp} {v0 : Value} {l0 : List Int} (h0 : RdI M v0 l0) (hb : l0.length ≤ 1000000000000) :
    Pu Tryz.prog (.func (.func 55) #[] #[]) M [v0] (fun r M' => RdI M' r ((fdS (fun x => x) (dupM (fun x => x) l0) l0).2)) := by
  refine Pu_enter Tryz.func55 rfl Tryz.ntmps55 rfl Tryz.call55 ?_
  intro a w M1 H hM1 S E
  replace h0 := h0.le hM1
  have b0 := h0.bound
  refine WP_seq ?_
  refine WP_region ?_
  refine S_v E rfl (R_assign E rfl) rfl ?_
  clear E a; intro a E
  refine WL_nil ?_
  refine T_n ?_
  refine WP_seq ?_
  refine WP_region ?_
  refine S_v E rfl (R_move E rfl) rfl ?_
  clear E a; intro a E
  refine S_v E rfl (R_lenV E rfl T22 h0.len) rfl ?_
  clear E a; intro a E
  refine S_x (X_makeMapR E S rfl MT86 rfl ?_)
  clear E a S; rintro a w b_1 E S
  replace S : St w M1 (OwnE Value.bool b_1 ([] : List (Int × Bool)) :: _) := S
  refine S_v E rfl (R_assign E rfl) rfl ?_
  clear E a; intro a E
  refine WL_nil ?_
  refine T_n ?_
  refine WP_seq ?_
  refine WP_region ?_
  refine S_v E rfl (R_assign E rfl) rfl ?_
  clear E a; intro a E
  refine WL_nil ?_
  refine T_n ?_
  refine WP_seq ?_
  refine WP_seq ?_
  refine WP_region ?_
  refine S_v E rfl (R_move E rfl) rfl ?_
  clear E a; intro a E
  refine S_v E rfl (R_lenV E rfl T22 h0.len) rfl ?_
  clear E a; intro a E
  refine S_v E rfl (R_move E rfl) rfl ?_
  clear E a; intro a E
  refine WL_nil ?_
  refine T_n ?_
  refine WP_block ?_
  replace S := S.reM (L' := (encE Value.bool (dupM (fun x => x) (l0.take 0)))) (congrArg (encE Value.bool) (show ([] : List (Int × Bool)) = dupM (fun x => x) (l0.take 0) by first | rfl | (simp [dupM]; done) | exact dup_y (f := (fun x => x)) (by assumption) (by assumption) | exact dup_n (f := (fun x => x)) (by assumption) (by assumption)))
  refine WP_loop (γ := Nat) (fun (k : Nat) a w => ∃ (M_2 : Hp), Hp.le M1 M_2 ∧ St w M_2 (OwnE Value.bool b_1 (dupM (fun x => x) (l0.take k)) :: H) ∧ Env a 68 [] [(0, v0), (3, .map (some b_1)), (4, .int .i64 ((cntT (dupM (fun x => x) (l0.take k)) : Nat) : Int)), (15, .int .i64 (((l0).length : Nat) : Int)), (16, .int .i64 ((k : Nat) : Int))] ∧ (k ≤ (l0).length)) (fun k => ((l0).length) - k) 0 ⟨M1, Hp.le.refl _, S, E.keep ⟨rfl, rfl, look_nat (i := 0) rfl (by (simp [dupM, cntT])), rfl, rfl, trivial⟩, by ((try clear S); (try clear E); first | assumption | omega | rfl | (simp; done) | (simp_all; done) | (simp [List.take_add_one, *]; done) | grind [List.take_add_one])⟩ ?_
  try clear E
  try clear S
  try clear a
  try clear w
  rintro k a w ⟨M_2, hM_2, S, E, hL0_0⟩
  replace h0 := h0.le hM_2
  have hdl := dupM_len (fun x => x) (l0.take k); rw [List.length_take] at hdl
  have hct := cntT_le (dupM (fun x => x) (l0.take k))
  refine WP_seq ?_
  refine WP_region ?_
  refine S_v E rfl (R_lss E rfl rfl) rfl ?_
  clear E a; intro a E
  refine WL_nil ?_
  refine T_n ?_
  refine WP_seq ?_
  refine WP_cond E rfl (fun hc_3 => ?_) (fun hc_3 => ?_)
  · replace hc_3 := of_decide_eq_true hc_3
    refine WP_skip ?_
    refine T_n ?_
    refine WP_seq ?_
    refine WP_block ?_
    refine WP_seq ?_
    refine WP_region ?_
    refine S_v E rfl (R_move E rfl) rfl ?_
    clear E a; intro a E
    refine S_v E rfl (R_assign E rfl) rfl ?_
    clear E a; intro a E
    refine WL_nil ?_
    refine T_n ?_
    refine WP_seq ?_
    refine WP_region ?_
    refine S_v E rfl (R_move E rfl) rfl ?_
    clear E a; intro a E
    refine S_v E rfl (R_move E rfl) rfl ?_
    clear E a; intro a E
    refine S_v E rfl (R_move E rfl) rfl ?_
    clear E a; intro a E
    obtain ⟨x_4, hx_4⟩ : ∃ x, (l0)[k]? = some x := ⟨_, List.getElem?_eq_getElem (by first | omega | (simp; done) | (simp; omega) | (simp_all; omega))⟩
    obtain ⟨p_5, hp_5, qp_5⟩ := h0.at hx_4
    refine S_v E rfl (R_idx E rfl rfl T22 hp_5 rfl) rfl ?_
    clear E a; intro a E
    refine S_v E rfl (R_loadM E rfl Tryz.isAgg3 S.imm qp_5) rfl ?_
    clear E a; intro a E
    refine S_x (X_lookupE (vf := Value.bool) (zb := false) E S rfl MT86 rfl rfl ?_)
    clear E a S; rintro a w E S
    replace S : St w M_2 (OwnE Value.bool b_1 (dupM (fun x => x) (l0.take k)) :: _) := S
    refine S_v E rfl (R_move E rfl) rfl ?_
    clear E a; intro a E
    refine S_v E rfl (R_extract E rfl rfl) rfl ?_
    clear E a; intro a E
    refine S_v E rfl (R_extract E rfl rfl) rfl ?_
    clear E a; intro a E
    refine S_v E rfl (R_assign E rfl) rfl ?_
    clear E a; intro a E
    refine S_v E rfl (R_assign E rfl) rfl ?_
    clear E a; intro a E
    refine WL_nil ?_
    refine T_n ?_
    refine WP_seq ?_
    refine WP_region ?_
    refine S_v E rfl (R_move E rfl) rfl ?_
    clear E a; intro a E
    refine S_v E rfl (R_not E rfl) rfl ?_
    clear E a; intro a E
    refine WL_nil ?_
    refine T_n ?_
    refine WP_cond E rfl (fun hc_6 => ?_) (fun hc_6 => ?_)
    · refine WP_seq ?_
      refine WP_region ?_
      refine S_v E rfl (R_move E rfl) rfl ?_
      clear E a; intro a E
      refine S_v E rfl (R_move E rfl) rfl ?_
      clear E a; intro a E
      refine S_v E rfl (R_move E rfl) rfl ?_
      clear E a; intro a E
      obtain ⟨p_7, hp_7, qp_7⟩ := h0.at hx_4
      refine S_v E rfl (R_idx E rfl rfl T22 hp_7 rfl) rfl ?_
      clear E a; intro a E
      refine S_v E rfl (R_loadM E rfl Tryz.isAgg3 S.imm qp_7) rfl ?_
      clear E a; intro a E
      refine S_v E rfl (R_move E rfl) rfl ?_
      clear E a; intro a E
      refine S_x0 (X_updateE (vf := Value.bool) (u := hasK (dupM (fun x => x) (l0.take k)) x_4) E S MT86 rfl rfl rfl ?_)
      clear E a S; rintro a w E S
      refine WL_nil ?_
      refine T_n ?_
      refine WP_seq ?_
      refine WP_region ?_
      refine S_v E rfl (R_move E rfl) rfl ?_
      clear E a; intro a E
      refine WL_nil ?_
      refine T_n ?_
      refine WP_cond E rfl (fun hc_8 => ?_) (fun hc_8 => ?_)
      · refine WP_region ?_
        refine S_v E rfl (R_move E rfl) rfl ?_
        clear E a; intro a E
        refine S_v E rfl (R_addx (m := ((cntT (dupM (fun x => x) (l0.take k)) + 1 : Nat) : Int)) E rfl rfl (by first | omega | (have hdl := dupM_len (fun x => x) (l0.take k); rw [List.length_take] at hdl; have hct := cntT_le (dupM (fun x => x) (l0.take k)); omega)) (by first | omega | (have hdl := dupM_len (fun x => x) (l0.take k); rw [List.length_take] at hdl; have hct := cntT_le (dupM (fun x => x) (l0.take k)); omega))) rfl ?_
        clear E a; intro a E
        refine S_v E rfl (R_assign E rfl) rfl ?_
        clear E a; intro a E
        refine WL_nil ?_
        refine B_n ?_
        refine T_n ?_
        refine WP_region ?_
        refine S_v E rfl (R_addx (m := ((k + 1 : Nat) : Int)) E rfl rfl (by first | omega | (have hdl := dupM_len (fun x => x) (l0.take k); rw [List.length_take] at hdl; have hct := cntT_le (dupM (fun x => x) (l0.take k)); omega)) (by first | omega | (have hdl := dupM_len (fun x => x) (l0.take k); rw [List.length_take] at hdl; have hct := cntT_le (dupM (fun x => x) (l0.take k)); omega))) rfl ?_
        clear E a; intro a E
        refine S_v E rfl (R_move E rfl) rfl ?_
        clear E a; intro a E
        refine WL_nil ?_
        refine T_n ?_
        replace S := S.reM (L' := (encE Value.bool (dupM (fun x => x) (l0.take (k + 1))))) (congrArg (encE Value.bool) (show putK (dupM (fun x => x) (l0.take k)) x_4 (hasK (dupM (fun x => x) (l0.take k)) x_4) = dupM (fun x => x) (l0.take (k + 1)) by first | rfl | (simp [dupM]; done) | exact dup_y (f := (fun x => x)) (by assumption) (by assumption) | exact dup_n (f := (fun x => x)) (by assumption) (by assumption)))
        exact ⟨k + 1, ⟨M_2, hM_2, S, E.keep ⟨rfl, rfl, look_nat (i := cntT (dupM (fun x => x) (l0.take k)) + 1) rfl (by (first | (have h9 := cnt_y (f := (fun x => x)) (by assumption) (by assumption); omega) | (have h9 := cnt_n (f := (fun x => x)) (by assumption) (by assumption) (by assumption); omega) | (have h9 := cnt_i (f := (fun x => x)) (by assumption) (by assumption) (by assumption); omega))), rfl, rfl, trivial⟩, by ((try clear S); (try clear E); first | assumption | omega | rfl | (simp; done) | (simp_all; done) | (simp [List.take_add_one, *]; done) | grind [List.take_add_one])⟩, by omega⟩
      · refine WP_skip ?_
        refine B_n ?_
        refine T_n ?_
        refine WP_region ?_
        refine S_v E rfl (R_addx (m := ((k + 1 : Nat) : Int)) E rfl rfl (by first | omega | (have hdl := dupM_len (fun x => x) (l0.take k); rw [List.length_take] at hdl; have hct := cntT_le (dupM (fun x => x) (l0.take k)); omega)) (by first | omega | (have hdl := dupM_len (fun x => x) (l0.take k); rw [List.length_take] at hdl; have hct := cntT_le (dupM (fun x => x) (l0.take k)); omega))) rfl ?_
        clear E a; intro a E
        refine S_v E rfl (R_move E rfl) rfl ?_
        clear E a; intro a E
        refine WL_nil ?_
        refine T_n ?_
        replace S := S.reM (L' := (encE Value.bool (dupM (fun x => x) (l0.take (k + 1))))) (congrArg (encE Value.bool) (show putK (dupM (fun x => x) (l0.take k)) x_4 (hasK (dupM (fun x => x) (l0.take k)) x_4) = dupM (fun x => x) (l0.take (k + 1)) by first | rfl | (simp [dupM]; done) | exact dup_y (f := (fun x => x)) (by assumption) (by assumption) | exact dup_n (f := (fun x => x)) (by assumption) (by assumption)))
        exact ⟨k + 1, ⟨M_2, hM_2, S, E.keep ⟨rfl, rfl, look_nat (i := cntT (dupM (fun x => x) (l0.take k))) rfl (by (first | (have h9 := cnt_y (f := (fun x => x)) (by assumption) (by assumption); omega) | (have h9 := cnt_n (f := (fun x => x)) (by assumption) (by assumption) (by assumption); omega) | (have h9 := cnt_i (f := (fun x => x)) (by assumption) (by assumption) (by assumption); omega))), rfl, rfl, trivial⟩, by ((try clear S); (try clear E); first | assumption | omega | rfl | (simp; done) | (simp_all; done) | (simp [List.take_add_one, *]; done) | grind [List.take_add_one])⟩, by omega⟩
    · refine WP_skip ?_
      refine B_n ?_
      refine T_n ?_
      refine WP_region ?_
      refine S_v E rfl (R_addx (m := ((k + 1 : Nat) : Int)) E rfl rfl (by first | omega | (have hdl := dupM_len (fun x => x) (l0.take k); rw [List.length_take] at hdl; have hct := cntT_le (dupM (fun x => x) (l0.take k)); omega)) (by first | omega | (have hdl := dupM_len (fun x => x) (l0.take k); rw [List.length_take] at hdl; have hct := cntT_le (dupM (fun x => x) (l0.take k)); omega))) rfl ?_
      clear E a; intro a E
      refine S_v E rfl (R_move E rfl) rfl ?_
      clear E a; intro a E
      refine WL_nil ?_
      refine T_n ?_
      replace S := S.reM (L' := (encE Value.bool (dupM (fun x => x) (l0.take (k + 1))))) (congrArg (encE Value.bool) (show dupM (fun x => x) (l0.take k) = dupM (fun x => x) (l0.take (k + 1)) by first | rfl | (simp [dupM]; done) | exact dup_y (f := (fun x => x)) (by assumption) (by assumption) | exact dup_n (f := (fun x => x)) (by assumption) (by assumption)))
      exact ⟨k + 1, ⟨M_2, hM_2, S, E.keep ⟨rfl, rfl, look_nat (i := cntT (dupM (fun x => x) (l0.take k))) rfl (by (first | (have h9 := cnt_y (f := (fun x => x)) (by assumption) (by assumption); omega) | (have h9 := cnt_n (f := (fun x => x)) (by assumption) (by assumption) (by assumption); omega) | (have h9 := cnt_i (f := (fun x => x)) (by assumption) (by assumption) (by assumption); omega))), rfl, rfl, trivial⟩, by ((try clear S); (try clear E); first | assumption | omega | rfl | (simp; done) | (simp_all; done) | (simp [List.take_add_one, *]; done) | grind [List.take_add_one])⟩, by omega⟩
  · replace hc_3 := of_decide_eq_false hc_3
    refine WP_exit ?_
    refine T_x ?_
    refine T_x ?_
    refine B_x ?_
    refine T_n ?_
    refine WP_seq ?_
    refine WP_region ?_
    refine S_v E rfl (R_move E rfl) rfl ?_
    clear E a; intro a E
    refine S_x (X_make0 (k := cntT (dupM (fun x => x) (l0.take k))) E S rfl rfl rfl T22 rfl (by omega) (by (have hdl := dupM_len (fun x => x) (l0.take k); rw [List.length_take] at hdl; have hct := cntT_le (dupM (fun x => x) (l0.take k)); omega)) (by (have hdl := dupM_len (fun x => x) (l0.take k); rw [List.length_take] at hdl; have hct := cntT_le (dupM (fun x => x) (l0.take k)); omega)) ?_)
    clear E a S; rintro a w v_9 E S
    replace S := S.made0
    refine S_v E rfl (R_assign E rfl) rfl ?_
    clear E a; intro a E
    refine WL_nil ?_
    refine T_n ?_
    refine WP_seq ?_
    refine WP_seq ?_
    refine WP_region ?_
    refine S_v E rfl (R_move E rfl) rfl ?_
    clear E a; intro a E
    refine S_v E rfl (R_lenV E rfl T22 h0.len) rfl ?_
    clear E a; intro a E
    refine S_v E rfl (R_move E rfl) rfl ?_
    clear E a; intro a E
    refine WL_nil ?_
    refine T_n ?_
    refine WP_block ?_
    replace S := S.front1
    replace S := S.front1
    replace S := S.front1
    replace S := S.reM (L' := (encE Value.bool ((fdS (fun x => x) (dupM (fun x => x) (l0.take k)) (l0.take 0)).1))) (congrArg (encE Value.bool) (show dupM (fun x => x) (l0.take k) = (fdS (fun x => x) (dupM (fun x => x) (l0.take k)) (l0.take 0)).1 by first | rfl | (simp [fdS]; done) | (rw [fd_yes (f := (fun x => x)) (by assumption) (by assumption)]; done) | (rw [fd_n (f := (fun x => x)) (by assumption) (by assumption)]; done)))
    replace S := S.front1
    replace S := S.re1 (l' := (fdS (fun x => x) (dupM (fun x => x) (l0.take k)) (l0.take 0)).2) (by first | rfl | (simp [fdS]; done) | (rw [fd_yes (f := (fun x => x)) (by assumption) (by assumption)]; done) | (rw [fd_n (f := (fun x => x)) (by assumption) (by assumption)]; done))
    refine WP_loop (γ := Nat) (fun (j : Nat) a w => ∃ (M_10 : Hp) (u8 : Value), Hp.le M_2 M_10 ∧ St w M_10 (OwnI 3 u8 ((fdS (fun x => x) (dupM (fun x => x) (l0.take k)) (l0.take j)).2) :: OwnE Value.bool b_1 ((fdS (fun x => x) (dupM (fun x => x) (l0.take k)) (l0.take j)).1) :: H) ∧ Env a 68 [] [(0, v0), (3, .map (some b_1)), (8, u8), (43, .int .i64 (((l0).length : Nat) : Int)), (44, .int .i64 ((j : Nat) : Int))] ∧ (j ≤ (l0).length)) (fun j => ((l0).length) - j) 0 ⟨M_2, _, Hp.le.refl _, S, E.keep ⟨rfl, rfl, rfl, rfl, rfl, trivial⟩, by ((try clear S); (try clear E); first | assumption | omega | rfl | (simp; done) | (simp_all; done) | (simp [List.take_add_one, *]; done) | grind [List.take_add_one])⟩ ?_
    try clear E
    try clear S
    try clear a
    try clear w
    rintro j a w ⟨M_10, u8, hM_10, S, E, hL1_0⟩
    replace h0 := h0.le hM_10
    have hfl := fdS_len (fun x => x) (dupM (fun x => x) (l0.take k)) (l0.take j); rw [List.length_take] at hfl
    refine WP_seq ?_
    refine WP_region ?_
    refine S_v E rfl (R_lss E rfl rfl) rfl ?_
    clear E a; intro a E
    refine WL_nil ?_
    refine T_n ?_
    refine WP_seq ?_
    refine WP_cond E rfl (fun hc_11 => ?_) (fun hc_11 => ?_)
    · replace hc_11 := of_decide_eq_true hc_11
      refine WP_skip ?_
      refine T_n ?_
      refine WP_seq ?_
      refine WP_block ?_
      refine WP_seq ?_
      refine WP_region ?_
      refine S_v E rfl (R_move E rfl) rfl ?_
      clear E a; intro a E
      refine S_v E rfl (R_assign E rfl) rfl ?_
      clear E a; intro a E
      refine WL_nil ?_
      refine T_n ?_
      refine WP_seq ?_
      refine WP_region ?_
      refine S_v E rfl (R_move E rfl) rfl ?_
      clear E a; intro a E
      refine S_v E rfl (R_move E rfl) rfl ?_
      clear E a; intro a E
      refine S_v E rfl (R_move E rfl) rfl ?_
      clear E a; intro a E
      obtain ⟨x_12, hx_12⟩ : ∃ x, (l0)[j]? = some x := ⟨_, List.getElem?_eq_getElem (by first | omega | (simp; done) | (simp; omega) | (simp_all; omega))⟩
      obtain ⟨p_13, hp_13, qp_13⟩ := h0.at hx_12
      refine S_v E rfl (R_idx E rfl rfl T22 hp_13 rfl) rfl ?_
      clear E a; intro a E
      refine S_v E rfl (R_loadM E rfl Tryz.isAgg3 S.imm qp_13) rfl ?_
      clear E a; intro a E
      replace S := S.front1
      refine S_x (X_lookupE1 (vf := Value.bool) (zb := false) E S rfl MT86 rfl rfl ?_)
      clear E a S; rintro a w E S
      replace S : St w M_10 (OwnE Value.bool b_1 ((fdS (fun x => x) (dupM (fun x => x) (l0.take k)) (l0.take j)).1) :: _) := S
      refine S_v E rfl (R_assign E rfl) rfl ?_
      clear E a; intro a E
      refine WL_nil ?_
      refine T_n ?_
      refine WP_seq ?_
      refine WP_region ?_
      refine S_v E rfl (R_move E rfl) rfl ?_
      clear E a; intro a E
      refine WL_nil ?_
      refine T_n ?_
      refine WP_cond E rfl (fun hc_14 => ?_) (fun hc_14 => ?_)
      · refine WP_seq ?_
        refine WP_region ?_
        refine S_v E rfl (R_move E rfl) rfl ?_
        clear E a; intro a E
        refine S_v E rfl (R_move E rfl) rfl ?_
        clear E a; intro a E
        refine S_v E rfl (R_move E rfl) rfl ?_
        clear E a; intro a E
        obtain ⟨p_15, hp_15, qp_15⟩ := h0.at hx_12
        refine S_v E rfl (R_idx E rfl rfl T22 hp_15 rfl) rfl ?_
        clear E a; intro a E
        refine S_v E rfl (R_loadM E rfl Tryz.isAgg3 S.imm qp_15) rfl ?_
        clear E a; intro a E
        refine S_x (X_buildI (ys := [x_12]) E S rfl T22 rfl rfl rfl ?_)
        clear E a S; rintro a w v_16 E S
        replace S := S.front2
        replace S := S.front1
        refine S_x (X_appendB (xs := (fdS (fun x => x) (dupM (fun x => x) (l0.take k)) (l0.take j)).2) (ys := [x_12]) E S rfl rfl rfl T22 (by (simp only [List.length_cons, List.length_nil] at *; omega)) ?_)
        clear E a S; rintro a w v_17 E S
        refine S_v E rfl (R_assign E rfl) rfl ?_
        clear E a; intro a E
        refine WL_nil ?_
        refine T_n ?_
        refine WP_region ?_
        refine S_v E rfl (R_move E rfl) rfl ?_
        clear E a; intro a E
        refine S_v E rfl (R_move E rfl) rfl ?_
        clear E a; intro a E
        refine S_v E rfl (R_move E rfl) rfl ?_
        clear E a; intro a E
        obtain ⟨p_18, hp_18, qp_18⟩ := h0.at hx_12
        refine S_v E rfl (R_idx E rfl rfl T22 hp_18 rfl) rfl ?_
        clear E a; intro a E
        refine S_v E rfl (R_loadM E rfl Tryz.isAgg3 S.imm qp_18) rfl ?_
        clear E a; intro a E
        replace S := S.front1
        refine S_x0 (X_updateE (vf := Value.bool) (u := false) E S MT86 rfl rfl rfl ?_)
        clear E a S; rintro a w E S
        refine WL_nil ?_
        refine B_n ?_
        refine T_n ?_
        refine WP_region ?_
        refine S_v E rfl (R_addx (m := ((j + 1 : Nat) : Int)) E rfl rfl (by first | omega | (have hdl := dupM_len (fun x => x) (l0.take k); rw [List.length_take] at hdl; have hct := cntT_le (dupM (fun x => x) (l0.take k)); omega)) (by first | omega | (have hdl := dupM_len (fun x => x) (l0.take k); rw [List.length_take] at hdl; have hct := cntT_le (dupM (fun x => x) (l0.take k)); omega))) rfl ?_
        clear E a; intro a E
        refine S_v E rfl (R_move E rfl) rfl ?_
        clear E a; intro a E
        refine WL_nil ?_
        refine T_n ?_
        replace S := S.front1
        replace S := S.front1
        replace S := S.reM (L' := (encE Value.bool ((fdS (fun x => x) (dupM (fun x => x) (l0.take k)) (l0.take (j + 1))).1))) (congrArg (encE Value.bool) (show putK ((fdS (fun x => x) (dupM (fun x => x) (l0.take k)) (l0.take j)).1) x_12 false = (fdS (fun x => x) (dupM (fun x => x) (l0.take k)) (l0.take (j + 1))).1 by first | rfl | (simp [fdS]; done) | (rw [fd_yes (f := (fun x => x)) (by assumption) (by assumption)]; done) | (rw [fd_n (f := (fun x => x)) (by assumption) (by assumption)]; done)))
        replace S := S.front1
        replace S := S.re1 (l' := (fdS (fun x => x) (dupM (fun x => x) (l0.take k)) (l0.take (j + 1))).2) (by first | rfl | (simp [fdS]; done) | (rw [fd_yes (f := (fun x => x)) (by assumption) (by assumption)]; done) | (rw [fd_n (f := (fun x => x)) (by assumption) (by assumption)]; done))
        exact ⟨j + 1, ⟨M_10, _, hM_10, S, E.keep ⟨rfl, rfl, rfl, rfl, rfl, trivial⟩, by ((try clear S); (try clear E); first | assumption | omega | rfl | (simp; done) | (simp_all; done) | (simp [List.take_add_one, *]; done) | grind [List.take_add_one])⟩, by omega⟩
      · refine WP_skip ?_
        refine B_n ?_
        refine T_n ?_
        refine WP_region ?_
        refine S_v E rfl (R_addx (m := ((j + 1 : Nat) : Int)) E rfl rfl (by first | omega | (have hdl := dupM_len (fun x => x) (l0.take k); rw [List.length_take] at hdl; have hct := cntT_le (dupM (fun x => x) (l0.take k)); omega)) (by first | omega | (have hdl := dupM_len (fun x => x) (l0.take k); rw [List.length_take] at hdl; have hct := cntT_le (dupM (fun x => x) (l0.take k)); omega))) rfl ?_
        clear E a; intro a E
        refine S_v E rfl (R_move E rfl) rfl ?_
        clear E a; intro a E
        refine WL_nil ?_
        refine T_n ?_
        replace S := S.front1
        replace S := S.front1
        replace S := S.reM (L' := (encE Value.bool ((fdS (fun x => x) (dupM (fun x => x) (l0.take k)) (l0.take (j + 1))).1))) (congrArg (encE Value.bool) (show (fdS (fun x => x) (dupM (fun x => x) (l0.take k)) (l0.take j)).1 = (fdS (fun x => x) (dupM (fun x => x) (l0.take k)) (l0.take (j + 1))).1 by first | rfl | (simp [fdS]; done) | (rw [fd_yes (f := (fun x => x)) (by assumption) (by assumption)]; done) | (rw [fd_n (f := (fun x => x)) (by assumption) (by assumption)]; done)))
        replace S := S.front1
        replace S := S.re1 (l' := (fdS (fun x => x) (dupM (fun x => x) (l0.take k)) (l0.take (j + 1))).2) (by first | rfl | (simp [fdS]; done) | (rw [fd_yes (f := (fun x => x)) (by assumption) (by assumption)]; done) | (rw [fd_n (f := (fun x => x)) (by assumption) (by assumption)]; done))
        exact ⟨j + 1, ⟨M_10, _, hM_10, S, E.keep ⟨rfl, rfl, rfl, rfl, rfl, trivial⟩, by ((try clear S); (try clear E); first | assumption | omega | rfl | (simp; done) | (simp_all; done) | (simp [List.take_add_one, *]; done) | grind [List.take_add_one])⟩, by omega⟩
    · replace hc_11 := of_decide_eq_false hc_11
      refine WP_exit ?_
      refine T_x ?_
      refine T_x ?_
      refine B_x ?_
      refine T_n ?_
      refine WP_seq ?_
      refine WP_region ?_
      refine S_v E rfl (R_move E rfl) rfl ?_
      clear E a; intro a E
      refine S_v E rfl (R_assign E rfl) rfl ?_
      clear E a; intro a E
      refine WL_nil ?_
      refine T_n ?_
      refine WP_ret ?_
      have S0 := S; clear S
      obtain ⟨M_19, hM_19, hz_20, S⟩ := S0.freezeI (by (have hfl := fdS_len (fun x => x) (dupM (fun x => x) (l0.take k)) (l0.take j); rw [List.length_take] at hfl; omega))
      clear S0
      replace h0 := h0.le hM_19
      exact F_ret1 E Tryz.results55 rfl ⟨_, rfl, M_19, (hM_2.trans (hM_10.trans hM_19)), (by rw [show ((fdS (fun x => x) (dupM (fun x => x) l0) l0).2) = ((fdS (fun x => x) (dupM (fun x => x) (l0.take k)) (l0.take j)).2) from by (rw [List.take_of_length_le (l := l0) (i := k) (by omega), List.take_of_length_le (l := l0) (i := j) (by omega)])]; exact hz_20), S.drop⟩

set_option maxRecDepth 100000 in
set_option maxHeartbeats 4000000 in
theorem impl_FindDuplicates {M : Hp} {v0 : Value} {l0 : List Int} (h0 : RdI M v0 l0) (hb : l0.length ≤ 1000000000000) :
    Pu Tryz.prog (.func (.func 19) #[] #[]) M [v0] (fun r M' => RdI M' r ((fdS (fun x => x) (dupM (fun x => x) l0) l0).2)) := by
  refine Pu_enter Tryz.func19 rfl Tryz.ntmps19 rfl Tryz.call19 ?_
  intro a w M1 H hM1 S E
  replace h0 := h0.le hM1
  have b0 := h0.bound
  refine WP_seq ?_
  refine WP_region ?_
  refine S_v E rfl (R_assign E rfl) rfl ?_
  clear E a; intro a E
  refine WL_nil ?_
  refine T_n ?_
  refine WP_seq ?_
  refine WP_region ?_
  refine S_v E rfl (R_move E rfl) rfl ?_
  clear E a; intro a E
  refine S_x (X_pu E S rfl rfl rfl (lo_FindDuplicates h0 (by (first | omega | (simp; omega) | (simp; done) | (simp_all; omega) | grind))) (Hp.le.refl _) ?_)
  clear E a S; rintro a v_2 w M_1 hM_1 hv_2 S E
  replace h0 := h0.le hM_1
  refine S_v E rfl (R_assign E rfl) rfl ?_
  clear E a; intro a E
  refine WL_nil ?_
  refine T_n ?_
  refine WP_ret ?_
  exact F_ret1 E Tryz.results19 rfl ⟨_, rfl, M_1, hM_1, hv_2, S⟩

set_option maxRecDepth 100000 in
set_option maxHeartbeats 4000000 in
theorem it_FindUniquesBy1 {M : Hp} {v0 : Value} {l0 : List Int} (h0 : SeqV Tryz.prog v0 M (RInt) l0) {v1 : Value} {f1 : Int → Int} (h1 : PF1I Tryz.prog v1 M f1) {bx1 : Nat} (hbx1 : M bx1 = some (.cells #[v0] 59)) {bx2 : Nat} (hbx2 : M bx2 = some (.cells #[v1] 84)) :
    SeqV Tryz.prog (.func (.func 98) #[] #[.pointer (some ⟨bx1, 0, none⟩), .pointer (some ⟨bx2, 0, none⟩)]) M (RInt) ((l0).filter (fun x => !getK false (dupM f1 l0) (f1 x))) := by
  refine SeqV_enter Tryz.func98 rfl Tryz.ntmps98 rfl Tryz.call98 ?_
  intro y J X a w M1 c H hJM hM1 hY hJ S E
  replace h0 := h0.le hM1
  replace h1 := h1.le hM1
  replace hbx1 := hM1.2 _ _ hbx1
  replace hbx2 := hM1.2 _ _ hbx2
  refine WP_seq ?_
  refine WP_region ?_
  refine S_x (X_box (cs := #[y]) E S rfl rfl (cells_one hY.1) ?_)
  clear E a S; rintro a w b_1 E S
  obtain ⟨M_2, hM_2, hb_1, S⟩ := S.freezeB
  replace h0 := h0.le hM_2
  replace h1 := h1.le hM_2
  replace hbx1 := hM_2.2 _ _ hbx1
  replace hbx2 := hM_2.2 _ _ hbx2
  replace hJ := hJM _ _ _ _ hM_2 hJ
  refine WL_nil ?_
  refine T_n ?_
  refine WP_seq ?_
  refine WP_region ?_
  refine S_x (X_makeMap E S rfl ?_)
  clear E a S; rintro a w b_3 E S
  replace S : St w M_2 (OwnE Value.bool b_3 ([] : List (Int × Bool)) :: _) := S
  refine S_x (X_alloc (cs := #[.map none]) E S rfl Tryz.zeroValue86 rfl ?_)
  clear E a S; rintro a w b_4 E S
  refine S_x0 (X_store E S rfl rfl (Tryz.sizeOf86 _) rfl ?_)
  clear E a S; rintro a w E S
  refine WL_nil ?_
  refine T_n ?_
  refine WP_seq ?_
  refine WP_seq ?_
  refine WP_region ?_
  refine S_v E rfl (R_loadM E rfl Tryz.isAgg59 S.imm (cellM_box hbx1)) rfl ?_
  clear E a; intro a E
  refine WL_nil ?_
  refine T_n ?_
  refine WP_block ?_
  replace S := S.front3
  replace S := S.front2
  replace S := S.front2
  replace E := E.keep (l' := [(1, .pointer (some ⟨bx1, 0, none⟩)), (2, .pointer (some ⟨bx2, 0, none⟩)), (3, .pointer (some ⟨b_1, 0, none⟩)), (4, .pointer (some ⟨b_4, 0, none⟩)), (13, v0)]) ⟨rfl, rfl, rfl, rfl, rfl, trivial⟩
  replace S := S.front2
  replace S := S.front2
  replace S := S.reM (L' := (encE Value.bool (dupM f1 (([] : List Int))))) (congrArg (encE Value.bool) (show ([] : List (Int × Bool)) = dupM f1 (([] : List Int)) by first | (simp [dupM]; done) | (refine dup1_y ?_; first | assumption | (simp_all; done)) | (refine dup1_n ?_; first | assumption | (simp_all; done))))
  replace S := S.front2
  have S0 := S; clear S; have S := St.pack [blk b_4 (.cells #[.map (some b_3)] 86), OwnE Value.bool b_3 (dupM f1 (([] : List Int))), c] S0; clear S0
  refine WP_range (RV := RInt) (l := l0) (fun pre M c => ∃ (c0 : HProp), c = bigs [blk b_4 (.cells #[.map (some b_3)] 86), OwnE Value.bool b_3 (dupM f1 (pre)), c0] ∧ (J ([] : List Int) M c0)) (fun _ _ _ _ => False) E S rfl h0 (Hp.le.refl _) (fun _ _ _ h => by rw [h]; rfl) (by decide) (by rintro _ M M' c hM ⟨c0, rfl, f0⟩; exact ⟨_, rfl, hJM _ _ _ _ hM f0⟩) ⟨_, rfl, J_eq hJ (by ((try clear S); (try clear E); first | assumption | omega | rfl | (simp; done) | (simp_all; done) | (simp [List.take_add_one, *]; done) | grind [List.take_add_one]))⟩ ?_ ?_ ?_
  clear E S
  · rintro lb_6 rec_7 pre x _ a w M_5 _ G hM_5 hp_8 rfl ⟨c0, rfl, f0⟩ E S
    replace E : Env a 45 [] [(14, .int .i64 x), (1, .pointer (some ⟨bx1, 0, none⟩)), (2, .pointer (some ⟨bx2, 0, none⟩)), (3, .pointer (some ⟨b_1, 0, none⟩)), (4, .pointer (some ⟨b_4, 0, none⟩)), (13, v0)] := E
    replace S := S.swap.unpack3
    have hq0 := prefix_lt hp_8
    replace h0 := h0.le hM_5
    replace h1 := h1.le hM_5
    replace hbx1 := hM_5.2 _ _ hbx1
    replace hbx2 := hM_5.2 _ _ hbx2
    replace hb_1 := hM_5.2 _ _ hb_1
    refine WP_region ?_
    refine S_v E rfl (R_assign E rfl) rfl ?_
    clear E a; intro a E
    refine WL_nil ?_
    refine T_n ?_
    replace S := S.front3
    refine rb S ?_
    clear S; intro w S
    refine WP_block ?_
    refine WP_seq ?_
    refine WP_region ?_
    refine S_v E rfl (R_loadM E rfl Tryz.isAgg84 S.imm (cellM_box hbx2)) rfl ?_
    clear E a; intro a E
    refine S_v E rfl (R_move E rfl) rfl ?_
    clear E a; intro a E
    refine S_x (X_pu E S rfl rfl rfl (h1.2 x) (Hp.le.refl _) ?_)
    clear E a S; rintro a _ w M_10 hM_10 rfl S E
    replace h0 := h0.le hM_10
    replace h1 := h1.le hM_10
    replace hbx1 := hM_10.2 _ _ hbx1
    replace hbx2 := hM_10.2 _ _ hbx2
    replace hb_1 := hM_10.2 _ _ hb_1
    replace f0 := hJM _ _ _ _ hM_10 f0
    refine S_v E rfl (R_assign E rfl) rfl ?_
    clear E a; intro a E
    refine WL_nil ?_
    refine T_n ?_
    refine WP_seq ?_
    refine WP_region ?_
    refine S_v E rfl (R_load E rfl (Tryz.isAgg86 _) (cell_blk (S.mem (.tail _ (.head _))))) rfl ?_
    clear E a; intro a E
    refine S_v E rfl (R_move E rfl) rfl ?_
    clear E a; intro a E
    replace S := S.front2
    refine S_x (X_lookupE (vf := Value.bool) (zb := false) E S rfl MT86 rfl rfl ?_)
    clear E a S; rintro a w E S
    replace S : St w M_10 (OwnE Value.bool b_3 (dupM f1 (pre)) :: _) := S
    refine S_v E rfl (R_move E rfl) rfl ?_
    clear E a; intro a E
    refine S_v E rfl (R_extract E rfl rfl) rfl ?_
    clear E a; intro a E
    refine S_v E rfl (R_extract E rfl rfl) rfl ?_
    clear E a; intro a E
    refine S_v E rfl (R_assign E rfl) rfl ?_
    clear E a; intro a E
    refine S_v E rfl (R_assign E rfl) rfl ?_
    clear E a; intro a E
    refine WL_nil ?_
    refine T_n ?_
    refine WP_seq ?_
    refine WP_region ?_
    refine S_v E rfl (R_move E rfl) rfl ?_
    clear E a; intro a E
    refine S_v E rfl (R_not E rfl) rfl ?_
    clear E a; intro a E
    refine WL_nil ?_
    refine T_n ?_
    refine WP_cond E rfl (fun hc_11 => ?_) (fun hc_11 => ?_)
    · refine WP_region ?_
      refine S_v E rfl (R_load E rfl (Tryz.isAgg86 _) (cell_blk (S.mem (.tail _ (.tail _ (.head _)))))) rfl ?_
      clear E a; intro a E
      refine S_v E rfl (R_move E rfl) rfl ?_
      clear E a; intro a E
      refine S_v E rfl (R_move E rfl) rfl ?_
      clear E a; intro a E
      refine S_x0 (X_updateE (vf := Value.bool) (u := hasK (dupM f1 (pre)) (f1 x)) E S MT86 rfl rfl rfl ?_)
      clear E a S; rintro a w E S
      refine WL_nil ?_
      refine B_n ?_
      replace S := S.front3
      replace S := S.front1
      replace S := S.front3
      replace S := S.front2
      replace S := S.front2
      replace S := S.reM (L' := (encE Value.bool (dupM f1 ((pre ++ [x]))))) (congrArg (encE Value.bool) (show putK (dupM f1 (pre)) (f1 x) (hasK (dupM f1 (pre)) (f1 x)) = dupM f1 ((pre ++ [x])) by first | (simp [dupM]; done) | (refine dup1_y ?_; first | assumption | (simp_all; done)) | (refine dup1_n ?_; first | assumption | (simp_all; done))))
      replace S := S.front2
      have S0 := S; clear S; have S := (St.pack [blk b_4 (.cells #[.map (some b_3)] 86), OwnE Value.bool b_3 (dupM f1 ((pre ++ [x]))), c0] S0).swap; clear S0
      exact ⟨M_10, _, hM_10, ⟨_, rfl, J_eq f0 (by ((try clear S); (try clear E); first | assumption | omega | rfl | (simp; done) | (simp_all; done) | (simp [List.take_add_one, *]; done) | grind [List.take_add_one]))⟩, S⟩
    · refine WP_skip ?_
      refine B_n ?_
      replace S := S.front3
      replace S := S.front1
      replace S := S.front3
      replace S := S.front2
      replace S := S.front2
      replace S := S.reM (L' := (encE Value.bool (dupM f1 ((pre ++ [x]))))) (congrArg (encE Value.bool) (show dupM f1 (pre) = dupM f1 ((pre ++ [x])) by first | (simp [dupM]; done) | (refine dup1_y ?_; first | assumption | (simp_all; done)) | (refine dup1_n ?_; first | assumption | (simp_all; done))))
      replace S := S.front2
      have S0 := S; clear S; have S := (St.pack [blk b_4 (.cells #[.map (some b_3)] 86), OwnE Value.bool b_3 (dupM f1 ((pre ++ [x]))), c0] S0).swap; clear S0
      exact ⟨M_10, _, hM_10, ⟨_, rfl, J_eq f0 (by ((try clear S); (try clear E); first | assumption | omega | rfl | (simp; done) | (simp_all; done) | (simp [List.take_add_one, *]; done) | grind [List.take_add_one]))⟩, S⟩
  · rintro a w M_12 _ D_13 hM_12 ⟨c0, rfl, f0⟩ S E
    replace S := S.unpack3
    replace h0 := h0.le hM_12
    replace h1 := h1.le hM_12
    replace hbx1 := hM_12.2 _ _ hbx1
    replace hbx2 := hM_12.2 _ _ hbx2
    replace hb_1 := hM_12.2 _ _ hb_1
    refine B_n ?_
    refine T_n ?_
    refine WP_seq ?_
    refine WP_region ?_
    refine S_v E rfl (R_loadM E rfl Tryz.isAgg59 S.imm (cellM_box hbx1)) rfl ?_
    clear E a; intro a E
    refine WL_nil ?_
    refine T_n ?_
    refine WP_block ?_
    replace S := S.front2
    replace S := S.front2
    replace S := S.front2
    replace E := E.keep (l' := [(2, .pointer (some ⟨bx2, 0, none⟩)), (3, .pointer (some ⟨b_1, 0, none⟩)), (4, .pointer (some ⟨b_4, 0, none⟩)), (29, v0)]) ⟨rfl, rfl, rfl, rfl, trivial⟩
    replace S := S.front2
    replace S := S.front2
    replace S := S.reM (L' := (encE Value.bool (dupM f1 l0))) (congrArg (encE Value.bool) (show dupM f1 (l0) = dupM f1 l0 by first | rfl | (simp; done)))
    replace S := S.front2
    have S0 := S; clear S; have S := St.pack [blk b_4 (.cells #[.map (some b_3)] 86), OwnE Value.bool b_3 (dupM f1 l0), c0] S0; clear S0
    refine WP_range (RV := RInt) (l := l0) (fun pre M c => ∃ (c1 : HProp), c = bigs [blk b_4 (.cells #[.map (some b_3)] 86), OwnE Value.bool b_3 (dupM f1 l0), c1] ∧ (J ((pre).filter (fun x => !getK false (dupM f1 l0) (f1 x))) M c1)) (fun cd pre M c => cd = .ret ∧ ∃ z, z <+: ((l0).filter (fun x => !getK false (dupM f1 l0) (f1 x))) ∧ X z M c) E S rfl h0 (Hp.le.refl _) (fun _ _ _ h => by rw [h]; rfl) (by decide) (by rintro _ M M' c hM ⟨c1, rfl, f0⟩; exact ⟨_, rfl, hJM _ _ _ _ hM f0⟩) ⟨_, rfl, J_eq f0 (by (simp))⟩ ?_ ?_ ?_
    clear E S
    · rintro lb_15 rec_16 pre x _ a w M_14 _ G hM_14 hp_17 rfl ⟨c1, rfl, f0⟩ E S
      replace E : Env a 45 [] [(30, .int .i64 x), (2, .pointer (some ⟨bx2, 0, none⟩)), (3, .pointer (some ⟨b_1, 0, none⟩)), (4, .pointer (some ⟨b_4, 0, none⟩)), (29, v0)] := E
      replace S := S.swap.unpack3
      have hq1 := prefix_lt hp_17
      replace h0 := h0.le hM_14
      replace h1 := h1.le hM_14
      replace hbx1 := hM_14.2 _ _ hbx1
      replace hbx2 := hM_14.2 _ _ hbx2
      replace hb_1 := hM_14.2 _ _ hb_1
      refine WP_region ?_
      refine S_v E rfl (R_assign E rfl) rfl ?_
      clear E a; intro a E
      refine WL_nil ?_
      refine T_n ?_
      replace S := S.front3
      refine rb S ?_
      clear S; intro w S
      refine WP_block ?_
      refine WP_seq ?_
      refine WP_region ?_
      refine S_v E rfl (R_loadM E rfl Tryz.isAgg84 S.imm (cellM_box hbx2)) rfl ?_
      clear E a; intro a E
      refine S_v E rfl (R_move E rfl) rfl ?_
      clear E a; intro a E
      refine S_x (X_pu E S rfl rfl rfl (h1.2 x) (Hp.le.refl _) ?_)
      clear E a S; rintro a _ w M_19 hM_19 rfl S E
      replace h0 := h0.le hM_19
      replace h1 := h1.le hM_19
      replace hbx1 := hM_19.2 _ _ hbx1
      replace hbx2 := hM_19.2 _ _ hbx2
      replace hb_1 := hM_19.2 _ _ hb_1
      replace f0 := hJM _ _ _ _ hM_19 f0
      refine S_v E rfl (R_assign E rfl) rfl ?_
      clear E a; intro a E
      refine WL_nil ?_
      refine T_n ?_
      refine WP_seq ?_
      refine WP_region ?_
      refine S_v E rfl (R_load E rfl (Tryz.isAgg86 _) (cell_blk (S.mem (.tail _ (.head _))))) rfl ?_
      clear E a; intro a E
      refine S_v E rfl (R_move E rfl) rfl ?_
      clear E a; intro a E
      replace S := S.front2
      refine S_x (X_lookupE1 (vf := Value.bool) (zb := false) E S rfl MT86 rfl rfl ?_)
      clear E a S; rintro a w E S
      replace S : St w M_19 (OwnE Value.bool b_3 (dupM f1 l0) :: _) := S
      refine S_v E rfl (R_assign E rfl) rfl ?_
      clear E a; intro a E
      refine WL_nil ?_
      refine T_n ?_
      refine WP_seq ?_
      refine WP_region ?_
      refine S_v E rfl (R_move E rfl) rfl ?_
      clear E a; intro a E
      refine S_v E rfl (R_not E rfl) rfl ?_
      clear E a; intro a E
      refine S_v E rfl (R_move E rfl) rfl ?_
      clear E a; intro a E
      refine split_bool (!(getK false (dupM f1 l0) (f1 x))) (fun hc_20 => ?_) (fun hc_20 => ?_)
      · replace E := E.val (t := 38) rfl hc_20
        replace E := E.val (t := 39) rfl hc_20
        refine WL_guard_yes E rfl rfl ?_
        refine S_v E rfl (R_loadM E rfl Tryz.isAgg85 S.imm (cellM_box hb_1)) rfl ?_
        clear E a; intro a E
        refine WL_guard_yes E rfl rfl ?_
        refine S_v E rfl (R_move E rfl) rfl ?_
        clear E a; intro a E
        replace S := S.front3
        refine WL_guard_yes E rfl rfl ?_
        refine S_x (X_yield (x := x) E S rfl rfl rfl hY (hM_2.trans (hM_12.trans (hM_14.trans hM_19))) (by (refine flp_yes (g := fun x => !getK false (dupM f1 l0) (f1 x)) (by assumption) ?_; first | assumption | (simp_all; done))) rfl f0 ?_)
        clear E a S; rintro a w M_21 c_22 go_23 hM_21 f0 S E
        replace h0 := h0.le hM_21
        replace h1 := h1.le hM_21
        replace hbx1 := hM_21.2 _ _ hbx1
        replace hbx2 := hM_21.2 _ _ hbx2
        replace hb_1 := hM_21.2 _ _ hb_1
        cases go_23
        · replace f0 : X ((pre).filter (fun x => !getK false (dupM f1 l0) (f1 x)) ++ [x]) M_21 c_22 := f0
          refine WL_guard_yes E rfl rfl ?_
          refine S_v E rfl (R_not E rfl) rfl ?_
          clear E a; intro a E
          refine S_v E rfl (R_pickT E rfl rfl) rfl ?_
          clear E a; intro a E
          refine WL_nil ?_
          refine T_n ?_
          refine WP_condT E rfl rfl ?_
          refine WP_ret ?_
          refine B_r ?_
          replace S := S.front1
          replace S := S.drop
          replace S := S.front2
          replace S := S.drop
          replace S := S.front1
          exact ⟨M_21, _, (hM_19.trans hM_21), ⟨rfl, _, (by first | assumption | ((refine flp_yes (g := fun x => !getK false (dupM f1 l0) (f1 x)) (by assumption) ?_; first | assumption | (simp_all; done))) | ((first | (simp; done) | exact List.prefix_refl _ | (rw [pre_take (by assumption)]; exact List.take_prefix _ _) | exact pre_take_lt (by assumption)))), f0⟩, S⟩
        · replace f0 : J ((pre).filter (fun x => !getK false (dupM f1 l0) (f1 x)) ++ [x]) M_21 c_22 := f0
          refine WL_guard_yes E rfl rfl ?_
          refine S_v E rfl (R_not E rfl) rfl ?_
          clear E a; intro a E
          refine S_v E rfl (R_pickT E rfl rfl) rfl ?_
          clear E a; intro a E
          refine WL_nil ?_
          refine T_n ?_
          refine WP_condF E rfl rfl ?_
          refine WP_skip ?_
          refine B_n ?_
          replace S := S.front1
          replace S := S.front3
          replace S := S.front2
          replace S := S.front2
          replace S := S.front2
          have S0 := S; clear S; have S := (St.pack [blk b_4 (.cells #[.map (some b_3)] 86), OwnE Value.bool b_3 (dupM f1 l0), c_22] S0).swap; clear S0
          exact ⟨M_21, _, (hM_19.trans hM_21), ⟨_, rfl, J_eq f0 (by (first | (refine fla_yes (g := fun x => !getK false (dupM f1 l0) (f1 x)) ?_; first | assumption | (simp_all; done)) | (refine fla_no (g := fun x => !getK false (dupM f1 l0) (f1 x)) ?_; first | assumption | (simp_all; done))))⟩, S⟩
      · replace E := E.val (t := 38) rfl hc_20
        replace E := E.val (t := 39) rfl hc_20
        refine WL_guard_no E rfl rfl rfl rfl fun a E => ?_
        refine WL_guard_no E rfl rfl rfl rfl fun a E => ?_
        refine WL_guard_no E rfl rfl rfl rfl fun a E => ?_
        refine WL_guard_no E rfl rfl rfl rfl fun a E => ?_
        refine S_v E rfl (R_pickF E rfl rfl) rfl ?_
        clear E a; intro a E
        refine WL_nil ?_
        refine T_n ?_
        refine WP_condF E rfl rfl ?_
        refine WP_skip ?_
        refine B_n ?_
        replace S := S.front3
        replace S := S.front1
        replace S := S.front3
        replace S := S.front2
        replace S := S.front2
        replace S := S.front2
        have S0 := S; clear S; have S := (St.pack [blk b_4 (.cells #[.map (some b_3)] 86), OwnE Value.bool b_3 (dupM f1 l0), c1] S0).swap; clear S0
        exact ⟨M_19, _, hM_19, ⟨_, rfl, J_eq f0 (by (first | (refine fla_yes (g := fun x => !getK false (dupM f1 l0) (f1 x)) ?_; first | assumption | (simp_all; done)) | (refine fla_no (g := fun x => !getK false (dupM f1 l0) (f1 x)) ?_; first | assumption | (simp_all; done))))⟩, S⟩
    · rintro a w M_24 _ D_25 hM_24 ⟨c1, rfl, f0⟩ S E
      replace S := S.unpack3
      replace h0 := h0.le hM_24
      replace h1 := h1.le hM_24
      replace hbx1 := hM_24.2 _ _ hbx1
      replace hbx2 := hM_24.2 _ _ hbx2
      replace hb_1 := hM_24.2 _ _ hb_1
      refine B_n ?_
      refine F_nrm ?_
      replace S := S.drop
      replace S := S.drop
      replace S := S.front1
      exact F_retM0 E S Tryz.results98 (fun w S => ⟨_, rfl, M_24, _, (hM_2.trans (hM_12.trans hM_24)), .inl f0, S⟩)
    · rintro a w M_26 c_ D_27 p_28 _ hM_26 hp_29 ⟨rfl, z_, hz_, f0⟩ S E
      replace h0 := h0.le hM_26
      replace h1 := h1.le hM_26
      replace hbx1 := hM_26.2 _ _ hbx1
      replace hbx2 := hM_26.2 _ _ hbx2
      replace hb_1 := hM_26.2 _ _ hb_1
      refine WP_ret ?_
      refine B_r ?_
      replace S := S.front1
      exact F_retM0 E S Tryz.results98 (fun w S => ⟨_, rfl, M_26, _, (hM_2.trans (hM_12.trans hM_26)), .inr ⟨z_, (by first | assumption | ((first | (simp; done) | exact List.prefix_refl _ | (rw [pre_take (by assumption)]; exact List.take_prefix _ _) | exact pre_take_lt (by assumption)))), f0⟩, S⟩)
  · rintro _ _ _ _ _ _ _ _ _ hX; exact hX.elim

end Go.Proofs.YtahbobhbookehaaGreat.wFnUniques
