/- Walks through the functions that laws.FnUnionOrder reaches: what each computes; no conditions beyond what each theorem states. -/
import Derived.Test.YtbdacnblipmapaaWFnUnionOrdera
set_option linter.unusedVariables false
set_option linter.unusedSimpArgs false
namespace Go.Proofs.Ytbdacnblipmapaa.wFnUnionOrder
open Go Go.Sl
set_option maxRecDepth 100000 in
set_option maxHeartbeats 4000000 in
theorem lo_Intersect {M : Hp} {v0 : Value} {l0 : List (List Int)} (h0 : RdII M v0 l0) (hb : ∀ x ∈ l0, x.length ≤ 1000000000) :
    Pu Try.prog (.func (.func 76) #[] #[]) M [v0] (fun r M' => RdI M' r (meetF (fun x => x) l0)) := by
  refine Pu_enter Try.func76 rfl Try.ntmps76 rfl Try.call76 ?_
  intro a w M1 H hM1 S E
  replace h0 := h0.le hM1
  have b0 := h0.bound
  refine WP_seq ?_
  refine WP_region ?_
  refine S_v E rfl (R_assign E rfl) rfl ?_
  clear E a; intro a E
  refine WL_nil ?_
  refine T_n ?_
  refine WP_seq ?_
  refine WP_seq ?_
  refine WP_region ?_
  refine S_v E rfl (R_move E rfl) rfl ?_
  clear E a; intro a E
  refine S_v E rfl (R_lenV E rfl T22 h0.len) rfl ?_
  clear E a; intro a E
  refine S_v E rfl (R_eql E rfl rfl) rfl ?_
  clear E a; intro a E
  refine WL_nil ?_
  refine T_n ?_
  refine WP_cond E rfl (fun hc_1 => ?_) (fun hc_1 => ?_)
  · replace hc_1 := of_decide_eq_true hc_1
    refine WP_seq ?_
    refine WP_region ?_
    refine S_x (X_buildI (ys := []) E S rfl T24 rfl rfl rfl ?_)
    clear E a S; rintro a w v_2 E S
    refine S_v E rfl (R_assign E rfl) rfl ?_
    clear E a; intro a E
    refine WL_nil ?_
    refine T_n ?_
    refine WP_ret ?_
    refine T_r ?_
    have S0 := S; clear S
    obtain ⟨M_3, hM_3, hz_4, S⟩ := S0.freezeI (by (first | omega | (simp; omega) | (simp; done) | (simp_all; omega) | grind))
    clear S0
    replace h0 := h0.le hM_3
    exact F_ret1 E Try.results76 rfl ⟨_, rfl, M_3, hM_3, (by rw [show (meetF (fun x => x) l0) = ([] : List Int) from by (have e := List.eq_nil_of_length_eq_zero (l := l0) (by omega); subst e; rfl)]; exact hz_4), S⟩
  · replace hc_1 := of_decide_eq_false hc_1
    refine WP_skip ?_
    refine T_n ?_
    refine WP_seq ?_
    refine WP_region ?_
    refine S_v E rfl (R_move E rfl) rfl ?_
    clear E a; intro a E
    refine S_v E rfl (R_move E rfl) rfl ?_
    clear E a; intro a E
    refine S_v E rfl (R_lenV E rfl T22 h0.len) rfl ?_
    clear E a; intro a E
    refine S_v E rfl (R_subx (m := (((l0).length - 1 : Nat) : Int)) E rfl rfl (by omega) (by omega)) rfl ?_
    clear E a; intro a E
    obtain ⟨x_5, hx_5⟩ : ∃ x, (l0)[(l0).length - 1]? = some x := ⟨_, List.getElem?_eq_getElem (by first | omega | (simp; done) | (simp; omega) | (simp_all; omega))⟩
    obtain ⟨p_6, u_7, hp_6, qp_6, hu_7⟩ := h0.at hx_5
    have bu_7 := hu_7.bound
    refine S_v E rfl (R_idx E rfl rfl T22 hp_6 rfl) rfl ?_
    clear E a; intro a E
    refine S_v E rfl (R_loadM E rfl Try.isAgg24 S.imm qp_6) rfl ?_
    clear E a; intro a E
    refine S_v E rfl (R_assign E rfl) rfl ?_
    clear E a; intro a E
    refine WL_nil ?_
    refine T_n ?_
    refine WP_seq ?_
    refine WP_region ?_
    refine S_v E rfl (R_move E rfl) rfl ?_
    clear E a; intro a E
    refine S_v E rfl (R_lenV E rfl T24 hu_7.len) rfl ?_
    clear E a; intro a E
    refine S_x (X_makeMapR E S rfl MT119 rfl ?_)
    clear E a S; rintro a w b_8 E S
    replace S : St w M1 (OwnE Value.bool b_8 ([] : List (Int × Bool)) :: _) := S
    refine S_v E rfl (R_assign E rfl) rfl ?_
    clear E a; intro a E
    refine WL_nil ?_
    refine T_n ?_
    refine WP_seq ?_
    refine WP_seq ?_
    refine WP_region ?_
    refine S_v E rfl (R_move E rfl) rfl ?_
    clear E a; intro a E
    refine S_v E rfl (R_lenV E rfl T24 hu_7.len) rfl ?_
    clear E a; intro a E
    refine S_v E rfl (R_move E rfl) rfl ?_
    clear E a; intro a E
    refine WL_nil ?_
    refine T_n ?_
    refine WP_block ?_
    replace S := S.reM (L' := (encE Value.bool (bmap (keyL (((l0.getD (l0.length - 1) []).take 0).map (fun x => x))) (fun _ => false)))) (congrArg (encE Value.bool) (show ([] : List (Int × Bool)) = bmap (keyL (((l0.getD (l0.length - 1) []).take 0).map (fun x => x))) (fun _ => false) by first | (unfold bmap; simp [keyL]; done) | exact ad_new (fun x => x) (by assumption) (at_get (n := l0.length - 1) (by assumption) (by omega))))
    refine WP_loop (γ := Nat) (fun (k : Nat) a w => ∃ (M_9 : Hp), Hp.le M1 M_9 ∧ St w M_9 (OwnE Value.bool b_8 (bmap (keyL (((l0.getD (l0.length - 1) []).take k).map (fun x => x))) (fun _ => false)) :: H) ∧ Env a 110 [] [(0, v0), (4, .map (some b_8)), (32, u_7), (33, .int .i64 (((x_5).length : Nat) : Int)), (34, .int .i64 ((k : Nat) : Int))] ∧ (k ≤ (x_5).length)) (fun k => ((x_5).length) - k) 0 ⟨M1, Hp.le.refl _, S, E.keep ⟨rfl, rfl, rfl, rfl, rfl, trivial⟩, by ((try clear S); (try clear E); first | assumption | omega | rfl | (simp; done) | (simp_all; done) | (simp [List.take_add_one, *]; done) | grind [List.take_add_one])⟩ ?_
    try clear E
    try clear S
    try clear a
    try clear w
    rintro k a w ⟨M_9, hM_9, S, E, hL0_0⟩
    replace h0 := h0.le hM_9
    replace hu_7 := hu_7.le hM_9
    refine WP_seq ?_
    refine WP_region ?_
    refine S_v E rfl (R_lss E rfl rfl) rfl ?_
    clear E a; intro a E
    refine WL_nil ?_
    refine T_n ?_
    refine WP_seq ?_
    refine WP_cond E rfl (fun hc_10 => ?_) (fun hc_10 => ?_)
    · replace hc_10 := of_decide_eq_true hc_10
      refine WP_skip ?_
      refine T_n ?_
      refine WP_seq ?_
      refine WP_block ?_
      refine WP_seq ?_
      refine WP_region ?_
      obtain ⟨x_11, hx_11⟩ : ∃ x, (x_5)[k]? = some x := ⟨_, List.getElem?_eq_getElem (by first | omega | (simp; done) | (simp; omega) | (simp_all; omega))⟩
      obtain ⟨p_12, hp_12, qp_12⟩ := hu_7.at hx_11
      refine S_v E rfl (R_idx E rfl rfl T24 hp_12 rfl) rfl ?_
      clear E a; intro a E
      refine S_v E rfl (R_loadM E rfl Try.isAgg3 S.imm qp_12) rfl ?_
      clear E a; intro a E
      refine S_v E rfl (R_assign E rfl) rfl ?_
      clear E a; intro a E
      refine WL_nil ?_
      refine T_n ?_
      refine WP_region ?_
      refine S_v E rfl (R_move E rfl) rfl ?_
      clear E a; intro a E
      refine S_v E rfl (R_move E rfl) rfl ?_
      clear E a; intro a E
      refine S_x0 (X_updateE (vf := Value.bool) (u := false) E S MT119 rfl rfl rfl ?_)
      clear E a S; rintro a w E S
      refine WL_nil ?_
      refine B_n ?_
      refine T_n ?_
      refine WP_region ?_
      refine S_v E rfl (R_addx (m := ((k + 1 : Nat) : Int)) E rfl rfl (by omega) (by omega)) rfl ?_
      clear E a; intro a E
      refine S_v E rfl (R_move E rfl) rfl ?_
      clear E a; intro a E
      refine WL_nil ?_
      refine T_n ?_
      replace S := S.reM (L' := (encE Value.bool (bmap (keyL (((l0.getD (l0.length - 1) []).take (k + 1)).map (fun x => x))) (fun _ => false)))) (congrArg (encE Value.bool) (show putK (bmap (keyL (((l0.getD (l0.length - 1) []).take k).map (fun x => x))) (fun _ => false)) x_11 false = bmap (keyL (((l0.getD (l0.length - 1) []).take (k + 1)).map (fun x => x))) (fun _ => false) by first | (unfold bmap; simp [keyL]; done) | exact ad_new (fun x => x) (by assumption) (at_get (n := l0.length - 1) (by assumption) (by omega))))
      exact ⟨k + 1, ⟨M_9, hM_9, S, E.keep ⟨rfl, rfl, rfl, rfl, rfl, trivial⟩, by ((try clear S); (try clear E); first | assumption | omega | rfl | (simp; done) | (simp_all; done) | (simp [List.take_add_one, *]; done) | grind [List.take_add_one])⟩, by omega⟩
    · replace hc_10 := of_decide_eq_false hc_10
      refine WP_exit ?_
      refine T_x ?_
      refine T_x ?_
      refine B_x ?_
      refine T_n ?_
      refine WP_seq ?_
      refine WP_seq ?_
      refine WP_region ?_
      refine S_v E rfl (R_move E rfl) rfl ?_
      clear E a; intro a E
      refine S_v E rfl (R_lenV E rfl T22 h0.len) rfl ?_
      clear E a; intro a E
      refine S_v E rfl (R_subx (m := (((l0).length : Nat) : Int) - 2) E rfl rfl (by omega) (by omega)) rfl ?_
      clear E a; intro a E
      refine S_v E rfl (R_assign E rfl) rfl ?_
      clear E a; intro a E
      refine WL_nil ?_
      refine T_n ?_
      refine WP_block ?_
      replace S := S.reM (L' := (encE Value.bool (bmap (sjI (fun x => x) l0 0) (fun _ => false)))) (congrArg (encE Value.bool) (show bmap (keyL (((l0.getD (l0.length - 1) []).take k).map (fun x => x))) (fun _ => false) = bmap (sjI (fun x => x) l0 0) (fun _ => false) by first | (rw [(at_get (n := l0.length - 1) (by assumption) (by omega)), List.take_of_length_le (by omega)]; show _ = bmap (keyL _) _; rw [(at_get (n := l0.length - 1) (by assumption) (by omega))]; done) | (rw [sd_end (by assumption)]; rfl)))
      refine WP_loop (γ := Nat) (fun (j : Nat) a w => ∃ (M_13 : Hp), Hp.le M_9 M_13 ∧ St w M_13 (OwnE Value.bool b_8 (bmap (sjI (fun x => x) l0 j) (fun _ => false)) :: H) ∧ Env a 110 [] [(0, v0), (4, .map (some b_8)), (7, .int .i64 ((l0.length : Int) - 2 - (j : Int)))] ∧ (j ≤ l0.length - 2)) (fun j => l0.length - j) 0 ⟨M_9, Hp.le.refl _, S, E.keep ⟨rfl, rfl, look_int (i := (((l0).length : Nat) : Int) - 2) rfl (by (omega)), trivial⟩, (by omega)⟩ ?_
      try clear E
      try clear S
      try clear a
      try clear w
      rintro j a w ⟨M_13, hM_13, S, E, hL1_0⟩
      replace h0 := h0.le hM_13
      replace hu_7 := hu_7.le hM_13
      refine WP_seq ?_
      refine WP_seq ?_
      refine WP_region ?_
      refine S_v E rfl (R_move E rfl) rfl ?_
      clear E a; intro a E
      refine S_v E rfl (R_gtr E rfl rfl) rfl ?_
      clear E a; intro a E
      refine S_v E rfl (R_move E rfl) rfl ?_
      clear E a; intro a E
      refine split_bool (decide (0 < (l0.length : Int) - 2 - (j : Int))) (fun hc_14 => ?_) (fun hc_14 => ?_)
      · replace E := E.val (t := 45) rfl hc_14
        replace E := E.val (t := 46) rfl hc_14
        replace hc_14 := of_decide_eq_true hc_14
        refine WL_guard_yes E rfl rfl ?_
        refine S_v E rfl (R_move E rfl) rfl ?_
        clear E a; intro a E
        refine WL_guard_yes E rfl rfl ?_
        refine S_v E rfl ((R_lenO E S MT119 rfl).trans (by rw [encE_len])) rfl ?_
        clear E a; intro a E
        refine WL_guard_yes E rfl rfl ?_
        refine S_v E rfl (R_neq E rfl rfl) rfl ?_
        clear E a; intro a E
        refine S_v E rfl (R_pickT E rfl rfl) rfl ?_
        clear E a; intro a E
        refine WL_nil ?_
        refine T_n ?_
        refine WP_cond E rfl (fun hc_15 => ?_) (fun hc_15 => ?_)
        · replace hc_15 := of_decide_eq_true hc_15
          refine WP_skip ?_
          refine T_n ?_
          refine WP_seq ?_
          refine WP_block ?_
          refine WP_seq ?_
          refine WP_seq ?_
          refine WP_region ?_
          refine S_v E rfl (R_move E rfl) rfl ?_
          clear E a; intro a E
          refine S_v E rfl (R_move E rfl) rfl ?_
          clear E a; intro a E
          obtain ⟨x_16, hx_16⟩ : ∃ x, (l0)[((l0.length : Int) - 2 - (j : Int)).toNat]? = some x := ⟨_, List.getElem?_eq_getElem (by first | omega | (simp; done) | (simp; omega) | (simp_all; omega))⟩
          obtain ⟨p_17, u_18, hp_17, qp_17, hu_18⟩ := h0.at hx_16
          have bu_18 := hu_18.bound
          refine S_v E rfl (R_idx E rfl rfl T22 hp_17 (by omega)) rfl ?_
          clear E a; intro a E
          refine S_v E rfl (R_loadM E rfl Try.isAgg24 S.imm qp_17) rfl ?_
          clear E a; intro a E
          refine S_v E rfl (R_lenV E rfl T24 hu_18.len) rfl ?_
          clear E a; intro a E
          refine S_v E rfl (R_move E rfl) rfl ?_
          clear E a; intro a E
          refine WL_nil ?_
          refine T_n ?_
          refine WP_block ?_
          replace S := S.reM (L' := (encE Value.bool (bmap (sjI (fun x => x) l0 j) (mkd (((l0.getD (l0.length - 2 - j) []).take 0).map (fun x => x)))))) (congrArg (encE Value.bool) (show bmap (sjI (fun x => x) l0 j) (fun _ => false) = bmap (sjI (fun x => x) l0 j) (mkd (((l0.getD (l0.length - 2 - j) []).take 0).map (fun x => x))) by first | (rw [List.take_zero, List.map_nil, mk_start]; done) | (refine at_yes (fun x => x) (sj_nodup _ _ _) (by assumption) (at_get (n := l0.length - 2 - j) (by assumption) (by omega)) ?_; assumption) | (refine at_no (fun x => x) (by assumption) (at_get (n := l0.length - 2 - j) (by assumption) (by omega)) ?_; assumption)))
          refine WP_loop (γ := Nat) (fun (m : Nat) a w => ∃ (M_19 : Hp), Hp.le M_13 M_19 ∧ St w M_19 (OwnE Value.bool b_8 (bmap (sjI (fun x => x) l0 j) (mkd (((l0.getD (l0.length - 2 - j) []).take m).map (fun x => x)))) :: H) ∧ Env a 110 [] [(0, v0), (4, .map (some b_8)), (7, .int .i64 ((l0.length : Int) - 2 - (j : Int))), (56, u_18), (57, .int .i64 (((x_16).length : Nat) : Int)), (58, .int .i64 ((m : Nat) : Int))] ∧ (m ≤ (x_16).length)) (fun m => ((x_16).length) - m) 0 ⟨M_13, Hp.le.refl _, S, E.keep ⟨rfl, rfl, rfl, rfl, rfl, rfl, trivial⟩, by ((try clear S); (try clear E); first | assumption | omega | rfl | (simp; done) | (simp_all; done) | (simp [List.take_add_one, *]; done) | grind [List.take_add_one])⟩ ?_
          try clear E
          try clear S
          try clear a
          try clear w
          rintro m a w ⟨M_19, hM_19, S, E, hL2_0⟩
          replace h0 := h0.le hM_19
          replace hu_7 := hu_7.le hM_19
          replace hu_18 := hu_18.le hM_19
          refine WP_seq ?_
          refine WP_region ?_
          refine S_v E rfl (R_lss E rfl rfl) rfl ?_
          clear E a; intro a E
          refine WL_nil ?_
          refine T_n ?_
          refine WP_seq ?_
          refine WP_cond E rfl (fun hc_20 => ?_) (fun hc_20 => ?_)
          · replace hc_20 := of_decide_eq_true hc_20
            refine WP_skip ?_
            refine T_n ?_
            refine WP_seq ?_
            refine WP_block ?_
            refine WP_seq ?_
            refine WP_region ?_
            obtain ⟨x_21, hx_21⟩ : ∃ x, (x_16)[m]? = some x := ⟨_, List.getElem?_eq_getElem (by first | omega | (simp; done) | (simp; omega) | (simp_all; omega))⟩
            obtain ⟨p_22, hp_22, qp_22⟩ := hu_18.at hx_21
            refine S_v E rfl (R_idx E rfl rfl T24 hp_22 rfl) rfl ?_
            clear E a; intro a E
            refine S_v E rfl (R_loadM E rfl Try.isAgg3 S.imm qp_22) rfl ?_
            clear E a; intro a E
            refine S_v E rfl (R_assign E rfl) rfl ?_
            clear E a; intro a E
            refine WL_nil ?_
            refine T_n ?_
            refine WP_seq ?_
            refine WP_region ?_
            refine S_v E rfl (R_move E rfl) rfl ?_
            clear E a; intro a E
            refine S_v E rfl (R_move E rfl) rfl ?_
            clear E a; intro a E
            refine S_x (X_lookupE (vf := Value.bool) (zb := false) E S rfl MT119 rfl rfl ?_)
            clear E a S; rintro a w E S
            replace S : St w M_19 (OwnE Value.bool b_8 (bmap (sjI (fun x => x) l0 j) (mkd (((l0.getD (l0.length - 2 - j) []).take m).map (fun x => x)))) :: _) := S
            refine S_v E rfl (R_move E rfl) rfl ?_
            clear E a; intro a E
            refine S_v E rfl (R_extract E rfl rfl) rfl ?_
            clear E a; intro a E
            refine S_v E rfl (R_extract E rfl rfl) rfl ?_
            clear E a; intro a E
            refine S_v E rfl (R_assign E rfl) rfl ?_
            clear E a; intro a E
            refine S_v E rfl (R_assign E rfl) rfl ?_
            clear E a; intro a E
            refine WL_nil ?_
            refine T_n ?_
            refine WP_seq ?_
            refine WP_region ?_
            refine S_v E rfl (R_move E rfl) rfl ?_
            clear E a; intro a E
            refine WL_nil ?_
            refine T_n ?_
            refine WP_cond E rfl (fun hc_23 => ?_) (fun hc_23 => ?_)
            · refine WP_region ?_
              refine S_v E rfl (R_move E rfl) rfl ?_
              clear E a; intro a E
              refine S_v E rfl (R_move E rfl) rfl ?_
              clear E a; intro a E
              refine S_x0 (X_updateE (vf := Value.bool) (u := true) E S MT119 rfl rfl rfl ?_)
              clear E a S; rintro a w E S
              refine WL_nil ?_
              refine B_n ?_
              refine T_n ?_
              refine WP_region ?_
              refine S_v E rfl (R_addx (m := ((m + 1 : Nat) : Int)) E rfl rfl (by omega) (by omega)) rfl ?_
              clear E a; intro a E
              refine S_v E rfl (R_move E rfl) rfl ?_
              clear E a; intro a E
              refine WL_nil ?_
              refine T_n ?_
              replace S := S.reM (L' := (encE Value.bool (bmap (sjI (fun x => x) l0 j) (mkd (((l0.getD (l0.length - 2 - j) []).take (m + 1)).map (fun x => x)))))) (congrArg (encE Value.bool) (show putK (bmap (sjI (fun x => x) l0 j) (mkd (((l0.getD (l0.length - 2 - j) []).take m).map (fun x => x)))) x_21 true = bmap (sjI (fun x => x) l0 j) (mkd (((l0.getD (l0.length - 2 - j) []).take (m + 1)).map (fun x => x))) by first | (rw [List.take_zero, List.map_nil, mk_start]; done) | (refine at_yes (fun x => x) (sj_nodup _ _ _) (by assumption) (at_get (n := l0.length - 2 - j) (by assumption) (by omega)) ?_; assumption) | (refine at_no (fun x => x) (by assumption) (at_get (n := l0.length - 2 - j) (by assumption) (by omega)) ?_; assumption)))
              exact ⟨m + 1, ⟨M_19, hM_19, S, E.keep ⟨rfl, rfl, rfl, rfl, rfl, rfl, trivial⟩, by ((try clear S); (try clear E); first | assumption | omega | rfl | (simp; done) | (simp_all; done) | (simp [List.take_add_one, *]; done) | grind [List.take_add_one])⟩, by omega⟩
            · refine WP_skip ?_
              refine B_n ?_
              refine T_n ?_
              refine WP_region ?_
              refine S_v E rfl (R_addx (m := ((m + 1 : Nat) : Int)) E rfl rfl (by omega) (by omega)) rfl ?_
              clear E a; intro a E
              refine S_v E rfl (R_move E rfl) rfl ?_
              clear E a; intro a E
              refine WL_nil ?_
              refine T_n ?_
              replace S := S.reM (L' := (encE Value.bool (bmap (sjI (fun x => x) l0 j) (mkd (((l0.getD (l0.length - 2 - j) []).take (m + 1)).map (fun x => x)))))) (congrArg (encE Value.bool) (show bmap (sjI (fun x => x) l0 j) (mkd (((l0.getD (l0.length - 2 - j) []).take m).map (fun x => x))) = bmap (sjI (fun x => x) l0 j) (mkd (((l0.getD (l0.length - 2 - j) []).take (m + 1)).map (fun x => x))) by first | (rw [List.take_zero, List.map_nil, mk_start]; done) | (refine at_yes (fun x => x) (sj_nodup _ _ _) (by assumption) (at_get (n := l0.length - 2 - j) (by assumption) (by omega)) ?_; assumption) | (refine at_no (fun x => x) (by assumption) (at_get (n := l0.length - 2 - j) (by assumption) (by omega)) ?_; assumption)))
              exact ⟨m + 1, ⟨M_19, hM_19, S, E.keep ⟨rfl, rfl, rfl, rfl, rfl, rfl, trivial⟩, by ((try clear S); (try clear E); first | assumption | omega | rfl | (simp; done) | (simp_all; done) | (simp [List.take_add_one, *]; done) | grind [List.take_add_one])⟩, by omega⟩
          · replace hc_20 := of_decide_eq_false hc_20
            refine WP_exit ?_
            refine T_x ?_
            refine T_x ?_
            refine B_x ?_
            refine T_n ?_
            refine WP_seq ?_
            refine WP_region ?_
            refine S_v E rfl (R_move E rfl) rfl ?_
            clear E a; intro a E
            refine S_x (X_rangeW E S rfl MT119 rfl ?_)
            clear E a S; rintro a w i_24 E S
            replace S : St w M_19 (ItW b_8 i_24 (encE Value.bool (bmap (sjI (fun x => x) l0 j) (mkd (((l0.getD (l0.length - 2 - j) []).take m).map (fun x => x))))) ([] : List Int) none :: _) := S
            refine WL_nil ?_
            refine T_n ?_
            refine WP_block ?_
            replace S := S.reW (L' := (encE Value.bool (stepD (sjI (fun x => x) l0 j) (mkd ((l0.getD (l0.length - 2 - j) []).map (fun x => x))) []))) (D' := []) (congrArg (encE Value.bool) (show bmap (sjI (fun x => x) l0 j) (mkd (((l0.getD (l0.length - 2 - j) []).take m).map (fun x => x))) = stepD (sjI (fun x => x) l0 j) (mkd ((l0.getD (l0.length - 2 - j) []).map (fun x => x))) [] by first | (rw [(at_get (n := l0.length - 2 - j) (by assumption) (by omega)), List.take_of_length_le (by omega), sd_start]; done) | (refine sd_yes (sj_nodup _ _ _) (by assumption) (by assumption) ?_; first | rfl | assumption) | (refine sd_nof (by assumption) (by assumption) ?_; first | rfl | assumption))) (show ([] : List Int) = [] by first | rfl | (simp; done))
            refine WP_loop (γ := List Int) (fun (dd : List Int) a w => ∃ (M_25 : Hp), Hp.le M_19 M_25 ∧ St w M_25 (ItW b_8 i_24 (encE Value.bool (stepD (sjI (fun x => x) l0 j) (mkd ((l0.getD (l0.length - 2 - j) []).map (fun x => x))) dd)) dd none :: H) ∧ Env a 110 [] [(0, v0), (4, .map (some b_8)), (7, .int .i64 ((l0.length : Int) - 2 - (j : Int))), (73, .pointer (some ⟨i_24, 0, none⟩))] ∧ (dd.Nodup) ∧ (∀ z ∈ dd, z ∈ sjI (fun x => x) l0 j)) (fun dd => (sjI (fun x => x) l0 j).length - dd.length) [] ⟨M_19, Hp.le.refl _, S, E.keep ⟨rfl, rfl, rfl, rfl, trivial⟩, (by simp), (by simp)⟩ ?_
            try clear E
            try clear S
            try clear a
            try clear w
            rintro dd a w ⟨M_25, hM_25, S, E, hL3_0, hL3_1⟩
            replace h0 := h0.le hM_25
            replace hu_7 := hu_7.le hM_25
            replace hu_18 := hu_18.le hM_25
            refine WP_seq ?_
            refine WP_region ?_
            refine S_x (X_nextWE (vf := Value.bool) E S rfl rfl ?_ ?_)
            · clear E a S; rintro a E hpm_26 S
              refine S_v E rfl (R_extract E rfl rfl) rfl ?_
              clear E a; intro a E
              refine WL_nil ?_
              refine T_n ?_
              refine WP_seq ?_
              refine WP_condF E rfl rfl ?_
              refine WP_exit ?_
              refine T_x ?_
              refine T_x ?_
              refine B_x ?_
              refine B_n ?_
              refine T_n ?_
              refine WP_region ?_
              refine S_v E rfl (R_move E rfl) rfl ?_
              clear E a; intro a E
              refine S_v E rfl (R_subx (m := ((l0.length : Int) - 2 - (j : Int)) - 1) E rfl rfl (by omega) (by omega)) rfl ?_
              clear E a; intro a E
              refine S_v E rfl (R_assign E rfl) rfl ?_
              clear E a; intro a E
              refine WL_nil ?_
              refine T_n ?_
              replace S := S.reM (L' := (encE Value.bool (bmap (sjI (fun x => x) l0 (j + 1)) (fun _ => false)))) (congrArg (encE Value.bool) (show stepD (sjI (fun x => x) l0 j) (mkd ((l0.getD (l0.length - 2 - j) []).map (fun x => x))) dd = bmap (sjI (fun x => x) l0 (j + 1)) (fun _ => false) by first | (rw [(at_get (n := l0.length - 1) (by assumption) (by omega)), List.take_of_length_le (by omega)]; show _ = bmap (keyL _) _; rw [(at_get (n := l0.length - 1) (by assumption) (by omega))]; done) | (rw [sd_end (by assumption)]; rfl)))
              exact ⟨j + 1, ⟨M_25, (hM_13.trans (hM_19.trans hM_25)), S, E.keep ⟨rfl, rfl, look_int (i := ((l0.length : Int) - 2 - (j : Int)) - 1) rfl (by (omega)), trivial⟩, (by omega)⟩, by omega⟩
            · clear E a S w; rintro a w k_27 u_29 E hk_28 hk_28n S
              refine S_v E rfl (R_extract E rfl rfl) rfl ?_
              clear E a; intro a E
              refine WL_nil ?_
              refine T_n ?_
              refine WP_seq ?_
              refine WP_condT E rfl rfl ?_
              refine WP_skip ?_
              refine T_n ?_
              refine WP_block ?_
              refine WP_seq ?_
              refine WP_region ?_
              refine S_v E rfl (R_entryW E S rfl) rfl ?_
              clear E a; intro a E
              refine S_v E rfl (R_extract E rfl rfl) rfl ?_
              clear E a; intro a E
              refine S_v E rfl (R_extract E rfl rfl) rfl ?_
              clear E a; intro a E
              refine S_v E rfl (R_assign E rfl) rfl ?_
              clear E a; intro a E
              refine S_v E rfl (R_assign E rfl) rfl ?_
              clear E a; intro a E
              refine WL_nil ?_
              refine T_n ?_
              refine WP_seq ?_
              refine WP_region ?_
              refine S_v E rfl (R_move E rfl) rfl ?_
              clear E a; intro a E
              refine WL_nil ?_
              refine T_n ?_
              refine WP_cond E rfl (fun hc_30 => ?_) (fun hc_30 => ?_)
              · refine WP_region ?_
                refine S_v E rfl (R_move E rfl) rfl ?_
                clear E a; intro a E
                refine S_v E rfl (R_move E rfl) rfl ?_
                clear E a; intro a E
                refine S_x0 (X_updateWE (vf := Value.bool) (u := false) E S MT119 rfl rfl rfl (by exact List.mem_map_of_mem (f := Prod.fst) (by assumption)) ?_)
                clear E a S; rintro a w E S
                refine WL_nil ?_
                refine B_n ?_
                refine T_n ?_
                replace S := S.reW (L' := (encE Value.bool (stepD (sjI (fun x => x) l0 j) (mkd ((l0.getD (l0.length - 2 - j) []).map (fun x => x))) (dd ++ [k_27])))) (D' := (dd ++ [k_27])) (congrArg (encE Value.bool) (show putK (stepD (sjI (fun x => x) l0 j) (mkd ((l0.getD (l0.length - 2 - j) []).map (fun x => x))) dd) k_27 false = stepD (sjI (fun x => x) l0 j) (mkd ((l0.getD (l0.length - 2 - j) []).map (fun x => x))) (dd ++ [k_27]) by first | (rw [(at_get (n := l0.length - 2 - j) (by assumption) (by omega)), List.take_of_length_le (by omega), sd_start]; done) | (refine sd_yes (sj_nodup _ _ _) (by assumption) (by assumption) ?_; first | rfl | assumption) | (refine sd_nof (by assumption) (by assumption) ?_; first | rfl | assumption))) (show dd ++ [k_27] = (dd ++ [k_27]) by first | rfl | (simp; done))
                exact ⟨(dd ++ [k_27]), ⟨M_25, hM_25, S, E.keep ⟨rfl, rfl, rfl, rfl, trivial⟩, (by exact told_nodup (by assumption) (by assumption)), (by exact told_sub (by assumption) (by assumption) (by assumption))⟩, (by have hlt := told_lt (by assumption) (by assumption) (by assumption) (by assumption); simp; omega)⟩
              · refine WP_region ?_
                refine S_v E rfl (R_move E rfl) rfl ?_
                clear E a; intro a E
                refine S_v E rfl (R_move E rfl) rfl ?_
                clear E a; intro a E
                refine S_x0 (X_delete0WE (vf := Value.bool) E S MT119 rfl rfl ?_)
                clear E a S; rintro a w E S
                refine WL_nil ?_
                refine B_n ?_
                refine T_n ?_
                replace S := S.reW (L' := (encE Value.bool (stepD (sjI (fun x => x) l0 j) (mkd ((l0.getD (l0.length - 2 - j) []).map (fun x => x))) (dd ++ [k_27])))) (D' := (dd ++ [k_27])) (congrArg (encE Value.bool) (show delK (stepD (sjI (fun x => x) l0 j) (mkd ((l0.getD (l0.length - 2 - j) []).map (fun x => x))) dd) k_27 = stepD (sjI (fun x => x) l0 j) (mkd ((l0.getD (l0.length - 2 - j) []).map (fun x => x))) (dd ++ [k_27]) by first | (rw [(at_get (n := l0.length - 2 - j) (by assumption) (by omega)), List.take_of_length_le (by omega), sd_start]; done) | (refine sd_yes (sj_nodup _ _ _) (by assumption) (by assumption) ?_; first | rfl | assumption) | (refine sd_nof (by assumption) (by assumption) ?_; first | rfl | assumption))) (show dd ++ [k_27] = (dd ++ [k_27]) by first | rfl | (simp; done))
                exact ⟨(dd ++ [k_27]), ⟨M_25, hM_25, S, E.keep ⟨rfl, rfl, rfl, rfl, trivial⟩, (by exact told_nodup (by assumption) (by assumption)), (by exact told_sub (by assumption) (by assumption) (by assumption))⟩, (by have hlt := told_lt (by assumption) (by assumption) (by assumption) (by assumption); simp; omega)⟩
        · replace hc_15 := of_decide_eq_false hc_15
          refine WP_exit ?_
          refine T_x ?_
          refine T_x ?_
          refine B_x ?_
          refine T_n ?_
          refine WP_seq ?_
          refine WP_region ?_
          refine S_v E rfl (R_move E rfl) rfl ?_
          clear E a; intro a E
          refine S_v E rfl ((R_lenO E S MT119 rfl).trans (by rw [encE_len])) rfl ?_
          clear E a; intro a E
          refine S_x (X_make0 (k := (bmap (sjI (fun x => x) l0 j) (fun _ => false)).length) E S rfl rfl rfl T24 rfl (by omega) (by (have h9 := sj_len (fun x => x) l0 j; have h8 := getD_total l0 (l0.length - 1) _ hb; simp only [bm_len]; omega)) (by (have h9 := sj_len (fun x => x) l0 j; have h8 := getD_total l0 (l0.length - 1) _ hb; simp only [bm_len]; omega)) ?_)
          clear E a S; rintro a w v_31 E S
          replace S := S.made0
          refine S_v E rfl (R_assign E rfl) rfl ?_
          clear E a; intro a E
          refine WL_nil ?_
          refine T_n ?_
          refine WP_seq ?_
          refine WP_seq ?_
          refine WP_region ?_
          refine S_v E rfl (R_move E rfl) rfl ?_
          clear E a; intro a E
          obtain ⟨x_32, hx_32⟩ : ∃ x, (l0)[0]? = some x := ⟨_, List.getElem?_eq_getElem (by first | omega | (simp; done) | (simp; omega) | (simp_all; omega))⟩
          obtain ⟨p_33, u_34, hp_33, qp_33, hu_34⟩ := h0.at hx_32
          have bu_34 := hu_34.bound
          refine S_v E rfl (R_idx E rfl rfl T22 hp_33 (by omega)) rfl ?_
          clear E a; intro a E
          refine S_v E rfl (R_loadM E rfl Try.isAgg24 S.imm qp_33) rfl ?_
          clear E a; intro a E
          refine S_v E rfl (R_lenV E rfl T24 hu_34.len) rfl ?_
          clear E a; intro a E
          refine S_v E rfl (R_move E rfl) rfl ?_
          clear E a; intro a E
          refine WL_nil ?_
          refine T_n ?_
          refine WP_block ?_
          replace S := S.front1
          replace S := S.front1
          replace S := S.re1 (l' := iscI (fun x => x) (sjI (fun x => x) l0 j) ((l0.getD 0 []).take 0)) (by first | rfl | (rw [List.take_zero]; exact rs_start _ _) | exact rm_yes (fun x => x) (by assumption) (at_get (n := 0) (by assumption) rfl) | (refine rm_no (fun x => x) (by assumption) (at_get (n := 0) (by assumption) rfl) ?_; assumption) | (refine is_yes (fun x => x) (by assumption) (at_get (n := 0) (by assumption) rfl) ?_; assumption) | (refine is_no (fun x => x) (by assumption) (at_get (n := 0) (by assumption) rfl) ?_; assumption))
          replace S := S.front1
          replace S := S.reM (L' := (encE Value.bool (bmap (remI (fun x => x) (sjI (fun x => x) l0 j) ((l0.getD 0 []).take 0)) (fun _ => false)))) (congrArg (encE Value.bool) (show bmap (sjI (fun x => x) l0 j) (fun _ => false) = bmap (remI (fun x => x) (sjI (fun x => x) l0 j) ((l0.getD 0 []).take 0)) (fun _ => false) by first | rfl | (rw [List.take_zero]; exact rs_start _ _) | exact rm_yes (fun x => x) (by assumption) (at_get (n := 0) (by assumption) rfl) | (refine rm_no (fun x => x) (by assumption) (at_get (n := 0) (by assumption) rfl) ?_; assumption) | (refine is_yes (fun x => x) (by assumption) (at_get (n := 0) (by assumption) rfl) ?_; assumption) | (refine is_no (fun x => x) (by assumption) (at_get (n := 0) (by assumption) rfl) ?_; assumption)))
          refine WP_loop (γ := Nat) (fun (i : Nat) a w => ∃ (M_35 : Hp) (u14 : Value), Hp.le M_13 M_35 ∧ St w M_35 (OwnE Value.bool b_8 (bmap (remI (fun x => x) (sjI (fun x => x) l0 j) ((l0.getD 0 []).take i)) (fun _ => false)) :: OwnI 3 u14 (iscI (fun x => x) (sjI (fun x => x) l0 j) ((l0.getD 0 []).take i)) :: H) ∧ Env a 110 [] [(4, .map (some b_8)), (14, u14), (89, u_34), (90, .int .i64 (((x_32).length : Nat) : Int)), (91, .int .i64 ((i : Nat) : Int))] ∧ (i ≤ (l0.getD 0 []).length)) (fun i => (l0.getD 0 []).length - i) 0 ⟨M_13, _, Hp.le.refl _, S, E.keep ⟨rfl, rfl, rfl, rfl, rfl, trivial⟩, (by omega)⟩ ?_
          try clear E
          try clear S
          try clear a
          try clear w
          rintro i a w ⟨M_35, u14, hM_35, S, E, hL4_0⟩
          replace h0 := h0.le hM_35
          replace hu_7 := hu_7.le hM_35
          replace hu_34 := hu_34.le hM_35
          refine WP_seq ?_
          refine WP_region ?_
          refine S_v E rfl (R_lss E rfl rfl) rfl ?_
          clear E a; intro a E
          refine WL_nil ?_
          refine T_n ?_
          refine WP_seq ?_
          refine WP_cond E rfl (fun hc_36 => ?_) (fun hc_36 => ?_)
          · replace hc_36 := of_decide_eq_true hc_36
            refine WP_skip ?_
            refine T_n ?_
            refine WP_seq ?_
            refine WP_block ?_
            refine WP_seq ?_
            refine WP_region ?_
            obtain ⟨x_37, hx_37⟩ : ∃ x, (x_32)[i]? = some x := ⟨_, List.getElem?_eq_getElem (by first | omega | (simp; done) | (simp; omega) | (simp_all; omega))⟩
            obtain ⟨p_38, hp_38, qp_38⟩ := hu_34.at hx_37
            refine S_v E rfl (R_idx E rfl rfl T24 hp_38 rfl) rfl ?_
            clear E a; intro a E
            refine S_v E rfl (R_loadM E rfl Try.isAgg3 S.imm qp_38) rfl ?_
            clear E a; intro a E
            refine S_v E rfl (R_assign E rfl) rfl ?_
            clear E a; intro a E
            refine WL_nil ?_
            refine T_n ?_
            refine WP_seq ?_
            refine WP_region ?_
            refine S_v E rfl (R_move E rfl) rfl ?_
            clear E a; intro a E
            refine S_v E rfl (R_move E rfl) rfl ?_
            clear E a; intro a E
            refine S_x (X_lookupE (vf := Value.bool) (zb := false) E S rfl MT119 rfl rfl ?_)
            clear E a S; rintro a w E S
            replace S : St w M_35 (OwnE Value.bool b_8 (bmap (remI (fun x => x) (sjI (fun x => x) l0 j) ((l0.getD 0 []).take i)) (fun _ => false)) :: _) := S
            refine S_v E rfl (R_move E rfl) rfl ?_
            clear E a; intro a E
            refine S_v E rfl (R_extract E rfl rfl) rfl ?_
            clear E a; intro a E
            refine S_v E rfl (R_extract E rfl rfl) rfl ?_
            clear E a; intro a E
            refine S_v E rfl (R_assign E rfl) rfl ?_
            clear E a; intro a E
            refine S_v E rfl (R_assign E rfl) rfl ?_
            clear E a; intro a E
            refine WL_nil ?_
            refine T_n ?_
            refine WP_seq ?_
            refine WP_region ?_
            refine S_v E rfl (R_move E rfl) rfl ?_
            clear E a; intro a E
            refine WL_nil ?_
            refine T_n ?_
            refine WP_cond E rfl (fun hc_39 => ?_) (fun hc_39 => ?_)
            · refine WP_seq ?_
              refine WP_region ?_
              refine S_v E rfl (R_move E rfl) rfl ?_
              clear E a; intro a E
              refine S_v E rfl (R_move E rfl) rfl ?_
              clear E a; intro a E
              refine S_x (X_buildI (ys := [x_37]) E S rfl T24 rfl rfl rfl ?_)
              clear E a S; rintro a w v_40 E S
              replace S := S.front2
              replace S := S.front1
              refine S_x (X_appendB (xs := iscI (fun x => x) (sjI (fun x => x) l0 j) ((l0.getD 0 []).take i)) (ys := [x_37]) E S rfl rfl rfl T24 (by (have h9 := isc_len (fun x => x) ((l0.getD 0 []).take i) (sjI (fun x => x) l0 j); have h8 := getD_total l0 0 _ hb; simp only [List.length_take] at h9; simp only [List.length_cons, List.length_nil]; omega)) ?_)
              clear E a S; rintro a w v_41 E S
              refine S_v E rfl (R_assign E rfl) rfl ?_
              clear E a; intro a E
              refine WL_nil ?_
              refine T_n ?_
              refine WP_region ?_
              refine S_v E rfl (R_move E rfl) rfl ?_
              clear E a; intro a E
              refine S_v E rfl (R_move E rfl) rfl ?_
              clear E a; intro a E
              replace S := S.front1
              refine S_x0 (X_delete0E (vf := Value.bool) E S MT119 rfl rfl ?_)
              clear E a S; rintro a w E S
              refine WL_nil ?_
              refine B_n ?_
              refine T_n ?_
              refine WP_region ?_
              refine S_v E rfl (R_addx (m := ((i + 1 : Nat) : Int)) E rfl rfl (by omega) (by omega)) rfl ?_
              clear E a; intro a E
              refine S_v E rfl (R_move E rfl) rfl ?_
              clear E a; intro a E
              refine WL_nil ?_
              refine T_n ?_
              replace S := S.front1
              replace S := S.re1 (l' := iscI (fun x => x) (sjI (fun x => x) l0 j) ((l0.getD 0 []).take (i + 1))) (by first | rfl | (rw [List.take_zero]; exact rs_start _ _) | exact rm_yes (fun x => x) (by assumption) (at_get (n := 0) (by assumption) rfl) | (refine rm_no (fun x => x) (by assumption) (at_get (n := 0) (by assumption) rfl) ?_; assumption) | (refine is_yes (fun x => x) (by assumption) (at_get (n := 0) (by assumption) rfl) ?_; assumption) | (refine is_no (fun x => x) (by assumption) (at_get (n := 0) (by assumption) rfl) ?_; assumption))
              replace S := S.front1
              replace S := S.reM (L' := (encE Value.bool (bmap (remI (fun x => x) (sjI (fun x => x) l0 j) ((l0.getD 0 []).take (i + 1))) (fun _ => false)))) (congrArg (encE Value.bool) (show delK (bmap (remI (fun x => x) (sjI (fun x => x) l0 j) ((l0.getD 0 []).take i)) (fun _ => false)) x_37 = bmap (remI (fun x => x) (sjI (fun x => x) l0 j) ((l0.getD 0 []).take (i + 1))) (fun _ => false) by first | rfl | (rw [List.take_zero]; exact rs_start _ _) | exact rm_yes (fun x => x) (by assumption) (at_get (n := 0) (by assumption) rfl) | (refine rm_no (fun x => x) (by assumption) (at_get (n := 0) (by assumption) rfl) ?_; assumption) | (refine is_yes (fun x => x) (by assumption) (at_get (n := 0) (by assumption) rfl) ?_; assumption) | (refine is_no (fun x => x) (by assumption) (at_get (n := 0) (by assumption) rfl) ?_; assumption)))
              exact ⟨i + 1, ⟨M_35, _, hM_35, S, E.keep ⟨rfl, rfl, rfl, rfl, rfl, trivial⟩, (by rw [(at_get (n := 0) (by assumption) rfl)]; omega)⟩, (by rw [(at_get (n := 0) (by assumption) rfl)]; omega)⟩
            · refine WP_skip ?_
              refine B_n ?_
              refine T_n ?_
              refine WP_region ?_
              refine S_v E rfl (R_addx (m := ((i + 1 : Nat) : Int)) E rfl rfl (by omega) (by omega)) rfl ?_
              clear E a; intro a E
              refine S_v E rfl (R_move E rfl) rfl ?_
              clear E a; intro a E
              refine WL_nil ?_
              refine T_n ?_
              replace S := S.front1
              replace S := S.re1 (l' := iscI (fun x => x) (sjI (fun x => x) l0 j) ((l0.getD 0 []).take (i + 1))) (by first | rfl | (rw [List.take_zero]; exact rs_start _ _) | exact rm_yes (fun x => x) (by assumption) (at_get (n := 0) (by assumption) rfl) | (refine rm_no (fun x => x) (by assumption) (at_get (n := 0) (by assumption) rfl) ?_; assumption) | (refine is_yes (fun x => x) (by assumption) (at_get (n := 0) (by assumption) rfl) ?_; assumption) | (refine is_no (fun x => x) (by assumption) (at_get (n := 0) (by assumption) rfl) ?_; assumption))
              replace S := S.front1
              replace S := S.reM (L' := (encE Value.bool (bmap (remI (fun x => x) (sjI (fun x => x) l0 j) ((l0.getD 0 []).take (i + 1))) (fun _ => false)))) (congrArg (encE Value.bool) (show bmap (remI (fun x => x) (sjI (fun x => x) l0 j) ((l0.getD 0 []).take i)) (fun _ => false) = bmap (remI (fun x => x) (sjI (fun x => x) l0 j) ((l0.getD 0 []).take (i + 1))) (fun _ => false) by first | rfl | (rw [List.take_zero]; exact rs_start _ _) | exact rm_yes (fun x => x) (by assumption) (at_get (n := 0) (by assumption) rfl) | (refine rm_no (fun x => x) (by assumption) (at_get (n := 0) (by assumption) rfl) ?_; assumption) | (refine is_yes (fun x => x) (by assumption) (at_get (n := 0) (by assumption) rfl) ?_; assumption) | (refine is_no (fun x => x) (by assumption) (at_get (n := 0) (by assumption) rfl) ?_; assumption)))
              exact ⟨i + 1, ⟨M_35, _, hM_35, S, E.keep ⟨rfl, rfl, rfl, rfl, rfl, trivial⟩, (by rw [(at_get (n := 0) (by assumption) rfl)]; omega)⟩, (by rw [(at_get (n := 0) (by assumption) rfl)]; omega)⟩
          · replace hc_36 := of_decide_eq_false hc_36
            refine WP_exit ?_
            refine T_x ?_
            refine T_x ?_
            refine B_x ?_
            refine T_n ?_
            refine WP_seq ?_
            refine WP_region ?_
            refine S_v E rfl (R_move E rfl) rfl ?_
            clear E a; intro a E
            refine S_v E rfl (R_assign E rfl) rfl ?_
            clear E a; intro a E
            refine WL_nil ?_
            refine T_n ?_
            refine WP_ret ?_
            replace S := S.front1
            have S0 := S; clear S
            obtain ⟨M_42, hM_42, hz_43, S⟩ := S0.freezeI (by (have h9 := isc_len (fun x => x) ((l0.getD 0 []).take i) (sjI (fun x => x) l0 j); have h8 := getD_total l0 0 _ hb; simp only [List.length_take] at h9; omega))
            clear S0
            replace h0 := h0.le hM_42
            replace hu_7 := hu_7.le hM_42
            replace hu_34 := hu_34.le hM_42
            exact F_ret1 E Try.results76 rfl ⟨_, rfl, M_42, (hM_9.trans (hM_13.trans (hM_35.trans hM_42))), (by rw [show (meetF (fun x => x) l0) = (iscI (fun x => x) (sjI (fun x => x) l0 j) ((l0.getD 0 []).take i)) from by (rw [List.take_of_length_le (by rw [at_get (n := 0) (by assumption) rfl]; omega)]; (first | refine (meet_end (f := fun x => x) (ll := l0) (by omega) ?_ _).symm | refine meet_end (f := fun x => x) (ll := l0) (by omega) ?_ _); first | (left; omega) | (right; exact bm_nil (f := fun _ => false) (by omega)))]; exact hz_43), S.drop⟩
      · replace E := E.val (t := 45) rfl hc_14
        replace E := E.val (t := 46) rfl hc_14
        replace hc_14 := of_decide_eq_false hc_14
        refine WL_guard_no E rfl rfl rfl rfl fun a E => ?_
        refine WL_guard_no E rfl rfl rfl rfl fun a E => ?_
        refine WL_guard_no E rfl rfl rfl rfl fun a E => ?_
        refine S_v E rfl (R_pickF E rfl rfl) rfl ?_
        clear E a; intro a E
        refine WL_nil ?_
        refine T_n ?_
        refine WP_condF E rfl rfl ?_
        refine WP_exit ?_
        refine T_x ?_
        refine T_x ?_
        refine B_x ?_
        refine T_n ?_
        refine WP_seq ?_
        refine WP_region ?_
        refine S_v E rfl (R_move E rfl) rfl ?_
        clear E a; intro a E
        refine S_v E rfl ((R_lenO E S MT119 rfl).trans (by rw [encE_len])) rfl ?_
        clear E a; intro a E
        refine S_x (X_make0 (k := (bmap (sjI (fun x => x) l0 j) (fun _ => false)).length) E S rfl rfl rfl T24 rfl (by omega) (by (have h9 := sj_len (fun x => x) l0 j; have h8 := getD_total l0 (l0.length - 1) _ hb; simp only [bm_len]; omega)) (by (have h9 := sj_len (fun x => x) l0 j; have h8 := getD_total l0 (l0.length - 1) _ hb; simp only [bm_len]; omega)) ?_)
        clear E a S; rintro a w v_44 E S
        replace S := S.made0
        refine S_v E rfl (R_assign E rfl) rfl ?_
        clear E a; intro a E
        refine WL_nil ?_
        refine T_n ?_
        refine WP_seq ?_
        refine WP_seq ?_
        refine WP_region ?_
        refine S_v E rfl (R_move E rfl) rfl ?_
        clear E a; intro a E
        obtain ⟨x_45, hx_45⟩ : ∃ x, (l0)[0]? = some x := ⟨_, List.getElem?_eq_getElem (by first | omega | (simp; done) | (simp; omega) | (simp_all; omega))⟩
        obtain ⟨p_46, u_47, hp_46, qp_46, hu_47⟩ := h0.at hx_45
        have bu_47 := hu_47.bound
        refine S_v E rfl (R_idx E rfl rfl T22 hp_46 (by omega)) rfl ?_
        clear E a; intro a E
        refine S_v E rfl (R_loadM E rfl Try.isAgg24 S.imm qp_46) rfl ?_
        clear E a; intro a E
        refine S_v E rfl (R_lenV E rfl T24 hu_47.len) rfl ?_
        clear E a; intro a E
        refine S_v E rfl (R_move E rfl) rfl ?_
        clear E a; intro a E
        refine WL_nil ?_
        refine T_n ?_
        refine WP_block ?_
        replace S := S.front1
        replace S := S.front1
        replace S := S.re1 (l' := iscI (fun x => x) (sjI (fun x => x) l0 j) ((l0.getD 0 []).take 0)) (by first | rfl | (rw [List.take_zero]; exact rs_start _ _) | exact rm_yes (fun x => x) (by assumption) (at_get (n := 0) (by assumption) rfl) | (refine rm_no (fun x => x) (by assumption) (at_get (n := 0) (by assumption) rfl) ?_; assumption) | (refine is_yes (fun x => x) (by assumption) (at_get (n := 0) (by assumption) rfl) ?_; assumption) | (refine is_no (fun x => x) (by assumption) (at_get (n := 0) (by assumption) rfl) ?_; assumption))
        replace S := S.front1
        replace S := S.reM (L' := (encE Value.bool (bmap (remI (fun x => x) (sjI (fun x => x) l0 j) ((l0.getD 0 []).take 0)) (fun _ => false)))) (congrArg (encE Value.bool) (show bmap (sjI (fun x => x) l0 j) (fun _ => false) = bmap (remI (fun x => x) (sjI (fun x => x) l0 j) ((l0.getD 0 []).take 0)) (fun _ => false) by first | rfl | (rw [List.take_zero]; exact rs_start _ _) | exact rm_yes (fun x => x) (by assumption) (at_get (n := 0) (by assumption) rfl) | (refine rm_no (fun x => x) (by assumption) (at_get (n := 0) (by assumption) rfl) ?_; assumption) | (refine is_yes (fun x => x) (by assumption) (at_get (n := 0) (by assumption) rfl) ?_; assumption) | (refine is_no (fun x => x) (by assumption) (at_get (n := 0) (by assumption) rfl) ?_; assumption)))
        refine WP_loop (γ := Nat) (fun (i : Nat) a w => ∃ (M_48 : Hp) (u14 : Value), Hp.le M_13 M_48 ∧ St w M_48 (OwnE Value.bool b_8 (bmap (remI (fun x => x) (sjI (fun x => x) l0 j) ((l0.getD 0 []).take i)) (fun _ => false)) :: OwnI 3 u14 (iscI (fun x => x) (sjI (fun x => x) l0 j) ((l0.getD 0 []).take i)) :: H) ∧ Env a 110 [] [(4, .map (some b_8)), (14, u14), (89, u_47), (90, .int .i64 (((x_45).length : Nat) : Int)), (91, .int .i64 ((i : Nat) : Int))] ∧ (i ≤ (l0.getD 0 []).length)) (fun i => (l0.getD 0 []).length - i) 0 ⟨M_13, _, Hp.le.refl _, S, E.keep ⟨rfl, rfl, rfl, rfl, rfl, trivial⟩, (by omega)⟩ ?_
        try clear E
        try clear S
        try clear a
        try clear w
        rintro i a w ⟨M_48, u14, hM_48, S, E, hL4_0⟩
        replace h0 := h0.le hM_48
        replace hu_7 := hu_7.le hM_48
        replace hu_47 := hu_47.le hM_48
        refine WP_seq ?_
        refine WP_region ?_
        refine S_v E rfl (R_lss E rfl rfl) rfl ?_
        clear E a; intro a E
        refine WL_nil ?_
        refine T_n ?_
        refine WP_seq ?_
        refine WP_cond E rfl (fun hc_49 => ?_) (fun hc_49 => ?_)
        · replace hc_49 := of_decide_eq_true hc_49
          refine WP_skip ?_
          refine T_n ?_
          refine WP_seq ?_
          refine WP_block ?_
          refine WP_seq ?_
          refine WP_region ?_
          obtain ⟨x_50, hx_50⟩ : ∃ x, (x_45)[i]? = some x := ⟨_, List.getElem?_eq_getElem (by first | omega | (simp; done) | (simp; omega) | (simp_all; omega))⟩
          obtain ⟨p_51, hp_51, qp_51⟩ := hu_47.at hx_50
          refine S_v E rfl (R_idx E rfl rfl T24 hp_51 rfl) rfl ?_
          clear E a; intro a E
          refine S_v E rfl (R_loadM E rfl Try.isAgg3 S.imm qp_51) rfl ?_
          clear E a; intro a E
          refine S_v E rfl (R_assign E rfl) rfl ?_
          clear E a; intro a E
          refine WL_nil ?_
          refine T_n ?_
          refine WP_seq ?_
          refine WP_region ?_
          refine S_v E rfl (R_move E rfl) rfl ?_
          clear E a; intro a E
          refine S_v E rfl (R_move E rfl) rfl ?_
          clear E a; intro a E
          refine S_x (X_lookupE (vf := Value.bool) (zb := false) E S rfl MT119 rfl rfl ?_)
          clear E a S; rintro a w E S
          replace S : St w M_48 (OwnE Value.bool b_8 (bmap (remI (fun x => x) (sjI (fun x => x) l0 j) ((l0.getD 0 []).take i)) (fun _ => false)) :: _) := S
          refine S_v E rfl (R_move E rfl) rfl ?_
          clear E a; intro a E
          refine S_v E rfl (R_extract E rfl rfl) rfl ?_
          clear E a; intro a E
          refine S_v E rfl (R_extract E rfl rfl) rfl ?_
          clear E a; intro a E
          refine S_v E rfl (R_assign E rfl) rfl ?_
          clear E a; intro a E
          refine S_v E rfl (R_assign E rfl) rfl ?_
          clear E a; intro a E
          refine WL_nil ?_
          refine T_n ?_
          refine WP_seq ?_
          refine WP_region ?_
          refine S_v E rfl (R_move E rfl) rfl ?_
          clear E a; intro a E
          refine WL_nil ?_
          refine T_n ?_
          refine WP_cond E rfl (fun hc_52 => ?_) (fun hc_52 => ?_)
          · refine WP_seq ?_
            refine WP_region ?_
            refine S_v E rfl (R_move E rfl) rfl ?_
            clear E a; intro a E
            refine S_v E rfl (R_move E rfl) rfl ?_
            clear E a; intro a E
            refine S_x (X_buildI (ys := [x_50]) E S rfl T24 rfl rfl rfl ?_)
            clear E a S; rintro a w v_53 E S
            replace S := S.front2
            replace S := S.front1
            refine S_x (X_appendB (xs := iscI (fun x => x) (sjI (fun x => x) l0 j) ((l0.getD 0 []).take i)) (ys := [x_50]) E S rfl rfl rfl T24 (by (have h9 := isc_len (fun x => x) ((l0.getD 0 []).take i) (sjI (fun x => x) l0 j); have h8 := getD_total l0 0 _ hb; simp only [List.length_take] at h9; simp only [List.length_cons, List.length_nil]; omega)) ?_)
            clear E a S; rintro a w v_54 E S
            refine S_v E rfl (R_assign E rfl) rfl ?_
            clear E a; intro a E
            refine WL_nil ?_
            refine T_n ?_
            refine WP_region ?_
            refine S_v E rfl (R_move E rfl) rfl ?_
            clear E a; intro a E
            refine S_v E rfl (R_move E rfl) rfl ?_
            clear E a; intro a E
            replace S := S.front1
            refine S_x0 (X_delete0E (vf := Value.bool) E S MT119 rfl rfl ?_)
            clear E a S; rintro a w E S
            refine WL_nil ?_
            refine B_n ?_
            refine T_n ?_
            refine WP_region ?_
            refine S_v E rfl (R_addx (m := ((i + 1 : Nat) : Int)) E rfl rfl (by omega) (by omega)) rfl ?_
            clear E a; intro a E
            refine S_v E rfl (R_move E rfl) rfl ?_
            clear E a; intro a E
            refine WL_nil ?_
            refine T_n ?_
            replace S := S.front1
            replace S := S.re1 (l' := iscI (fun x => x) (sjI (fun x => x) l0 j) ((l0.getD 0 []).take (i + 1))) (by first | rfl | (rw [List.take_zero]; exact rs_start _ _) | exact rm_yes (fun x => x) (by assumption) (at_get (n := 0) (by assumption) rfl) | (refine rm_no (fun x => x) (by assumption) (at_get (n := 0) (by assumption) rfl) ?_; assumption) | (refine is_yes (fun x => x) (by assumption) (at_get (n := 0) (by assumption) rfl) ?_; assumption) | (refine is_no (fun x => x) (by assumption) (at_get (n := 0) (by assumption) rfl) ?_; assumption))
            replace S := S.front1
            replace S := S.reM (L' := (encE Value.bool (bmap (remI (fun x => x) (sjI (fun x => x) l0 j) ((l0.getD 0 []).take (i + 1))) (fun _ => false)))) (congrArg (encE Value.bool) (show delK (bmap (remI (fun x => x) (sjI (fun x => x) l0 j) ((l0.getD 0 []).take i)) (fun _ => false)) x_50 = bmap (remI (fun x => x) (sjI (fun x => x) l0 j) ((l0.getD 0 []).take (i + 1))) (fun _ => false) by first | rfl | (rw [List.take_zero]; exact rs_start _ _) | exact rm_yes (fun x => x) (by assumption) (at_get (n := 0) (by assumption) rfl) | (refine rm_no (fun x => x) (by assumption) (at_get (n := 0) (by assumption) rfl) ?_; assumption) | (refine is_yes (fun x => x) (by assumption) (at_get (n := 0) (by assumption) rfl) ?_; assumption) | (refine is_no (fun x => x) (by assumption) (at_get (n := 0) (by assumption) rfl) ?_; assumption)))
            exact ⟨i + 1, ⟨M_48, _, hM_48, S, E.keep ⟨rfl, rfl, rfl, rfl, rfl, trivial⟩, (by rw [(at_get (n := 0) (by assumption) rfl)]; omega)⟩, (by rw [(at_get (n := 0) (by assumption) rfl)]; omega)⟩
          · refine WP_skip ?_
            refine B_n ?_
            refine T_n ?_
            refine WP_region ?_
            refine S_v E rfl (R_addx (m := ((i + 1 : Nat) : Int)) E rfl rfl (by omega) (by omega)) rfl ?_
            clear E a; intro a E
            refine S_v E rfl (R_move E rfl) rfl ?_
            clear E a; intro a E
            refine WL_nil ?_
            refine T_n ?_
            replace S := S.front1
            replace S := S.re1 (l' := iscI (fun x => x) (sjI (fun x => x) l0 j) ((l0.getD 0 []).take (i + 1))) (by first | rfl | (rw [List.take_zero]; exact rs_start _ _) | exact rm_yes (fun x => x) (by assumption) (at_get (n := 0) (by assumption) rfl) | (refine rm_no (fun x => x) (by assumption) (at_get (n := 0) (by assumption) rfl) ?_; assumption) | (refine is_yes (fun x => x) (by assumption) (at_get (n := 0) (by assumption) rfl) ?_; assumption) | (refine is_no (fun x => x) (by assumption) (at_get (n := 0) (by assumption) rfl) ?_; assumption))
            replace S := S.front1
            replace S := S.reM (L' := (encE Value.bool (bmap (remI (fun x => x) (sjI (fun x => x) l0 j) ((l0.getD 0 []).take (i + 1))) (fun _ => false)))) (congrArg (encE Value.bool) (show bmap (remI (fun x => x) (sjI (fun x => x) l0 j) ((l0.getD 0 []).take i)) (fun _ => false) = bmap (remI (fun x => x) (sjI (fun x => x) l0 j) ((l0.getD 0 []).take (i + 1))) (fun _ => false) by first | rfl | (rw [List.take_zero]; exact rs_start _ _) | exact rm_yes (fun x => x) (by assumption) (at_get (n := 0) (by assumption) rfl) | (refine rm_no (fun x => x) (by assumption) (at_get (n := 0) (by assumption) rfl) ?_; assumption) | (refine is_yes (fun x => x) (by assumption) (at_get (n := 0) (by assumption) rfl) ?_; assumption) | (refine is_no (fun x => x) (by assumption) (at_get (n := 0) (by assumption) rfl) ?_; assumption)))
            exact ⟨i + 1, ⟨M_48, _, hM_48, S, E.keep ⟨rfl, rfl, rfl, rfl, rfl, trivial⟩, (by rw [(at_get (n := 0) (by assumption) rfl)]; omega)⟩, (by rw [(at_get (n := 0) (by assumption) rfl)]; omega)⟩
        · replace hc_49 := of_decide_eq_false hc_49
          refine WP_exit ?_
          refine T_x ?_
          refine T_x ?_
          refine B_x ?_
          refine T_n ?_
          refine WP_seq ?_
          refine WP_region ?_
          refine S_v E rfl (R_move E rfl) rfl ?_
          clear E a; intro a E
          refine S_v E rfl (R_assign E rfl) rfl ?_
          clear E a; intro a E
          refine WL_nil ?_
          refine T_n ?_
          refine WP_ret ?_
          replace S := S.front1
          have S0 := S; clear S
          obtain ⟨M_55, hM_55, hz_56, S⟩ := S0.freezeI (by (have h9 := isc_len (fun x => x) ((l0.getD 0 []).take i) (sjI (fun x => x) l0 j); have h8 := getD_total l0 0 _ hb; simp only [List.length_take] at h9; omega))
          clear S0
          replace h0 := h0.le hM_55
          replace hu_7 := hu_7.le hM_55
          replace hu_47 := hu_47.le hM_55
          exact F_ret1 E Try.results76 rfl ⟨_, rfl, M_55, (hM_9.trans (hM_13.trans (hM_48.trans hM_55))), (by rw [show (meetF (fun x => x) l0) = (iscI (fun x => x) (sjI (fun x => x) l0 j) ((l0.getD 0 []).take i)) from by (rw [List.take_of_length_le (by rw [at_get (n := 0) (by assumption) rfl]; omega)]; (first | refine (meet_end (f := fun x => x) (ll := l0) (by omega) ?_ _).symm | refine meet_end (f := fun x => x) (ll := l0) (by omega) ?_ _); first | (left; omega) | (right; exact bm_nil (f := fun _ => false) (by omega)))]; exact hz_56), S.drop⟩

set_option maxRecDepth 100000 in
set_option maxHeartbeats 4000000 in
theorem impl_Intersect {M : Hp} {v0 : Value} {l0 : List (List Int)} (h0 : RdII M v0 l0) (hb : ∀ x ∈ l0, x.length ≤ 1000000000) :
    Pu Try.prog (.func (.func 17) #[] #[]) M [v0] (fun r M' => RdI M' r (meetF (fun x => x) l0)) := by
  refine Pu_enter Try.func17 rfl Try.ntmps17 rfl Try.call17 ?_
  intro a w M1 H hM1 S E
  replace h0 := h0.le hM1
  have b0 := h0.bound
  refine WP_seq ?_
  refine WP_region ?_
  refine S_v E rfl (R_assign E rfl) rfl ?_
  clear E a; intro a E
  refine WL_nil ?_
  refine T_n ?_
  refine WP_seq ?_
  refine WP_region ?_
  refine S_v E rfl (R_move E rfl) rfl ?_
  clear E a; intro a E
  refine S_x (X_pu E S rfl rfl rfl (lo_Intersect h0 (by first | omega | decide)) (Hp.le.refl _) ?_)
  clear E a S; rintro a v_2 w M_1 hM_1 hv_2 S E
  replace h0 := h0.le hM_1
  refine S_v E rfl (R_assign E rfl) rfl ?_
  clear E a; intro a E
  refine WL_nil ?_
  refine T_n ?_
  refine WP_ret ?_
  exact F_ret1 E Try.results17 rfl ⟨_, rfl, M_1, hM_1, hv_2, S⟩

set_option maxRecDepth 100000 in
set_option maxHeartbeats 4000000 in
theorem laws_eq {M : Hp} {v0 v1 : Value} {l0 l1 : List Int} (h0 : RdI M v0 l0) (h1 : RdI M v1 l1) :
    Pu Try.prog (.func (.func 18) #[] #[]) M [v0, v1] (fun r M' => r = .bool (decide (l0 = l1))) := by
  refine Pu_enter Try.func18 rfl Try.ntmps18 rfl Try.call18 ?_
  intro a w M1 H hM1 S E
  replace h0 := h0.le hM1
  replace h1 := h1.le hM1
  have b0 := h0.bound
  have b1 := h1.bound
  refine WP_seq ?_
  refine WP_region ?_
  refine S_v E rfl (R_assign E rfl) rfl ?_
  clear E a; intro a E
  refine WL_nil ?_
  refine T_n ?_
  refine WP_seq ?_
  refine WP_seq ?_
  refine WP_region ?_
  refine S_v E rfl (R_move E rfl) rfl ?_
  clear E a; intro a E
  refine S_v E rfl (R_lenV E rfl T24 h0.len) rfl ?_
  clear E a; intro a E
  refine S_v E rfl (R_move E rfl) rfl ?_
  clear E a; intro a E
  refine S_v E rfl (R_lenV E rfl T24 h1.len) rfl ?_
  clear E a; intro a E
  refine S_v E rfl (R_neq E rfl rfl) rfl ?_
  clear E a; intro a E
  refine WL_nil ?_
  refine T_n ?_
  refine WP_cond E rfl (fun hc_1 => ?_) (fun hc_1 => ?_)
  · replace hc_1 := of_decide_eq_true hc_1
    refine WP_seq ?_
    refine WP_region ?_
    refine S_v E rfl (R_assign E rfl) rfl ?_
    clear E a; intro a E
    refine WL_nil ?_
    refine T_n ?_
    refine WP_ret ?_
    refine T_r ?_
    exact F_ret1 E Try.results18 rfl ⟨_, rfl, M1, (Hp.le.refl _), (bF (by ((try clear S); (try clear E); first | assumption | omega | rfl | (simp; done) | (simp_all; done) | (simp [List.take_add_one, *]; done) | grind [List.take_add_one]))), S⟩
  · replace hc_1 := of_decide_eq_false hc_1
    refine WP_skip ?_
    refine T_n ?_
    refine WP_seq ?_
    refine WP_seq ?_
    refine WP_region ?_
    refine S_v E rfl (R_move E rfl) rfl ?_
    clear E a; intro a E
    refine S_v E rfl (R_lenV E rfl T24 h0.len) rfl ?_
    clear E a; intro a E
    refine S_v E rfl (R_move E rfl) rfl ?_
    clear E a; intro a E
    refine WL_nil ?_
    refine T_n ?_
    refine WP_block ?_
    refine WP_loop (γ := Nat) (fun (k : Nat) a w => ∃ (M_2 : Hp), Hp.le M1 M_2 ∧ St w M_2 (H) ∧ Env a 26 [] [(0, v0), (1, v1), (12, .int .i64 (((l0).length : Nat) : Int)), (13, .int .i64 ((k : Nat) : Int))] ∧ (k ≤ (l0).length) ∧ (l0.length = l1.length) ∧ (l0.take k = l1.take k)) (fun k => ((l0).length) - k) 0 ⟨M1, Hp.le.refl _, S, E.keep ⟨rfl, rfl, rfl, rfl, trivial⟩, by ((try clear S); (try clear E); first | assumption | omega | rfl | (simp; done) | (simp_all; done) | (simp [List.take_add_one, *]; done) | grind [List.take_add_one]), by ((try clear S); (try clear E); first | assumption | omega | rfl | (simp; done) | (simp_all; done) | (simp [List.take_add_one, *]; done) | grind [List.take_add_one]), by ((try clear S); (try clear E); first | assumption | omega | rfl | (simp; done) | (simp_all; done) | (simp [List.take_add_one, *]; done) | grind [List.take_add_one])⟩ ?_
    try clear E
    try clear S
    try clear a
    try clear w
    rintro k a w ⟨M_2, hM_2, S, E, hL0_0, hL0_1, hL0_2⟩
    replace h0 := h0.le hM_2
    replace h1 := h1.le hM_2
    refine WP_seq ?_
    refine WP_region ?_
    refine S_v E rfl (R_lss E rfl rfl) rfl ?_
    clear E a; intro a E
    refine WL_nil ?_
    refine T_n ?_
    refine WP_seq ?_
    refine WP_cond E rfl (fun hc_3 => ?_) (fun hc_3 => ?_)
    · replace hc_3 := of_decide_eq_true hc_3
      refine WP_skip ?_
      refine T_n ?_
      refine WP_seq ?_
      refine WP_block ?_
      refine WP_seq ?_
      refine WP_region ?_
      refine S_v E rfl (R_move E rfl) rfl ?_
      clear E a; intro a E
      refine S_v E rfl (R_assign E rfl) rfl ?_
      clear E a; intro a E
      refine WL_nil ?_
      refine T_n ?_
      refine WP_seq ?_
      replace S := S.mono_heap (w' := World.drew _) rfl
      refine WP_drawn (C := fun x w => agree M_2 w) (bf := (fun i => [])) [0, 1, 2, 3, 4, 5, 6, 7, 8] [0, 1, 2, 3, 4, 5, 6, 7, 8] Try.mixed (by kernel_rfl) (fun x hq => S.imm) ?_
      refine D_v E rfl rfl rfl (fun w hC => (R_move E rfl)) ?_
      clear E a; intro a E
      refine D_v E rfl rfl rfl (fun w hC => (R_move E rfl)) ?_
      clear E a; intro a E
      obtain ⟨x_4, hx_4⟩ : ∃ x, (l0)[k]? = some x := ⟨_, List.getElem?_eq_getElem (by first | omega | (simp; done) | (simp; omega) | (simp_all; omega))⟩
      obtain ⟨p_5, hp_5, qp_5⟩ := h0.at hx_4
      refine D_v E rfl rfl rfl (fun w hC => (R_idx E rfl rfl T24 hp_5 rfl)) ?_
      clear E a; intro a E
      refine D_v E rfl rfl rfl (fun w hC => (R_loadM E rfl Try.isAgg3 hC qp_5)) ?_
      clear E a; intro a E
      refine D_v E rfl rfl rfl (fun w hC => (R_move E rfl)) ?_
      clear E a; intro a E
      refine D_v E rfl rfl rfl (fun w hC => (R_move E rfl)) ?_
      clear E a; intro a E
      obtain ⟨x_6, hx_6⟩ : ∃ x, (l1)[k]? = some x := ⟨_, List.getElem?_eq_getElem (by first | omega | (simp; done) | (simp; omega) | (simp_all; omega))⟩
      obtain ⟨p_7, hp_7, qp_7⟩ := h1.at hx_6
      refine D_v E rfl rfl rfl (fun w hC => (R_idx E rfl rfl T24 hp_7 rfl)) ?_
      clear E a; intro a E
      refine D_v E rfl rfl rfl (fun w hC => (R_loadM E rfl Try.isAgg3 hC qp_7)) ?_
      clear E a; intro a E
      refine D_v E rfl rfl rfl (fun w hC => (R_neq E rfl rfl)) ?_
      clear E a; intro a E
      refine D_end (NoP_n ?_)
      refine T_n ?_
      refine WP_cond E rfl (fun hc_8 => ?_) (fun hc_8 => ?_)
      · replace hc_8 := of_decide_eq_true hc_8
        refine WP_seq ?_
        refine WP_region ?_
        refine S_v E rfl (R_assign E rfl) rfl ?_
        clear E a; intro a E
        refine WL_nil ?_
        refine T_n ?_
        refine WP_ret ?_
        refine B_r ?_
        refine T_r ?_
        refine T_r ?_
        refine B_r ?_
        refine T_r ?_
        exact F_ret1 E Try.results18 rfl ⟨_, rfl, M_2, hM_2, (bF (by ((try clear S); (try clear E); first | assumption | omega | rfl | (simp; done) | (simp_all; done) | (simp [List.take_add_one, *]; done) | grind [List.take_add_one]))), S⟩
      · replace hc_8 := of_decide_eq_false hc_8
        refine WP_skip ?_
        refine B_n ?_
        refine T_n ?_
        refine WP_region ?_
        refine S_v E rfl (R_addx (m := ((k + 1 : Nat) : Int)) E rfl rfl (by omega) (by omega)) rfl ?_
        clear E a; intro a E
        refine S_v E rfl (R_move E rfl) rfl ?_
        clear E a; intro a E
        refine WL_nil ?_
        refine T_n ?_
        exact ⟨k + 1, ⟨M_2, hM_2, S, E.keep ⟨rfl, rfl, rfl, rfl, trivial⟩, by ((try clear S); (try clear E); first | assumption | omega | rfl | (simp; done) | (simp_all; done) | (simp [List.take_add_one, *]; done) | grind [List.take_add_one]), by ((try clear S); (try clear E); first | assumption | omega | rfl | (simp; done) | (simp_all; done) | (simp [List.take_add_one, *]; done) | grind [List.take_add_one]), by ((try clear S); (try clear E); first | assumption | omega | rfl | (simp; done) | (simp_all; done) | (simp [List.take_add_one, *]; done) | grind [List.take_add_one])⟩, by omega⟩
    · replace hc_3 := of_decide_eq_false hc_3
      refine WP_exit ?_
      refine T_x ?_
      refine T_x ?_
      refine B_x ?_
      refine T_n ?_
      refine WP_seq ?_
      refine WP_region ?_
      refine S_v E rfl (R_assign E rfl) rfl ?_
      clear E a; intro a E
      refine WL_nil ?_
      refine T_n ?_
      refine WP_ret ?_
      exact F_ret1 E Try.results18 rfl ⟨_, rfl, M_2, hM_2, (bT (by ((try clear S); (try clear E); first | assumption | omega | rfl | (simp; done) | (simp_all; done) | (simp [List.take_add_one, *]; done) | grind [List.take_add_one]))), S⟩

set_option maxRecDepth 100000 in
set_option maxHeartbeats 4000000 in
theorem slices_Values1 {M : Hp} {v0 : Value} {l0 : List Int} (h0 : RdI M v0 l0){bx1 : Nat} (hbx1 : M bx1 = some (.cells #[v0] 24)) :
    SeqV Try.prog (.func (.func 132) #[] #[.pointer (some ⟨bx1, 0, none⟩)]) M (RInt) l0 := by
  refine SeqV_enter Try.func132 rfl Try.ntmps132 rfl Try.call132 ?_
  intro y J X a w M1 c H hJM hM1 hY hJ S E
  replace hbx1 := hM1.2 _ _ hbx1
  replace h0 := h0.le hM1
  have b0 := h0.bound
  refine WP_seq ?_
  refine WP_region ?_
  refine S_v E rfl (R_loadM E rfl Try.isAgg24 S.imm (cellM_box hbx1)) rfl ?_
  clear E a; intro a E
  refine S_v E rfl (R_lenV E rfl T24 h0.len) rfl ?_
  clear E a; intro a E
  refine S_v E rfl (R_move E rfl) rfl ?_
  clear E a; intro a E
  refine WL_nil ?_
  refine T_n ?_
  refine WP_block ?_
  refine WP_loop (γ := Nat) (fun (k : Nat) a w => ∃ (M_1 : Hp) (cL0 : HProp), Hp.le M1 M_1 ∧ St w M_1 (mks [] :: cL0 :: H) ∧ Env a 16 (([] : List Nat).map mk) [(0, y), (5, v0), (6, .int .i64 (((l0).length : Nat) : Int)), (7, .int .i64 ((k : Nat) : Int))] ∧ (k ≤ (l0).length) ∧ J (l0.take k) M_1 cL0) (fun k => ((l0).length) - k) 0 ⟨M1, _, Hp.le.refl _, S, E.keep ⟨rfl, rfl, rfl, rfl, trivial⟩, by ((try clear S); (try clear E); first | assumption | omega | rfl | (simp; done) | (simp_all; done) | (simp [List.take_add_one, *]; done) | grind [List.take_add_one]), J_eq hJ (by ((try clear S); (try clear E); first | assumption | omega | rfl | (simp; done) | (simp_all; done) | (simp [List.take_add_one, *]; done) | grind [List.take_add_one]))⟩ ?_
  try clear E
  try clear S
  try clear a
  try clear w
  rintro k a w ⟨M_1, cL0, hM_1, S, E, hL0_0, hJ⟩
  replace hbx1 := hM_1.2 _ _ hbx1
  replace h0 := h0.le hM_1
  refine WP_seq ?_
  refine WP_region ?_
  refine S_v E rfl (R_lss E rfl rfl) rfl ?_
  clear E a; intro a E
  refine WL_nil ?_
  refine T_n ?_
  refine WP_seq ?_
  refine WP_cond E rfl (fun hc_2 => ?_) (fun hc_2 => ?_)
  · replace hc_2 := of_decide_eq_true hc_2
    refine WP_skip ?_
    refine T_n ?_
    refine WP_seq ?_
    refine WP_block ?_
    refine WP_seq ?_
    refine WP_region ?_
    obtain ⟨x_3, hx_3⟩ : ∃ x, (l0)[k]? = some x := ⟨_, List.getElem?_eq_getElem (by first | omega | (simp; done) | (simp; omega) | (simp_all; omega))⟩
    obtain ⟨p_4, hp_4, qp_4⟩ := h0.at hx_3
    refine S_v E rfl (R_idx E rfl rfl T24 hp_4 rfl) rfl ?_
    clear E a; intro a E
    refine S_v E rfl (R_loadM E rfl Try.isAgg3 S.imm qp_4) rfl ?_
    clear E a; intro a E
    refine S_v E rfl (R_assign E rfl) rfl ?_
    clear E a; intro a E
    refine WL_nil ?_
    refine T_n ?_
    refine WP_seq ?_
    refine WP_region ?_
    refine S_v E rfl (R_move E rfl) rfl ?_
    clear E a; intro a E
    refine S_v E rfl (R_move E rfl) rfl ?_
    clear E a; intro a E
    replace S := S.front1
    refine S_x (X_yield (x := x_3) E S rfl rfl rfl hY hM_1 (by (first | (simp; done) | exact List.prefix_refl _ | (rw [pre_take (by assumption)]; exact List.take_prefix _ _) | exact pre_take_lt (by assumption))) rfl hJ ?_)
    clear E a S; rintro a w M_5 c_6 go_7 hM_5 hJ S E
    replace hbx1 := hM_5.2 _ _ hbx1
    replace h0 := h0.le hM_5
    cases go_7
    · replace hJ : X (l0.take k ++ [x_3]) M_5 c_6 := hJ
      refine S_v E rfl (R_not E rfl) rfl ?_
      clear E a; intro a E
      refine WL_nil ?_
      refine T_n ?_
      refine WP_condT E rfl rfl ?_
      refine WP_ret ?_
      refine B_r ?_
      refine T_r ?_
      refine T_r ?_
      refine B_r ?_
      replace S := S.front1
      exact F_retM0 E S Try.results132 (fun w S => ⟨_, rfl, M_5, _, (hM_1.trans hM_5), .inr ⟨(l0.take k ++ [x_3]), (by first | assumption | ((first | (simp; done) | exact List.prefix_refl _ | (rw [pre_take (by assumption)]; exact List.take_prefix _ _) | exact pre_take_lt (by assumption)))), hJ⟩, S⟩)
    · replace hJ : J (l0.take k ++ [x_3]) M_5 c_6 := hJ
      refine S_v E rfl (R_not E rfl) rfl ?_
      clear E a; intro a E
      refine WL_nil ?_
      refine T_n ?_
      refine WP_condF E rfl rfl ?_
      refine WP_skip ?_
      refine B_n ?_
      refine T_n ?_
      refine WP_region ?_
      refine S_v E rfl (R_addx (m := ((k + 1 : Nat) : Int)) E rfl rfl (by omega) (by omega)) rfl ?_
      clear E a; intro a E
      refine S_v E rfl (R_move E rfl) rfl ?_
      clear E a; intro a E
      refine WL_nil ?_
      refine T_n ?_
      replace S := S.front1
      exact ⟨k + 1, ⟨M_5, _, (hM_1.trans hM_5), S, E.keep ⟨rfl, rfl, rfl, rfl, trivial⟩, by ((try clear S); (try clear E); first | assumption | omega | rfl | (simp; done) | (simp_all; done) | (simp [List.take_add_one, *]; done) | grind [List.take_add_one]), J_eq hJ (by ((try clear S); (try clear E); first | assumption | omega | rfl | (simp; done) | (simp_all; done) | (simp [List.take_add_one, *]; done) | grind [List.take_add_one]))⟩, by omega⟩
  · replace hc_2 := of_decide_eq_false hc_2
    refine WP_exit ?_
    refine T_x ?_
    refine T_x ?_
    refine B_x ?_
    refine F_nrm ?_
    replace S := S.front1
    replace S := S.front1
    have hpre : l0.take k = l0 := by ((try clear S); (try clear E); first | rfl | (simp; done) | (simp_all; done) | grind [List.take_add_one])
    rw [hpre] at hJ
    exact F_retM0 E S Try.results132 (fun w S => ⟨_, rfl, M_1, _, hM_1, .inl hJ, S⟩)

set_option maxRecDepth 100000 in
set_option maxHeartbeats 4000000 in
theorem slices_Values {M : Hp} {v0 : Value} {l0 : List Int} (h0 : RdI M v0 l0) :
    Pu Try.prog (.func (.func 88) #[] #[]) M [v0] (fun r M' => SeqV Try.prog r M' RInt l0) := by
  refine Pu_enter Try.func88 rfl Try.ntmps88 rfl Try.call88 ?_
  intro a w M1 H hM1 S E
  replace h0 := h0.le hM1
  have b0 := h0.bound
  refine WP_seq ?_
  refine WP_region ?_
  refine S_x (X_box (cs := #[v0]) E S rfl rfl (cells_one (RdS.one' h0)) ?_)
  clear E a S; rintro a w b_1 E S
  obtain ⟨M_2, hM_2, hb_1, S⟩ := S.freezeB
  replace h0 := h0.le hM_2
  refine S_v E rfl (R_assign E rfl) rfl ?_
  clear E a; intro a E
  refine WL_nil ?_
  refine T_n ?_
  refine WP_seq ?_
  refine WP_region ?_
  refine S_v E rfl (R_makeFunc E rfl rfl) rfl ?_
  clear E a; intro a E
  refine S_v E rfl (R_assign E rfl) rfl ?_
  clear E a; intro a E
  refine WL_nil ?_
  refine T_n ?_
  refine WP_ret ?_
  exact F_ret1 E Try.results88 rfl ⟨_, rfl, M_2, hM_2, (SeqV_eq (slices_Values1 h0 hb_1) (by ((try clear S); (try clear E); first | rfl | (simp; done) | (simp_all; done) | grind [List.take_add_one]))), S⟩

set_option maxRecDepth 100000 in
set_option maxHeartbeats 4000000 in
theorem impl_seqs {M : Hp} {v0 : Value} {l0 : List (List Int)} (h0 : RdII M v0 l0) (hb : l0.length ≤ 1000000000) :
    Pu Try.prog (.func (.func 79) #[] #[]) M [v0] (fun r M' => RdS 1 (RSq Try.prog RInt) M' r l0) := by
  refine Pu_enter Try.func79 rfl Try.ntmps79 rfl Try.call79 ?_
  intro a w M1 H hM1 S E
  replace h0 := h0.le hM1
  have b0 := h0.bound
  refine WP_seq ?_
  refine WP_region ?_
  refine S_v E rfl (R_assign E rfl) rfl ?_
  clear E a; intro a E
  refine WL_nil ?_
  refine T_n ?_
  refine WP_seq ?_
  refine WP_region ?_
  refine S_v E rfl (R_assign E rfl) rfl ?_
  clear E a; intro a E
  refine WL_nil ?_
  refine T_n ?_
  refine WP_seq ?_
  refine WP_seq ?_
  refine WP_region ?_
  refine S_v E rfl (R_move E rfl) rfl ?_
  clear E a; intro a E
  refine S_v E rfl (R_lenV E rfl T22 h0.len) rfl ?_
  clear E a; intro a E
  refine S_v E rfl (R_move E rfl) rfl ?_
  clear E a; intro a E
  refine WL_nil ?_
  refine T_n ?_
  refine WP_block ?_
  replace S : St w M1 (OwnC 82 1 (.slice none 0 0) ([] : List (List Int)).length [] :: _) := S.ownNil
  have hr_2 : RowsR (RSq Try.prog RInt) 1 M1 ([] : List (List Int)) [] := RowsR.nil
  have hre : ([] : List (List Int)) = l0.take 0 := by ((try clear S); (try clear E); first | assumption | omega | rfl | (simp; done) | (simp_all; done) | (simp [List.take_add_one, *]; done) | grind [List.take_add_one])
  replace S := S.reR hre
  replace hr_2 := hr_2.eq hre
  clear hre
  refine WP_loop (γ := Nat) (fun (k : Nat) a w => ∃ (M_3 : Hp) (u3 : Value) (xs3 : List Value), Hp.le M1 M_3 ∧ St w M_3 (OwnC 82 1 u3 (l0.take k).length xs3 :: H) ∧ Env a 19 [] [(3, u3), (6, v0), (7, .int .i64 (((l0).length : Nat) : Int)), (8, .int .i64 ((k : Nat) : Int))] ∧ (k ≤ (l0).length) ∧ RowsR (RSq Try.prog RInt) 1 M_3 (l0.take k) xs3) (fun k => ((l0).length) - k) 0 ⟨M1, _, _, Hp.le.refl _, S, E.keep ⟨rfl, rfl, rfl, rfl, trivial⟩, by ((try clear S); (try clear E); first | assumption | omega | rfl | (simp; done) | (simp_all; done) | (simp [List.take_add_one, *]; done) | grind [List.take_add_one]), hr_2⟩ ?_
  try clear E
  try clear S
  try clear a
  try clear w
  rintro k a w ⟨M_3, u3, xs3, hM_3, S, E, hL0_0, hr3⟩
  replace h0 := h0.le hM_3
  refine WP_seq ?_
  refine WP_region ?_
  refine S_v E rfl (R_lss E rfl rfl) rfl ?_
  clear E a; intro a E
  refine WL_nil ?_
  refine T_n ?_
  refine WP_seq ?_
  refine WP_cond E rfl (fun hc_4 => ?_) (fun hc_4 => ?_)
  · replace hc_4 := of_decide_eq_true hc_4
    refine WP_skip ?_
    refine T_n ?_
    refine WP_seq ?_
    refine WP_block ?_
    refine WP_seq ?_
    refine WP_region ?_
    obtain ⟨x_5, hx_5⟩ : ∃ x, (l0)[k]? = some x := ⟨_, List.getElem?_eq_getElem (by first | omega | (simp; done) | (simp; omega) | (simp_all; omega))⟩
    obtain ⟨p_6, u_7, hp_6, qp_6, hu_7⟩ := h0.at hx_5
    have bu_7 := hu_7.bound
    refine S_v E rfl (R_idx E rfl rfl T22 hp_6 rfl) rfl ?_
    clear E a; intro a E
    refine S_v E rfl (R_loadM E rfl Try.isAgg24 S.imm qp_6) rfl ?_
    clear E a; intro a E
    refine S_v E rfl (R_assign E rfl) rfl ?_
    clear E a; intro a E
    refine WL_nil ?_
    refine T_n ?_
    refine WP_region ?_
    refine S_v E rfl (R_move E rfl) rfl ?_
    clear E a; intro a E
    refine S_v E rfl (R_move E rfl) rfl ?_
    clear E a; intro a E
    refine S_x (X_pu E S rfl rfl rfl (slices_Values hu_7) (Hp.le.refl _) ?_)
    clear E a S; rintro a v_9 w M_8 hM_8 hv_9 S E
    replace h0 := h0.le hM_8
    replace hr3 := hr3.le RSq_mono hM_8
    replace hu_7 := hu_7.le hM_8
    refine S_x (X_buildM (R := (RSq Try.prog RInt)) (vs := [v_9]) (xs := [x_5]) RSq_mono E S rfl T84 rfl rfl rfl (by intro u hu; simp only [List.mem_cons, List.not_mem_nil, or_false] at hu; rcases hu with rfl <;> first | exact hv_9.1) rfl (rowsC (R := (RSq Try.prog RInt)) ⟨_, rfl, hv_9⟩ rowsN) ?_)
    clear E a S; rintro a v_10 w M_11 hM_11 hv_10 S E
    replace h0 := h0.le hM_11
    replace hr3 := hr3.le RSq_mono hM_11
    replace hu_7 := hu_7.le hM_11
    replace hv_9 := hv_9.le hM_11
    refine S_x (X_appendR (R := (RSq Try.prog RInt)) (zs := l0.take k) (ys := [x_5]) E S hr3 rfl rfl rfl T84 hv_10 one_RSq (by first | omega | (simp; done) | (simp; omega) | (simp_all; omega)) (by first | omega | (simp; done) | (simp; omega) | (simp_all; omega)) ?_)
    clear E a S; rintro a w v_12 xs_13 E hr_14 S
    refine S_v E rfl (R_assign E rfl) rfl ?_
    clear E a; intro a E
    refine WL_nil ?_
    refine B_n ?_
    refine T_n ?_
    refine WP_region ?_
    refine S_v E rfl (R_addx (m := ((k + 1 : Nat) : Int)) E rfl rfl (by omega) (by omega)) rfl ?_
    clear E a; intro a E
    refine S_v E rfl (R_move E rfl) rfl ?_
    clear E a; intro a E
    refine WL_nil ?_
    refine T_n ?_
    have hre : (l0.take k) ++ [x_5] = l0.take (k + 1) := by ((try clear S); (try clear E); first | assumption | omega | rfl | (simp; done) | (simp_all; done) | (simp [List.take_add_one, *]; done) | grind [List.take_add_one])
    replace S := S.reR hre
    replace hr_14 := hr_14.eq hre
    clear hre
    exact ⟨k + 1, ⟨M_11, _, _, (hM_3.trans (hM_8.trans hM_11)), S, E.keep ⟨rfl, rfl, rfl, rfl, trivial⟩, by ((try clear S); (try clear E); first | assumption | omega | rfl | (simp; done) | (simp_all; done) | (simp [List.take_add_one, *]; done) | grind [List.take_add_one]), hr_14⟩, by omega⟩
  · replace hc_4 := of_decide_eq_false hc_4
    refine WP_exit ?_
    refine T_x ?_
    refine T_x ?_
    refine B_x ?_
    refine T_n ?_
    refine WP_seq ?_
    refine WP_region ?_
    refine S_v E rfl (R_move E rfl) rfl ?_
    clear E a; intro a E
    refine S_v E rfl (R_assign E rfl) rfl ?_
    clear E a; intro a E
    refine WL_nil ?_
    refine T_n ?_
    refine WP_ret ?_
    have S0 := S; clear S
    obtain ⟨M_15, hM_15, hz_16, S⟩ := S0.freezeR hr3 RSq_mono (by (first | omega | (simp; omega) | (simp; done) | (simp_all; omega) | grind))
    clear S0
    replace h0 := h0.le hM_15
    exact F_ret1 E Try.results79 rfl ⟨_, rfl, M_15, (hM_3.trans hM_15), (by rw [show l0 = (l0.take k) from by (rw [List.take_of_length_le (by omega)])]; exact hz_16), S⟩

set_option maxRecDepth 100000 in
set_option maxHeartbeats 4000000 in
theorem it_Union1 {M : Hp} {v0 : Value} {l0 : List (List Int)} (h0 : RdS 1 (RSq Try.prog RInt) M v0 l0){bx1 : Nat} (hbx1 : M bx1 = some (.cells #[v0] 84)) :
    SeqV Try.prog (.func (.func 125) #[] #[.pointer (some ⟨bx1, 0, none⟩)]) M (RInt) (keyL (l0).flatten) := by
  refine SeqV_enter Try.func125 rfl Try.ntmps125 rfl Try.call125 ?_
  intro y J X a w M1 c H hJM hM1 hY hJ S E
  replace hbx1 := hM1.2 _ _ hbx1
  replace h0 := h0.le RSq_mono hM1
  have b0 := h0.bound
  refine WP_seq ?_
  refine WP_region ?_
  refine S_x (X_box (cs := #[y]) E S rfl rfl (cells_one hY.1) ?_)
  clear E a S; rintro a w b_1 E S
  obtain ⟨M_2, hM_2, hb_1, S⟩ := S.freezeB
  replace hbx1 := hM_2.2 _ _ hbx1
  replace h0 := h0.le RSq_mono hM_2
  replace hJ := hJM _ _ _ _ hM_2 hJ
  refine WL_nil ?_
  refine T_n ?_
  refine WP_seq ?_
  refine WP_region ?_
  refine S_x (X_makeMap E S rfl ?_)
  clear E a S; rintro a w b_3 E S
  replace S : St w M_2 (OwnS b_3 ([] : List Int) :: _) := S
  refine S_x (X_alloc (cs := #[.map none]) E S rfl Try.zeroValue116 rfl ?_)
  clear E a S; rintro a w b_4 E S
  refine S_x0 (X_store E S rfl rfl (Try.sizeOf116 _) rfl ?_)
  clear E a S; rintro a w E S
  refine WL_nil ?_
  refine T_n ?_
  refine WP_seq ?_
  refine WP_region ?_
  refine S_v E rfl (R_loadM E rfl Try.isAgg84 S.imm (cellM_box hbx1)) rfl ?_
  clear E a; intro a E
  refine S_v E rfl (R_lenV E rfl T84 h0.len) rfl ?_
  clear E a; intro a E
  refine S_v E rfl (R_move E rfl) rfl ?_
  clear E a; intro a E
  refine WL_nil ?_
  refine T_n ?_
  refine WP_block ?_
  replace S := S.front1
  replace S := S.reM (L' := (Sl.encS (keyL (l0.take 0).flatten))) (congrArg Sl.encS (show ([] : List Int) = keyL (l0.take 0).flatten by first | (simp [keyL]; done) | (rw [flatten_succ (by assumption)])))
  refine WP_loop (γ := Nat) (fun (k : Nat) a w => ∃ (M_5 : Hp) (cL0 : HProp) (Ds0 : List Nat), Hp.le M_2 M_5 ∧ St w M_5 (OwnS b_3 (keyL (l0.take k).flatten) :: blk b_4 (.cells #[.map (some b_3)] 116) :: mks Ds0 :: cL0 :: H) ∧ Env a 35 (Ds0.map mk) [(1, .pointer (some ⟨bx1, 0, none⟩)), (2, .pointer (some ⟨b_1, 0, none⟩)), (3, .pointer (some ⟨b_4, 0, none⟩)), (10, .int .i64 (((l0).length : Nat) : Int)), (11, .int .i64 ((k : Nat) : Int))] ∧ (k ≤ (l0).length) ∧ J (keyL (l0.take k).flatten) M_5 cL0) (fun k => ((l0).length) - k) 0 ⟨M_2, _, _, Hp.le.refl _, S, E.keep ⟨rfl, rfl, rfl, rfl, rfl, trivial⟩, by ((try clear S); (try clear E); first | assumption | omega | rfl | (simp; done) | (simp_all; done) | (simp [List.take_add_one, *]; done) | grind [List.take_add_one]), J_eq hJ (by (simp [keyL]))⟩ ?_
  try clear E
  try clear S
  try clear a
  try clear w
  rintro k a w ⟨M_5, cL0, Ds0, hM_5, S, E, hL0_0, hJ⟩
  replace hbx1 := hM_5.2 _ _ hbx1
  replace h0 := h0.le RSq_mono hM_5
  replace hb_1 := hM_5.2 _ _ hb_1
  refine WP_seq ?_
  refine WP_region ?_
  refine S_v E rfl (R_lss E rfl rfl) rfl ?_
  clear E a; intro a E
  refine WL_nil ?_
  refine T_n ?_
  refine WP_seq ?_
  refine WP_cond E rfl (fun hc_6 => ?_) (fun hc_6 => ?_)
  · replace hc_6 := of_decide_eq_true hc_6
    refine WP_skip ?_
    refine T_n ?_
    refine WP_seq ?_
    refine WP_block ?_
    refine WP_seq ?_
    refine WP_region ?_
    refine S_v E rfl (R_move E rfl) rfl ?_
    clear E a; intro a E
    refine S_v E rfl (R_assign E rfl) rfl ?_
    clear E a; intro a E
    refine WL_nil ?_
    refine T_n ?_
    refine WP_seq ?_
    refine WP_region ?_
    refine S_v E rfl (R_loadM E rfl Try.isAgg84 S.imm (cellM_box hbx1)) rfl ?_
    clear E a; intro a E
    refine S_v E rfl (R_move E rfl) rfl ?_
    clear E a; intro a E
    obtain ⟨x_7, hx_7⟩ : ∃ x, (l0)[k]? = some x := ⟨_, List.getElem?_eq_getElem (by first | omega | (simp; done) | (simp; omega) | (simp_all; omega))⟩
    obtain ⟨p_8, u_9, hp_8, qp_8, hu_9⟩ := RdQ.at h0 hx_7
    refine S_v E rfl (R_idx E rfl rfl T84 hp_8 rfl) rfl ?_
    clear E a; intro a E
    refine S_v E rfl (R_loadM E rfl Try.isAgg82 S.imm qp_8) rfl ?_
    clear E a; intro a E
    refine WL_nil ?_
    refine T_n ?_
    refine WP_block ?_
    replace S := S.front1
    replace S := S.front3
    replace S := S.front2
    replace S := S.front2
    replace E := E.keep (l' := [(1, .pointer (some ⟨bx1, 0, none⟩)), (2, .pointer (some ⟨b_1, 0, none⟩)), (3, .pointer (some ⟨b_4, 0, none⟩)), (10, .int .i64 (((l0).length : Nat) : Int)), (11, .int .i64 ((k : Nat) : Int)), (17, u_9)]) ⟨rfl, rfl, rfl, rfl, rfl, rfl, trivial⟩
    replace S := S.front2
    replace S := S.front2
    replace S := S.reM (L' := (Sl.encS (keyL ((l0.take k).flatten ++ ([] : List Int))))) (congrArg Sl.encS (show keyL (l0.take k).flatten = keyL ((l0.take k).flatten ++ ([] : List Int)) by first | (rw [List.append_nil]; done) | (rw [← List.append_assoc]; first | exact (keyL_snoc _ _).symm | (refine keyU_noB ?_; assumption))))
    replace S := S.front2
    have S0 := S; clear S; have S := St.pack [blk b_4 (.cells #[.map (some b_3)] 116), OwnS b_3 (keyL ((l0.take k).flatten ++ ([] : List Int))), cL0] S0; clear S0
    refine WP_range (RV := RInt) (l := x_7) (fun pre M c => ∃ (c1 : HProp), c = bigs [blk b_4 (.cells #[.map (some b_3)] 116), OwnS b_3 (keyL ((l0.take k).flatten ++ pre)), c1] ∧ (J (keyL ((l0.take k).flatten ++ pre)) M c1)) (fun cd pre M c => cd = .ret ∧ ∃ z, z <+: (keyL (l0).flatten) ∧ X z M c) E S rfl hu_9 (Hp.le.refl _) (fun _ _ _ h => by rw [h]; rfl) (by decide) (by rintro _ M M' c hM ⟨c1, rfl, f0⟩; exact ⟨_, rfl, hJM _ _ _ _ hM f0⟩) ⟨_, rfl, J_eq hJ (by (rw [List.append_nil]))⟩ ?_ ?_ ?_
    clear E S
    · rintro lb_11 rec_12 pre x _ a w M_10 _ G hM_10 hp_13 rfl ⟨c1, rfl, f0⟩ E S
      replace E : Env a 35 [] [(18, .int .i64 x), (1, .pointer (some ⟨bx1, 0, none⟩)), (2, .pointer (some ⟨b_1, 0, none⟩)), (3, .pointer (some ⟨b_4, 0, none⟩)), (10, .int .i64 (((l0).length : Nat) : Int)), (11, .int .i64 ((k : Nat) : Int)), (17, u_9)] := E
      replace S := S.swap.unpack3
      have hq1 := prefix_lt hp_13
      replace hbx1 := hM_10.2 _ _ hbx1
      replace h0 := h0.le RSq_mono hM_10
      replace hb_1 := hM_10.2 _ _ hb_1
      replace hu_9 := hu_9.le hM_10
      refine WP_region ?_
      refine S_v E rfl (R_assign E rfl) rfl ?_
      clear E a; intro a E
      refine WL_nil ?_
      refine T_n ?_
      replace S := S.front3
      refine rb S ?_
      clear S; intro w S
      refine WP_block ?_
      refine WP_seq ?_
      refine WP_region ?_
      refine S_v E rfl (R_load E rfl (Try.isAgg116 _) (cell_blk (S.mem (.tail _ (.head _))))) rfl ?_
      clear E a; intro a E
      refine S_v E rfl (R_move E rfl) rfl ?_
      clear E a; intro a E
      replace S := S.front2
      refine S_x (X_lookupS E S rfl MT116 rfl rfl ?_)
      clear E a S; rintro a w E S
      replace S : St w M_10 (OwnS b_3 (keyL ((l0.take k).flatten ++ pre)) :: _) := S
      refine S_v E rfl (R_move E rfl) rfl ?_
      clear E a; intro a E
      refine S_v E rfl (R_extract E rfl rfl) rfl ?_
      clear E a; intro a E
      refine S_v E rfl (R_extract E rfl rfl) rfl ?_
      clear E a; intro a E
      refine S_x (X_alloc (cs := #[]) E S rfl Try.zeroValue117 rfl ?_)
      clear E a S; rintro a w b_15 E S
      refine S_x0 (X_storeG (us := []) E S rfl rfl (Try.sizeOf117 _) rfl (by intro u hu; cases hu) ?_)
      clear E a S; rintro a w E S
      replace S : St w M_10 (blk b_15 (.cells #[] 117) :: _) := S
      have S0 := S; clear S
      obtain ⟨M_16, hM_16, hb_17, S⟩ := S0.freezeB
      clear S0
      replace hbx1 := hM_16.2 _ _ hbx1
      replace h0 := h0.le RSq_mono hM_16
      replace hb_1 := hM_16.2 _ _ hb_1
      replace hu_9 := hu_9.le hM_16
      replace f0 := hJM _ _ _ _ hM_16 f0
      refine S_v E rfl (R_assign E rfl) rfl ?_
      clear E a; intro a E
      refine WL_nil ?_
      refine T_n ?_
      refine WP_seq ?_
      refine WP_region ?_
      refine S_v E rfl (R_move E rfl) rfl ?_
      clear E a; intro a E
      refine S_v E rfl (R_not E rfl) rfl ?_
      clear E a; intro a E
      refine WL_nil ?_
      refine T_n ?_
      refine WP_cond E rfl (fun hc_18 => ?_) (fun hc_18 => ?_)
      · refine WP_seq ?_
        refine WP_seq ?_
        refine WP_region ?_
        refine S_v E rfl (R_loadM E rfl Try.isAgg122 S.imm (cellM_box hb_1)) rfl ?_
        clear E a; intro a E
        refine S_v E rfl (R_move E rfl) rfl ?_
        clear E a; intro a E
        replace S := S.front3
        refine S_x (X_yield (x := x) E S rfl rfl rfl hY (hM_2.trans (hM_5.trans (hM_10.trans hM_16))) (by (rw [keyU_yesB (by assumption)]; exact keyL_pre (flat_prefix (by assumption) (by assumption)))) rfl f0 ?_)
        clear E a S; rintro a w M_19 c_20 go_21 hM_19 f0 S E
        replace hbx1 := hM_19.2 _ _ hbx1
        replace h0 := h0.le RSq_mono hM_19
        replace hb_1 := hM_19.2 _ _ hb_1
        replace hu_9 := hu_9.le hM_19
        replace hb_17 := hM_19.2 _ _ hb_17
        cases go_21
        · replace f0 : X (keyL ((l0.take k).flatten ++ pre) ++ [x]) M_19 c_20 := f0
          refine S_v E rfl (R_not E rfl) rfl ?_
          clear E a; intro a E
          refine WL_nil ?_
          refine T_n ?_
          refine WP_condT E rfl rfl ?_
          refine WP_ret ?_
          refine T_r ?_
          refine B_r ?_
          replace S := S.front1
          replace S := S.drop
          replace S := S.front2
          replace S := S.drop
          replace S := S.front1
          exact ⟨M_19, _, (hM_16.trans hM_19), ⟨rfl, _, (by first | assumption | ((rw [keyU_yesB (by assumption)]; exact keyL_pre (flat_prefix (by assumption) (by assumption)))) | ((rw [keyU_yesB (by assumption)]; exact keyL_pre (flat_prefix (by assumption) (by assumption))))), f0⟩, S⟩
        · replace f0 : J (keyL ((l0.take k).flatten ++ pre) ++ [x]) M_19 c_20 := f0
          refine S_v E rfl (R_not E rfl) rfl ?_
          clear E a; intro a E
          refine WL_nil ?_
          refine T_n ?_
          refine WP_condF E rfl rfl ?_
          refine WP_skip ?_
          refine T_n ?_
          refine WP_region ?_
          refine S_v E rfl (R_load E rfl (Try.isAgg116 _) (cell_blk (S.mem (.tail _ (.tail _ (.tail _ (.head _))))))) rfl ?_
          clear E a; intro a E
          refine S_v E rfl (R_move E rfl) rfl ?_
          clear E a; intro a E
          refine S_v E rfl (R_build (u := .agg #[]) (vs := []) E rfl (fun w => FB117__  w)) rfl ?_
          clear E a; intro a E
          replace S := S.front1
          refine S_x0 (X_updateS E S MT116 rfl rfl rfl ?_)
          clear E a S; rintro a w E S
          refine WL_nil ?_
          refine B_n ?_
          replace S := S.front1
          replace S := S.front1
          replace S := S.front3
          replace S := S.front2
          replace S := S.front2
          replace S := S.reM (L' := (Sl.encS (keyL ((l0.take k).flatten ++ (pre ++ [x]))))) (congrArg Sl.encS (show addS (keyL ((l0.take k).flatten ++ pre)) x = keyL ((l0.take k).flatten ++ (pre ++ [x])) by first | (rw [List.append_nil]; done) | (rw [← List.append_assoc]; first | exact (keyL_snoc _ _).symm | (refine keyU_noB ?_; assumption))))
          replace S := S.front2
          have S0 := S; clear S; have S := (St.pack [blk b_4 (.cells #[.map (some b_3)] 116), OwnS b_3 (keyL ((l0.take k).flatten ++ (pre ++ [x]))), c_20] S0).swap; clear S0
          exact ⟨M_19, _, (hM_16.trans hM_19), ⟨_, rfl, J_eq f0 (by (rw [← List.append_assoc]; first | (refine keyU_yesB ?_; assumption) | (refine keyU_noB ?_; assumption)))⟩, S⟩
      · refine WP_skip ?_
        refine B_n ?_
        replace S := S.front3
        replace S := S.front1
        replace S := S.front3
        replace S := S.front2
        replace S := S.front2
        replace S := S.reM (L' := (Sl.encS (keyL ((l0.take k).flatten ++ (pre ++ [x]))))) (congrArg Sl.encS (show keyL ((l0.take k).flatten ++ pre) = keyL ((l0.take k).flatten ++ (pre ++ [x])) by first | (rw [List.append_nil]; done) | (rw [← List.append_assoc]; first | exact (keyL_snoc _ _).symm | (refine keyU_noB ?_; assumption))))
        replace S := S.front2
        have S0 := S; clear S; have S := (St.pack [blk b_4 (.cells #[.map (some b_3)] 116), OwnS b_3 (keyL ((l0.take k).flatten ++ (pre ++ [x]))), c1] S0).swap; clear S0
        exact ⟨M_16, _, hM_16, ⟨_, rfl, J_eq f0 (by (rw [← List.append_assoc]; first | (refine keyU_yesB ?_; assumption) | (refine keyU_noB ?_; assumption)))⟩, S⟩
    · rintro a w M_22 _ D_23 hM_22 ⟨c1, rfl, f0⟩ S E
      replace S := S.unpack3
      replace hbx1 := hM_22.2 _ _ hbx1
      replace h0 := h0.le RSq_mono hM_22
      replace hb_1 := hM_22.2 _ _ hb_1
      replace hu_9 := hu_9.le hM_22
      refine B_n ?_
      refine B_n ?_
      refine T_n ?_
      refine WP_region ?_
      refine S_v E rfl (R_addx (m := ((k + 1 : Nat) : Int)) E rfl rfl (by omega) (by omega)) rfl ?_
      clear E a; intro a E
      refine S_v E rfl (R_move E rfl) rfl ?_
      clear E a; intro a E
      refine WL_nil ?_
      refine T_n ?_
      replace S := S.front2
      replace S := S.front3
      replace S := S.front2
      replace S := S.front3
      replace S := S.reM (L' := (Sl.encS (keyL (l0.take (k + 1)).flatten))) (congrArg Sl.encS (show keyL ((l0.take k).flatten ++ x_7) = keyL (l0.take (k + 1)).flatten by first | (simp [keyL]; done) | (rw [flatten_succ (by assumption)])))
      exact ⟨k + 1, ⟨M_22, _, _, (hM_5.trans hM_22), S, E.keep ⟨rfl, rfl, rfl, rfl, rfl, trivial⟩, by ((try clear S); (try clear E); first | assumption | omega | rfl | (simp; done) | (simp_all; done) | (simp [List.take_add_one, *]; done) | grind [List.take_add_one]), J_eq f0 (by (rw [flatten_succ (by assumption)]))⟩, by omega⟩
    · rintro a w M_24 c_ D_25 p_26 _ hM_24 hp_27 ⟨rfl, z_, hz_, f0⟩ S E
      replace hbx1 := hM_24.2 _ _ hbx1
      replace h0 := h0.le RSq_mono hM_24
      replace hb_1 := hM_24.2 _ _ hb_1
      replace hu_9 := hu_9.le hM_24
      refine WP_ret ?_
      refine B_r ?_
      refine B_r ?_
      refine T_r ?_
      refine T_r ?_
      refine B_r ?_
      replace S := S.front1
      exact F_retM0 E S Try.results125 (fun w S => ⟨_, rfl, M_24, _, (hM_2.trans (hM_5.trans hM_24)), .inr ⟨z_, (by first | assumption | ((rw [keyU_yesB (by assumption)]; exact keyL_pre (flat_prefix (by assumption) (by assumption))))), f0⟩, S⟩)
  · replace hc_6 := of_decide_eq_false hc_6
    refine WP_exit ?_
    refine T_x ?_
    refine T_x ?_
    refine B_x ?_
    refine F_nrm ?_
    replace S := S.drop
    replace S := S.drop
    replace S := S.front1
    replace S := S.front1
    have hpre : keyL (l0.take k).flatten = keyL (l0).flatten := by (rw [List.take_of_length_le (by omega)])
    rw [hpre] at hJ
    exact F_retM0 E S Try.results125 (fun w S => ⟨_, rfl, M_5, _, (hM_2.trans hM_5), .inl hJ, S⟩)

set_option maxRecDepth 100000 in
set_option maxHeartbeats 4000000 in
theorem it_Union {M : Hp} {v0 : Value} {l0 : List (List Int)} (h0 : RdS 1 (RSq Try.prog RInt) M v0 l0) :
    Pu Try.prog (.func (.func 78) #[] #[]) M [v0] (fun r M' => SeqV Try.prog r M' RInt (keyL (l0).flatten)) := by
  refine Pu_enter Try.func78 rfl Try.ntmps78 rfl Try.call78 ?_
  intro a w M1 H hM1 S E
  replace h0 := h0.le RSq_mono hM1
  have b0 := h0.bound
  refine WP_seq ?_
  refine WP_region ?_
  refine S_x (X_box (cs := #[v0]) E S rfl rfl (cells_one (RdS.one' h0)) ?_)
  clear E a S; rintro a w b_1 E S
  obtain ⟨M_2, hM_2, hb_1, S⟩ := S.freezeB
  replace h0 := h0.le RSq_mono hM_2
  refine S_v E rfl (R_assign E rfl) rfl ?_
  clear E a; intro a E
  refine WL_nil ?_
  refine T_n ?_
  refine WP_seq ?_
  refine WP_region ?_
  refine S_v E rfl (R_makeFunc E rfl rfl) rfl ?_
  clear E a; intro a E
  refine S_v E rfl (R_assign E rfl) rfl ?_
  clear E a; intro a E
  refine WL_nil ?_
  refine T_n ?_
  refine WP_ret ?_
  exact F_ret1 E Try.results78 rfl ⟨_, rfl, M_2, hM_2, (SeqV_eq (it_Union1 h0 hb_1) (by ((try clear S); (try clear E); first | rfl | (simp; done) | (simp_all; done) | grind [List.take_add_one]))), S⟩

set_option maxRecDepth 100000 in
set_option maxHeartbeats 4000000 in
theorem slices_AppendSeq {M : Hp} {v1 : Value} {l1 : List Int} (h1 : SeqV Try.prog v1 M (RInt) l1)(hb : l1.length ≤ 1000000000000) :
    Pu Try.prog (.func (.func 124) #[] #[]) M [.slice none 0 0, v1] (fun r M' => RdI M' r l1) := by
  refine Pu_enter Try.func124 rfl Try.ntmps124 rfl Try.call124 ?_
  intro a w M1 H hM1 S E
  replace h1 := h1.le hM1
  replace S : St w M1 (mks [] :: _) := S.empty
  replace E : Env a 13 (([] : List Nat).map mk) _ := E
  refine WP_seq ?_
  refine WP_region ?_
  refine S_x (X_box (cs := #[.slice none 0 0]) E S rfl rfl rfl ?_)
  clear E a S; rintro a w b_1 E S
  refine S_v E rfl (R_assign E rfl) rfl ?_
  clear E a; intro a E
  refine WL_nil ?_
  refine T_n ?_
  refine WP_seq ?_
  refine WP_seq ?_
  refine WP_region ?_
  refine S_v E rfl (R_move E rfl) rfl ?_
  clear E a; intro a E
  refine WL_nil ?_
  refine T_n ?_
  refine WP_block ?_
  replace S := (S.ownNil (e := 3) (sz := 1)).made0
  replace S := S.front1
  replace E := E.keep (l' := [(2, .pointer (some ⟨b_1, 0, none⟩)), (6, v1)]) ⟨rfl, rfl, trivial⟩
  replace S := S.front1
  replace S := S.re1 (l' := ([] : List Int)) (by ((try clear S); (try clear E); first | assumption | omega | rfl | (simp; done) | (simp_all; done) | (simp [List.take_add_one, *]; done) | grind [List.take_add_one]))
  replace S := S.front1
  have S0 := S; clear S; have S := St.pack [blk b_1 (.cells #[(.slice none 0 0)] 24), OwnI 3 (.slice none 0 0) ([] : List Int)] S0; clear S0
  refine WP_range (RV := RInt) (l := l1) (fun pre M c => ∃ (u2 : Value), c = bigs [blk b_1 (.cells #[u2] 24), OwnI 3 u2 pre]) (fun _ _ _ _ => False) E S rfl h1 (Hp.le.refl _) (fun _ _ _ h => by rw [h]; rfl) (by decide) (by rintro _ M M' c hM ⟨u2, rfl⟩; exact ⟨_, rfl⟩) ⟨_, rfl⟩ ?_ ?_ ?_
  clear E S
  · rintro lb_4 rec_5 pre x _ a w M_3 _ G hM_3 hp_6 rfl ⟨u2, rfl⟩ E S
    replace E : Env a 13 [] [(7, .int .i64 x), (2, .pointer (some ⟨b_1, 0, none⟩)), (6, v1)] := E
    replace S := S.swap.unpack2
    have hq0 := prefix_lt hp_6
    replace h1 := h1.le hM_3
    refine WP_region ?_
    refine S_v E rfl (R_assign E rfl) rfl ?_
    clear E a; intro a E
    refine WL_nil ?_
    refine T_n ?_
    replace S := S.front2
    refine rb S ?_
    clear S; intro w S
    refine WP_block ?_
    refine WP_region ?_
    refine S_v E rfl (R_load E rfl (Try.isAgg24 _) (cell_blk (S.mem (.tail _ (.head _))))) rfl ?_
    clear E a; intro a E
    refine S_v E rfl (R_move E rfl) rfl ?_
    clear E a; intro a E
    refine S_x (X_buildI (ys := [x]) E S rfl T24 rfl rfl rfl ?_)
    clear E a S; rintro a w v_8 E S
    replace S := S.front3
    replace S := S.front1
    refine S_x (X_appendB (xs := pre) (ys := [x]) E S rfl rfl rfl T24 (by first | omega | (simp; done) | (simp; omega) | (simp_all; omega)) ?_)
    clear E a S; rintro a w v_9 E S
    have ho_10 := S.oneI
    replace S := S.front2
    refine S_x0 (X_store E S rfl rfl (Try.sizeOf24 _) ho_10 ?_)
    clear E a S; rintro a w E S
    refine WL_nil ?_
    refine B_n ?_
    replace S := S.front1
    replace S := S.front1
    replace S := S.front1
    replace S := S.front1
    have S0 := S; clear S; have S := (St.pack [blk b_1 (.cells #[v_9] 24), OwnI 3 v_9 (pre ++ [x])] S0).swap; clear S0
    exact ⟨M_3, _, (Hp.le.refl _), ⟨_, rfl⟩, S⟩
  · rintro a w M_11 _ D_12 hM_11 ⟨u2, rfl⟩ S E
    replace S := S.unpack2
    replace h1 := h1.le hM_11
    refine B_n ?_
    refine T_n ?_
    refine WP_seq ?_
    refine WP_region ?_
    refine S_v E rfl (R_load E rfl (Try.isAgg24 _) (cell_blk (S.mem (.head _)))) rfl ?_
    clear E a; intro a E
    refine S_v E rfl (R_assign E rfl) rfl ?_
    clear E a; intro a E
    refine WL_nil ?_
    refine T_n ?_
    refine WP_ret ?_
    replace S := S.front1
    have S0 := S; clear S
    obtain ⟨M_13, hM_13, hz_14, S⟩ := S0.freezeI (by (first | omega | (simp; omega) | (simp; done) | (simp_all; omega) | grind))
    clear S0
    replace h1 := h1.le hM_13
    replace S := S.drop
    exact F_retM1 E S Try.results124 rfl (fun w S => ⟨_, rfl, M_13, (hM_11.trans hM_13), hz_14, S⟩)
  · rintro _ _ _ _ _ _ _ _ _ hX; exact hX.elim

set_option maxRecDepth 100000 in
set_option maxHeartbeats 4000000 in
theorem slices_Collect {M : Hp} {v0 : Value} {l0 : List Int} (h0 : SeqV Try.prog v0 M (RInt) l0)(hb : l0.length ≤ 1000000000000) :
    Pu Try.prog (.func (.func 77) #[] #[]) M [v0] (fun r M' => RdI M' r l0) := by
  refine Pu_enter Try.func77 rfl Try.ntmps77 rfl Try.call77 ?_
  intro a w M1 H hM1 S E
  replace h0 := h0.le hM1
  refine WP_seq ?_
  refine WP_region ?_
  refine S_v E rfl (R_assign E rfl) rfl ?_
  clear E a; intro a E
  refine WL_nil ?_
  refine T_n ?_
  refine WP_seq ?_
  refine WP_region ?_
  refine S_v E rfl (R_move E rfl) rfl ?_
  clear E a; intro a E
  refine S_x (X_pu E S rfl rfl rfl (slices_AppendSeq h0 (by (first | omega | (simp; omega) | (simp; done) | (simp_all; omega) | grind))) (Hp.le.refl _) ?_)
  clear E a S; rintro a v_2 w M_1 hM_1 hv_2 S E
  replace h0 := h0.le hM_1
  refine S_v E rfl (R_assign E rfl) rfl ?_
  clear E a; intro a E
  refine WL_nil ?_
  refine T_n ?_
  refine WP_ret ?_
  exact F_ret1 E Try.results77 rfl ⟨_, rfl, M_1, hM_1, hv_2, S⟩

set_option maxRecDepth 100000 in
set_option maxHeartbeats 4000000 in
theorem impl_UnionSeq {M : Hp} {v0 : Value} {l0 : List (List Int)} (h0 : RdII M v0 l0) (hb : total l0 ≤ 1000000000) (hb2 : l0.length ≤ 1000000000) :
    Pu Try.prog (.func (.func 19) #[] #[]) M [v0] (fun r M' => RdI M' r (keyL (l0).flatten)) := by
  refine Pu_enter Try.func19 rfl Try.ntmps19 rfl Try.call19 ?_
  intro a w M1 H hM1 S E
  replace h0 := h0.le hM1
  have b0 := h0.bound
  have hul := keyF_le l0 l0.length
  rw [List.take_of_length_le (Nat.le_refl _)] at hul
  refine WP_seq ?_
  refine WP_region ?_
  refine S_v E rfl (R_assign E rfl) rfl ?_
  clear E a; intro a E
  refine WL_nil ?_
  refine T_n ?_
  refine WP_seq ?_
  refine WP_region ?_
  refine S_v E rfl (R_move E rfl) rfl ?_
  clear E a; intro a E
  refine S_x (X_pu E S rfl rfl rfl (impl_seqs h0 (by first | omega | (simp; omega))) (Hp.le.refl _) ?_)
  clear E a S; rintro a v_2 w M_1 hM_1 hv_2 S E
  replace h0 := h0.le hM_1
  refine S_x (X_pu E S rfl rfl rfl (it_Union hv_2) (Hp.le.refl _) ?_)
  clear E a S; rintro a v_4 w M_3 hM_3 hv_4 S E
  replace h0 := h0.le hM_3
  replace hv_2 := hv_2.le RSq_mono hM_3
  refine S_x (X_pu E S rfl rfl rfl (slices_Collect hv_4 (by (first | omega | (simp; omega) | (simp; done) | (simp_all; omega) | grind))) (Hp.le.refl _) ?_)
  clear E a S; rintro a v_6 w M_5 hM_5 hv_6 S E
  replace h0 := h0.le hM_5
  replace hv_2 := hv_2.le RSq_mono hM_5
  replace hv_4 := hv_4.le hM_5
  refine S_v E rfl (R_assign E rfl) rfl ?_
  clear E a; intro a E
  refine WL_nil ?_
  refine T_n ?_
  refine WP_ret ?_
  exact F_ret1 E Try.results19 rfl ⟨_, rfl, M_5, (hM_1.trans (hM_3.trans hM_5)), hv_6, S⟩

set_option maxRecDepth 100000 in
set_option maxHeartbeats 4000000 in
theorem laws_count {M : Hp} {v0 : Value} {l0 : List Int} (h0 : RdI M v0 l0){x1 : Int} :
    Pu Try.prog (.func (.func 80) #[] #[]) M [v0, .int .i64 x1] (fun r M' => r = .int .i64 (((l0).count x1 : Nat) : Int)) := by
  refine Pu_enter Try.func80 rfl Try.ntmps80 rfl Try.call80 ?_
  intro a w M1 H hM1 S E
  replace h0 := h0.le hM1
  have b0 := h0.bound
  have c0 := List.count_le_length (a := x1) (l := l0)
  refine WP_seq ?_
  refine WP_region ?_
  refine S_v E rfl (R_assign E rfl) rfl ?_
  clear E a; intro a E
  refine WL_nil ?_
  refine T_n ?_
  refine WP_seq ?_
  refine WP_region ?_
  refine S_v E rfl (R_assign E rfl) rfl ?_
  clear E a; intro a E
  refine WL_nil ?_
  refine T_n ?_
  refine WP_seq ?_
  refine WP_seq ?_
  refine WP_region ?_
  refine S_v E rfl (R_move E rfl) rfl ?_
  clear E a; intro a E
  refine S_v E rfl (R_lenV E rfl T24 h0.len) rfl ?_
  clear E a; intro a E
  refine S_v E rfl (R_move E rfl) rfl ?_
  clear E a; intro a E
  refine WL_nil ?_
  refine T_n ?_
  refine WP_block ?_
  refine WP_loop (γ := Nat) (fun (k : Nat) a w => ∃ (M_1 : Hp), Hp.le M1 M_1 ∧ St w M_1 (H) ∧ Env a 21 [] [(1, .int .i64 x1), (5, .int .i64 (((l0.take k).count x1 : Nat) : Int)), (8, v0), (9, .int .i64 (((l0).length : Nat) : Int)), (10, .int .i64 ((k : Nat) : Int))] ∧ (k ≤ (l0).length)) (fun k => ((l0).length) - k) 0 ⟨M1, Hp.le.refl _, S, E.keep ⟨rfl, look_nat (i := 0) rfl (by ((try clear S); (try clear E); first | assumption | omega | rfl | (simp; done) | (simp_all; done) | (simp [List.take_add_one, *]; done) | grind [List.take_add_one])), rfl, rfl, rfl, trivial⟩, by ((try clear S); (try clear E); first | assumption | omega | rfl | (simp; done) | (simp_all; done) | (simp [List.take_add_one, *]; done) | grind [List.take_add_one])⟩ ?_
  try clear E
  try clear S
  try clear a
  try clear w
  rintro k a w ⟨M_1, hM_1, S, E, hL0_0⟩
  replace h0 := h0.le hM_1
  have c1 := List.count_le_length (a := x1) (l := l0.take k)
  simp only [List.length_take] at c1
  refine WP_seq ?_
  refine WP_region ?_
  refine S_v E rfl (R_lss E rfl rfl) rfl ?_
  clear E a; intro a E
  refine WL_nil ?_
  refine T_n ?_
  refine WP_seq ?_
  refine WP_cond E rfl (fun hc_2 => ?_) (fun hc_2 => ?_)
  · replace hc_2 := of_decide_eq_true hc_2
    refine WP_skip ?_
    refine T_n ?_
    refine WP_seq ?_
    refine WP_block ?_
    refine WP_seq ?_
    refine WP_region ?_
    obtain ⟨x_3, hx_3⟩ : ∃ x, (l0)[k]? = some x := ⟨_, List.getElem?_eq_getElem (by first | omega | (simp; done) | (simp; omega) | (simp_all; omega))⟩
    obtain ⟨p_4, hp_4, qp_4⟩ := h0.at hx_3
    refine S_v E rfl (R_idx E rfl rfl T24 hp_4 rfl) rfl ?_
    clear E a; intro a E
    refine S_v E rfl (R_loadM E rfl Try.isAgg3 S.imm qp_4) rfl ?_
    clear E a; intro a E
    refine S_v E rfl (R_assign E rfl) rfl ?_
    clear E a; intro a E
    refine WL_nil ?_
    refine T_n ?_
    refine WP_seq ?_
    refine WP_region ?_
    refine S_v E rfl (R_move E rfl) rfl ?_
    clear E a; intro a E
    refine S_v E rfl (R_move E rfl) rfl ?_
    clear E a; intro a E
    refine S_v E rfl (R_eql E rfl rfl) rfl ?_
    clear E a; intro a E
    refine WL_nil ?_
    refine T_n ?_
    refine WP_cond E rfl (fun hc_5 => ?_) (fun hc_5 => ?_)
    · replace hc_5 := of_decide_eq_true hc_5
      refine WP_region ?_
      refine S_v E rfl (R_move E rfl) rfl ?_
      clear E a; intro a E
      refine S_v E rfl (R_addx (m := (((l0.take k).count x1 + 1 : Nat) : Int)) E rfl rfl (by omega) (by omega)) rfl ?_
      clear E a; intro a E
      refine S_v E rfl (R_assign E rfl) rfl ?_
      clear E a; intro a E
      refine WL_nil ?_
      refine B_n ?_
      refine T_n ?_
      refine WP_region ?_
      refine S_v E rfl (R_addx (m := ((k + 1 : Nat) : Int)) E rfl rfl (by omega) (by omega)) rfl ?_
      clear E a; intro a E
      refine S_v E rfl (R_move E rfl) rfl ?_
      clear E a; intro a E
      refine WL_nil ?_
      refine T_n ?_
      exact ⟨k + 1, ⟨M_1, hM_1, S, E.keep ⟨rfl, look_nat (i := (l0.take k).count x1 + 1) rfl (by ((try clear S); (try clear E); first | assumption | omega | rfl | (simp; done) | (simp_all; done) | (simp [List.take_add_one, *]; done) | grind [List.take_add_one])), rfl, rfl, rfl, trivial⟩, by ((try clear S); (try clear E); first | assumption | omega | rfl | (simp; done) | (simp_all; done) | (simp [List.take_add_one, *]; done) | grind [List.take_add_one])⟩, by omega⟩
    · replace hc_5 := of_decide_eq_false hc_5
      refine WP_skip ?_
      refine B_n ?_
      refine T_n ?_
      refine WP_region ?_
      refine S_v E rfl (R_addx (m := ((k + 1 : Nat) : Int)) E rfl rfl (by omega) (by omega)) rfl ?_
      clear E a; intro a E
      refine S_v E rfl (R_move E rfl) rfl ?_
      clear E a; intro a E
      refine WL_nil ?_
      refine T_n ?_
      exact ⟨k + 1, ⟨M_1, hM_1, S, E.keep ⟨rfl, look_nat (i := (l0.take k).count x1) rfl (by ((try clear S); (try clear E); first | assumption | omega | rfl | (simp; done) | (simp_all; done) | (simp [List.take_add_one, *]; done) | grind [List.take_add_one])), rfl, rfl, rfl, trivial⟩, by ((try clear S); (try clear E); first | assumption | omega | rfl | (simp; done) | (simp_all; done) | (simp [List.take_add_one, *]; done) | grind [List.take_add_one])⟩, by omega⟩
  · replace hc_2 := of_decide_eq_false hc_2
    refine WP_exit ?_
    refine T_x ?_
    refine T_x ?_
    refine B_x ?_
    refine T_n ?_
    refine WP_seq ?_
    refine WP_region ?_
    refine S_v E rfl (R_move E rfl) rfl ?_
    clear E a; intro a E
    refine S_v E rfl (R_assign E rfl) rfl ?_
    clear E a; intro a E
    refine WL_nil ?_
    refine T_n ?_
    refine WP_ret ?_
    exact F_ret1 E Try.results80 rfl ⟨_, rfl, M_1, hM_1, (congrArg (Value.int .i64) (by ((try clear S); (try clear E); first | assumption | omega | rfl | (simp; done) | (simp_all; done) | (simp [List.take_add_one, *]; done) | grind [List.take_add_one]))), S⟩

set_option maxRecDepth 100000 in
set_option maxHeartbeats 4000000 in
theorem laws_same {M : Hp} {v0 v1 : Value} {l0 l1 : List Int} (h0 : RdI M v0 l0) (h1 : RdI M v1 l1) :
    Pu Try.prog (.func (.func 20) #[] #[]) M [v0, v1] (fun r M' => r = .bool (decide (l0.length = l1.length ∧ ∀ x ∈ l0, l0.count x = l1.count x))) := by
  refine Pu_enter Try.func20 rfl Try.ntmps20 rfl Try.call20 ?_
  intro a w M1 H hM1 S E
  replace h0 := h0.le hM1
  replace h1 := h1.le hM1
  have b0 := h0.bound
  have b1 := h1.bound
  refine WP_seq ?_
  refine WP_region ?_
  refine S_v E rfl (R_assign E rfl) rfl ?_
  clear E a; intro a E
  refine WL_nil ?_
  refine T_n ?_
  refine WP_seq ?_
  refine WP_seq ?_
  refine WP_region ?_
  refine S_v E rfl (R_move E rfl) rfl ?_
  clear E a; intro a E
  refine S_v E rfl (R_lenV E rfl T24 h0.len) rfl ?_
  clear E a; intro a E
  refine S_v E rfl (R_move E rfl) rfl ?_
  clear E a; intro a E
  refine S_v E rfl (R_lenV E rfl T24 h1.len) rfl ?_
  clear E a; intro a E
  refine S_v E rfl (R_neq E rfl rfl) rfl ?_
  clear E a; intro a E
  refine WL_nil ?_
  refine T_n ?_
  refine WP_cond E rfl (fun hc_1 => ?_) (fun hc_1 => ?_)
  · replace hc_1 := of_decide_eq_true hc_1
    refine WP_seq ?_
    refine WP_region ?_
    refine S_v E rfl (R_assign E rfl) rfl ?_
    clear E a; intro a E
    refine WL_nil ?_
    refine T_n ?_
    refine WP_ret ?_
    refine T_r ?_
    exact F_ret1 E Try.results20 rfl ⟨_, rfl, M1, (Hp.le.refl _), (bF (by ((try clear S); (try clear E); first | assumption | omega | rfl | (simp; done) | (simp_all; done) | (simp [List.take_add_one, *]; done) | grind [List.take_add_one]))), S⟩
  · replace hc_1 := of_decide_eq_false hc_1
    refine WP_skip ?_
    refine T_n ?_
    refine WP_seq ?_
    refine WP_seq ?_
    refine WP_region ?_
    refine S_v E rfl (R_move E rfl) rfl ?_
    clear E a; intro a E
    refine S_v E rfl (R_lenV E rfl T24 h0.len) rfl ?_
    clear E a; intro a E
    refine S_v E rfl (R_move E rfl) rfl ?_
    clear E a; intro a E
    refine WL_nil ?_
    refine T_n ?_
    refine WP_block ?_
    refine WP_loop (γ := Nat) (fun (k : Nat) a w => ∃ (M_2 : Hp), Hp.le M1 M_2 ∧ St w M_2 (H) ∧ Env a 26 [] [(0, v0), (1, v1), (12, v0), (13, .int .i64 (((l0).length : Nat) : Int)), (14, .int .i64 ((k : Nat) : Int))] ∧ (k ≤ (l0).length) ∧ (l0.length = l1.length) ∧ (∀ x ∈ l0.take k, l0.count x = l1.count x)) (fun k => ((l0).length) - k) 0 ⟨M1, Hp.le.refl _, S, E.keep ⟨rfl, rfl, rfl, rfl, rfl, trivial⟩, by ((try clear S); (try clear E); first | assumption | omega | rfl | (simp; done) | (simp_all; done) | (simp [List.take_add_one, *]; done) | grind [List.take_add_one]), by ((try clear S); (try clear E); first | assumption | omega | rfl | (simp; done) | (simp_all; done) | (simp [List.take_add_one, *]; done) | grind [List.take_add_one]), by ((try clear S); (try clear E); first | assumption | omega | rfl | (simp; done) | (simp_all; done) | (simp [List.take_add_one, *]; done) | grind [List.take_add_one])⟩ ?_
    try clear E
    try clear S
    try clear a
    try clear w
    rintro k a w ⟨M_2, hM_2, S, E, hL0_0, hL0_1, hL0_2⟩
    replace h0 := h0.le hM_2
    replace h1 := h1.le hM_2
    refine WP_seq ?_
    refine WP_region ?_
    refine S_v E rfl (R_lss E rfl rfl) rfl ?_
    clear E a; intro a E
    refine WL_nil ?_
    refine T_n ?_
    refine WP_seq ?_
    refine WP_cond E rfl (fun hc_3 => ?_) (fun hc_3 => ?_)
    · replace hc_3 := of_decide_eq_true hc_3
      refine WP_skip ?_
      refine T_n ?_
      refine WP_seq ?_
      refine WP_block ?_
      refine WP_seq ?_
      refine WP_region ?_
      obtain ⟨x_4, hx_4⟩ : ∃ x, (l0)[k]? = some x := ⟨_, List.getElem?_eq_getElem (by first | omega | (simp; done) | (simp; omega) | (simp_all; omega))⟩
      obtain ⟨p_5, hp_5, qp_5⟩ := h0.at hx_4
      refine S_v E rfl (R_idx E rfl rfl T24 hp_5 rfl) rfl ?_
      clear E a; intro a E
      refine S_v E rfl (R_loadM E rfl Try.isAgg3 S.imm qp_5) rfl ?_
      clear E a; intro a E
      refine S_v E rfl (R_assign E rfl) rfl ?_
      clear E a; intro a E
      refine WL_nil ?_
      refine T_n ?_
      refine WP_seq ?_
      refine WP_region ?_
      refine S_v E rfl (R_move E rfl) rfl ?_
      clear E a; intro a E
      refine S_v E rfl (R_move E rfl) rfl ?_
      clear E a; intro a E
      refine S_x (X_pu E S rfl rfl rfl (laws_count h0) (Hp.le.refl _) ?_)
      clear E a S; rintro a _ w M_6 hM_6 rfl S E
      replace h0 := h0.le hM_6
      replace h1 := h1.le hM_6
      refine S_v E rfl (R_move E rfl) rfl ?_
      clear E a; intro a E
      refine S_v E rfl (R_move E rfl) rfl ?_
      clear E a; intro a E
      refine S_x (X_pu E S rfl rfl rfl (laws_count h1) (Hp.le.refl _) ?_)
      clear E a S; rintro a _ w M_7 hM_7 rfl S E
      replace h0 := h0.le hM_7
      replace h1 := h1.le hM_7
      refine S_v E rfl (R_neq E rfl rfl) rfl ?_
      clear E a; intro a E
      refine WL_nil ?_
      refine T_n ?_
      refine WP_cond E rfl (fun hc_8 => ?_) (fun hc_8 => ?_)
      · replace hc_8 := of_decide_eq_true hc_8
        refine WP_seq ?_
        refine WP_region ?_
        refine S_v E rfl (R_assign E rfl) rfl ?_
        clear E a; intro a E
        refine WL_nil ?_
        refine T_n ?_
        refine WP_ret ?_
        refine B_r ?_
        refine T_r ?_
        refine T_r ?_
        refine B_r ?_
        refine T_r ?_
        exact F_ret1 E Try.results20 rfl ⟨_, rfl, M_7, (hM_2.trans (hM_6.trans hM_7)), (bF (by ((try clear S); (try clear E); first | assumption | omega | rfl | (simp; done) | (simp_all; done) | (simp [List.take_add_one, *]; done) | grind [List.take_add_one]))), S⟩
      · replace hc_8 := of_decide_eq_false hc_8
        refine WP_skip ?_
        refine B_n ?_
        refine T_n ?_
        refine WP_region ?_
        refine S_v E rfl (R_addx (m := ((k + 1 : Nat) : Int)) E rfl rfl (by omega) (by omega)) rfl ?_
        clear E a; intro a E
        refine S_v E rfl (R_move E rfl) rfl ?_
        clear E a; intro a E
        refine WL_nil ?_
        refine T_n ?_
        exact ⟨k + 1, ⟨M_7, (hM_2.trans (hM_6.trans hM_7)), S, E.keep ⟨rfl, rfl, rfl, rfl, rfl, trivial⟩, by ((try clear S); (try clear E); first | assumption | omega | rfl | (simp; done) | (simp_all; done) | (simp [List.take_add_one, *]; done) | grind [List.take_add_one]), by ((try clear S); (try clear E); first | assumption | omega | rfl | (simp; done) | (simp_all; done) | (simp [List.take_add_one, *]; done) | grind [List.take_add_one]), by ((try clear S); (try clear E); first | assumption | omega | rfl | (simp; done) | (simp_all; done) | (simp [List.take_add_one, *]; done) | grind [List.take_add_one])⟩, by omega⟩
    · replace hc_3 := of_decide_eq_false hc_3
      refine WP_exit ?_
      refine T_x ?_
      refine T_x ?_
      refine B_x ?_
      refine T_n ?_
      refine WP_seq ?_
      refine WP_region ?_
      refine S_v E rfl (R_assign E rfl) rfl ?_
      clear E a; intro a E
      refine WL_nil ?_
      refine T_n ?_
      refine WP_ret ?_
      exact F_ret1 E Try.results20 rfl ⟨_, rfl, M_2, hM_2, (bT (by ((try clear S); (try clear E); first | assumption | omega | rfl | (simp; done) | (simp_all; done) | (simp [List.take_add_one, *]; done) | grind [List.take_add_one]))), S⟩

set_option maxRecDepth 100000 in
set_option maxHeartbeats 4000000 in
theorem it_Empty1 {M : Hp}  :
    SeqV Try.prog (.func (.func 159) #[] #[]) M (RInt) ([] : List Int) := by
  refine SeqV_enter Try.func159 rfl Try.ntmps159 rfl Try.call159 ?_
  intro y J X a w M1 c H hJM hM1 hY hJ S E
  refine WP_skip ?_
  refine F_nrm ?_
  replace S := S.front1
  replace S := S.front1
  have hpre : [] = ([] : List Int) := by ((try clear S); (try clear E); first | rfl | (simp; done) | (simp_all; done) | grind [List.take_add_one])
  rw [hpre] at hJ
  exact F_retM0 E S Try.results159 (fun w S => ⟨_, rfl, M1, _, (Hp.le.refl _), .inl hJ, S⟩)

set_option maxRecDepth 100000 in
set_option maxHeartbeats 4000000 in
theorem it_Empty {M : Hp}  :
    Pu Try.prog (.func (.func 126) #[] #[]) M [] (fun r M' => SeqV Try.prog r M' RInt ([] : List Int)) := by
  refine Pu_enter Try.func126 rfl Try.ntmps126 rfl Try.call126 ?_
  intro a w M1 H hM1 S E
  refine WP_seq ?_
  refine WP_region ?_
  refine S_v E rfl (R_assign E rfl) rfl ?_
  clear E a; intro a E
  refine WL_nil ?_
  refine T_n ?_
  refine WP_seq ?_
  refine WP_region ?_
  refine S_v E rfl (R_assign E rfl) rfl ?_
  clear E a; intro a E
  refine WL_nil ?_
  refine T_n ?_
  refine WP_ret ?_
  exact F_ret1 E Try.results126 rfl ⟨_, rfl, M1, (Hp.le.refl _), (SeqV_eq (it_Empty1 ) (by ((try clear S); (try clear E); first | rfl | (simp; done) | (simp_all; done) | grind [List.take_add_one]))), S⟩

set_option maxRecDepth 100000 in
set_option maxHeartbeats 4000000 in
theorem it_Intersect1 {M : Hp} {v0 : Value} {l0 : List (List Int)} (h0 : RdS 1 (RSq Try.prog RInt) M v0 l0)(hne : 0 < l0.length) {bx1 : Nat} (hbx1 : M bx1 = some (.cells #[v0] 84)) :
    SeqV Try.prog (.func (.func 127) #[] #[.pointer (some ⟨bx1, 0, none⟩)]) M (RInt) (meetF (fun x => x) l0) := by
  refine SeqV_enter Try.func127 rfl Try.ntmps127 rfl Try.call127 ?_
  intro y J X a w M1 c H hJM hM1 hY hJ S E
  replace hbx1 := hM1.2 _ _ hbx1
  replace h0 := h0.le RSq_mono hM1
  have b0 := h0.bound
  refine WP_seq ?_
  refine WP_region ?_
  refine S_x (X_box (cs := #[y]) E S rfl rfl (cells_one hY.1) ?_)
  clear E a S; rintro a w b_1 E S
  obtain ⟨M_2, hM_2, hb_1, S⟩ := S.freezeB
  replace hbx1 := hM_2.2 _ _ hbx1
  replace h0 := h0.le RSq_mono hM_2
  replace hJ := hJM _ _ _ _ hM_2 hJ
  refine WL_nil ?_
  refine T_n ?_
  refine WP_seq ?_
  refine WP_region ?_
  refine S_v E rfl (R_loadM E rfl Try.isAgg84 S.imm (cellM_box hbx1)) rfl ?_
  clear E a; intro a E
  refine S_v E rfl (R_loadM E rfl Try.isAgg84 S.imm (cellM_box hbx1)) rfl ?_
  clear E a; intro a E
  refine S_v E rfl (R_lenV E rfl T84 h0.len) rfl ?_
  clear E a; intro a E
  refine S_v E rfl (R_subx (m := (((l0).length - 1 : Nat) : Int)) E rfl rfl (by omega) (by omega)) rfl ?_
  clear E a; intro a E
  obtain ⟨x_3, hx_3⟩ : ∃ x, (l0)[(l0).length - 1]? = some x := ⟨_, List.getElem?_eq_getElem (by first | omega | (simp; done) | (simp; omega) | (simp_all; omega))⟩
  obtain ⟨p_4, u_5, hp_4, qp_4, hu_5⟩ := RdQ.at h0 hx_3
  refine S_v E rfl (R_idx E rfl rfl T84 hp_4 rfl) rfl ?_
  clear E a; intro a E
  refine S_v E rfl (R_loadM E rfl Try.isAgg82 S.imm qp_4) rfl ?_
  clear E a; intro a E
  refine S_v E rfl (R_assign E rfl) rfl ?_
  clear E a; intro a E
  refine WL_nil ?_
  refine T_n ?_
  refine WP_seq ?_
  refine WP_region ?_
  refine S_x (X_makeMap E S rfl ?_)
  clear E a S; rintro a w b_6 E S
  replace S : St w M_2 (OwnE Value.bool b_6 ([] : List (Int × Bool)) :: _) := S
  refine S_x (X_alloc (cs := #[.map none]) E S rfl Try.zeroValue119 rfl ?_)
  clear E a S; rintro a w b_7 E S
  refine S_x0 (X_store E S rfl rfl (Try.sizeOf119 _) rfl ?_)
  clear E a S; rintro a w E S
  refine WL_nil ?_
  refine T_n ?_
  refine WP_seq ?_
  refine WP_seq ?_
  refine WP_region ?_
  refine S_v E rfl (R_move E rfl) rfl ?_
  clear E a; intro a E
  refine WL_nil ?_
  refine T_n ?_
  refine WP_block ?_
  replace S := S.front3
  replace S := S.front2
  replace S := S.front2
  replace E := E.keep (l' := [(1, .pointer (some ⟨bx1, 0, none⟩)), (2, .pointer (some ⟨b_1, 0, none⟩)), (4, .pointer (some ⟨b_7, 0, none⟩)), (22, u_5)]) ⟨rfl, rfl, rfl, rfl, trivial⟩
  replace S := S.front2
  replace S := S.front2
  replace S := S.reM (L' := (encE Value.bool (bmap (keyL ((([] : List Int)).map (fun x => x))) (fun _ => false)))) (congrArg (encE Value.bool) (show ([] : List (Int × Bool)) = bmap (keyL ((([] : List Int)).map (fun x => x))) (fun _ => false) by first | (simp [bmap, keyL]; done) | exact ad_seq (fun x => x)))
  replace S := S.front2
  have S0 := S; clear S; have S := St.pack [blk b_7 (.cells #[.map (some b_6)] 119), OwnE Value.bool b_6 (bmap (keyL ((([] : List Int)).map (fun x => x))) (fun _ => false)), c] S0; clear S0
  refine WP_range (RV := RInt) (l := x_3) (fun pre M c => ∃ (c0 : HProp), c = bigs [blk b_7 (.cells #[.map (some b_6)] 119), OwnE Value.bool b_6 (bmap (keyL ((pre).map (fun x => x))) (fun _ => false)), c0] ∧ (J ([] : List Int) M c0)) (fun _ _ _ _ => False) E S rfl hu_5 (Hp.le.refl _) (fun _ _ _ h => by rw [h]; rfl) (by decide) (by rintro _ M M' c hM ⟨c0, rfl, f0⟩; exact ⟨_, rfl, hJM _ _ _ _ hM f0⟩) ⟨_, rfl, J_eq hJ (by ((try clear S); (try clear E); first | assumption | omega | rfl | (simp; done) | (simp_all; done) | (simp [List.take_add_one, *]; done) | grind [List.take_add_one]))⟩ ?_ ?_ ?_
  clear E S
  · rintro lb_9 rec_10 pre x _ a w M_8 _ G hM_8 hp_11 rfl ⟨c0, rfl, f0⟩ E S
    replace E : Env a 81 [] [(23, .int .i64 x), (1, .pointer (some ⟨bx1, 0, none⟩)), (2, .pointer (some ⟨b_1, 0, none⟩)), (4, .pointer (some ⟨b_7, 0, none⟩)), (22, u_5)] := E
    replace S := S.swap.unpack3
    have hq0 := prefix_lt hp_11
    replace hbx1 := hM_8.2 _ _ hbx1
    replace h0 := h0.le RSq_mono hM_8
    replace hb_1 := hM_8.2 _ _ hb_1
    replace hu_5 := hu_5.le hM_8
    refine WP_region ?_
    refine S_v E rfl (R_assign E rfl) rfl ?_
    clear E a; intro a E
    refine WL_nil ?_
    refine T_n ?_
    replace S := S.front3
    refine rb S ?_
    clear S; intro w S
    refine WP_block ?_
    refine WP_region ?_
    refine S_v E rfl (R_load E rfl (Try.isAgg119 _) (cell_blk (S.mem (.tail _ (.head _))))) rfl ?_
    clear E a; intro a E
    refine S_v E rfl (R_move E rfl) rfl ?_
    clear E a; intro a E
    replace S := S.front2
    refine S_x0 (X_updateE (vf := Value.bool) (u := false) E S MT119 rfl rfl rfl ?_)
    clear E a S; rintro a w E S
    refine WL_nil ?_
    refine B_n ?_
    replace S := S.front3
    replace S := S.front1
    replace S := S.front3
    replace S := S.front2
    replace S := S.front2
    replace S := S.reM (L' := (encE Value.bool (bmap (keyL (((pre ++ [x])).map (fun x => x))) (fun _ => false)))) (congrArg (encE Value.bool) (show putK (bmap (keyL ((pre).map (fun x => x))) (fun _ => false)) x false = bmap (keyL (((pre ++ [x])).map (fun x => x))) (fun _ => false) by first | (simp [bmap, keyL]; done) | exact ad_seq (fun x => x)))
    replace S := S.front2
    have S0 := S; clear S; have S := (St.pack [blk b_7 (.cells #[.map (some b_6)] 119), OwnE Value.bool b_6 (bmap (keyL (((pre ++ [x])).map (fun x => x))) (fun _ => false)), c0] S0).swap; clear S0
    exact ⟨M_8, _, (Hp.le.refl _), ⟨_, rfl, J_eq f0 (by ((try clear S); (try clear E); first | assumption | omega | rfl | (simp; done) | (simp_all; done) | (simp [List.take_add_one, *]; done) | grind [List.take_add_one]))⟩, S⟩
  · rintro a w M_13 _ D_14 hM_13 ⟨c0, rfl, f0⟩ S E
    replace S := S.unpack3
    replace hbx1 := hM_13.2 _ _ hbx1
    replace h0 := h0.le RSq_mono hM_13
    replace hb_1 := hM_13.2 _ _ hb_1
    replace hu_5 := hu_5.le hM_13
    refine B_n ?_
    refine T_n ?_
    refine WP_seq ?_
    refine WP_seq ?_
    refine WP_region ?_
    refine S_v E rfl (R_loadM E rfl Try.isAgg84 S.imm (cellM_box hbx1)) rfl ?_
    clear E a; intro a E
    refine S_v E rfl (R_lenV E rfl T84 h0.len) rfl ?_
    clear E a; intro a E
    refine S_v E rfl (R_subx (m := (((l0).length : Nat) : Int) - 2) E rfl rfl (by omega) (by omega)) rfl ?_
    clear E a; intro a E
    refine S_v E rfl (R_assign E rfl) rfl ?_
    clear E a; intro a E
    refine WL_nil ?_
    refine T_n ?_
    refine WP_block ?_
    replace S := S.front1
    replace S := S.reM (L' := (encE Value.bool (bmap (sjI (fun x => x) l0 0) (fun _ => false)))) (congrArg (encE Value.bool) (show bmap (keyL ((x_3).map (fun x => x))) (fun _ => false) = bmap (sjI (fun x => x) l0 0) (fun _ => false) by first | (show _ = bmap (keyL _) _; rw [(at_get (n := l0.length - 1) (by assumption) (by omega))]; done) | (rw [sd_end (by assumption)]; rfl)))
    refine WP_loop (γ := Nat) (fun (j : Nat) a w => ∃ (M_15 : Hp) (cL1 : HProp) (Ds1 : List Nat), Hp.le M_13 M_15 ∧ St w M_15 (OwnE Value.bool b_6 (bmap (sjI (fun x => x) l0 j) (fun _ => false)) :: blk b_7 (.cells #[.map (some b_6)] 119) :: cL1 :: mks Ds1 :: H) ∧ Env a 81 (Ds1.map mk) [(1, .pointer (some ⟨bx1, 0, none⟩)), (2, .pointer (some ⟨b_1, 0, none⟩)), (4, .pointer (some ⟨b_7, 0, none⟩)), (6, .int .i64 ((l0.length : Int) - 2 - (j : Int)))] ∧ (j ≤ l0.length - 2) ∧ J ([] : List Int) M_15 cL1) (fun j => l0.length - j) 0 ⟨M_13, _, _, Hp.le.refl _, S, E.keep ⟨rfl, rfl, rfl, look_int (i := (((l0).length : Nat) : Int) - 2) rfl (by (omega)), trivial⟩, (by omega), J_eq f0 (by ((try clear S); (try clear E); first | assumption | omega | rfl | (simp; done) | (simp_all; done) | (simp [List.take_add_one, *]; done) | grind [List.take_add_one]))⟩ ?_
    try clear E
    try clear S
    try clear a
    try clear w
    rintro j a w ⟨M_15, cL1, Ds1, hM_15, S, E, hL1_0, f0⟩
    replace hbx1 := hM_15.2 _ _ hbx1
    replace h0 := h0.le RSq_mono hM_15
    replace hb_1 := hM_15.2 _ _ hb_1
    replace hu_5 := hu_5.le hM_15
    refine WP_seq ?_
    refine WP_seq ?_
    refine WP_region ?_
    refine S_v E rfl (R_move E rfl) rfl ?_
    clear E a; intro a E
    refine S_v E rfl (R_gtr E rfl rfl) rfl ?_
    clear E a; intro a E
    refine S_v E rfl (R_move E rfl) rfl ?_
    clear E a; intro a E
    refine split_bool (decide (0 < (l0.length : Int) - 2 - (j : Int))) (fun hc_16 => ?_) (fun hc_16 => ?_)
    · replace E := E.val (t := 30) rfl hc_16
      replace E := E.val (t := 31) rfl hc_16
      replace hc_16 := of_decide_eq_true hc_16
      refine WL_guard_yes E rfl rfl ?_
      refine S_v E rfl (R_load E rfl (Try.isAgg119 _) (cell_blk (S.mem (.tail _ (.head _))))) rfl ?_
      clear E a; intro a E
      refine WL_guard_yes E rfl rfl ?_
      refine S_v E rfl ((R_lenO E S MT119 rfl).trans (by rw [encE_len])) rfl ?_
      clear E a; intro a E
      refine WL_guard_yes E rfl rfl ?_
      refine S_v E rfl (R_neq E rfl rfl) rfl ?_
      clear E a; intro a E
      refine S_v E rfl (R_pickT E rfl rfl) rfl ?_
      clear E a; intro a E
      refine WL_nil ?_
      refine T_n ?_
      refine WP_cond E rfl (fun hc_17 => ?_) (fun hc_17 => ?_)
      · replace hc_17 := of_decide_eq_true hc_17
        refine WP_skip ?_
        refine T_n ?_
        refine WP_seq ?_
        refine WP_block ?_
        refine WP_seq ?_
        refine WP_seq ?_
        refine WP_region ?_
        refine S_v E rfl (R_loadM E rfl Try.isAgg84 S.imm (cellM_box hbx1)) rfl ?_
        clear E a; intro a E
        refine S_v E rfl (R_move E rfl) rfl ?_
        clear E a; intro a E
        obtain ⟨x_18, hx_18⟩ : ∃ x, (l0)[((l0.length : Int) - 2 - (j : Int)).toNat]? = some x := ⟨_, List.getElem?_eq_getElem (by first | omega | (simp; done) | (simp; omega) | (simp_all; omega))⟩
        obtain ⟨p_19, u_20, hp_19, qp_19, hu_20⟩ := RdQ.at h0 hx_18
        refine S_v E rfl (R_idx E rfl rfl T84 hp_19 (by omega)) rfl ?_
        clear E a; intro a E
        refine S_v E rfl (R_loadM E rfl Try.isAgg82 S.imm qp_19) rfl ?_
        clear E a; intro a E
        refine WL_nil ?_
        refine T_n ?_
        refine WP_block ?_
        replace S := S.front1
        replace S := S.front2
        replace S := S.front2
        replace S := S.front2
        replace E := E.keep (l' := [(1, .pointer (some ⟨bx1, 0, none⟩)), (2, .pointer (some ⟨b_1, 0, none⟩)), (4, .pointer (some ⟨b_7, 0, none⟩)), (6, .int .i64 ((l0.length : Int) - 2 - (j : Int))), (41, u_20)]) ⟨rfl, rfl, rfl, rfl, rfl, trivial⟩
        replace S := S.front2
        replace S := S.front2
        replace S := S.reM (L' := (encE Value.bool (bmap (sjI (fun x => x) l0 j) (mkd ((([] : List Int)).map (fun x => x)))))) (congrArg (encE Value.bool) (show bmap (sjI (fun x => x) l0 j) (fun _ => false) = bmap (sjI (fun x => x) l0 j) (mkd ((([] : List Int)).map (fun x => x))) by first | (rw [List.map_nil, mk_start]; done) | (refine sq_yes (fun x => x) (sj_nodup _ _ _) ?_; assumption) | (refine sq_no (fun x => x) ?_; assumption)))
        replace S := S.front2
        have S0 := S; clear S; have S := St.pack [blk b_7 (.cells #[.map (some b_6)] 119), OwnE Value.bool b_6 (bmap (sjI (fun x => x) l0 j) (mkd ((([] : List Int)).map (fun x => x)))), cL1] S0; clear S0
        refine WP_range (RV := RInt) (l := x_18) (fun pre M c => ∃ (c2 : HProp), c = bigs [blk b_7 (.cells #[.map (some b_6)] 119), OwnE Value.bool b_6 (bmap (sjI (fun x => x) l0 j) (mkd ((pre).map (fun x => x)))), c2] ∧ (J ([] : List Int) M c2)) (fun _ _ _ _ => False) E S rfl hu_20 (Hp.le.refl _) (fun _ _ _ h => by rw [h]; rfl) (by decide) (by rintro _ M M' c hM ⟨c2, rfl, f0⟩; exact ⟨_, rfl, hJM _ _ _ _ hM f0⟩) ⟨_, rfl, J_eq f0 (by ((try clear S); (try clear E); first | assumption | omega | rfl | (simp; done) | (simp_all; done) | (simp [List.take_add_one, *]; done) | grind [List.take_add_one]))⟩ ?_ ?_ ?_
        clear E S
        · rintro lb_22 rec_23 pre x _ a w M_21 _ G hM_21 hp_24 rfl ⟨c2, rfl, f0⟩ E S
          replace E : Env a 81 [] [(42, .int .i64 x), (1, .pointer (some ⟨bx1, 0, none⟩)), (2, .pointer (some ⟨b_1, 0, none⟩)), (4, .pointer (some ⟨b_7, 0, none⟩)), (6, .int .i64 ((l0.length : Int) - 2 - (j : Int))), (41, u_20)] := E
          replace S := S.swap.unpack3
          have hq2 := prefix_lt hp_24
          replace hbx1 := hM_21.2 _ _ hbx1
          replace h0 := h0.le RSq_mono hM_21
          replace hb_1 := hM_21.2 _ _ hb_1
          replace hu_5 := hu_5.le hM_21
          replace hu_20 := hu_20.le hM_21
          refine WP_region ?_
          refine S_v E rfl (R_assign E rfl) rfl ?_
          clear E a; intro a E
          refine WL_nil ?_
          refine T_n ?_
          replace S := S.front3
          refine rb S ?_
          clear S; intro w S
          refine WP_block ?_
          refine WP_seq ?_
          refine WP_region ?_
          refine S_v E rfl (R_load E rfl (Try.isAgg119 _) (cell_blk (S.mem (.tail _ (.head _))))) rfl ?_
          clear E a; intro a E
          refine S_v E rfl (R_move E rfl) rfl ?_
          clear E a; intro a E
          replace S := S.front2
          refine S_x (X_lookupE (vf := Value.bool) (zb := false) E S rfl MT119 rfl rfl ?_)
          clear E a S; rintro a w E S
          replace S : St w M_21 (OwnE Value.bool b_6 (bmap (sjI (fun x => x) l0 j) (mkd ((pre).map (fun x => x)))) :: _) := S
          refine S_v E rfl (R_move E rfl) rfl ?_
          clear E a; intro a E
          refine S_v E rfl (R_extract E rfl rfl) rfl ?_
          clear E a; intro a E
          refine S_v E rfl (R_extract E rfl rfl) rfl ?_
          clear E a; intro a E
          refine S_v E rfl (R_assign E rfl) rfl ?_
          clear E a; intro a E
          refine S_v E rfl (R_assign E rfl) rfl ?_
          clear E a; intro a E
          refine WL_nil ?_
          refine T_n ?_
          refine WP_seq ?_
          refine WP_region ?_
          refine S_v E rfl (R_move E rfl) rfl ?_
          clear E a; intro a E
          refine WL_nil ?_
          refine T_n ?_
          refine WP_cond E rfl (fun hc_26 => ?_) (fun hc_26 => ?_)
          · refine WP_region ?_
            refine S_v E rfl (R_load E rfl (Try.isAgg119 _) (cell_blk (S.mem (.tail _ (.tail _ (.head _)))))) rfl ?_
            clear E a; intro a E
            refine S_v E rfl (R_move E rfl) rfl ?_
            clear E a; intro a E
            refine S_x0 (X_updateE (vf := Value.bool) (u := true) E S MT119 rfl rfl rfl ?_)
            clear E a S; rintro a w E S
            refine WL_nil ?_
            refine B_n ?_
            replace S := S.front3
            replace S := S.front1
            replace S := S.front3
            replace S := S.front2
            replace S := S.front2
            replace S := S.reM (L' := (encE Value.bool (bmap (sjI (fun x => x) l0 j) (mkd (((pre ++ [x])).map (fun x => x)))))) (congrArg (encE Value.bool) (show putK (bmap (sjI (fun x => x) l0 j) (mkd ((pre).map (fun x => x)))) x true = bmap (sjI (fun x => x) l0 j) (mkd (((pre ++ [x])).map (fun x => x))) by first | (rw [List.map_nil, mk_start]; done) | (refine sq_yes (fun x => x) (sj_nodup _ _ _) ?_; assumption) | (refine sq_no (fun x => x) ?_; assumption)))
            replace S := S.front2
            have S0 := S; clear S; have S := (St.pack [blk b_7 (.cells #[.map (some b_6)] 119), OwnE Value.bool b_6 (bmap (sjI (fun x => x) l0 j) (mkd (((pre ++ [x])).map (fun x => x)))), c2] S0).swap; clear S0
            exact ⟨M_21, _, (Hp.le.refl _), ⟨_, rfl, J_eq f0 (by ((try clear S); (try clear E); first | assumption | omega | rfl | (simp; done) | (simp_all; done) | (simp [List.take_add_one, *]; done) | grind [List.take_add_one]))⟩, S⟩
          · refine WP_skip ?_
            refine B_n ?_
            replace S := S.front3
            replace S := S.front1
            replace S := S.front3
            replace S := S.front2
            replace S := S.front2
            replace S := S.reM (L' := (encE Value.bool (bmap (sjI (fun x => x) l0 j) (mkd (((pre ++ [x])).map (fun x => x)))))) (congrArg (encE Value.bool) (show bmap (sjI (fun x => x) l0 j) (mkd ((pre).map (fun x => x))) = bmap (sjI (fun x => x) l0 j) (mkd (((pre ++ [x])).map (fun x => x))) by first | (rw [List.map_nil, mk_start]; done) | (refine sq_yes (fun x => x) (sj_nodup _ _ _) ?_; assumption) | (refine sq_no (fun x => x) ?_; assumption)))
            replace S := S.front2
            have S0 := S; clear S; have S := (St.pack [blk b_7 (.cells #[.map (some b_6)] 119), OwnE Value.bool b_6 (bmap (sjI (fun x => x) l0 j) (mkd (((pre ++ [x])).map (fun x => x)))), c2] S0).swap; clear S0
            exact ⟨M_21, _, (Hp.le.refl _), ⟨_, rfl, J_eq f0 (by ((try clear S); (try clear E); first | assumption | omega | rfl | (simp; done) | (simp_all; done) | (simp [List.take_add_one, *]; done) | grind [List.take_add_one]))⟩, S⟩
        · rintro a w M_27 _ D_28 hM_27 ⟨c2, rfl, f0⟩ S E
          replace S := S.unpack3
          replace hbx1 := hM_27.2 _ _ hbx1
          replace h0 := h0.le RSq_mono hM_27
          replace hb_1 := hM_27.2 _ _ hb_1
          replace hu_5 := hu_5.le hM_27
          replace hu_20 := hu_20.le hM_27
          refine B_n ?_
          refine T_n ?_
          refine WP_seq ?_
          refine WP_region ?_
          refine S_v E rfl (R_load E rfl (Try.isAgg119 _) (cell_blk (S.mem (.head _)))) rfl ?_
          clear E a; intro a E
          replace S := S.front1
          refine S_x (X_rangeW E S rfl MT119 rfl ?_)
          clear E a S; rintro a w i_29 E S
          replace S : St w M_27 (ItW b_6 i_29 (encE Value.bool (bmap (sjI (fun x => x) l0 j) (mkd ((x_18).map (fun x => x))))) ([] : List Int) none :: _) := S
          refine WL_nil ?_
          refine T_n ?_
          refine WP_block ?_
          replace S := S.reW (L' := (encE Value.bool (stepD (sjI (fun x => x) l0 j) (mkd ((l0.getD (l0.length - 2 - j) []).map (fun x => x))) []))) (D' := []) (congrArg (encE Value.bool) (show bmap (sjI (fun x => x) l0 j) (mkd ((x_18).map (fun x => x))) = stepD (sjI (fun x => x) l0 j) (mkd ((l0.getD (l0.length - 2 - j) []).map (fun x => x))) [] by first | (rw [(at_get (n := l0.length - 2 - j) (by assumption) (by omega)), sd_start]; done) | (refine sd_yes (sj_nodup _ _ _) (by assumption) (by assumption) ?_; first | rfl | assumption) | (refine sd_nof (by assumption) (by assumption) ?_; first | rfl | assumption))) (show ([] : List Int) = [] by first | rfl | (simp; done))
          refine WP_loop (γ := List Int) (fun (dd : List Int) a w => ∃ (M_30 : Hp) (cL3 : HProp), Hp.le M_27 M_30 ∧ St w M_30 (ItW b_6 i_29 (encE Value.bool (stepD (sjI (fun x => x) l0 j) (mkd ((l0.getD (l0.length - 2 - j) []).map (fun x => x))) dd)) dd none :: blk b_7 (.cells #[.map (some b_6)] 119) :: cL3 :: mks (D_28 :: Ds1) :: H) ∧ Env a 81 ((D_28 :: Ds1).map mk) [(1, .pointer (some ⟨bx1, 0, none⟩)), (2, .pointer (some ⟨b_1, 0, none⟩)), (4, .pointer (some ⟨b_7, 0, none⟩)), (6, .int .i64 ((l0.length : Int) - 2 - (j : Int))), (53, .pointer (some ⟨i_29, 0, none⟩))] ∧ (dd.Nodup) ∧ (∀ z ∈ dd, z ∈ sjI (fun x => x) l0 j) ∧ J ([] : List Int) M_30 cL3) (fun dd => (sjI (fun x => x) l0 j).length - dd.length) [] ⟨M_27, _, Hp.le.refl _, S, E.keep ⟨rfl, rfl, rfl, rfl, rfl, trivial⟩, (by simp), (by simp), J_eq f0 (by ((try clear S); (try clear E); first | assumption | omega | rfl | (simp; done) | (simp_all; done) | (simp [List.take_add_one, *]; done) | grind [List.take_add_one]))⟩ ?_
          try clear E
          try clear S
          try clear a
          try clear w
          rintro dd a w ⟨M_30, cL3, hM_30, S, E, hL3_0, hL3_1, f0⟩
          replace hbx1 := hM_30.2 _ _ hbx1
          replace h0 := h0.le RSq_mono hM_30
          replace hb_1 := hM_30.2 _ _ hb_1
          replace hu_5 := hu_5.le hM_30
          replace hu_20 := hu_20.le hM_30
          refine WP_seq ?_
          refine WP_region ?_
          refine S_x (X_nextWE (vf := Value.bool) E S rfl rfl ?_ ?_)
          · clear E a S; rintro a E hpm_31 S
            refine S_v E rfl (R_extract E rfl rfl) rfl ?_
            clear E a; intro a E
            refine WL_nil ?_
            refine T_n ?_
            refine WP_seq ?_
            refine WP_condF E rfl rfl ?_
            refine WP_exit ?_
            refine T_x ?_
            refine T_x ?_
            refine B_x ?_
            refine B_n ?_
            refine T_n ?_
            refine WP_region ?_
            refine S_v E rfl (R_move E rfl) rfl ?_
            clear E a; intro a E
            refine S_v E rfl (R_subx (m := ((l0.length : Int) - 2 - (j : Int)) - 1) E rfl rfl (by omega) (by omega)) rfl ?_
            clear E a; intro a E
            refine S_v E rfl (R_assign E rfl) rfl ?_
            clear E a; intro a E
            refine WL_nil ?_
            refine T_n ?_
            replace S := S.reM (L' := (encE Value.bool (bmap (sjI (fun x => x) l0 (j + 1)) (fun _ => false)))) (congrArg (encE Value.bool) (show stepD (sjI (fun x => x) l0 j) (mkd ((l0.getD (l0.length - 2 - j) []).map (fun x => x))) dd = bmap (sjI (fun x => x) l0 (j + 1)) (fun _ => false) by first | (show _ = bmap (keyL _) _; rw [(at_get (n := l0.length - 1) (by assumption) (by omega))]; done) | (rw [sd_end (by assumption)]; rfl)))
            exact ⟨j + 1, ⟨M_30, _, _, (hM_15.trans (hM_27.trans hM_30)), S, E.keep ⟨rfl, rfl, rfl, look_int (i := ((l0.length : Int) - 2 - (j : Int)) - 1) rfl (by (omega)), trivial⟩, (by omega), J_eq f0 (by ((try clear S); (try clear E); first | assumption | omega | rfl | (simp; done) | (simp_all; done) | (simp [List.take_add_one, *]; done) | grind [List.take_add_one]))⟩, by omega⟩
          · clear E a S w; rintro a w k_32 u_34 E hk_33 hk_33n S
            refine S_v E rfl (R_extract E rfl rfl) rfl ?_
            clear E a; intro a E
            refine WL_nil ?_
            refine T_n ?_
            refine WP_seq ?_
            refine WP_condT E rfl rfl ?_
            refine WP_skip ?_
            refine T_n ?_
            refine WP_block ?_
            refine WP_seq ?_
            refine WP_region ?_
            refine S_v E rfl (R_entryW E S rfl) rfl ?_
            clear E a; intro a E
            refine S_v E rfl (R_extract E rfl rfl) rfl ?_
            clear E a; intro a E
            refine S_v E rfl (R_extract E rfl rfl) rfl ?_
            clear E a; intro a E
            refine S_v E rfl (R_assign E rfl) rfl ?_
            clear E a; intro a E
            refine S_v E rfl (R_assign E rfl) rfl ?_
            clear E a; intro a E
            refine WL_nil ?_
            refine T_n ?_
            refine WP_seq ?_
            refine WP_region ?_
            refine S_v E rfl (R_move E rfl) rfl ?_
            clear E a; intro a E
            refine WL_nil ?_
            refine T_n ?_
            refine WP_cond E rfl (fun hc_35 => ?_) (fun hc_35 => ?_)
            · refine WP_region ?_
              refine S_v E rfl (R_load E rfl (Try.isAgg119 _) (cell_blk (S.mem (.tail _ (.head _))))) rfl ?_
              clear E a; intro a E
              refine S_v E rfl (R_move E rfl) rfl ?_
              clear E a; intro a E
              refine S_x0 (X_updateWE (vf := Value.bool) (u := false) E S MT119 rfl rfl rfl (by exact List.mem_map_of_mem (f := Prod.fst) (by assumption)) ?_)
              clear E a S; rintro a w E S
              refine WL_nil ?_
              refine B_n ?_
              refine T_n ?_
              replace S := S.reW (L' := (encE Value.bool (stepD (sjI (fun x => x) l0 j) (mkd ((l0.getD (l0.length - 2 - j) []).map (fun x => x))) (dd ++ [k_32])))) (D' := (dd ++ [k_32])) (congrArg (encE Value.bool) (show putK (stepD (sjI (fun x => x) l0 j) (mkd ((l0.getD (l0.length - 2 - j) []).map (fun x => x))) dd) k_32 false = stepD (sjI (fun x => x) l0 j) (mkd ((l0.getD (l0.length - 2 - j) []).map (fun x => x))) (dd ++ [k_32]) by first | (rw [(at_get (n := l0.length - 2 - j) (by assumption) (by omega)), sd_start]; done) | (refine sd_yes (sj_nodup _ _ _) (by assumption) (by assumption) ?_; first | rfl | assumption) | (refine sd_nof (by assumption) (by assumption) ?_; first | rfl | assumption))) (show dd ++ [k_32] = (dd ++ [k_32]) by first | rfl | (simp; done))
              exact ⟨(dd ++ [k_32]), ⟨M_30, _, hM_30, S, E.keep ⟨rfl, rfl, rfl, rfl, rfl, trivial⟩, (by exact told_nodup (by assumption) (by assumption)), (by exact told_sub (by assumption) (by assumption) (by assumption)), J_eq f0 (by ((try clear S); (try clear E); first | assumption | omega | rfl | (simp; done) | (simp_all; done) | (simp [List.take_add_one, *]; done) | grind [List.take_add_one]))⟩, (by have hlt := told_lt (by assumption) (by assumption) (by assumption) (by assumption); simp; omega)⟩
            · refine WP_region ?_
              refine S_v E rfl (R_load E rfl (Try.isAgg119 _) (cell_blk (S.mem (.tail _ (.head _))))) rfl ?_
              clear E a; intro a E
              refine S_v E rfl (R_move E rfl) rfl ?_
              clear E a; intro a E
              refine S_x0 (X_delete0WE (vf := Value.bool) E S MT119 rfl rfl ?_)
              clear E a S; rintro a w E S
              refine WL_nil ?_
              refine B_n ?_
              refine T_n ?_
              replace S := S.reW (L' := (encE Value.bool (stepD (sjI (fun x => x) l0 j) (mkd ((l0.getD (l0.length - 2 - j) []).map (fun x => x))) (dd ++ [k_32])))) (D' := (dd ++ [k_32])) (congrArg (encE Value.bool) (show delK (stepD (sjI (fun x => x) l0 j) (mkd ((l0.getD (l0.length - 2 - j) []).map (fun x => x))) dd) k_32 = stepD (sjI (fun x => x) l0 j) (mkd ((l0.getD (l0.length - 2 - j) []).map (fun x => x))) (dd ++ [k_32]) by first | (rw [(at_get (n := l0.length - 2 - j) (by assumption) (by omega)), sd_start]; done) | (refine sd_yes (sj_nodup _ _ _) (by assumption) (by assumption) ?_; first | rfl | assumption) | (refine sd_nof (by assumption) (by assumption) ?_; first | rfl | assumption))) (show dd ++ [k_32] = (dd ++ [k_32]) by first | rfl | (simp; done))
              exact ⟨(dd ++ [k_32]), ⟨M_30, _, hM_30, S, E.keep ⟨rfl, rfl, rfl, rfl, rfl, trivial⟩, (by exact told_nodup (by assumption) (by assumption)), (by exact told_sub (by assumption) (by assumption) (by assumption)), J_eq f0 (by ((try clear S); (try clear E); first | assumption | omega | rfl | (simp; done) | (simp_all; done) | (simp [List.take_add_one, *]; done) | grind [List.take_add_one]))⟩, (by have hlt := told_lt (by assumption) (by assumption) (by assumption) (by assumption); simp; omega)⟩
        · rintro _ _ _ _ _ _ _ _ _ hX; exact hX.elim
      · replace hc_17 := of_decide_eq_false hc_17
        refine WP_exit ?_
        refine T_x ?_
        refine T_x ?_
        refine B_x ?_
        refine T_n ?_
        refine WP_seq ?_
        refine WP_region ?_
        refine S_v E rfl (R_loadM E rfl Try.isAgg84 S.imm (cellM_box hbx1)) rfl ?_
        clear E a; intro a E
        obtain ⟨x_36, hx_36⟩ : ∃ x, (l0)[0]? = some x := ⟨_, List.getElem?_eq_getElem (by first | omega | (simp; done) | (simp; omega) | (simp_all; omega))⟩
        obtain ⟨p_37, u_38, hp_37, qp_37, hu_38⟩ := RdQ.at h0 hx_36
        refine S_v E rfl (R_idx E rfl rfl T84 hp_37 (by omega)) rfl ?_
        clear E a; intro a E
        refine S_v E rfl (R_loadM E rfl Try.isAgg82 S.imm qp_37) rfl ?_
        clear E a; intro a E
        refine WL_nil ?_
        refine T_n ?_
        refine WP_block ?_
        replace S := S.front1
        replace S := S.front2
        replace S := S.front2
        replace S := S.front2
        replace E := E.keep (l' := [(2, .pointer (some ⟨b_1, 0, none⟩)), (4, .pointer (some ⟨b_7, 0, none⟩)), (66, u_38)]) ⟨rfl, rfl, rfl, trivial⟩
        replace S := S.front2
        replace S := S.front2
        replace S := S.reM (L' := (encE Value.bool (bmap (remI (fun x => x) (sjI (fun x => x) l0 j) (([] : List Int))) (fun _ => false)))) (congrArg (encE Value.bool) (show bmap (sjI (fun x => x) l0 j) (fun _ => false) = bmap (remI (fun x => x) (sjI (fun x => x) l0 j) (([] : List Int))) (fun _ => false) by first | rfl | exact rs_start _ _ | exact rs_yes (fun x => x) _ _ _ | (refine rq_no (fun x => x) ?_; assumption)))
        replace S := S.front2
        have S0 := S; clear S; have S := St.pack [blk b_7 (.cells #[.map (some b_6)] 119), OwnE Value.bool b_6 (bmap (remI (fun x => x) (sjI (fun x => x) l0 j) (([] : List Int))) (fun _ => false)), cL1] S0; clear S0
        refine WP_range (RV := RInt) (l := x_36) (fun pre M c => ∃ (c4 : HProp), c = bigs [blk b_7 (.cells #[.map (some b_6)] 119), OwnE Value.bool b_6 (bmap (remI (fun x => x) (sjI (fun x => x) l0 j) (pre)) (fun _ => false)), c4] ∧ (J (iscI (fun x => x) (sjI (fun x => x) l0 j) (pre)) M c4)) (fun cd pre M c => cd = .ret ∧ ∃ z, z <+: (meetF (fun x => x) l0) ∧ X z M c) E S rfl hu_38 (Hp.le.refl _) (fun _ _ _ h => by rw [h]; rfl) (by decide) (by rintro _ M M' c hM ⟨c4, rfl, f0⟩; exact ⟨_, rfl, hJM _ _ _ _ hM f0⟩) ⟨_, rfl, J_eq f0 (by ((try clear S); (try clear E); first | assumption | omega | rfl | (simp; done) | (simp_all; done) | (simp [List.take_add_one, *]; done) | grind [List.take_add_one]))⟩ ?_ ?_ ?_
        clear E S
        · rintro lb_40 rec_41 pre x _ a w M_39 _ G hM_39 hp_42 rfl ⟨c4, rfl, f0⟩ E S
          replace E : Env a 81 [] [(67, .int .i64 x), (2, .pointer (some ⟨b_1, 0, none⟩)), (4, .pointer (some ⟨b_7, 0, none⟩)), (66, u_38)] := E
          replace S := S.swap.unpack3
          have hq4 := prefix_lt hp_42
          replace hbx1 := hM_39.2 _ _ hbx1
          replace h0 := h0.le RSq_mono hM_39
          replace hb_1 := hM_39.2 _ _ hb_1
          replace hu_5 := hu_5.le hM_39
          replace hu_38 := hu_38.le hM_39
          refine WP_region ?_
          refine S_v E rfl (R_assign E rfl) rfl ?_
          clear E a; intro a E
          refine WL_nil ?_
          refine T_n ?_
          replace S := S.front3
          refine rb S ?_
          clear S; intro w S
          refine WP_block ?_
          refine WP_seq ?_
          refine WP_region ?_
          refine S_v E rfl (R_load E rfl (Try.isAgg119 _) (cell_blk (S.mem (.tail _ (.head _))))) rfl ?_
          clear E a; intro a E
          refine S_v E rfl (R_move E rfl) rfl ?_
          clear E a; intro a E
          replace S := S.front2
          refine S_x (X_lookupE (vf := Value.bool) (zb := false) E S rfl MT119 rfl rfl ?_)
          clear E a S; rintro a w E S
          replace S : St w M_39 (OwnE Value.bool b_6 (bmap (remI (fun x => x) (sjI (fun x => x) l0 j) (pre)) (fun _ => false)) :: _) := S
          refine S_v E rfl (R_move E rfl) rfl ?_
          clear E a; intro a E
          refine S_v E rfl (R_extract E rfl rfl) rfl ?_
          clear E a; intro a E
          refine S_v E rfl (R_extract E rfl rfl) rfl ?_
          clear E a; intro a E
          refine S_v E rfl (R_assign E rfl) rfl ?_
          clear E a; intro a E
          refine S_v E rfl (R_assign E rfl) rfl ?_
          clear E a; intro a E
          refine WL_nil ?_
          refine T_n ?_
          refine WP_seq ?_
          refine WP_region ?_
          refine S_v E rfl (R_move E rfl) rfl ?_
          clear E a; intro a E
          refine WL_nil ?_
          refine T_n ?_
          refine WP_cond E rfl (fun hc_44 => ?_) (fun hc_44 => ?_)
          · refine WP_seq ?_
            refine WP_seq ?_
            refine WP_region ?_
            refine S_v E rfl (R_loadM E rfl Try.isAgg122 S.imm (cellM_box hb_1)) rfl ?_
            clear E a; intro a E
            refine S_v E rfl (R_move E rfl) rfl ?_
            clear E a; intro a E
            replace S := S.front3
            refine S_x (X_yield (x := x) E S rfl rfl rfl hY (hM_2.trans (hM_13.trans (hM_15.trans hM_39))) (by exact meet_take (f := fun x => x) (by omega) (by first | (left; omega) | (right; exact bm_nil (f := fun _ => false) (by first | assumption | omega))) (by assumption) (by assumption) (by assumption)) rfl f0 ?_)
            clear E a S; rintro a w M_45 c_46 go_47 hM_45 f0 S E
            replace hbx1 := hM_45.2 _ _ hbx1
            replace h0 := h0.le RSq_mono hM_45
            replace hb_1 := hM_45.2 _ _ hb_1
            replace hu_5 := hu_5.le hM_45
            replace hu_38 := hu_38.le hM_45
            cases go_47
            · replace f0 : X (iscI (fun x => x) (sjI (fun x => x) l0 j) (pre) ++ [x]) M_45 c_46 := f0
              refine S_v E rfl (R_not E rfl) rfl ?_
              clear E a; intro a E
              refine WL_nil ?_
              refine T_n ?_
              refine WP_condT E rfl rfl ?_
              refine WP_ret ?_
              refine T_r ?_
              refine B_r ?_
              replace S := S.front1
              replace S := S.drop
              replace S := S.front2
              replace S := S.drop
              replace S := S.front1
              exact ⟨M_45, _, hM_45, ⟨rfl, _, (by first | assumption | (exact meet_take (f := fun x => x) (by omega) (by first | (left; omega) | (right; exact bm_nil (f := fun _ => false) (by first | assumption | omega))) (by assumption) (by assumption) (by assumption)) | (exact meet_take (f := fun x => x) (by omega) (by first | (left; omega) | (right; exact bm_nil (f := fun _ => false) (by first | assumption | omega))) (by assumption) (by assumption) (by assumption))), f0⟩, S⟩
            · replace f0 : J (iscI (fun x => x) (sjI (fun x => x) l0 j) (pre) ++ [x]) M_45 c_46 := f0
              refine S_v E rfl (R_not E rfl) rfl ?_
              clear E a; intro a E
              refine WL_nil ?_
              refine T_n ?_
              refine WP_condF E rfl rfl ?_
              refine WP_skip ?_
              refine T_n ?_
              refine WP_region ?_
              refine S_v E rfl (R_load E rfl (Try.isAgg119 _) (cell_blk (S.mem (.tail _ (.tail _ (.tail _ (.head _))))))) rfl ?_
              clear E a; intro a E
              refine S_v E rfl (R_move E rfl) rfl ?_
              clear E a; intro a E
              replace S := S.front1
              refine S_x0 (X_delete0E (vf := Value.bool) E S MT119 rfl rfl ?_)
              clear E a S; rintro a w E S
              refine WL_nil ?_
              refine B_n ?_
              replace S := S.front1
              replace S := S.front1
              replace S := S.front3
              replace S := S.front2
              replace S := S.front2
              replace S := S.reM (L' := (encE Value.bool (bmap (remI (fun x => x) (sjI (fun x => x) l0 j) ((pre ++ [x]))) (fun _ => false)))) (congrArg (encE Value.bool) (show delK (bmap (remI (fun x => x) (sjI (fun x => x) l0 j) (pre)) (fun _ => false)) x = bmap (remI (fun x => x) (sjI (fun x => x) l0 j) ((pre ++ [x]))) (fun _ => false) by first | rfl | exact rs_start _ _ | exact rs_yes (fun x => x) _ _ _ | (refine rq_no (fun x => x) ?_; assumption)))
              replace S := S.front2
              have S0 := S; clear S; have S := (St.pack [blk b_7 (.cells #[.map (some b_6)] 119), OwnE Value.bool b_6 (bmap (remI (fun x => x) (sjI (fun x => x) l0 j) ((pre ++ [x]))) (fun _ => false)), c_46] S0).swap; clear S0
              exact ⟨M_45, _, hM_45, ⟨_, rfl, J_eq f0 (by (first | (refine isc_yes (f := fun x => x) ?_; assumption) | (refine iq_no (fun x => x) ?_; assumption)))⟩, S⟩
          · refine WP_skip ?_
            refine B_n ?_
            replace S := S.front3
            replace S := S.front1
            replace S := S.front3
            replace S := S.front2
            replace S := S.front2
            replace S := S.reM (L' := (encE Value.bool (bmap (remI (fun x => x) (sjI (fun x => x) l0 j) ((pre ++ [x]))) (fun _ => false)))) (congrArg (encE Value.bool) (show bmap (remI (fun x => x) (sjI (fun x => x) l0 j) (pre)) (fun _ => false) = bmap (remI (fun x => x) (sjI (fun x => x) l0 j) ((pre ++ [x]))) (fun _ => false) by first | rfl | exact rs_start _ _ | exact rs_yes (fun x => x) _ _ _ | (refine rq_no (fun x => x) ?_; assumption)))
            replace S := S.front2
            have S0 := S; clear S; have S := (St.pack [blk b_7 (.cells #[.map (some b_6)] 119), OwnE Value.bool b_6 (bmap (remI (fun x => x) (sjI (fun x => x) l0 j) ((pre ++ [x]))) (fun _ => false)), c4] S0).swap; clear S0
            exact ⟨M_39, _, (Hp.le.refl _), ⟨_, rfl, J_eq f0 (by (first | (refine isc_yes (f := fun x => x) ?_; assumption) | (refine iq_no (fun x => x) ?_; assumption)))⟩, S⟩
        · rintro a w M_48 _ D_49 hM_48 ⟨c4, rfl, f0⟩ S E
          replace S := S.unpack3
          replace hbx1 := hM_48.2 _ _ hbx1
          replace h0 := h0.le RSq_mono hM_48
          replace hb_1 := hM_48.2 _ _ hb_1
          replace hu_5 := hu_5.le hM_48
          replace hu_38 := hu_38.le hM_48
          refine B_n ?_
          refine F_nrm ?_
          replace S := S.drop
          replace S := S.drop
          replace S := S.front1
          have hpre : iscI (fun x => x) (sjI (fun x => x) l0 j) (x_36) = meetF (fun x => x) l0 := by (exact meet_done (by omega) (by first | (left; omega) | (right; exact bm_nil (f := fun _ => false) (by first | assumption | omega))) (by assumption))
          rw [hpre] at f0
          exact F_retM0 E S Try.results127 (fun w S => ⟨_, rfl, M_48, _, (hM_2.trans (hM_13.trans (hM_15.trans hM_48))), .inl f0, S⟩)
        · rintro a w M_50 c_ D_51 p_52 _ hM_50 hp_53 ⟨rfl, z_, hz_, f0⟩ S E
          replace hbx1 := hM_50.2 _ _ hbx1
          replace h0 := h0.le RSq_mono hM_50
          replace hb_1 := hM_50.2 _ _ hb_1
          replace hu_5 := hu_5.le hM_50
          replace hu_38 := hu_38.le hM_50
          refine WP_ret ?_
          refine B_r ?_
          replace S := S.front1
          exact F_retM0 E S Try.results127 (fun w S => ⟨_, rfl, M_50, _, (hM_2.trans (hM_13.trans (hM_15.trans hM_50))), .inr ⟨z_, (by first | assumption | (exact meet_take (f := fun x => x) (by omega) (by first | (left; omega) | (right; exact bm_nil (f := fun _ => false) (by first | assumption | omega))) (by assumption) (by assumption) (by assumption))), f0⟩, S⟩)
    · replace E := E.val (t := 30) rfl hc_16
      replace E := E.val (t := 31) rfl hc_16
      replace hc_16 := of_decide_eq_false hc_16
      refine WL_guard_no E rfl rfl rfl rfl fun a E => ?_
      refine WL_guard_no E rfl rfl rfl rfl fun a E => ?_
      refine WL_guard_no E rfl rfl rfl rfl fun a E => ?_
      refine S_v E rfl (R_pickF E rfl rfl) rfl ?_
      clear E a; intro a E
      refine WL_nil ?_
      refine T_n ?_
      refine WP_condF E rfl rfl ?_
      refine WP_exit ?_
      refine T_x ?_
      refine T_x ?_
      refine B_x ?_
      refine T_n ?_
      refine WP_seq ?_
      refine WP_region ?_
      refine S_v E rfl (R_loadM E rfl Try.isAgg84 S.imm (cellM_box hbx1)) rfl ?_
      clear E a; intro a E
      obtain ⟨x_54, hx_54⟩ : ∃ x, (l0)[0]? = some x := ⟨_, List.getElem?_eq_getElem (by first | omega | (simp; done) | (simp; omega) | (simp_all; omega))⟩
      obtain ⟨p_55, u_56, hp_55, qp_55, hu_56⟩ := RdQ.at h0 hx_54
      refine S_v E rfl (R_idx E rfl rfl T84 hp_55 (by omega)) rfl ?_
      clear E a; intro a E
      refine S_v E rfl (R_loadM E rfl Try.isAgg82 S.imm qp_55) rfl ?_
      clear E a; intro a E
      refine WL_nil ?_
      refine T_n ?_
      refine WP_block ?_
      replace S := S.front1
      replace S := S.front2
      replace S := S.front2
      replace S := S.front2
      replace E := E.keep (l' := [(2, .pointer (some ⟨b_1, 0, none⟩)), (4, .pointer (some ⟨b_7, 0, none⟩)), (66, u_56)]) ⟨rfl, rfl, rfl, trivial⟩
      replace S := S.front2
      replace S := S.front2
      replace S := S.reM (L' := (encE Value.bool (bmap (remI (fun x => x) (sjI (fun x => x) l0 j) (([] : List Int))) (fun _ => false)))) (congrArg (encE Value.bool) (show bmap (sjI (fun x => x) l0 j) (fun _ => false) = bmap (remI (fun x => x) (sjI (fun x => x) l0 j) (([] : List Int))) (fun _ => false) by first | rfl | exact rs_start _ _ | exact rs_yes (fun x => x) _ _ _ | (refine rq_no (fun x => x) ?_; assumption)))
      replace S := S.front2
      have S0 := S; clear S; have S := St.pack [blk b_7 (.cells #[.map (some b_6)] 119), OwnE Value.bool b_6 (bmap (remI (fun x => x) (sjI (fun x => x) l0 j) (([] : List Int))) (fun _ => false)), cL1] S0; clear S0
      refine WP_range (RV := RInt) (l := x_54) (fun pre M c => ∃ (c4 : HProp), c = bigs [blk b_7 (.cells #[.map (some b_6)] 119), OwnE Value.bool b_6 (bmap (remI (fun x => x) (sjI (fun x => x) l0 j) (pre)) (fun _ => false)), c4] ∧ (J (iscI (fun x => x) (sjI (fun x => x) l0 j) (pre)) M c4)) (fun cd pre M c => cd = .ret ∧ ∃ z, z <+: (meetF (fun x => x) l0) ∧ X z M c) E S rfl hu_56 (Hp.le.refl _) (fun _ _ _ h => by rw [h]; rfl) (by decide) (by rintro _ M M' c hM ⟨c4, rfl, f0⟩; exact ⟨_, rfl, hJM _ _ _ _ hM f0⟩) ⟨_, rfl, J_eq f0 (by ((try clear S); (try clear E); first | assumption | omega | rfl | (simp; done) | (simp_all; done) | (simp [List.take_add_one, *]; done) | grind [List.take_add_one]))⟩ ?_ ?_ ?_
      clear E S
      · rintro lb_58 rec_59 pre x _ a w M_57 _ G hM_57 hp_60 rfl ⟨c4, rfl, f0⟩ E S
        replace E : Env a 81 [] [(67, .int .i64 x), (2, .pointer (some ⟨b_1, 0, none⟩)), (4, .pointer (some ⟨b_7, 0, none⟩)), (66, u_56)] := E
        replace S := S.swap.unpack3
        have hq4 := prefix_lt hp_60
        replace hbx1 := hM_57.2 _ _ hbx1
        replace h0 := h0.le RSq_mono hM_57
        replace hb_1 := hM_57.2 _ _ hb_1
        replace hu_5 := hu_5.le hM_57
        replace hu_56 := hu_56.le hM_57
        refine WP_region ?_
        refine S_v E rfl (R_assign E rfl) rfl ?_
        clear E a; intro a E
        refine WL_nil ?_
        refine T_n ?_
        replace S := S.front3
        refine rb S ?_
        clear S; intro w S
        refine WP_block ?_
        refine WP_seq ?_
        refine WP_region ?_
        refine S_v E rfl (R_load E rfl (Try.isAgg119 _) (cell_blk (S.mem (.tail _ (.head _))))) rfl ?_
        clear E a; intro a E
        refine S_v E rfl (R_move E rfl) rfl ?_
        clear E a; intro a E
        replace S := S.front2
        refine S_x (X_lookupE (vf := Value.bool) (zb := false) E S rfl MT119 rfl rfl ?_)
        clear E a S; rintro a w E S
        replace S : St w M_57 (OwnE Value.bool b_6 (bmap (remI (fun x => x) (sjI (fun x => x) l0 j) (pre)) (fun _ => false)) :: _) := S
        refine S_v E rfl (R_move E rfl) rfl ?_
        clear E a; intro a E
        refine S_v E rfl (R_extract E rfl rfl) rfl ?_
        clear E a; intro a E
        refine S_v E rfl (R_extract E rfl rfl) rfl ?_
        clear E a; intro a E
        refine S_v E rfl (R_assign E rfl) rfl ?_
        clear E a; intro a E
        refine S_v E rfl (R_assign E rfl) rfl ?_
        clear E a; intro a E
        refine WL_nil ?_
        refine T_n ?_
        refine WP_seq ?_
        refine WP_region ?_
        refine S_v E rfl (R_move E rfl) rfl ?_
        clear E a; intro a E
        refine WL_nil ?_
        refine T_n ?_
        refine WP_cond E rfl (fun hc_62 => ?_) (fun hc_62 => ?_)
        · refine WP_seq ?_
          refine WP_seq ?_
          refine WP_region ?_
          refine S_v E rfl (R_loadM E rfl Try.isAgg122 S.imm (cellM_box hb_1)) rfl ?_
          clear E a; intro a E
          refine S_v E rfl (R_move E rfl) rfl ?_
          clear E a; intro a E
          replace S := S.front3
          refine S_x (X_yield (x := x) E S rfl rfl rfl hY (hM_2.trans (hM_13.trans (hM_15.trans hM_57))) (by exact meet_take (f := fun x => x) (by omega) (by first | (left; omega) | (right; exact bm_nil (f := fun _ => false) (by first | assumption | omega))) (by assumption) (by assumption) (by assumption)) rfl f0 ?_)
          clear E a S; rintro a w M_63 c_64 go_65 hM_63 f0 S E
          replace hbx1 := hM_63.2 _ _ hbx1
          replace h0 := h0.le RSq_mono hM_63
          replace hb_1 := hM_63.2 _ _ hb_1
          replace hu_5 := hu_5.le hM_63
          replace hu_56 := hu_56.le hM_63
          cases go_65
          · replace f0 : X (iscI (fun x => x) (sjI (fun x => x) l0 j) (pre) ++ [x]) M_63 c_64 := f0
            refine S_v E rfl (R_not E rfl) rfl ?_
            clear E a; intro a E
            refine WL_nil ?_
            refine T_n ?_
            refine WP_condT E rfl rfl ?_
            refine WP_ret ?_
            refine T_r ?_
            refine B_r ?_
            replace S := S.front1
            replace S := S.drop
            replace S := S.front2
            replace S := S.drop
            replace S := S.front1
            exact ⟨M_63, _, hM_63, ⟨rfl, _, (by first | assumption | (exact meet_take (f := fun x => x) (by omega) (by first | (left; omega) | (right; exact bm_nil (f := fun _ => false) (by first | assumption | omega))) (by assumption) (by assumption) (by assumption)) | (exact meet_take (f := fun x => x) (by omega) (by first | (left; omega) | (right; exact bm_nil (f := fun _ => false) (by first | assumption | omega))) (by assumption) (by assumption) (by assumption))), f0⟩, S⟩
          · replace f0 : J (iscI (fun x => x) (sjI (fun x => x) l0 j) (pre) ++ [x]) M_63 c_64 := f0
            refine S_v E rfl (R_not E rfl) rfl ?_
            clear E a; intro a E
            refine WL_nil ?_
            refine T_n ?_
            refine WP_condF E rfl rfl ?_
            refine WP_skip ?_
            refine T_n ?_
            refine WP_region ?_
            refine S_v E rfl (R_load E rfl (Try.isAgg119 _) (cell_blk (S.mem (.tail _ (.tail _ (.tail _ (.head _))))))) rfl ?_
            clear E a; intro a E
            refine S_v E rfl (R_move E rfl) rfl ?_
            clear E a; intro a E
            replace S := S.front1
            refine S_x0 (X_delete0E (vf := Value.bool) E S MT119 rfl rfl ?_)
            clear E a S; rintro a w E S
            refine WL_nil ?_
            refine B_n ?_
            replace S := S.front1
            replace S := S.front1
            replace S := S.front3
            replace S := S.front2
            replace S := S.front2
            replace S := S.reM (L' := (encE Value.bool (bmap (remI (fun x => x) (sjI (fun x => x) l0 j) ((pre ++ [x]))) (fun _ => false)))) (congrArg (encE Value.bool) (show delK (bmap (remI (fun x => x) (sjI (fun x => x) l0 j) (pre)) (fun _ => false)) x = bmap (remI (fun x => x) (sjI (fun x => x) l0 j) ((pre ++ [x]))) (fun _ => false) by first | rfl | exact rs_start _ _ | exact rs_yes (fun x => x) _ _ _ | (refine rq_no (fun x => x) ?_; assumption)))
            replace S := S.front2
            have S0 := S; clear S; have S := (St.pack [blk b_7 (.cells #[.map (some b_6)] 119), OwnE Value.bool b_6 (bmap (remI (fun x => x) (sjI (fun x => x) l0 j) ((pre ++ [x]))) (fun _ => false)), c_64] S0).swap; clear S0
            exact ⟨M_63, _, hM_63, ⟨_, rfl, J_eq f0 (by (first | (refine isc_yes (f := fun x => x) ?_; assumption) | (refine iq_no (fun x => x) ?_; assumption)))⟩, S⟩
        · refine WP_skip ?_
          refine B_n ?_
          replace S := S.front3
          replace S := S.front1
          replace S := S.front3
          replace S := S.front2
          replace S := S.front2
          replace S := S.reM (L' := (encE Value.bool (bmap (remI (fun x => x) (sjI (fun x => x) l0 j) ((pre ++ [x]))) (fun _ => false)))) (congrArg (encE Value.bool) (show bmap (remI (fun x => x) (sjI (fun x => x) l0 j) (pre)) (fun _ => false) = bmap (remI (fun x => x) (sjI (fun x => x) l0 j) ((pre ++ [x]))) (fun _ => false) by first | rfl | exact rs_start _ _ | exact rs_yes (fun x => x) _ _ _ | (refine rq_no (fun x => x) ?_; assumption)))
          replace S := S.front2
          have S0 := S; clear S; have S := (St.pack [blk b_7 (.cells #[.map (some b_6)] 119), OwnE Value.bool b_6 (bmap (remI (fun x => x) (sjI (fun x => x) l0 j) ((pre ++ [x]))) (fun _ => false)), c4] S0).swap; clear S0
          exact ⟨M_57, _, (Hp.le.refl _), ⟨_, rfl, J_eq f0 (by (first | (refine isc_yes (f := fun x => x) ?_; assumption) | (refine iq_no (fun x => x) ?_; assumption)))⟩, S⟩
      · rintro a w M_66 _ D_67 hM_66 ⟨c4, rfl, f0⟩ S E
        replace S := S.unpack3
        replace hbx1 := hM_66.2 _ _ hbx1
        replace h0 := h0.le RSq_mono hM_66
        replace hb_1 := hM_66.2 _ _ hb_1
        replace hu_5 := hu_5.le hM_66
        replace hu_56 := hu_56.le hM_66
        refine B_n ?_
        refine F_nrm ?_
        replace S := S.drop
        replace S := S.drop
        replace S := S.front1
        have hpre : iscI (fun x => x) (sjI (fun x => x) l0 j) (x_54) = meetF (fun x => x) l0 := by (exact meet_done (by omega) (by first | (left; omega) | (right; exact bm_nil (f := fun _ => false) (by first | assumption | omega))) (by assumption))
        rw [hpre] at f0
        exact F_retM0 E S Try.results127 (fun w S => ⟨_, rfl, M_66, _, (hM_2.trans (hM_13.trans (hM_15.trans hM_66))), .inl f0, S⟩)
      · rintro a w M_68 c_ D_69 p_70 _ hM_68 hp_71 ⟨rfl, z_, hz_, f0⟩ S E
        replace hbx1 := hM_68.2 _ _ hbx1
        replace h0 := h0.le RSq_mono hM_68
        replace hb_1 := hM_68.2 _ _ hb_1
        replace hu_5 := hu_5.le hM_68
        replace hu_56 := hu_56.le hM_68
        refine WP_ret ?_
        refine B_r ?_
        replace S := S.front1
        exact F_retM0 E S Try.results127 (fun w S => ⟨_, rfl, M_68, _, (hM_2.trans (hM_13.trans (hM_15.trans hM_68))), .inr ⟨z_, (by first | assumption | (exact meet_take (f := fun x => x) (by omega) (by first | (left; omega) | (right; exact bm_nil (f := fun _ => false) (by first | assumption | omega))) (by assumption) (by assumption) (by assumption))), f0⟩, S⟩)
  · rintro _ _ _ _ _ _ _ _ _ hX; exact hX.elim

set_option maxRecDepth 100000 in
set_option maxHeartbeats 4000000 in
theorem it_Intersect {M : Hp} {v0 : Value} {l0 : List (List Int)} (h0 : RdS 1 (RSq Try.prog RInt) M v0 l0) :
    Pu Try.prog (.func (.func 81) #[] #[]) M [v0] (fun r M' => SeqV Try.prog r M' RInt (meetF (fun x => x) l0)) := by
  refine Pu_enter Try.func81 rfl Try.ntmps81 rfl Try.call81 ?_
  intro a w M1 H hM1 S E
  replace h0 := h0.le RSq_mono hM1
  have b0 := h0.bound
  refine WP_seq ?_
  refine WP_region ?_
  refine S_x (X_box (cs := #[v0]) E S rfl rfl (cells_one (RdS.one' h0)) ?_)
  clear E a S; rintro a w b_1 E S
  obtain ⟨M_2, hM_2, hb_1, S⟩ := S.freezeB
  replace h0 := h0.le RSq_mono hM_2
  refine S_v E rfl (R_assign E rfl) rfl ?_
  clear E a; intro a E
  refine WL_nil ?_
  refine T_n ?_
  refine WP_seq ?_
  refine WP_seq ?_
  refine WP_region ?_
  refine S_v E rfl (R_loadM E rfl Try.isAgg84 S.imm (cellM_box hb_1)) rfl ?_
  clear E a; intro a E
  refine S_v E rfl (R_lenV E rfl T84 h0.len) rfl ?_
  clear E a; intro a E
  refine S_v E rfl (R_eql E rfl rfl) rfl ?_
  clear E a; intro a E
  refine WL_nil ?_
  refine T_n ?_
  refine WP_cond E rfl (fun hc_3 => ?_) (fun hc_3 => ?_)
  · replace hc_3 := of_decide_eq_true hc_3
    refine WP_seq ?_
    refine WP_region ?_
    refine S_x (X_pu E S rfl rfl rfl (it_Empty ) (Hp.le.refl _) ?_)
    clear E a S; rintro a v_5 w M_4 hM_4 hv_5 S E
    replace h0 := h0.le RSq_mono hM_4
    replace hb_1 := hM_4.2 _ _ hb_1
    refine S_v E rfl (R_assign E rfl) rfl ?_
    clear E a; intro a E
    refine WL_nil ?_
    refine T_n ?_
    refine WP_ret ?_
    refine T_r ?_
    exact F_ret1 E Try.results81 rfl ⟨_, rfl, M_4, (hM_2.trans hM_4), (SeqV_eq hv_5 (by (have e := List.eq_nil_of_length_eq_zero (l := l0) (by omega); subst e; rfl))), S⟩
  · replace hc_3 := of_decide_eq_false hc_3
    refine WP_skip ?_
    refine T_n ?_
    refine WP_seq ?_
    refine WP_region ?_
    refine S_v E rfl (R_makeFunc E rfl rfl) rfl ?_
    clear E a; intro a E
    refine S_v E rfl (R_assign E rfl) rfl ?_
    clear E a; intro a E
    refine WL_nil ?_
    refine T_n ?_
    refine WP_ret ?_
    exact F_ret1 E Try.results81 rfl ⟨_, rfl, M_2, hM_2, (SeqV_eq (it_Intersect1 h0 (by omega) hb_1) (by rfl)), S⟩

set_option maxRecDepth 100000 in
set_option maxHeartbeats 4000000 in
theorem impl_IntersectSeq {M : Hp} {v0 : Value} {l0 : List (List Int)} (h0 : RdII M v0 l0) (hb2 : l0.length ≤ 1000000000) (hb : ∀ x ∈ l0, x.length ≤ 1000000000) :
    Pu Try.prog (.func (.func 21) #[] #[]) M [v0] (fun r M' => RdI M' r (meetF (fun x => x) l0)) := by
  refine Pu_enter Try.func21 rfl Try.ntmps21 rfl Try.call21 ?_
  intro a w M1 H hM1 S E
  replace h0 := h0.le hM1
  have b0 := h0.bound
  have hml := meet_len (fun x => x) (ll := l0) hb
  refine WP_seq ?_
  refine WP_region ?_
  refine S_v E rfl (R_assign E rfl) rfl ?_
  clear E a; intro a E
  refine WL_nil ?_
  refine T_n ?_
  refine WP_seq ?_
  refine WP_region ?_
  refine S_v E rfl (R_move E rfl) rfl ?_
  clear E a; intro a E
  refine S_x (X_pu E S rfl rfl rfl (impl_seqs h0 (by first | omega | (simp; omega))) (Hp.le.refl _) ?_)
  clear E a S; rintro a v_2 w M_1 hM_1 hv_2 S E
  replace h0 := h0.le hM_1
  refine S_x (X_pu E S rfl rfl rfl (it_Intersect hv_2) (Hp.le.refl _) ?_)
  clear E a S; rintro a v_4 w M_3 hM_3 hv_4 S E
  replace h0 := h0.le hM_3
  replace hv_2 := hv_2.le RSq_mono hM_3
  refine S_x (X_pu E S rfl rfl rfl (slices_Collect hv_4 (by (first | omega | (simp; omega) | (simp; done) | (simp_all; omega) | grind))) (Hp.le.refl _) ?_)
  clear E a S; rintro a v_6 w M_5 hM_5 hv_6 S E
  replace h0 := h0.le hM_5
  replace hv_2 := hv_2.le RSq_mono hM_5
  replace hv_4 := hv_4.le hM_5
  refine S_v E rfl (R_assign E rfl) rfl ?_
  clear E a; intro a E
  refine WL_nil ?_
  refine T_n ?_
  refine WP_ret ?_
  exact F_ret1 E Try.results21 rfl ⟨_, rfl, M_5, (hM_1.trans (hM_3.trans hM_5)), hv_6, S⟩

set_option maxRecDepth 100000 in
set_option maxHeartbeats 4000000 in
theorem laws_FnUnionOrder {M : Hp} {v0 : Value} {l0 : List (List Int)} (h0 : RdII M v0 l0) :
    PuC Try.prog 3 M [v0] (fun r M' => r = .bool true) := by
  refine PuC_enter Try.func3 rfl Try.ntmps3 rfl ?_
  intro a w M1 H hM1 S E
  replace h0 := h0.le hM1
  have b0 := h0.bound
  refine WP_seq ?_
  refine WP_region ?_
  refine S_v E rfl (R_assign E rfl) rfl ?_
  clear E a; intro a E
  refine WL_nil ?_
  refine T_n ?_
  refine WP_seq ?_
  refine WP_seq ?_
  refine WP_region ?_
  refine S_v E rfl (R_move E rfl) rfl ?_
  clear E a; intro a E
  refine S_x (X_pu E S rfl rfl rfl (laws_zzFits2 h0) (Hp.le.refl _) ?_)
  clear E a S; rintro a _ w M_1 hM_1 rfl S E
  replace h0 := h0.le hM_1
  refine S_v E rfl (R_not E rfl) rfl ?_
  clear E a; intro a E
  refine WL_nil ?_
  refine T_n ?_
  refine WP_cond E rfl (fun hc_2 => ?_) (fun hc_2 => ?_)
  · refine WP_seq ?_
    refine WP_region ?_
    refine S_v E rfl (R_assign E rfl) rfl ?_
    clear E a; intro a E
    refine WL_nil ?_
    refine T_n ?_
    refine WP_ret ?_
    refine T_r ?_
    exact F_ret1 E Try.results3 rfl ⟨_, rfl, M_1, hM_1, rfl, S⟩
  · refine WP_skip ?_
    refine T_n ?_
    refine WP_seq ?_
    refine WP_seq ?_
    refine WP_region ?_
    refine S_x (X_buildI (ys := [1]) E S rfl T24 rfl rfl rfl ?_)
    clear E a S; rintro a w v_3 E S
    refine S_x (X_buildI (ys := [2]) E S rfl T24 rfl rfl rfl ?_)
    clear E a S; rintro a w v_4 E S
    replace S := S.front1
    have S0 := S; clear S
    obtain ⟨M_6, hM_6, hz_7, S⟩ := S0.freezeI (by (first | omega | (simp; omega) | (simp; done) | (simp_all; omega) | grind))
    clear S0
    replace h0 := h0.le hM_6
    have S0 := S; clear S
    obtain ⟨M_8, hM_8, hz_9, S⟩ := S0.freezeI (by (first | omega | (simp; omega) | (simp; done) | (simp_all; omega) | grind))
    clear S0
    replace h0 := h0.le hM_8
    replace hz_7 := hz_7.le hM_8
    refine S_x (X_buildM (R := RSl 1 RInt) (vs := [v_3, v_4]) (xs := [[1], [2]]) (RSl_mono RInt_mono) E S rfl T22 rfl rfl rfl (by intro u hu; simp only [List.mem_cons, List.not_mem_nil, or_false] at hu; rcases hu with rfl | rfl <;> first | exact RdI.one hz_7 | exact RdI.one hz_9 | rfl) rfl (rowsC (R := RSl 1 RInt) (RdI.row hz_7) (rowsC (R := RSl 1 RInt) (RdI.row hz_9) rowsN)) ?_)
    clear E a S; rintro a v_5 w M_10 hM_10 hv_5 S E
    replace hv_5 : RdII M_10 v_5 [[1], [2]] := hv_5
    replace h0 := h0.le hM_10
    replace hz_7 := hz_7.le hM_10
    replace hz_9 := hz_9.le hM_10
    refine S_x (X_pu E S rfl rfl rfl (impl_Union hv_5 (by first | omega | decide)) (Hp.le.refl _) ?_)
    clear E a S; rintro a v_12 w M_11 hM_11 hv_12 S E
    replace h0 := h0.le hM_11
    replace hz_7 := hz_7.le hM_11
    replace hz_9 := hz_9.le hM_11
    replace hv_5 := hv_5.le hM_11
    refine S_v E rfl (R_lenV E rfl T24 hv_12.len) rfl ?_
    clear E a; intro a E
    refine S_v E rfl (R_neq E rfl rfl) rfl ?_
    clear E a; intro a E
    refine WL_nil ?_
    refine T_n ?_
    have hc_13 : (decide ((((keyL ([[1], [2]]).flatten).length : Nat) : Int) ≠ 2)) = false := by first | (simp; done) | decide | (clear S E; simp only [same_isPerm]; (try rw [etk]); first | exact meet_perm l0 | (rw [meet_perm l0]; done) | (simp [meet_perm l0]; done))
    refine WP_condF E rfl hc_13 ?_
    refine WP_skip ?_
    refine T_n ?_
    refine WP_seq ?_
    refine WP_seq ?_
    refine WP_region ?_
    refine S_v E rfl (R_move E rfl) rfl ?_
    clear E a; intro a E
    refine S_v E rfl (R_lenV E rfl T22 h0.len) rfl ?_
    clear E a; intro a E
    refine S_v E rfl (R_gtr E rfl rfl) rfl ?_
    clear E a; intro a E
    refine S_v E rfl (R_move E rfl) rfl ?_
    clear E a; intro a E
    refine split_bool (decide (20 < (((l0).length : Nat) : Int))) (fun hc_14 => ?_) (fun hc_14 => ?_)
    · replace E := E.val (t := 22) rfl hc_14
      replace E := E.val (t := 23) rfl hc_14
      replace hc_14 := of_decide_eq_true hc_14
      refine WL_guard_no E rfl rfl rfl rfl fun a E => ?_
      refine WL_guard_no E rfl rfl rfl rfl fun a E => ?_
      refine WL_guard_no E rfl rfl rfl rfl fun a E => ?_
      refine S_v E rfl (R_pickT E rfl rfl) rfl ?_
      clear E a; intro a E
      refine WL_nil ?_
      refine T_n ?_
      refine WP_condT E rfl rfl ?_
      refine WP_seq ?_
      refine WP_region ?_
      refine S_v E rfl (R_assign E rfl) rfl ?_
      clear E a; intro a E
      refine WL_nil ?_
      refine T_n ?_
      refine WP_ret ?_
      refine T_r ?_
      exact F_ret1 E Try.results3 rfl ⟨_, rfl, M_11, (hM_1.trans (hM_6.trans (hM_8.trans (hM_10.trans hM_11)))), rfl, S⟩
    · replace E := E.val (t := 22) rfl hc_14
      replace E := E.val (t := 23) rfl hc_14
      replace hc_14 := of_decide_eq_false hc_14
      refine WL_guard_yes E rfl rfl ?_
      refine S_v E rfl (R_move E rfl) rfl ?_
      clear E a; intro a E
      refine WL_guard_yes E rfl rfl ?_
      refine S_x (X_pu E S rfl rfl rfl (laws_few h0) (Hp.le.refl _) ?_)
      clear E a S; rintro a _ w M_15 hM_15 rfl S E
      replace h0 := h0.le hM_15
      replace hz_7 := hz_7.le hM_15
      replace hz_9 := hz_9.le hM_15
      replace hv_5 := hv_5.le hM_15
      replace hv_12 := hv_12.le hM_15
      refine WL_guard_yes E rfl rfl ?_
      refine S_v E rfl (R_not E rfl) rfl ?_
      clear E a; intro a E
      refine S_v E rfl (R_pickF E rfl rfl) rfl ?_
      clear E a; intro a E
      refine WL_nil ?_
      refine T_n ?_
      refine WP_cond E rfl (fun hc_16 => ?_) (fun hc_16 => ?_)
      · refine WP_seq ?_
        refine WP_region ?_
        refine S_v E rfl (R_assign E rfl) rfl ?_
        clear E a; intro a E
        refine WL_nil ?_
        refine T_n ?_
        refine WP_ret ?_
        refine T_r ?_
        exact F_ret1 E Try.results3 rfl ⟨_, rfl, M_15, (hM_1.trans (hM_6.trans (hM_8.trans (hM_10.trans (hM_11.trans hM_15))))), rfl, S⟩
      · have hkk : l0.length ≤ 20 ∧ ∀ x ∈ l0, x.length ≤ 300 := ⟨by omega, by first | assumption | simp_all⟩
        have hta : total l0 ≤ 6000 := (by have h2 := total_le hkk.2; have h3 : l0.length * 300 ≤ 20 * 300 := Nat.mul_le_mul_right _ hkk.1; omega)
        have hf0 := flatten_len l0
        have hul := keyF_le l0 l0.length
        rw [List.take_of_length_le (Nat.le_refl _)] at hul
        have hbb : ∀ x ∈ l0, x.length ≤ 1000000000 := (fun x hx => Nat.le_trans (hkk.2 x hx) (by omega))
        refine WP_skip ?_
        refine T_n ?_
        refine WP_seq ?_
        refine WP_region ?_
        refine S_v E rfl (R_move E rfl) rfl ?_
        clear E a; intro a E
        refine S_x (X_pu E S rfl rfl rfl (impl_Flatten h0 (by first | omega | decide | (simp only [List.nil_append]; omega) | (simp; omega))) (Hp.le.refl _) ?_)
        clear E a S; rintro a v_18 w M_17 hM_17 hv_18 S E
        replace h0 := h0.le hM_17
        replace hz_7 := hz_7.le hM_17
        replace hz_9 := hz_9.le hM_17
        replace hv_5 := hv_5.le hM_17
        replace hv_12 := hv_12.le hM_17
        refine S_x (X_pu E S rfl rfl rfl (impl_Uniq hv_18 (by (first | omega | (simp; omega) | (simp; done) | (simp_all; omega) | grind))) (Hp.le.refl _) ?_)
        clear E a S; rintro a v_20 w M_19 hM_19 hv_20 S E
        replace h0 := h0.le hM_19
        replace hz_7 := hz_7.le hM_19
        replace hz_9 := hz_9.le hM_19
        replace hv_5 := hv_5.le hM_19
        replace hv_12 := hv_12.le hM_19
        replace hv_18 := hv_18.le hM_19
        refine S_v E rfl (R_assign E rfl) rfl ?_
        clear E a; intro a E
        refine WL_nil ?_
        refine T_n ?_
        refine WP_seq ?_
        refine WP_region ?_
        refine S_v E rfl (R_assign E rfl) rfl ?_
        clear E a; intro a E
        refine WL_nil ?_
        refine T_n ?_
        refine WP_seq ?_
        refine WP_seq ?_
        refine WP_region ?_
        refine S_v E rfl (R_move E rfl) rfl ?_
        clear E a; intro a E
        refine S_v E rfl (R_lenV E rfl T24 hv_20.len) rfl ?_
        clear E a; intro a E
        refine S_v E rfl (R_move E rfl) rfl ?_
        clear E a; intro a E
        refine WL_nil ?_
        refine T_n ?_
        refine WP_block ?_
        replace S := (S.ownNil (e := 3) (sz := 1)).made0
        replace S := S.re1 (l' := ((keyL l0.flatten).take 0).filter (fun x => l0.all (fun m => decide (x ∈ m)))) (by first | (simp; done) | (refine alw_yes (j := j) (by assumption) (by omega) ?_; omega) | (refine alw_no (j := j) (by assumption) (by omega) ?_; omega))
        refine WP_loop (γ := Nat) (fun (k : Nat) a w => ∃ (M_22 : Hp) (u4 : Value), Hp.le M_19 M_22 ∧ St w M_22 (OwnI 3 u4 (((keyL l0.flatten).take k).filter (fun x => l0.all (fun m => decide (x ∈ m)))) :: H) ∧ Env a 81 [] [(0, v0), (3, v_20), (4, u4), (31, v_20), (32, .int .i64 (((keyL ((l0).flatten)).length : Nat) : Int)), (33, .int .i64 ((k : Nat) : Int))] ∧ (k ≤ (keyL ((l0).flatten)).length)) (fun k => ((keyL ((l0).flatten)).length) - k) 0 ⟨M_19, _, Hp.le.refl _, S, E.keep ⟨rfl, rfl, rfl, rfl, rfl, rfl, trivial⟩, by ((try clear S); (try clear E); first | assumption | omega | rfl | (simp; done) | (simp_all; done) | (simp [List.take_add_one, *]; done) | grind [List.take_add_one])⟩ ?_
        try clear E
        try clear S
        try clear a
        try clear w
        rintro k a w ⟨M_22, u4, hM_22, S, E, hL0_0⟩
        replace h0 := h0.le hM_22
        replace hz_7 := hz_7.le hM_22
        replace hz_9 := hz_9.le hM_22
        replace hv_5 := hv_5.le hM_22
        replace hv_12 := hv_12.le hM_22
        replace hv_18 := hv_18.le hM_22
        replace hv_20 := hv_20.le hM_22
        have wl := List.length_filter_le (fun x => l0.all (fun m => decide (x ∈ m))) ((keyL l0.flatten).take k)
        refine WP_seq ?_
        refine WP_region ?_
        refine S_v E rfl (R_lss E rfl rfl) rfl ?_
        clear E a; intro a E
        refine WL_nil ?_
        refine T_n ?_
        refine WP_seq ?_
        refine WP_cond E rfl (fun hc_23 => ?_) (fun hc_23 => ?_)
        · replace hc_23 := of_decide_eq_true hc_23
          refine WP_skip ?_
          refine T_n ?_
          refine WP_seq ?_
          refine WP_block ?_
          refine WP_seq ?_
          refine WP_region ?_
          obtain ⟨x_24, hx_24⟩ : ∃ x, (keyL ((l0).flatten))[k]? = some x := ⟨_, List.getElem?_eq_getElem (by first | omega | (simp; done) | (simp; omega) | (simp_all; omega))⟩
          obtain ⟨p_25, hp_25, qp_25⟩ := hv_20.at hx_24
          refine S_v E rfl (R_idx E rfl rfl T24 hp_25 rfl) rfl ?_
          clear E a; intro a E
          refine S_v E rfl (R_loadM E rfl Try.isAgg3 S.imm qp_25) rfl ?_
          clear E a; intro a E
          refine S_v E rfl (R_assign E rfl) rfl ?_
          clear E a; intro a E
          refine WL_nil ?_
          refine T_n ?_
          refine WP_seq ?_
          refine WP_region ?_
          refine S_v E rfl (R_assign E rfl) rfl ?_
          clear E a; intro a E
          refine WL_nil ?_
          refine T_n ?_
          refine WP_seq ?_
          refine WP_seq ?_
          refine WP_region ?_
          refine S_v E rfl (R_move E rfl) rfl ?_
          clear E a; intro a E
          refine S_v E rfl (R_lenV E rfl T22 h0.len) rfl ?_
          clear E a; intro a E
          refine S_v E rfl (R_move E rfl) rfl ?_
          clear E a; intro a E
          refine WL_nil ?_
          refine T_n ?_
          refine WP_block ?_
          refine WP_loop (γ := Nat) (fun (j : Nat) a w => ∃ (M_26 : Hp), Hp.le M_22 M_26 ∧ St w M_26 (OwnI 3 u4 (((keyL l0.flatten).take k).filter (fun x => l0.all (fun m => decide (x ∈ m)))) :: H) ∧ Env a 81 [] [(0, v0), (3, v_20), (4, u4), (6, .int .i64 x_24), (7, .int .i64 ((((l0.take j).countP (fun m => decide ((keyL l0.flatten)[k]?.getD 0 ∈ m))) : Nat) : Int)), (31, v_20), (32, .int .i64 (((keyL ((l0).flatten)).length : Nat) : Int)), (33, .int .i64 ((k : Nat) : Int)), (37, v0), (38, .int .i64 (((l0).length : Nat) : Int)), (39, .int .i64 ((j : Nat) : Int))] ∧ (j ≤ (l0).length)) (fun j => ((l0).length) - j) 0 ⟨M_22, Hp.le.refl _, S, E.keep ⟨rfl, rfl, rfl, rfl, look_nat (i := 0) rfl (by (simp)), rfl, rfl, rfl, rfl, rfl, rfl, trivial⟩, by ((try clear S); (try clear E); first | assumption | omega | rfl | (simp; done) | (simp_all; done) | (simp [List.take_add_one, *]; done) | grind [List.take_add_one])⟩ ?_
          try clear E
          try clear S
          try clear a
          try clear w
          rintro j a w ⟨M_26, hM_26, S, E, hL1_0⟩
          replace h0 := h0.le hM_26
          replace hz_7 := hz_7.le hM_26
          replace hz_9 := hz_9.le hM_26
          replace hv_5 := hv_5.le hM_26
          replace hv_12 := hv_12.le hM_26
          replace hv_18 := hv_18.le hM_26
          replace hv_20 := hv_20.le hM_26
          have hcl := cnt_le l0 j (fun m => decide ((keyL l0.flatten)[k]?.getD 0 ∈ m))
          refine WP_seq ?_
          refine WP_region ?_
          refine S_v E rfl (R_lss E rfl rfl) rfl ?_
          clear E a; intro a E
          refine WL_nil ?_
          refine T_n ?_
          refine WP_seq ?_
          refine WP_cond E rfl (fun hc_27 => ?_) (fun hc_27 => ?_)
          · replace hc_27 := of_decide_eq_true hc_27
            refine WP_skip ?_
            refine T_n ?_
            refine WP_seq ?_
            refine WP_block ?_
            refine WP_seq ?_
            refine WP_region ?_
            obtain ⟨x_28, hx_28⟩ : ∃ x, (l0)[j]? = some x := ⟨_, List.getElem?_eq_getElem (by first | omega | (simp; done) | (simp; omega) | (simp_all; omega))⟩
            obtain ⟨p_29, u_30, hp_29, qp_29, hu_30⟩ := h0.at hx_28
            have bu_30 := hu_30.bound
            refine S_v E rfl (R_idx E rfl rfl T22 hp_29 rfl) rfl ?_
            clear E a; intro a E
            refine S_v E rfl (R_loadM E rfl Try.isAgg24 S.imm qp_29) rfl ?_
            clear E a; intro a E
            refine S_v E rfl (R_assign E rfl) rfl ?_
            clear E a; intro a E
            refine WL_nil ?_
            refine T_n ?_
            refine WP_seq ?_
            refine WP_region ?_
            refine S_v E rfl (R_move E rfl) rfl ?_
            clear E a; intro a E
            refine S_v E rfl (R_move E rfl) rfl ?_
            clear E a; intro a E
            refine S_x (X_pu E S rfl rfl rfl (laws_in hu_30) (Hp.le.refl _) ?_)
            clear E a S; rintro a _ w M_31 hM_31 rfl S E
            replace h0 := h0.le hM_31
            replace hz_7 := hz_7.le hM_31
            replace hz_9 := hz_9.le hM_31
            replace hv_5 := hv_5.le hM_31
            replace hv_12 := hv_12.le hM_31
            replace hv_18 := hv_18.le hM_31
            replace hv_20 := hv_20.le hM_31
            replace hu_30 := hu_30.le hM_31
            refine WL_nil ?_
            refine T_n ?_
            refine WP_cond E rfl (fun hc_32 => ?_) (fun hc_32 => ?_)
            · replace hc_32 := of_decide_eq_true hc_32
              refine WP_region ?_
              refine S_v E rfl (R_move E rfl) rfl ?_
              clear E a; intro a E
              refine S_v E rfl (R_addx (m := ((((l0.take j).countP (fun m => decide ((keyL l0.flatten)[k]?.getD 0 ∈ m))) + 1 : Nat) : Int)) E rfl rfl (by omega) (by omega)) rfl ?_
              clear E a; intro a E
              refine S_v E rfl (R_assign E rfl) rfl ?_
              clear E a; intro a E
              refine WL_nil ?_
              refine B_n ?_
              refine T_n ?_
              refine WP_region ?_
              refine S_v E rfl (R_addx (m := ((j + 1 : Nat) : Int)) E rfl rfl (by omega) (by omega)) rfl ?_
              clear E a; intro a E
              refine S_v E rfl (R_move E rfl) rfl ?_
              clear E a; intro a E
              refine WL_nil ?_
              refine T_n ?_
              exact ⟨j + 1, ⟨M_31, (hM_26.trans hM_31), S, E.keep ⟨rfl, rfl, rfl, rfl, look_nat (i := ((l0.take j).countP (fun m => decide ((keyL l0.flatten)[k]?.getD 0 ∈ m))) + 1) rfl (by (first | exact cnt_yes (by assumption) (by assumption) (by first | assumption | (simpa using (show decide (_ ∈ _) = true by assumption))) | exact cnt_no (by assumption) (by assumption) (by first | assumption | (simpa using (show decide (_ ∈ _) = false by assumption))))), rfl, rfl, rfl, rfl, rfl, rfl, trivial⟩, by ((try clear S); (try clear E); first | assumption | omega | rfl | (simp; done) | (simp_all; done) | (simp [List.take_add_one, *]; done) | grind [List.take_add_one])⟩, by omega⟩
            · replace hc_32 := of_decide_eq_false hc_32
              refine WP_skip ?_
              refine B_n ?_
              refine T_n ?_
              refine WP_region ?_
              refine S_v E rfl (R_addx (m := ((j + 1 : Nat) : Int)) E rfl rfl (by omega) (by omega)) rfl ?_
              clear E a; intro a E
              refine S_v E rfl (R_move E rfl) rfl ?_
              clear E a; intro a E
              refine WL_nil ?_
              refine T_n ?_
              exact ⟨j + 1, ⟨M_31, (hM_26.trans hM_31), S, E.keep ⟨rfl, rfl, rfl, rfl, look_nat (i := ((l0.take j).countP (fun m => decide ((keyL l0.flatten)[k]?.getD 0 ∈ m)))) rfl (by (first | exact cnt_yes (by assumption) (by assumption) (by first | assumption | (simpa using (show decide (_ ∈ _) = true by assumption))) | exact cnt_no (by assumption) (by assumption) (by first | assumption | (simpa using (show decide (_ ∈ _) = false by assumption))))), rfl, rfl, rfl, rfl, rfl, rfl, trivial⟩, by ((try clear S); (try clear E); first | assumption | omega | rfl | (simp; done) | (simp_all; done) | (simp [List.take_add_one, *]; done) | grind [List.take_add_one])⟩, by omega⟩
          · replace hc_27 := of_decide_eq_false hc_27
            refine WP_exit ?_
            refine T_x ?_
            refine T_x ?_
            refine B_x ?_
            refine T_n ?_
            refine WP_seq ?_
            refine WP_region ?_
            refine S_v E rfl (R_move E rfl) rfl ?_
            clear E a; intro a E
            refine S_v E rfl (R_move E rfl) rfl ?_
            clear E a; intro a E
            refine S_v E rfl (R_lenV E rfl T22 h0.len) rfl ?_
            clear E a; intro a E
            refine S_v E rfl (R_eql E rfl rfl) rfl ?_
            clear E a; intro a E
            refine WL_nil ?_
            refine T_n ?_
            refine WP_cond E rfl (fun hc_33 => ?_) (fun hc_33 => ?_)
            · replace hc_33 := of_decide_eq_true hc_33
              refine WP_region ?_
              refine S_v E rfl (R_move E rfl) rfl ?_
              clear E a; intro a E
              refine S_v E rfl (R_move E rfl) rfl ?_
              clear E a; intro a E
              refine S_x (X_buildI (ys := [x_24]) E S rfl T24 rfl rfl rfl ?_)
              clear E a S; rintro a w v_34 E S
              replace S := S.front1
              replace S := S.front1
              refine S_x (X_appendB (xs := ((keyL l0.flatten).take k).filter (fun x => l0.all (fun m => decide (x ∈ m)))) (ys := [x_24]) E S rfl rfl rfl T24 (by (simp at wl ⊢; omega)) ?_)
              clear E a S; rintro a w v_35 E S
              refine S_v E rfl (R_assign E rfl) rfl ?_
              clear E a; intro a E
              refine WL_nil ?_
              refine B_n ?_
              refine T_n ?_
              refine WP_region ?_
              refine S_v E rfl (R_addx (m := ((k + 1 : Nat) : Int)) E rfl rfl (by omega) (by omega)) rfl ?_
              clear E a; intro a E
              refine S_v E rfl (R_move E rfl) rfl ?_
              clear E a; intro a E
              refine WL_nil ?_
              refine T_n ?_
              replace S := S.re1 (l' := ((keyL l0.flatten).take (k + 1)).filter (fun x => l0.all (fun m => decide (x ∈ m)))) (by first | (simp; done) | (refine alw_yes (j := j) (by assumption) (by omega) ?_; omega) | (refine alw_no (j := j) (by assumption) (by omega) ?_; omega))
              exact ⟨k + 1, ⟨M_26, _, (hM_22.trans hM_26), S, E.keep ⟨rfl, rfl, rfl, rfl, rfl, rfl, trivial⟩, by ((try clear S); (try clear E); first | assumption | omega | rfl | (simp; done) | (simp_all; done) | (simp [List.take_add_one, *]; done) | grind [List.take_add_one])⟩, by omega⟩
            · replace hc_33 := of_decide_eq_false hc_33
              refine WP_skip ?_
              refine B_n ?_
              refine T_n ?_
              refine WP_region ?_
              refine S_v E rfl (R_addx (m := ((k + 1 : Nat) : Int)) E rfl rfl (by omega) (by omega)) rfl ?_
              clear E a; intro a E
              refine S_v E rfl (R_move E rfl) rfl ?_
              clear E a; intro a E
              refine WL_nil ?_
              refine T_n ?_
              replace S := S.re1 (l' := ((keyL l0.flatten).take (k + 1)).filter (fun x => l0.all (fun m => decide (x ∈ m)))) (by first | (simp; done) | (refine alw_yes (j := j) (by assumption) (by omega) ?_; omega) | (refine alw_no (j := j) (by assumption) (by omega) ?_; omega))
              exact ⟨k + 1, ⟨M_26, _, (hM_22.trans hM_26), S, E.keep ⟨rfl, rfl, rfl, rfl, rfl, rfl, trivial⟩, by ((try clear S); (try clear E); first | assumption | omega | rfl | (simp; done) | (simp_all; done) | (simp [List.take_add_one, *]; done) | grind [List.take_add_one])⟩, by omega⟩
        · replace hc_23 := of_decide_eq_false hc_23
          have etk : (keyL l0.flatten).take k = keyL l0.flatten := List.take_of_length_le (by omega)
          refine WP_exit ?_
          refine T_x ?_
          refine T_x ?_
          refine B_x ?_
          refine T_n ?_
          refine WP_seq ?_
          refine WP_region ?_
          refine S_v E rfl (R_move E rfl) rfl ?_
          clear E a; intro a E
          refine S_x (X_pu E S rfl rfl rfl (impl_Intersect h0 (by first | assumption | omega)) (Hp.le.refl _) ?_)
          clear E a S; rintro a v_37 w M_36 hM_36 hv_37 S E
          replace h0 := h0.le hM_36
          replace hz_7 := hz_7.le hM_36
          replace hz_9 := hz_9.le hM_36
          replace hv_5 := hv_5.le hM_36
          replace hv_12 := hv_12.le hM_36
          replace hv_18 := hv_18.le hM_36
          replace hv_20 := hv_20.le hM_36
          refine S_v E rfl (R_assign E rfl) rfl ?_
          clear E a; intro a E
          refine WL_nil ?_
          refine T_n ?_
          refine WP_seq ?_
          refine WP_region ?_
          refine S_v E rfl (R_move E rfl) rfl ?_
          clear E a; intro a E
          refine S_x (X_pu E S rfl rfl rfl (impl_Union h0 (by first | omega | decide)) (Hp.le.refl _) ?_)
          clear E a S; rintro a v_39 w M_38 hM_38 hv_39 S E
          replace h0 := h0.le hM_38
          replace hz_7 := hz_7.le hM_38
          replace hz_9 := hz_9.le hM_38
          replace hv_5 := hv_5.le hM_38
          replace hv_12 := hv_12.le hM_38
          replace hv_18 := hv_18.le hM_38
          replace hv_20 := hv_20.le hM_38
          replace hv_37 := hv_37.le hM_38
          refine S_v E rfl (R_move E rfl) rfl ?_
          clear E a; intro a E
          refine S_x (X_pu E S rfl rfl rfl (laws_eq hv_39 hv_20) (Hp.le.refl _) ?_)
          clear E a S; rintro a _ w M_40 hM_40 rfl S E
          replace h0 := h0.le hM_40
          replace hz_7 := hz_7.le hM_40
          replace hz_9 := hz_9.le hM_40
          replace hv_5 := hv_5.le hM_40
          replace hv_12 := hv_12.le hM_40
          replace hv_18 := hv_18.le hM_40
          replace hv_20 := hv_20.le hM_40
          replace hv_37 := hv_37.le hM_40
          replace hv_39 := hv_39.le hM_40
          refine S_v E rfl (R_move E rfl) rfl ?_
          clear E a; intro a E
          have hc_41 : (decide (keyL (l0).flatten = keyL ((l0).flatten))) = true := by first | (simp; done) | decide | (clear S E; simp only [same_isPerm]; (try rw [etk]); first | exact meet_perm l0 | (rw [meet_perm l0]; done) | (simp [meet_perm l0]; done))
          replace E := E.val (t := 63) rfl hc_41
          replace E := E.val (t := 64) rfl hc_41
          refine WL_guard_yes E rfl rfl ?_
          refine S_v E rfl (R_move E rfl) rfl ?_
          clear E a; intro a E
          refine WL_guard_yes E rfl rfl ?_
          refine S_x (X_pu E S rfl rfl rfl (impl_UnionSeq h0 (by first | omega | decide) (by first | omega | decide)) (Hp.le.refl _) ?_)
          clear E a S; rintro a v_43 w M_42 hM_42 hv_43 S E
          replace h0 := h0.le hM_42
          replace hz_7 := hz_7.le hM_42
          replace hz_9 := hz_9.le hM_42
          replace hv_5 := hv_5.le hM_42
          replace hv_12 := hv_12.le hM_42
          replace hv_18 := hv_18.le hM_42
          replace hv_20 := hv_20.le hM_42
          replace hv_37 := hv_37.le hM_42
          replace hv_39 := hv_39.le hM_42
          refine WL_guard_yes E rfl rfl ?_
          refine S_v E rfl (R_move E rfl) rfl ?_
          clear E a; intro a E
          refine WL_guard_yes E rfl rfl ?_
          refine S_x (X_pu E S rfl rfl rfl (laws_eq hv_43 hv_20) (Hp.le.refl _) ?_)
          clear E a S; rintro a _ w M_44 hM_44 rfl S E
          replace h0 := h0.le hM_44
          replace hz_7 := hz_7.le hM_44
          replace hz_9 := hz_9.le hM_44
          replace hv_5 := hv_5.le hM_44
          replace hv_12 := hv_12.le hM_44
          replace hv_18 := hv_18.le hM_44
          replace hv_20 := hv_20.le hM_44
          replace hv_37 := hv_37.le hM_44
          replace hv_39 := hv_39.le hM_44
          replace hv_43 := hv_43.le hM_44
          refine S_v E rfl (R_pickT E rfl rfl) rfl ?_
          clear E a; intro a E
          refine S_v E rfl (R_move E rfl) rfl ?_
          clear E a; intro a E
          have hc_45 : (decide (keyL (l0).flatten = keyL ((l0).flatten))) = true := by first | (simp; done) | decide | (clear S E; simp only [same_isPerm]; (try rw [etk]); first | exact meet_perm l0 | (rw [meet_perm l0]; done) | (simp [meet_perm l0]; done))
          replace E := E.val (t := 68) rfl hc_45
          replace E := E.val (t := 69) rfl hc_45
          replace E := E.val (t := 70) rfl hc_45
          refine WL_guard_yes E rfl rfl ?_
          refine S_v E rfl (R_move E rfl) rfl ?_
          clear E a; intro a E
          refine WL_guard_yes E rfl rfl ?_
          refine S_v E rfl (R_move E rfl) rfl ?_
          clear E a; intro a E
          have S0 := S; clear S
          obtain ⟨M_46, hM_46, hz_47, S⟩ := S0.freezeI (by (first | omega | (simp; omega) | (simp; done) | (simp_all; omega) | grind))
          clear S0
          replace h0 := h0.le hM_46
          replace hz_7 := hz_7.le hM_46
          replace hz_9 := hz_9.le hM_46
          replace hv_5 := hv_5.le hM_46
          replace hv_12 := hv_12.le hM_46
          replace hv_18 := hv_18.le hM_46
          replace hv_20 := hv_20.le hM_46
          replace hv_37 := hv_37.le hM_46
          replace hv_39 := hv_39.le hM_46
          replace hv_43 := hv_43.le hM_46
          refine WL_guard_yes E rfl rfl ?_
          refine S_x (X_pu E S rfl rfl rfl (laws_same hv_37 hz_47) (Hp.le.refl _) ?_)
          clear E a S; rintro a _ w M_48 hM_48 rfl S E
          replace h0 := h0.le hM_48
          replace hz_7 := hz_7.le hM_48
          replace hz_9 := hz_9.le hM_48
          replace hv_5 := hv_5.le hM_48
          replace hv_12 := hv_12.le hM_48
          replace hv_18 := hv_18.le hM_48
          replace hv_20 := hv_20.le hM_48
          replace hv_37 := hv_37.le hM_48
          replace hv_39 := hv_39.le hM_48
          replace hv_43 := hv_43.le hM_48
          replace hz_47 := hz_47.le hM_48
          refine S_v E rfl (R_pickT E rfl rfl) rfl ?_
          clear E a; intro a E
          refine S_v E rfl (R_move E rfl) rfl ?_
          clear E a; intro a E
          have hc_49 : (decide ((meetF (fun x => x) l0).length = (((keyL l0.flatten).take k).filter (fun x => l0.all (fun m => decide (x ∈ m)))).length ∧ ∀ x ∈ meetF (fun x => x) l0, (meetF (fun x => x) l0).count x = (((keyL l0.flatten).take k).filter (fun x => l0.all (fun m => decide (x ∈ m)))).count x)) = true := by first | (simp; done) | decide | (clear S E; simp only [same_isPerm]; (try rw [etk]); first | exact meet_perm l0 | (rw [meet_perm l0]; done) | (simp [meet_perm l0]; done))
          replace E := E.val (t := 73) rfl hc_49
          replace E := E.val (t := 74) rfl hc_49
          replace E := E.val (t := 75) rfl hc_49
          refine WL_guard_yes E rfl rfl ?_
          refine S_v E rfl (R_move E rfl) rfl ?_
          clear E a; intro a E
          refine WL_guard_yes E rfl rfl ?_
          refine S_x (X_pu E S rfl rfl rfl (impl_IntersectSeq h0 (by first | assumption | omega) (by first | assumption | omega)) (Hp.le.refl _) ?_)
          clear E a S; rintro a v_51 w M_50 hM_50 hv_51 S E
          replace h0 := h0.le hM_50
          replace hz_7 := hz_7.le hM_50
          replace hz_9 := hz_9.le hM_50
          replace hv_5 := hv_5.le hM_50
          replace hv_12 := hv_12.le hM_50
          replace hv_18 := hv_18.le hM_50
          replace hv_20 := hv_20.le hM_50
          replace hv_37 := hv_37.le hM_50
          replace hv_39 := hv_39.le hM_50
          replace hv_43 := hv_43.le hM_50
          replace hz_47 := hz_47.le hM_50
          refine WL_guard_yes E rfl rfl ?_
          refine S_v E rfl (R_move E rfl) rfl ?_
          clear E a; intro a E
          refine WL_guard_yes E rfl rfl ?_
          refine S_x (X_pu E S rfl rfl rfl (laws_same hv_51 hz_47) (Hp.le.refl _) ?_)
          clear E a S; rintro a _ w M_52 hM_52 rfl S E
          replace h0 := h0.le hM_52
          replace hz_7 := hz_7.le hM_52
          replace hz_9 := hz_9.le hM_52
          replace hv_5 := hv_5.le hM_52
          replace hv_12 := hv_12.le hM_52
          replace hv_18 := hv_18.le hM_52
          replace hv_20 := hv_20.le hM_52
          replace hv_37 := hv_37.le hM_52
          replace hv_39 := hv_39.le hM_52
          replace hv_43 := hv_43.le hM_52
          replace hz_47 := hz_47.le hM_52
          replace hv_51 := hv_51.le hM_52
          refine S_v E rfl (R_pickT E rfl rfl) rfl ?_
          clear E a; intro a E
          refine S_v E rfl (R_assign E rfl) rfl ?_
          clear E a; intro a E
          refine WL_nil ?_
          refine T_n ?_
          refine WP_ret ?_
          exact F_ret1 E Try.results3 rfl ⟨_, rfl, M_52, (hM_1.trans (hM_6.trans (hM_8.trans (hM_10.trans (hM_11.trans (hM_15.trans (hM_17.trans (hM_19.trans (hM_22.trans (hM_36.trans (hM_38.trans (hM_40.trans (hM_42.trans (hM_44.trans (hM_46.trans (hM_48.trans (hM_50.trans hM_52))))))))))))))))), (congrArg Value.bool (by first | (simp; done) | decide | (clear S E; simp only [same_isPerm]; (try rw [etk]); first | exact meet_perm l0 | (rw [meet_perm l0]; done) | (simp [meet_perm l0]; done)))), S⟩

end Go.Proofs.Ytbdacnblipmapaa.wFnUnionOrder
