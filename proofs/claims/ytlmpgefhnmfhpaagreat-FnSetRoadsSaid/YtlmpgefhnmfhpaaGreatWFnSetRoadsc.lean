/- Walks through the functions that laws.FnSetRoads reaches: what each computes; no conditions beyond what each theorem states. -/
import Derived.Test.YtlmpgefhnmfhpaaGreatWFnSetRoadsb
set_option linter.unusedVariables false
set_option linter.unusedSimpArgs false
namespace Go.Proofs.YtlmpgefhnmfhpaaGreat.wFnSetRoads
open Go Go.Sl
set_option maxRecDepth 100000 in
set_option maxHeartbeats 4000000 in
theorem it_Intersect1 {M : Hp} {v0 : Value} {l0 : List (List Int)} (h0 : RdS 1 (RSq Tryz.prog RInt) M v0 l0) (hne : 0 < l0.length) {bx1 : Nat} (hbx1 : M bx1 = some (.cells #[v0] 76)) :
    SeqV Tryz.prog (.func (.func 77) #[] #[.pointer (some ⟨bx1, 0, none⟩)]) M (RInt) (meetF (fun x => x) l0) := by
  refine SeqV_enter Tryz.func77 rfl Tryz.ntmps77 rfl Tryz.call77 ?_
  intro y J X a w M1 c H hJM hM1 hY hJ S E
  replace hbx1 := hM1.2 _ _ hbx1
  replace h0 := h0.le RSq_mono hM1
  have b0 := h0.bound
  refine WP_seq ?_
  refine WP_region ?_
  refine S_x (X_box (cs := #[y]) E S rfl rfl (cells_one hY.1) ?_)
  clear E a S; rintro a w b_1 E S
  obtain ⟨M_2, hM_2, hb_1, S⟩ := S.freezeB
  replace hbx1 := hM_2.2 _ _ hbx1
  replace h0 := h0.le RSq_mono hM_2
  replace hJ := hJM _ _ _ _ hM_2 hJ
  refine WL_nil ?_
  refine T_n ?_
  refine WP_seq ?_
  refine WP_region ?_
  refine S_v E rfl (R_loadM E rfl Tryz.isAgg76 S.imm (cellM_box hbx1)) rfl ?_
  clear E a; intro a E
  refine S_v E rfl (R_loadM E rfl Tryz.isAgg76 S.imm (cellM_box hbx1)) rfl ?_
  clear E a; intro a E
  refine S_v E rfl (R_lenV E rfl T76 h0.len) rfl ?_
  clear E a; intro a E
  refine S_v E rfl (R_subx (m := (((l0).length - 1 : Nat) : Int)) E rfl rfl (by omega) (by omega)) rfl ?_
  clear E a; intro a E
  obtain ⟨x_3, hx_3⟩ : ∃ x, (l0)[(l0).length - 1]? = some x := ⟨_, List.getElem?_eq_getElem (by first | omega | (simp; done) | (simp; omega) | (simp_all; omega))⟩
  obtain ⟨p_4, u_5, hp_4, qp_4, hu_5⟩ := RdQ.at h0 hx_3
  refine S_v E rfl (R_idx E rfl rfl T76 hp_4 rfl) rfl ?_
  clear E a; intro a E
  refine S_v E rfl (R_loadM E rfl Tryz.isAgg74 S.imm qp_4) rfl ?_
  clear E a; intro a E
  refine S_v E rfl (R_assign E rfl) rfl ?_
  clear E a; intro a E
  refine WL_nil ?_
  refine T_n ?_
  refine WP_seq ?_
  refine WP_region ?_
  refine S_x (X_makeMap E S rfl ?_)
  clear E a S; rintro a w b_6 E S
  replace S : St w M_2 (OwnE Value.bool b_6 ([] : List (Int × Bool)) :: _) := S
  refine S_x (X_alloc (cs := #[.map none]) E S rfl Tryz.zeroValue106 rfl ?_)
  clear E a S; rintro a w b_7 E S
  refine S_x0 (X_store E S rfl rfl (Tryz.sizeOf106 _) rfl ?_)
  clear E a S; rintro a w E S
  refine WL_nil ?_
  refine T_n ?_
  refine WP_seq ?_
  refine WP_seq ?_
  refine WP_region ?_
  refine S_v E rfl (R_move E rfl) rfl ?_
  clear E a; intro a E
  refine WL_nil ?_
  refine T_n ?_
  refine WP_block ?_
  replace S := S.front3
  replace S := S.front2
  replace S := S.front2
  replace E := E.keep (l' := [(1, .pointer (some ⟨bx1, 0, none⟩)), (2, .pointer (some ⟨b_1, 0, none⟩)), (4, .pointer (some ⟨b_7, 0, none⟩)), (22, u_5)]) ⟨rfl, rfl, rfl, rfl, trivial⟩
  replace S := S.front2
  replace S := S.front2
  replace S := S.reM (L' := (encE Value.bool (bmap (keyL ((([] : List Int)).map (fun x => x))) (fun _ => false)))) (congrArg (encE Value.bool) (show ([] : List (Int × Bool)) = bmap (keyL ((([] : List Int)).map (fun x => x))) (fun _ => false) by first | (simp [bmap, keyL]; done) | exact ad_seq (fun x => x)))
  replace S := S.front2
  have S0 := S; clear S; have S := St.pack [blk b_7 (.cells #[.map (some b_6)] 106), OwnE Value.bool b_6 (bmap (keyL ((([] : List Int)).map (fun x => x))) (fun _ => false)), c] S0; clear S0
  refine WP_range (RV := RInt) (l := x_3) (fun pre M c => ∃ (c0 : HProp), c = bigs [blk b_7 (.cells #[.map (some b_6)] 106), OwnE Value.bool b_6 (bmap (keyL ((pre).map (fun x => x))) (fun _ => false)), c0] ∧ (J ([] : List Int) M c0)) (fun _ _ _ _ => False) E S rfl hu_5 (Hp.le.refl _) (fun _ _ _ h => by rw [h]; rfl) (by decide) (by rintro _ M M' c hM ⟨c0, rfl, f0⟩; exact ⟨_, rfl, hJM _ _ _ _ hM f0⟩) ⟨_, rfl, J_eq hJ (by ((try clear S); (try clear E); first | assumption | omega | rfl | (simp; done) | (simp_all; done) | (simp [List.take_add_one, *]; done) | grind [List.take_add_one]))⟩ ?_ ?_ ?_
  clear E S
  · rintro lb_9 rec_10 pre x _ a w M_8 _ G hM_8 hp_11 rfl ⟨c0, rfl, f0⟩ E S
    replace E : Env a 81 [] [(23, .int .i64 x), (1, .pointer (some ⟨bx1, 0, none⟩)), (2, .pointer (some ⟨b_1, 0, none⟩)), (4, .pointer (some ⟨b_7, 0, none⟩)), (22, u_5)] := E
    replace S := S.swap.unpack3
    have hq0 := prefix_lt hp_11
    replace hbx1 := hM_8.2 _ _ hbx1
    replace h0 := h0.le RSq_mono hM_8
    replace hb_1 := hM_8.2 _ _ hb_1
    replace hu_5 := hu_5.le hM_8
    refine WP_region ?_
    refine S_v E rfl (R_assign E rfl) rfl ?_
    clear E a; intro a E
    refine WL_nil ?_
    refine T_n ?_
    replace S := S.front3
    refine rb S ?_
    clear S; intro w S
    refine WP_block ?_
    refine WP_region ?_
    refine S_v E rfl (R_load E rfl (Tryz.isAgg106 _) (cell_blk (S.mem (.tail _ (.head _))))) rfl ?_
    clear E a; intro a E
    refine S_v E rfl (R_move E rfl) rfl ?_
    clear E a; intro a E
    replace S := S.front2
    refine S_x0 (X_updateE (vf := Value.bool) (u := false) E S MT106 rfl rfl rfl ?_)
    clear E a S; rintro a w E S
    refine WL_nil ?_
    refine B_n ?_
    replace S := S.front3
    replace S := S.front1
    replace S := S.front3
    replace S := S.front2
    replace S := S.front2
    replace S := S.reM (L' := (encE Value.bool (bmap (keyL (((pre ++ [x])).map (fun x => x))) (fun _ => false)))) (congrArg (encE Value.bool) (show putK (bmap (keyL ((pre).map (fun x => x))) (fun _ => false)) x false = bmap (keyL (((pre ++ [x])).map (fun x => x))) (fun _ => false) by first | (simp [bmap, keyL]; done) | exact ad_seq (fun x => x)))
    replace S := S.front2
    have S0 := S; clear S; have S := (St.pack [blk b_7 (.cells #[.map (some b_6)] 106), OwnE Value.bool b_6 (bmap (keyL (((pre ++ [x])).map (fun x => x))) (fun _ => false)), c0] S0).swap; clear S0
    exact ⟨M_8, _, (Hp.le.refl _), ⟨_, rfl, J_eq f0 (by ((try clear S); (try clear E); first | assumption | omega | rfl | (simp; done) | (simp_all; done) | (simp [List.take_add_one, *]; done) | grind [List.take_add_one]))⟩, S⟩
  · rintro a w M_13 _ D_14 hM_13 ⟨c0, rfl, f0⟩ S E
    replace S := S.unpack3
    replace hbx1 := hM_13.2 _ _ hbx1
    replace h0 := h0.le RSq_mono hM_13
    replace hb_1 := hM_13.2 _ _ hb_1
    replace hu_5 := hu_5.le hM_13
    refine B_n ?_
    refine T_n ?_
    refine WP_seq ?_
    refine WP_seq ?_
    refine WP_region ?_
    refine S_v E rfl (R_loadM E rfl Tryz.isAgg76 S.imm (cellM_box hbx1)) rfl ?_
    clear E a; intro a E
    refine S_v E rfl (R_lenV E rfl T76 h0.len) rfl ?_
    clear E a; intro a E
    refine S_v E rfl (R_subx (m := (((l0).length : Nat) : Int) - 2) E rfl rfl (by omega) (by omega)) rfl ?_
    clear E a; intro a E
    refine S_v E rfl (R_assign E rfl) rfl ?_
    clear E a; intro a E
    refine WL_nil ?_
    refine T_n ?_
    refine WP_block ?_
    replace S := S.front1
    replace S := S.reM (L' := (encE Value.bool (bmap (sjI (fun x => x) l0 0) (fun _ => false)))) (congrArg (encE Value.bool) (show bmap (keyL ((x_3).map (fun x => x))) (fun _ => false) = bmap (sjI (fun x => x) l0 0) (fun _ => false) by first | (show _ = bmap (keyL _) _; rw [(at_get (n := l0.length - 1) (by assumption) (by omega))]; done) | (rw [sd_end (by assumption)]; rfl)))
    refine WP_loop (γ := Nat) (fun (j : Nat) a w => ∃ (M_15 : Hp) (cL1 : HProp) (Ds1 : List Nat), Hp.le M_13 M_15 ∧ St w M_15 (OwnE Value.bool b_6 (bmap (sjI (fun x => x) l0 j) (fun _ => false)) :: blk b_7 (.cells #[.map (some b_6)] 106) :: cL1 :: mks Ds1 :: H) ∧ Env a 81 (Ds1.map mk) [(1, .pointer (some ⟨bx1, 0, none⟩)), (2, .pointer (some ⟨b_1, 0, none⟩)), (4, .pointer (some ⟨b_7, 0, none⟩)), (6, .int .i64 ((l0.length : Int) - 2 - (j : Int)))] ∧ (j ≤ l0.length - 2) ∧ J ([] : List Int) M_15 cL1) (fun j => l0.length - j) 0 ⟨M_13, _, _, Hp.le.refl _, S, E.keep ⟨rfl, rfl, rfl, look_int (i := (((l0).length : Nat) : Int) - 2) rfl (by (omega)), trivial⟩, (by omega), J_eq f0 (by ((try clear S); (try clear E); first | assumption | omega | rfl | (simp; done) | (simp_all; done) | (simp [List.take_add_one, *]; done) | grind [List.take_add_one]))⟩ ?_
    try clear E
    try clear S
    try clear a
    try clear w
    rintro j a w ⟨M_15, cL1, Ds1, hM_15, S, E, hL1_0, f0⟩
    replace hbx1 := hM_15.2 _ _ hbx1
    replace h0 := h0.le RSq_mono hM_15
    replace hb_1 := hM_15.2 _ _ hb_1
    replace hu_5 := hu_5.le hM_15
    refine WP_seq ?_
    refine WP_seq ?_
    refine WP_region ?_
    refine S_v E rfl (R_move E rfl) rfl ?_
    clear E a; intro a E
    refine S_v E rfl (R_gtr E rfl rfl) rfl ?_
    clear E a; intro a E
    refine S_v E rfl (R_move E rfl) rfl ?_
    clear E a; intro a E
    refine split_bool (decide (0 < (l0.length : Int) - 2 - (j : Int))) (fun hc_16 => ?_) (fun hc_16 => ?_)
    · replace E := E.val (t := 30) rfl hc_16
      replace E := E.val (t := 31) rfl hc_16
      replace hc_16 := of_decide_eq_true hc_16
      refine WL_guard_yes E rfl rfl ?_
      refine S_v E rfl (R_load E rfl (Tryz.isAgg106 _) (cell_blk (S.mem (.tail _ (.head _))))) rfl ?_
      clear E a; intro a E
      refine WL_guard_yes E rfl rfl ?_
      refine S_v E rfl ((R_lenO E S MT106 rfl).trans (by rw [encE_len])) rfl ?_
      clear E a; intro a E
      refine WL_guard_yes E rfl rfl ?_
      refine S_v E rfl (R_neq E rfl rfl) rfl ?_
      clear E a; intro a E
      refine S_v E rfl (R_pickT E rfl rfl) rfl ?_
      clear E a; intro a E
      refine WL_nil ?_
      refine T_n ?_
      refine WP_cond E rfl (fun hc_17 => ?_) (fun hc_17 => ?_)
      · replace hc_17 := of_decide_eq_true hc_17
        refine WP_skip ?_
        refine T_n ?_
        refine WP_seq ?_
        refine WP_block ?_
        refine WP_seq ?_
        refine WP_seq ?_
        refine WP_region ?_
        refine S_v E rfl (R_loadM E rfl Tryz.isAgg76 S.imm (cellM_box hbx1)) rfl ?_
        clear E a; intro a E
        refine S_v E rfl (R_move E rfl) rfl ?_
        clear E a; intro a E
        obtain ⟨x_18, hx_18⟩ : ∃ x, (l0)[((l0.length : Int) - 2 - (j : Int)).toNat]? = some x := ⟨_, List.getElem?_eq_getElem (by first | omega | (simp; done) | (simp; omega) | (simp_all; omega))⟩
        obtain ⟨p_19, u_20, hp_19, qp_19, hu_20⟩ := RdQ.at h0 hx_18
        refine S_v E rfl (R_idx E rfl rfl T76 hp_19 (by omega)) rfl ?_
        clear E a; intro a E
        refine S_v E rfl (R_loadM E rfl Tryz.isAgg74 S.imm qp_19) rfl ?_
        clear E a; intro a E
        refine WL_nil ?_
        refine T_n ?_
        refine WP_block ?_
        replace S := S.front1
        replace S := S.front2
        replace S := S.front2
        replace S := S.front2
        replace E := E.keep (l' := [(1, .pointer (some ⟨bx1, 0, none⟩)), (2, .pointer (some ⟨b_1, 0, none⟩)), (4, .pointer (some ⟨b_7, 0, none⟩)), (6, .int .i64 ((l0.length : Int) - 2 - (j : Int))), (41, u_20)]) ⟨rfl, rfl, rfl, rfl, rfl, trivial⟩
        replace S := S.front2
        replace S := S.front2
        replace S := S.reM (L' := (encE Value.bool (bmap (sjI (fun x => x) l0 j) (mkd ((([] : List Int)).map (fun x => x)))))) (congrArg (encE Value.bool) (show bmap (sjI (fun x => x) l0 j) (fun _ => false) = bmap (sjI (fun x => x) l0 j) (mkd ((([] : List Int)).map (fun x => x))) by first | (rw [List.map_nil, mk_start]; done) | (refine sq_yes (fun x => x) (sj_nodup _ _ _) ?_; assumption) | (refine sq_no (fun x => x) ?_; assumption)))
        replace S := S.front2
        have S0 := S; clear S; have S := St.pack [blk b_7 (.cells #[.map (some b_6)] 106), OwnE Value.bool b_6 (bmap (sjI (fun x => x) l0 j) (mkd ((([] : List Int)).map (fun x => x)))), cL1] S0; clear S0
        refine WP_range (RV := RInt) (l := x_18) (fun pre M c => ∃ (c2 : HProp), c = bigs [blk b_7 (.cells #[.map (some b_6)] 106), OwnE Value.bool b_6 (bmap (sjI (fun x => x) l0 j) (mkd ((pre).map (fun x => x)))), c2] ∧ (J ([] : List Int) M c2)) (fun _ _ _ _ => False) E S rfl hu_20 (Hp.le.refl _) (fun _ _ _ h => by rw [h]; rfl) (by decide) (by rintro _ M M' c hM ⟨c2, rfl, f0⟩; exact ⟨_, rfl, hJM _ _ _ _ hM f0⟩) ⟨_, rfl, J_eq f0 (by ((try clear S); (try clear E); first | assumption | omega | rfl | (simp; done) | (simp_all; done) | (simp [List.take_add_one, *]; done) | grind [List.take_add_one]))⟩ ?_ ?_ ?_
        clear E S
        · rintro lb_22 rec_23 pre x _ a w M_21 _ G hM_21 hp_24 rfl ⟨c2, rfl, f0⟩ E S
          replace E : Env a 81 [] [(42, .int .i64 x), (1, .pointer (some ⟨bx1, 0, none⟩)), (2, .pointer (some ⟨b_1, 0, none⟩)), (4, .pointer (some ⟨b_7, 0, none⟩)), (6, .int .i64 ((l0.length : Int) - 2 - (j : Int))), (41, u_20)] := E
          replace S := S.swap.unpack3
          have hq2 := prefix_lt hp_24
          replace hbx1 := hM_21.2 _ _ hbx1
          replace h0 := h0.le RSq_mono hM_21
          replace hb_1 := hM_21.2 _ _ hb_1
          replace hu_5 := hu_5.le hM_21
          replace hu_20 := hu_20.le hM_21
          refine WP_region ?_
          refine S_v E rfl (R_assign E rfl) rfl ?_
          clear E a; intro a E
          refine WL_nil ?_
          refine T_n ?_
          replace S := S.front3
          refine rb S ?_
          clear S; intro w S
          refine WP_block ?_
          refine WP_seq ?_
          refine WP_region ?_
          refine S_v E rfl (R_load E rfl (Tryz.isAgg106 _) (cell_blk (S.mem (.tail _ (.head _))))) rfl ?_
          clear E a; intro a E
          refine S_v E rfl (R_move E rfl) rfl ?_
          clear E a; intro a E
          replace S := S.front2
          refine S_x (X_lookupE (vf := Value.bool) (zb := false) E S rfl MT106 rfl rfl ?_)
          clear E a S; rintro a w E S
          replace S : St w M_21 (OwnE Value.bool b_6 (bmap (sjI (fun x => x) l0 j) (mkd ((pre).map (fun x => x)))) :: _) := S
          refine S_v E rfl (R_move E rfl) rfl ?_
          clear E a; intro a E
          refine S_v E rfl (R_extract E rfl rfl) rfl ?_
          clear E a; intro a E
          refine S_v E rfl (R_extract E rfl rfl) rfl ?_
          clear E a; intro a E
          refine S_v E rfl (R_assign E rfl) rfl ?_
          clear E a; intro a E
          refine S_v E rfl (R_assign E rfl) rfl ?_
          clear E a; intro a E
          refine WL_nil ?_
          refine T_n ?_
          refine WP_seq ?_
          refine WP_region ?_
          refine S_v E rfl (R_move E rfl) rfl ?_
          clear E a; intro a E
          refine WL_nil ?_
          refine T_n ?_
          refine WP_cond E rfl (fun hc_26 => ?_) (fun hc_26 => ?_)
          · refine WP_region ?_
            refine S_v E rfl (R_load E rfl (Tryz.isAgg106 _) (cell_blk (S.mem (.tail _ (.tail _ (.head _)))))) rfl ?_
            clear E a; intro a E
            refine S_v E rfl (R_move E rfl) rfl ?_
            clear E a; intro a E
            refine S_x0 (X_updateE (vf := Value.bool) (u := true) E S MT106 rfl rfl rfl ?_)
            clear E a S; rintro a w E S
            refine WL_nil ?_
            refine B_n ?_
            replace S := S.front3
            replace S := S.front1
            replace S := S.front3
            replace S := S.front2
            replace S := S.front2
            replace S := S.reM (L' := (encE Value.bool (bmap (sjI (fun x => x) l0 j) (mkd (((pre ++ [x])).map (fun x => x)))))) (congrArg (encE Value.bool) (show putK (bmap (sjI (fun x => x) l0 j) (mkd ((pre).map (fun x => x)))) x true = bmap (sjI (fun x => x) l0 j) (mkd (((pre ++ [x])).map (fun x => x))) by first | (rw [List.map_nil, mk_start]; done) | (refine sq_yes (fun x => x) (sj_nodup _ _ _) ?_; assumption) | (refine sq_no (fun x => x) ?_; assumption)))
            replace S := S.front2
            have S0 := S; clear S; have S := (St.pack [blk b_7 (.cells #[.map (some b_6)] 106), OwnE Value.bool b_6 (bmap (sjI (fun x => x) l0 j) (mkd (((pre ++ [x])).map (fun x => x)))), c2] S0).swap; clear S0
            exact ⟨M_21, _, (Hp.le.refl _), ⟨_, rfl, J_eq f0 (by ((try clear S); (try clear E); first | assumption | omega | rfl | (simp; done) | (simp_all; done) | (simp [List.take_add_one, *]; done) | grind [List.take_add_one]))⟩, S⟩
          · refine WP_skip ?_
            refine B_n ?_
            replace S := S.front3
            replace S := S.front1
            replace S := S.front3
            replace S := S.front2
            replace S := S.front2
            replace S := S.reM (L' := (encE Value.bool (bmap (sjI (fun x => x) l0 j) (mkd (((pre ++ [x])).map (fun x => x)))))) (congrArg (encE Value.bool) (show bmap (sjI (fun x => x) l0 j) (mkd ((pre).map (fun x => x))) = bmap (sjI (fun x => x) l0 j) (mkd (((pre ++ [x])).map (fun x => x))) by first | (rw [List.map_nil, mk_start]; done) | (refine sq_yes (fun x => x) (sj_nodup _ _ _) ?_; assumption) | (refine sq_no (fun x => x) ?_; assumption)))
            replace S := S.front2
            have S0 := S; clear S; have S := (St.pack [blk b_7 (.cells #[.map (some b_6)] 106), OwnE Value.bool b_6 (bmap (sjI (fun x => x) l0 j) (mkd (((pre ++ [x])).map (fun x => x)))), c2] S0).swap; clear S0
            exact ⟨M_21, _, (Hp.le.refl _), ⟨_, rfl, J_eq f0 (by ((try clear S); (try clear E); first | assumption | omega | rfl | (simp; done) | (simp_all; done) | (simp [List.take_add_one, *]; done) | grind [List.take_add_one]))⟩, S⟩
        · rintro a w M_27 _ D_28 hM_27 ⟨c2, rfl, f0⟩ S E
          replace S := S.unpack3
          replace hbx1 := hM_27.2 _ _ hbx1
          replace h0 := h0.le RSq_mono hM_27
          replace hb_1 := hM_27.2 _ _ hb_1
          replace hu_5 := hu_5.le hM_27
          replace hu_20 := hu_20.le hM_27
          refine B_n ?_
          refine T_n ?_
          refine WP_seq ?_
          refine WP_region ?_
          refine S_v E rfl (R_load E rfl (Tryz.isAgg106 _) (cell_blk (S.mem (.head _)))) rfl ?_
          clear E a; intro a E
          replace S := S.front1
          refine S_x (X_rangeW E S rfl MT106 rfl ?_)
          clear E a S; rintro a w i_29 E S
          replace S : St w M_27 (ItW b_6 i_29 (encE Value.bool (bmap (sjI (fun x => x) l0 j) (mkd ((x_18).map (fun x => x))))) ([] : List Int) none :: _) := S
          refine WL_nil ?_
          refine T_n ?_
          refine WP_block ?_
          replace S := S.reW (L' := (encE Value.bool (stepD (sjI (fun x => x) l0 j) (mkd ((l0.getD (l0.length - 2 - j) []).map (fun x => x))) []))) (D' := []) (congrArg (encE Value.bool) (show bmap (sjI (fun x => x) l0 j) (mkd ((x_18).map (fun x => x))) = stepD (sjI (fun x => x) l0 j) (mkd ((l0.getD (l0.length - 2 - j) []).map (fun x => x))) [] by first | (rw [(at_get (n := l0.length - 2 - j) (by assumption) (by omega)), sd_start]; done) | (refine sd_yes (sj_nodup _ _ _) (by assumption) (by assumption) ?_; first | rfl | assumption) | (refine sd_nof (by assumption) (by assumption) ?_; first | rfl | assumption))) (show ([] : List Int) = [] by first | rfl | (simp; done))
          refine WP_loop (γ := List Int) (fun (dd : List Int) a w => ∃ (M_30 : Hp) (cL3 : HProp), Hp.le M_27 M_30 ∧ St w M_30 (ItW b_6 i_29 (encE Value.bool (stepD (sjI (fun x => x) l0 j) (mkd ((l0.getD (l0.length - 2 - j) []).map (fun x => x))) dd)) dd none :: blk b_7 (.cells #[.map (some b_6)] 106) :: cL3 :: mks (D_28 :: Ds1) :: H) ∧ Env a 81 ((D_28 :: Ds1).map mk) [(1, .pointer (some ⟨bx1, 0, none⟩)), (2, .pointer (some ⟨b_1, 0, none⟩)), (4, .pointer (some ⟨b_7, 0, none⟩)), (6, .int .i64 ((l0.length : Int) - 2 - (j : Int))), (53, .pointer (some ⟨i_29, 0, none⟩))] ∧ (dd.Nodup) ∧ (∀ z ∈ dd, z ∈ sjI (fun x => x) l0 j) ∧ J ([] : List Int) M_30 cL3) (fun dd => (sjI (fun x => x) l0 j).length - dd.length) [] ⟨M_27, _, Hp.le.refl _, S, E.keep ⟨rfl, rfl, rfl, rfl, rfl, trivial⟩, (by simp), (by simp), J_eq f0 (by ((try clear S); (try clear E); first | assumption | omega | rfl | (simp; done) | (simp_all; done) | (simp [List.take_add_one, *]; done) | grind [List.take_add_one]))⟩ ?_
          try clear E
          try clear S
          try clear a
          try clear w
          rintro dd a w ⟨M_30, cL3, hM_30, S, E, hL3_0, hL3_1, f0⟩
          replace hbx1 := hM_30.2 _ _ hbx1
          replace h0 := h0.le RSq_mono hM_30
          replace hb_1 := hM_30.2 _ _ hb_1
          replace hu_5 := hu_5.le hM_30
          replace hu_20 := hu_20.le hM_30
          refine WP_seq ?_
          refine WP_region ?_
          refine S_x (X_nextWE (vf := Value.bool) E S rfl rfl ?_ ?_)
          · clear E a S; rintro a E hpm_31 S
            refine S_v E rfl (R_extract E rfl rfl) rfl ?_
            clear E a; intro a E
            refine WL_nil ?_
            refine T_n ?_
            refine WP_seq ?_
            refine WP_condF E rfl rfl ?_
            refine WP_exit ?_
            refine T_x ?_
            refine T_x ?_
            refine B_x ?_
            refine B_n ?_
            refine T_n ?_
            refine WP_region ?_
            refine S_v E rfl (R_move E rfl) rfl ?_
            clear E a; intro a E
            refine S_v E rfl (R_subx (m := ((l0.length : Int) - 2 - (j : Int)) - 1) E rfl rfl (by omega) (by omega)) rfl ?_
            clear E a; intro a E
            refine S_v E rfl (R_assign E rfl) rfl ?_
            clear E a; intro a E
            refine WL_nil ?_
            refine T_n ?_
            replace S := S.reM (L' := (encE Value.bool (bmap (sjI (fun x => x) l0 (j + 1)) (fun _ => false)))) (congrArg (encE Value.bool) (show stepD (sjI (fun x => x) l0 j) (mkd ((l0.getD (l0.length - 2 - j) []).map (fun x => x))) dd = bmap (sjI (fun x => x) l0 (j + 1)) (fun _ => false) by first | (show _ = bmap (keyL _) _; rw [(at_get (n := l0.length - 1) (by assumption) (by omega))]; done) | (rw [sd_end (by assumption)]; rfl)))
            exact ⟨j + 1, ⟨M_30, _, _, (hM_15.trans (hM_27.trans hM_30)), S, E.keep ⟨rfl, rfl, rfl, look_int (i := ((l0.length : Int) - 2 - (j : Int)) - 1) rfl (by (omega)), trivial⟩, (by omega), J_eq f0 (by ((try clear S); (try clear E); first | assumption | omega | rfl | (simp; done) | (simp_all; done) | (simp [List.take_add_one, *]; done) | grind [List.take_add_one]))⟩, by omega⟩
          · clear E a S w; rintro a w k_32 u_34 E hk_33 hk_33n S
            refine S_v E rfl (R_extract E rfl rfl) rfl ?_
            clear E a; intro a E
            refine WL_nil ?_
            refine T_n ?_
            refine WP_seq ?_
            refine WP_condT E rfl rfl ?_
            refine WP_skip ?_
            refine T_n ?_
            refine WP_block ?_
            refine WP_seq ?_
            refine WP_region ?_
            refine S_v E rfl (R_entryW E S rfl) rfl ?_
            clear E a; intro a E
            refine S_v E rfl (R_extract E rfl rfl) rfl ?_
            clear E a; intro a E
            refine S_v E rfl (R_extract E rfl rfl) rfl ?_
            clear E a; intro a E
            refine S_v E rfl (R_assign E rfl) rfl ?_
            clear E a; intro a E
            refine S_v E rfl (R_assign E rfl) rfl ?_
            clear E a; intro a E
            refine WL_nil ?_
            refine T_n ?_
            refine WP_seq ?_
            refine WP_region ?_
            refine S_v E rfl (R_move E rfl) rfl ?_
            clear E a; intro a E
            refine WL_nil ?_
            refine T_n ?_
            refine WP_cond E rfl (fun hc_35 => ?_) (fun hc_35 => ?_)
            · refine WP_region ?_
              refine S_v E rfl (R_load E rfl (Tryz.isAgg106 _) (cell_blk (S.mem (.tail _ (.head _))))) rfl ?_
              clear E a; intro a E
              refine S_v E rfl (R_move E rfl) rfl ?_
              clear E a; intro a E
              refine S_x0 (X_updateWE (vf := Value.bool) (u := false) E S MT106 rfl rfl rfl (by exact List.mem_map_of_mem (f := Prod.fst) (by assumption)) ?_)
              clear E a S; rintro a w E S
              refine WL_nil ?_
              refine B_n ?_
              refine T_n ?_
              replace S := S.reW (L' := (encE Value.bool (stepD (sjI (fun x => x) l0 j) (mkd ((l0.getD (l0.length - 2 - j) []).map (fun x => x))) (dd ++ [k_32])))) (D' := (dd ++ [k_32])) (congrArg (encE Value.bool) (show putK (stepD (sjI (fun x => x) l0 j) (mkd ((l0.getD (l0.length - 2 - j) []).map (fun x => x))) dd) k_32 false = stepD (sjI (fun x => x) l0 j) (mkd ((l0.getD (l0.length - 2 - j) []).map (fun x => x))) (dd ++ [k_32]) by first | (rw [(at_get (n := l0.length - 2 - j) (by assumption) (by omega)), sd_start]; done) | (refine sd_yes (sj_nodup _ _ _) (by assumption) (by assumption) ?_; first | rfl | assumption) | (refine sd_nof (by assumption) (by assumption) ?_; first | rfl | assumption))) (show dd ++ [k_32] = (dd ++ [k_32]) by first | rfl | (simp; done))
              exact ⟨(dd ++ [k_32]), ⟨M_30, _, hM_30, S, E.keep ⟨rfl, rfl, rfl, rfl, rfl, trivial⟩, (by exact told_nodup (by assumption) (by assumption)), (by exact told_sub (by assumption) (by assumption) (by assumption)), J_eq f0 (by ((try clear S); (try clear E); first | assumption | omega | rfl | (simp; done) | (simp_all; done) | (simp [List.take_add_one, *]; done) | grind [List.take_add_one]))⟩, (by have hlt := told_lt (by assumption) (by assumption) (by assumption) (by assumption); simp; omega)⟩
            · refine WP_region ?_
              refine S_v E rfl (R_load E rfl (Tryz.isAgg106 _) (cell_blk (S.mem (.tail _ (.head _))))) rfl ?_
              clear E a; intro a E
              refine S_v E rfl (R_move E rfl) rfl ?_
              clear E a; intro a E
              refine S_x0 (X_delete0WE (vf := Value.bool) E S MT106 rfl rfl ?_)
              clear E a S; rintro a w E S
              refine WL_nil ?_
              refine B_n ?_
              refine T_n ?_
              replace S := S.reW (L' := (encE Value.bool (stepD (sjI (fun x => x) l0 j) (mkd ((l0.getD (l0.length - 2 - j) []).map (fun x => x))) (dd ++ [k_32])))) (D' := (dd ++ [k_32])) (congrArg (encE Value.bool) (show delK (stepD (sjI (fun x => x) l0 j) (mkd ((l0.getD (l0.length - 2 - j) []).map (fun x => x))) dd) k_32 = stepD (sjI (fun x => x) l0 j) (mkd ((l0.getD (l0.length - 2 - j) []).map (fun x => x))) (dd ++ [k_32]) by first | (rw [(at_get (n := l0.length - 2 - j) (by assumption) (by omega)), sd_start]; done) | (refine sd_yes (sj_nodup _ _ _) (by assumption) (by assumption) ?_; first | rfl | assumption) | (refine sd_nof (by assumption) (by assumption) ?_; first | rfl | assumption))) (show dd ++ [k_32] = (dd ++ [k_32]) by first | rfl | (simp; done))
              exact ⟨(dd ++ [k_32]), ⟨M_30, _, hM_30, S, E.keep ⟨rfl, rfl, rfl, rfl, rfl, trivial⟩, (by exact told_nodup (by assumption) (by assumption)), (by exact told_sub (by assumption) (by assumption) (by assumption)), J_eq f0 (by ((try clear S); (try clear E); first | assumption | omega | rfl | (simp; done) | (simp_all; done) | (simp [List.take_add_one, *]; done) | grind [List.take_add_one]))⟩, (by have hlt := told_lt (by assumption) (by assumption) (by assumption) (by assumption); simp; omega)⟩
        · rintro _ _ _ _ _ _ _ _ _ hX; exact hX.elim
      · replace hc_17 := of_decide_eq_false hc_17
        refine WP_exit ?_
        refine T_x ?_
        refine T_x ?_
        refine B_x ?_
        refine T_n ?_
        refine WP_seq ?_
        refine WP_region ?_
        refine S_v E rfl (R_loadM E rfl Tryz.isAgg76 S.imm (cellM_box hbx1)) rfl ?_
        clear E a; intro a E
        obtain ⟨x_36, hx_36⟩ : ∃ x, (l0)[0]? = some x := ⟨_, List.getElem?_eq_getElem (by first | omega | (simp; done) | (simp; omega) | (simp_all; omega))⟩
        obtain ⟨p_37, u_38, hp_37, qp_37, hu_38⟩ := RdQ.at h0 hx_36
        refine S_v E rfl (R_idx E rfl rfl T76 hp_37 (by omega)) rfl ?_
        clear E a; intro a E
        refine S_v E rfl (R_loadM E rfl Tryz.isAgg74 S.imm qp_37) rfl ?_
        clear E a; intro a E
        refine WL_nil ?_
        refine T_n ?_
        refine WP_block ?_
        replace S := S.front1
        replace S := S.front2
        replace S := S.front2
        replace S := S.front2
        replace E := E.keep (l' := [(2, .pointer (some ⟨b_1, 0, none⟩)), (4, .pointer (some ⟨b_7, 0, none⟩)), (66, u_38)]) ⟨rfl, rfl, rfl, trivial⟩
        replace S := S.front2
        replace S := S.front2
        replace S := S.reM (L' := (encE Value.bool (bmap (remI (fun x => x) (sjI (fun x => x) l0 j) (([] : List Int))) (fun _ => false)))) (congrArg (encE Value.bool) (show bmap (sjI (fun x => x) l0 j) (fun _ => false) = bmap (remI (fun x => x) (sjI (fun x => x) l0 j) (([] : List Int))) (fun _ => false) by first | rfl | exact rs_start _ _ | exact rs_yes (fun x => x) _ _ _ | (refine rq_no (fun x => x) ?_; assumption)))
        replace S := S.front2
        have S0 := S; clear S; have S := St.pack [blk b_7 (.cells #[.map (some b_6)] 106), OwnE Value.bool b_6 (bmap (remI (fun x => x) (sjI (fun x => x) l0 j) (([] : List Int))) (fun _ => false)), cL1] S0; clear S0
        refine WP_range (RV := RInt) (l := x_36) (fun pre M c => ∃ (c4 : HProp), c = bigs [blk b_7 (.cells #[.map (some b_6)] 106), OwnE Value.bool b_6 (bmap (remI (fun x => x) (sjI (fun x => x) l0 j) (pre)) (fun _ => false)), c4] ∧ (J (iscI (fun x => x) (sjI (fun x => x) l0 j) (pre)) M c4)) (fun cd pre M c => cd = .ret ∧ ∃ z, z <+: (meetF (fun x => x) l0) ∧ X z M c) E S rfl hu_38 (Hp.le.refl _) (fun _ _ _ h => by rw [h]; rfl) (by decide) (by rintro _ M M' c hM ⟨c4, rfl, f0⟩; exact ⟨_, rfl, hJM _ _ _ _ hM f0⟩) ⟨_, rfl, J_eq f0 (by ((try clear S); (try clear E); first | assumption | omega | rfl | (simp; done) | (simp_all; done) | (simp [List.take_add_one, *]; done) | grind [List.take_add_one]))⟩ ?_ ?_ ?_
        clear E S
        · rintro lb_40 rec_41 pre x _ a w M_39 _ G hM_39 hp_42 rfl ⟨c4, rfl, f0⟩ E S
          replace E : Env a 81 [] [(67, .int .i64 x), (2, .pointer (some ⟨b_1, 0, none⟩)), (4, .pointer (some ⟨b_7, 0, none⟩)), (66, u_38)] := E
          replace S := S.swap.unpack3
          have hq4 := prefix_lt hp_42
          replace hbx1 := hM_39.2 _ _ hbx1
          replace h0 := h0.le RSq_mono hM_39
          replace hb_1 := hM_39.2 _ _ hb_1
          replace hu_5 := hu_5.le hM_39
          replace hu_38 := hu_38.le hM_39
          refine WP_region ?_
          refine S_v E rfl (R_assign E rfl) rfl ?_
          clear E a; intro a E
          refine WL_nil ?_
          refine T_n ?_
          replace S := S.front3
          refine rb S ?_
          clear S; intro w S
          refine WP_block ?_
          refine WP_seq ?_
          refine WP_region ?_
          refine S_v E rfl (R_load E rfl (Tryz.isAgg106 _) (cell_blk (S.mem (.tail _ (.head _))))) rfl ?_
          clear E a; intro a E
          refine S_v E rfl (R_move E rfl) rfl ?_
          clear E a; intro a E
          replace S := S.front2
          refine S_x (X_lookupE (vf := Value.bool) (zb := false) E S rfl MT106 rfl rfl ?_)
          clear E a S; rintro a w E S
          replace S : St w M_39 (OwnE Value.bool b_6 (bmap (remI (fun x => x) (sjI (fun x => x) l0 j) (pre)) (fun _ => false)) :: _) := S
          refine S_v E rfl (R_move E rfl) rfl ?_
          clear E a; intro a E
          refine S_v E rfl (R_extract E rfl rfl) rfl ?_
          clear E a; intro a E
          refine S_v E rfl (R_extract E rfl rfl) rfl ?_
          clear E a; intro a E
          refine S_v E rfl (R_assign E rfl) rfl ?_
          clear E a; intro a E
          refine S_v E rfl (R_assign E rfl) rfl ?_
          clear E a; intro a E
          refine WL_nil ?_
          refine T_n ?_
          refine WP_seq ?_
          refine WP_region ?_
          refine S_v E rfl (R_move E rfl) rfl ?_
          clear E a; intro a E
          refine WL_nil ?_
          refine T_n ?_
          refine WP_cond E rfl (fun hc_44 => ?_) (fun hc_44 => ?_)
          · refine WP_seq ?_
            refine WP_seq ?_
            refine WP_region ?_
            refine S_v E rfl (R_loadM E rfl Tryz.isAgg85 S.imm (cellM_box hb_1)) rfl ?_
            clear E a; intro a E
            refine S_v E rfl (R_move E rfl) rfl ?_
            clear E a; intro a E
            replace S := S.front3
            refine S_x (X_yield (x := x) E S rfl rfl rfl hY (hM_2.trans (hM_13.trans (hM_15.trans hM_39))) (by exact meet_take (f := fun x => x) (by omega) (by first | (left; omega) | (right; exact bm_nil (f := fun _ => false) (by first | assumption | omega))) (by assumption) (by assumption) (by assumption)) rfl f0 ?_)
            clear E a S; rintro a w M_45 c_46 go_47 hM_45 f0 S E
            replace hbx1 := hM_45.2 _ _ hbx1
            replace h0 := h0.le RSq_mono hM_45
            replace hb_1 := hM_45.2 _ _ hb_1
            replace hu_5 := hu_5.le hM_45
            replace hu_38 := hu_38.le hM_45
            cases go_47
            · replace f0 : X (iscI (fun x => x) (sjI (fun x => x) l0 j) (pre) ++ [x]) M_45 c_46 := f0
              refine S_v E rfl (R_not E rfl) rfl ?_
              clear E a; intro a E
              refine WL_nil ?_
              refine T_n ?_
              refine WP_condT E rfl rfl ?_
              refine WP_ret ?_
              refine T_r ?_
              refine B_r ?_
              replace S := S.front1
              replace S := S.drop
              replace S := S.front2
              replace S := S.drop
              replace S := S.front1
              exact ⟨M_45, _, hM_45, ⟨rfl, _, (by first | assumption | (exact meet_take (f := fun x => x) (by omega) (by first | (left; omega) | (right; exact bm_nil (f := fun _ => false) (by first | assumption | omega))) (by assumption) (by assumption) (by assumption)) | ((first | (simp; done) | exact List.prefix_refl _ | (rw [pre_take (by assumption)]; exact List.take_prefix _ _) | exact pre_take_lt (by assumption)))), f0⟩, S⟩
            · replace f0 : J (iscI (fun x => x) (sjI (fun x => x) l0 j) (pre) ++ [x]) M_45 c_46 := f0
              refine S_v E rfl (R_not E rfl) rfl ?_
              clear E a; intro a E
              refine WL_nil ?_
              refine T_n ?_
              refine WP_condF E rfl rfl ?_
              refine WP_skip ?_
              refine T_n ?_
              refine WP_region ?_
              refine S_v E rfl (R_load E rfl (Tryz.isAgg106 _) (cell_blk (S.mem (.tail _ (.tail _ (.tail _ (.head _))))))) rfl ?_
              clear E a; intro a E
              refine S_v E rfl (R_move E rfl) rfl ?_
              clear E a; intro a E
              replace S := S.front1
              refine S_x0 (X_delete0E (vf := Value.bool) E S MT106 rfl rfl ?_)
              clear E a S; rintro a w E S
              refine WL_nil ?_
              refine B_n ?_
              replace S := S.front1
              replace S := S.front1
              replace S := S.front3
              replace S := S.front2
              replace S := S.front2
              replace S := S.reM (L' := (encE Value.bool (bmap (remI (fun x => x) (sjI (fun x => x) l0 j) ((pre ++ [x]))) (fun _ => false)))) (congrArg (encE Value.bool) (show delK (bmap (remI (fun x => x) (sjI (fun x => x) l0 j) (pre)) (fun _ => false)) x = bmap (remI (fun x => x) (sjI (fun x => x) l0 j) ((pre ++ [x]))) (fun _ => false) by first | rfl | exact rs_start _ _ | exact rs_yes (fun x => x) _ _ _ | (refine rq_no (fun x => x) ?_; assumption)))
              replace S := S.front2
              have S0 := S; clear S; have S := (St.pack [blk b_7 (.cells #[.map (some b_6)] 106), OwnE Value.bool b_6 (bmap (remI (fun x => x) (sjI (fun x => x) l0 j) ((pre ++ [x]))) (fun _ => false)), c_46] S0).swap; clear S0
              exact ⟨M_45, _, hM_45, ⟨_, rfl, J_eq f0 (by (first | (refine isc_yes (f := fun x => x) ?_; assumption) | (refine iq_no (fun x => x) ?_; assumption)))⟩, S⟩
          · refine WP_skip ?_
            refine B_n ?_
            replace S := S.front3
            replace S := S.front1
            replace S := S.front3
            replace S := S.front2
            replace S := S.front2
            replace S := S.reM (L' := (encE Value.bool (bmap (remI (fun x => x) (sjI (fun x => x) l0 j) ((pre ++ [x]))) (fun _ => false)))) (congrArg (encE Value.bool) (show bmap (remI (fun x => x) (sjI (fun x => x) l0 j) (pre)) (fun _ => false) = bmap (remI (fun x => x) (sjI (fun x => x) l0 j) ((pre ++ [x]))) (fun _ => false) by first | rfl | exact rs_start _ _ | exact rs_yes (fun x => x) _ _ _ | (refine rq_no (fun x => x) ?_; assumption)))
            replace S := S.front2
            have S0 := S; clear S; have S := (St.pack [blk b_7 (.cells #[.map (some b_6)] 106), OwnE Value.bool b_6 (bmap (remI (fun x => x) (sjI (fun x => x) l0 j) ((pre ++ [x]))) (fun _ => false)), c4] S0).swap; clear S0
            exact ⟨M_39, _, (Hp.le.refl _), ⟨_, rfl, J_eq f0 (by (first | (refine isc_yes (f := fun x => x) ?_; assumption) | (refine iq_no (fun x => x) ?_; assumption)))⟩, S⟩
        · rintro a w M_48 _ D_49 hM_48 ⟨c4, rfl, f0⟩ S E
          replace S := S.unpack3
          replace hbx1 := hM_48.2 _ _ hbx1
          replace h0 := h0.le RSq_mono hM_48
          replace hb_1 := hM_48.2 _ _ hb_1
          replace hu_5 := hu_5.le hM_48
          replace hu_38 := hu_38.le hM_48
          refine B_n ?_
          refine F_nrm ?_
          replace S := S.drop
          replace S := S.drop
          replace S := S.front1
          have hpre : iscI (fun x => x) (sjI (fun x => x) l0 j) (x_36) = meetF (fun x => x) l0 := by (exact meet_done (by omega) (by first | (left; omega) | (right; exact bm_nil (f := fun _ => false) (by first | assumption | omega))) (by assumption))
          rw [hpre] at f0
          exact F_retM0 E S Tryz.results77 (fun w S => ⟨_, rfl, M_48, _, (hM_2.trans (hM_13.trans (hM_15.trans hM_48))), .inl f0, S⟩)
        · rintro a w M_50 c_ D_51 p_52 _ hM_50 hp_53 ⟨rfl, z_, hz_, f0⟩ S E
          replace hbx1 := hM_50.2 _ _ hbx1
          replace h0 := h0.le RSq_mono hM_50
          replace hb_1 := hM_50.2 _ _ hb_1
          replace hu_5 := hu_5.le hM_50
          replace hu_38 := hu_38.le hM_50
          refine WP_ret ?_
          refine B_r ?_
          replace S := S.front1
          exact F_retM0 E S Tryz.results77 (fun w S => ⟨_, rfl, M_50, _, (hM_2.trans (hM_13.trans (hM_15.trans hM_50))), .inr ⟨z_, (by first | assumption | ((first | (simp; done) | exact List.prefix_refl _ | (rw [pre_take (by assumption)]; exact List.take_prefix _ _) | exact pre_take_lt (by assumption)))), f0⟩, S⟩)
    · replace E := E.val (t := 30) rfl hc_16
      replace E := E.val (t := 31) rfl hc_16
      replace hc_16 := of_decide_eq_false hc_16
      refine WL_guard_no E rfl rfl rfl rfl fun a E => ?_
      refine WL_guard_no E rfl rfl rfl rfl fun a E => ?_
      refine WL_guard_no E rfl rfl rfl rfl fun a E => ?_
      refine S_v E rfl (R_pickF E rfl rfl) rfl ?_
      clear E a; intro a E
      refine WL_nil ?_
      refine T_n ?_
      refine WP_condF E rfl rfl ?_
      refine WP_exit ?_
      refine T_x ?_
      refine T_x ?_
      refine B_x ?_
      refine T_n ?_
      refine WP_seq ?_
      refine WP_region ?_
      refine S_v E rfl (R_loadM E rfl Tryz.isAgg76 S.imm (cellM_box hbx1)) rfl ?_
      clear E a; intro a E
      obtain ⟨x_54, hx_54⟩ : ∃ x, (l0)[0]? = some x := ⟨_, List.getElem?_eq_getElem (by first | omega | (simp; done) | (simp; omega) | (simp_all; omega))⟩
      obtain ⟨p_55, u_56, hp_55, qp_55, hu_56⟩ := RdQ.at h0 hx_54
      refine S_v E rfl (R_idx E rfl rfl T76 hp_55 (by omega)) rfl ?_
      clear E a; intro a E
      refine S_v E rfl (R_loadM E rfl Tryz.isAgg74 S.imm qp_55) rfl ?_
      clear E a; intro a E
      refine WL_nil ?_
      refine T_n ?_
      refine WP_block ?_
      replace S := S.front1
      replace S := S.front2
      replace S := S.front2
      replace S := S.front2
      replace E := E.keep (l' := [(2, .pointer (some ⟨b_1, 0, none⟩)), (4, .pointer (some ⟨b_7, 0, none⟩)), (66, u_56)]) ⟨rfl, rfl, rfl, trivial⟩
      replace S := S.front2
      replace S := S.front2
      replace S := S.reM (L' := (encE Value.bool (bmap (remI (fun x => x) (sjI (fun x => x) l0 j) (([] : List Int))) (fun _ => false)))) (congrArg (encE Value.bool) (show bmap (sjI (fun x => x) l0 j) (fun _ => false) = bmap (remI (fun x => x) (sjI (fun x => x) l0 j) (([] : List Int))) (fun _ => false) by first | rfl | exact rs_start _ _ | exact rs_yes (fun x => x) _ _ _ | (refine rq_no (fun x => x) ?_; assumption)))
      replace S := S.front2
      have S0 := S; clear S; have S := St.pack [blk b_7 (.cells #[.map (some b_6)] 106), OwnE Value.bool b_6 (bmap (remI (fun x => x) (sjI (fun x => x) l0 j) (([] : List Int))) (fun _ => false)), cL1] S0; clear S0
      refine WP_range (RV := RInt) (l := x_54) (fun pre M c => ∃ (c4 : HProp), c = bigs [blk b_7 (.cells #[.map (some b_6)] 106), OwnE Value.bool b_6 (bmap (remI (fun x => x) (sjI (fun x => x) l0 j) (pre)) (fun _ => false)), c4] ∧ (J (iscI (fun x => x) (sjI (fun x => x) l0 j) (pre)) M c4)) (fun cd pre M c => cd = .ret ∧ ∃ z, z <+: (meetF (fun x => x) l0) ∧ X z M c) E S rfl hu_56 (Hp.le.refl _) (fun _ _ _ h => by rw [h]; rfl) (by decide) (by rintro _ M M' c hM ⟨c4, rfl, f0⟩; exact ⟨_, rfl, hJM _ _ _ _ hM f0⟩) ⟨_, rfl, J_eq f0 (by ((try clear S); (try clear E); first | assumption | omega | rfl | (simp; done) | (simp_all; done) | (simp [List.take_add_one, *]; done) | grind [List.take_add_one]))⟩ ?_ ?_ ?_
      clear E S
      · rintro lb_58 rec_59 pre x _ a w M_57 _ G hM_57 hp_60 rfl ⟨c4, rfl, f0⟩ E S
        replace E : Env a 81 [] [(67, .int .i64 x), (2, .pointer (some ⟨b_1, 0, none⟩)), (4, .pointer (some ⟨b_7, 0, none⟩)), (66, u_56)] := E
        replace S := S.swap.unpack3
        have hq4 := prefix_lt hp_60
        replace hbx1 := hM_57.2 _ _ hbx1
        replace h0 := h0.le RSq_mono hM_57
        replace hb_1 := hM_57.2 _ _ hb_1
        replace hu_5 := hu_5.le hM_57
        replace hu_56 := hu_56.le hM_57
        refine WP_region ?_
        refine S_v E rfl (R_assign E rfl) rfl ?_
        clear E a; intro a E
        refine WL_nil ?_
        refine T_n ?_
        replace S := S.front3
        refine rb S ?_
        clear S; intro w S
        refine WP_block ?_
        refine WP_seq ?_
        refine WP_region ?_
        refine S_v E rfl (R_load E rfl (Tryz.isAgg106 _) (cell_blk (S.mem (.tail _ (.head _))))) rfl ?_
        clear E a; intro a E
        refine S_v E rfl (R_move E rfl) rfl ?_
        clear E a; intro a E
        replace S := S.front2
        refine S_x (X_lookupE (vf := Value.bool) (zb := false) E S rfl MT106 rfl rfl ?_)
        clear E a S; rintro a w E S
        replace S : St w M_57 (OwnE Value.bool b_6 (bmap (remI (fun x => x) (sjI (fun x => x) l0 j) (pre)) (fun _ => false)) :: _) := S
        refine S_v E rfl (R_move E rfl) rfl ?_
        clear E a; intro a E
        refine S_v E rfl (R_extract E rfl rfl) rfl ?_
        clear E a; intro a E
        refine S_v E rfl (R_extract E rfl rfl) rfl ?_
        clear E a; intro a E
        refine S_v E rfl (R_assign E rfl) rfl ?_
        clear E a; intro a E
        refine S_v E rfl (R_assign E rfl) rfl ?_
        clear E a; intro a E
        refine WL_nil ?_
        refine T_n ?_
        refine WP_seq ?_
        refine WP_region ?_
        refine S_v E rfl (R_move E rfl) rfl ?_
        clear E a; intro a E
        refine WL_nil ?_
        refine T_n ?_
        refine WP_cond E rfl (fun hc_62 => ?_) (fun hc_62 => ?_)
        · refine WP_seq ?_
          refine WP_seq ?_
          refine WP_region ?_
          refine S_v E rfl (R_loadM E rfl Tryz.isAgg85 S.imm (cellM_box hb_1)) rfl ?_
          clear E a; intro a E
          refine S_v E rfl (R_move E rfl) rfl ?_
          clear E a; intro a E
          replace S := S.front3
          refine S_x (X_yield (x := x) E S rfl rfl rfl hY (hM_2.trans (hM_13.trans (hM_15.trans hM_57))) (by exact meet_take (f := fun x => x) (by omega) (by first | (left; omega) | (right; exact bm_nil (f := fun _ => false) (by first | assumption | omega))) (by assumption) (by assumption) (by assumption)) rfl f0 ?_)
          clear E a S; rintro a w M_63 c_64 go_65 hM_63 f0 S E
          replace hbx1 := hM_63.2 _ _ hbx1
          replace h0 := h0.le RSq_mono hM_63
          replace hb_1 := hM_63.2 _ _ hb_1
          replace hu_5 := hu_5.le hM_63
          replace hu_56 := hu_56.le hM_63
          cases go_65
          · replace f0 : X (iscI (fun x => x) (sjI (fun x => x) l0 j) (pre) ++ [x]) M_63 c_64 := f0
            refine S_v E rfl (R_not E rfl) rfl ?_
            clear E a; intro a E
            refine WL_nil ?_
            refine T_n ?_
            refine WP_condT E rfl rfl ?_
            refine WP_ret ?_
            refine T_r ?_
            refine B_r ?_
            replace S := S.front1
            replace S := S.drop
            replace S := S.front2
            replace S := S.drop
            replace S := S.front1
            exact ⟨M_63, _, hM_63, ⟨rfl, _, (by first | assumption | (exact meet_take (f := fun x => x) (by omega) (by first | (left; omega) | (right; exact bm_nil (f := fun _ => false) (by first | assumption | omega))) (by assumption) (by assumption) (by assumption)) | ((first | (simp; done) | exact List.prefix_refl _ | (rw [pre_take (by assumption)]; exact List.take_prefix _ _) | exact pre_take_lt (by assumption)))), f0⟩, S⟩
          · replace f0 : J (iscI (fun x => x) (sjI (fun x => x) l0 j) (pre) ++ [x]) M_63 c_64 := f0
            refine S_v E rfl (R_not E rfl) rfl ?_
            clear E a; intro a E
            refine WL_nil ?_
            refine T_n ?_
            refine WP_condF E rfl rfl ?_
            refine WP_skip ?_
            refine T_n ?_
            refine WP_region ?_
            refine S_v E rfl (R_load E rfl (Tryz.isAgg106 _) (cell_blk (S.mem (.tail _ (.tail _ (.tail _ (.head _))))))) rfl ?_
            clear E a; intro a E
            refine S_v E rfl (R_move E rfl) rfl ?_
            clear E a; intro a E
            replace S := S.front1
            refine S_x0 (X_delete0E (vf := Value.bool) E S MT106 rfl rfl ?_)
            clear E a S; rintro a w E S
            refine WL_nil ?_
            refine B_n ?_
            replace S := S.front1
            replace S := S.front1
            replace S := S.front3
            replace S := S.front2
            replace S := S.front2
            replace S := S.reM (L' := (encE Value.bool (bmap (remI (fun x => x) (sjI (fun x => x) l0 j) ((pre ++ [x]))) (fun _ => false)))) (congrArg (encE Value.bool) (show delK (bmap (remI (fun x => x) (sjI (fun x => x) l0 j) (pre)) (fun _ => false)) x = bmap (remI (fun x => x) (sjI (fun x => x) l0 j) ((pre ++ [x]))) (fun _ => false) by first | rfl | exact rs_start _ _ | exact rs_yes (fun x => x) _ _ _ | (refine rq_no (fun x => x) ?_; assumption)))
            replace S := S.front2
            have S0 := S; clear S; have S := (St.pack [blk b_7 (.cells #[.map (some b_6)] 106), OwnE Value.bool b_6 (bmap (remI (fun x => x) (sjI (fun x => x) l0 j) ((pre ++ [x]))) (fun _ => false)), c_64] S0).swap; clear S0
            exact ⟨M_63, _, hM_63, ⟨_, rfl, J_eq f0 (by (first | (refine isc_yes (f := fun x => x) ?_; assumption) | (refine iq_no (fun x => x) ?_; assumption)))⟩, S⟩
        · refine WP_skip ?_
          refine B_n ?_
          replace S := S.front3
          replace S := S.front1
          replace S := S.front3
          replace S := S.front2
          replace S := S.front2
          replace S := S.reM (L' := (encE Value.bool (bmap (remI (fun x => x) (sjI (fun x => x) l0 j) ((pre ++ [x]))) (fun _ => false)))) (congrArg (encE Value.bool) (show bmap (remI (fun x => x) (sjI (fun x => x) l0 j) (pre)) (fun _ => false) = bmap (remI (fun x => x) (sjI (fun x => x) l0 j) ((pre ++ [x]))) (fun _ => false) by first | rfl | exact rs_start _ _ | exact rs_yes (fun x => x) _ _ _ | (refine rq_no (fun x => x) ?_; assumption)))
          replace S := S.front2
          have S0 := S; clear S; have S := (St.pack [blk b_7 (.cells #[.map (some b_6)] 106), OwnE Value.bool b_6 (bmap (remI (fun x => x) (sjI (fun x => x) l0 j) ((pre ++ [x]))) (fun _ => false)), c4] S0).swap; clear S0
          exact ⟨M_57, _, (Hp.le.refl _), ⟨_, rfl, J_eq f0 (by (first | (refine isc_yes (f := fun x => x) ?_; assumption) | (refine iq_no (fun x => x) ?_; assumption)))⟩, S⟩
      · rintro a w M_66 _ D_67 hM_66 ⟨c4, rfl, f0⟩ S E
        replace S := S.unpack3
        replace hbx1 := hM_66.2 _ _ hbx1
        replace h0 := h0.le RSq_mono hM_66
        replace hb_1 := hM_66.2 _ _ hb_1
        replace hu_5 := hu_5.le hM_66
        replace hu_56 := hu_56.le hM_66
        refine B_n ?_
        refine F_nrm ?_
        replace S := S.drop
        replace S := S.drop
        replace S := S.front1
        have hpre : iscI (fun x => x) (sjI (fun x => x) l0 j) (x_54) = meetF (fun x => x) l0 := by (exact meet_done (by omega) (by first | (left; omega) | (right; exact bm_nil (f := fun _ => false) (by first | assumption | omega))) (by assumption))
        rw [hpre] at f0
        exact F_retM0 E S Tryz.results77 (fun w S => ⟨_, rfl, M_66, _, (hM_2.trans (hM_13.trans (hM_15.trans hM_66))), .inl f0, S⟩)
      · rintro a w M_68 c_ D_69 p_70 _ hM_68 hp_71 ⟨rfl, z_, hz_, f0⟩ S E
        replace hbx1 := hM_68.2 _ _ hbx1
        replace h0 := h0.le RSq_mono hM_68
        replace hb_1 := hM_68.2 _ _ hb_1
        replace hu_5 := hu_5.le hM_68
        replace hu_56 := hu_56.le hM_68
        refine WP_ret ?_
        refine B_r ?_
        replace S := S.front1
        exact F_retM0 E S Tryz.results77 (fun w S => ⟨_, rfl, M_68, _, (hM_2.trans (hM_13.trans (hM_15.trans hM_68))), .inr ⟨z_, (by first | assumption | ((first | (simp; done) | exact List.prefix_refl _ | (rw [pre_take (by assumption)]; exact List.take_prefix _ _) | exact pre_take_lt (by assumption)))), f0⟩, S⟩)
  · rintro _ _ _ _ _ _ _ _ _ hX; exact hX.elim

set_option maxRecDepth 100000 in
set_option maxHeartbeats 4000000 in
theorem it_Intersect {M : Hp} {v0 : Value} {l0 : List (List Int)} (h0 : RdS 1 (RSq Tryz.prog RInt) M v0 l0) :
    Pu Tryz.prog (.func (.func 54) #[] #[]) M [v0] (fun r M' => SeqV Tryz.prog r M' RInt (meetF (fun x => x) l0)) := by
  refine Pu_enter Tryz.func54 rfl Tryz.ntmps54 rfl Tryz.call54 ?_
  intro a w M1 H hM1 S E
  replace h0 := h0.le RSq_mono hM1
  have b0 := h0.bound
  refine WP_seq ?_
  refine WP_region ?_
  refine S_x (X_box (cs := #[v0]) E S rfl rfl (cells_one (RdS.one' h0)) ?_)
  clear E a S; rintro a w b_1 E S
  obtain ⟨M_2, hM_2, hb_1, S⟩ := S.freezeB
  replace h0 := h0.le RSq_mono hM_2
  refine S_v E rfl (R_assign E rfl) rfl ?_
  clear E a; intro a E
  refine WL_nil ?_
  refine T_n ?_
  refine WP_seq ?_
  refine WP_seq ?_
  refine WP_region ?_
  refine S_v E rfl (R_loadM E rfl Tryz.isAgg76 S.imm (cellM_box hb_1)) rfl ?_
  clear E a; intro a E
  refine S_v E rfl (R_lenV E rfl T76 h0.len) rfl ?_
  clear E a; intro a E
  refine S_v E rfl (R_eql E rfl rfl) rfl ?_
  clear E a; intro a E
  refine WL_nil ?_
  refine T_n ?_
  refine WP_cond E rfl (fun hc_3 => ?_) (fun hc_3 => ?_)
  · replace hc_3 := of_decide_eq_true hc_3
    refine WP_seq ?_
    refine WP_region ?_
    refine S_x (X_pu E S rfl rfl rfl (it_Empty ) (Hp.le.refl _) ?_)
    clear E a S; rintro a v_5 w M_4 hM_4 hv_5 S E
    replace h0 := h0.le RSq_mono hM_4
    replace hb_1 := hM_4.2 _ _ hb_1
    refine S_v E rfl (R_assign E rfl) rfl ?_
    clear E a; intro a E
    refine WL_nil ?_
    refine T_n ?_
    refine WP_ret ?_
    refine T_r ?_
    exact F_ret1 E Tryz.results54 rfl ⟨_, rfl, M_4, (hM_2.trans hM_4), (SeqV_eq hv_5 (by first | rfl | (have e := List.eq_nil_of_length_eq_zero (l := l0) (by omega); subst e; rfl))), S⟩
  · replace hc_3 := of_decide_eq_false hc_3
    refine WP_skip ?_
    refine T_n ?_
    refine WP_seq ?_
    refine WP_region ?_
    refine S_v E rfl (R_makeFunc E rfl rfl) rfl ?_
    clear E a; intro a E
    refine S_v E rfl (R_assign E rfl) rfl ?_
    clear E a; intro a E
    refine WL_nil ?_
    refine T_n ?_
    refine WP_ret ?_
    exact F_ret1 E Tryz.results54 rfl ⟨_, rfl, M_2, hM_2, (SeqV_eq (it_Intersect1 h0 (by omega) hb_1) (by first | rfl | (have e := List.eq_nil_of_length_eq_zero (l := l0) (by omega); subst e; rfl))), S⟩

set_option maxRecDepth 100000 in
set_option maxHeartbeats 4000000 in
theorem impl_IntersectSeq {M : Hp} {v0 : Value} {l0 : List (List Int)} (h0 : RdII M v0 l0) (hb2 : l0.length ≤ 1000000000) (hb : ∀ x ∈ l0, x.length ≤ 1000000000) :
    Pu Tryz.prog (.func (.func 36) #[] #[]) M [v0] (fun r M' => RdI M' r (meetF (fun x => x) l0)) := by
  refine Pu_enter Tryz.func36 rfl Tryz.ntmps36 rfl Tryz.call36 ?_
  intro a w M1 H hM1 S E
  replace h0 := h0.le hM1
  have b0 := h0.bound
  have hml := meet_len (fun x => x) (ll := l0) hb
  refine WP_seq ?_
  refine WP_region ?_
  refine S_v E rfl (R_assign E rfl) rfl ?_
  clear E a; intro a E
  refine WL_nil ?_
  refine T_n ?_
  refine WP_seq ?_
  refine WP_region ?_
  refine S_v E rfl (R_move E rfl) rfl ?_
  clear E a; intro a E
  refine S_x (X_pu E S rfl rfl rfl (impl_seqs h0 (by first | omega | (simp; omega))) (Hp.le.refl _) ?_)
  clear E a S; rintro a v_2 w M_1 hM_1 hv_2 S E
  replace h0 := h0.le hM_1
  refine S_x (X_pu E S rfl rfl rfl (it_Intersect hv_2) (Hp.le.refl _) ?_)
  clear E a S; rintro a v_4 w M_3 hM_3 hv_4 S E
  replace h0 := h0.le hM_3
  replace hv_2 := hv_2.le RSq_mono hM_3
  refine S_x (X_pu E S rfl rfl rfl (slices_Collect hv_4 (by first | omega | (first | omega | (simp; omega) | (simp; done) | (simp_all; omega) | grind))) (Hp.le.refl _) ?_)
  clear E a S; rintro a v_6 w M_5 hM_5 hv_6 S E
  replace h0 := h0.le hM_5
  replace hv_2 := hv_2.le RSq_mono hM_5
  replace hv_4 := hv_4.le hM_5
  refine S_v E rfl (R_assign E rfl) rfl ?_
  clear E a; intro a E
  refine WL_nil ?_
  refine T_n ?_
  refine WP_ret ?_
  exact F_ret1 E Tryz.results36 rfl ⟨_, rfl, M_5, (hM_1.trans (hM_3.trans hM_5)), hv_6, S⟩

set_option maxRecDepth 100000 in
set_option maxHeartbeats 4000000 in
theorem it_RejectI1 {M : Hp} {v0 : Value} {l0 : List Int} (h0 : SeqV Tryz.prog v0 M (RInt) l0) {v1 : Value} {f1 : Int → Int → Bool} (h1 : PF2B Tryz.prog v1 M f1) (hb : l0.length ≤ 1000000000000) {bx8 bx9 : Nat} (hbx8 : M bx8 = some (.cells #[v0] 74)) (hbx9 : M bx9 = some (.cells #[v1] 126)) :
    SeqV Tryz.prog (.func (.func 130) #[] #[.pointer (some ⟨bx8, 0, none⟩), .pointer (some ⟨bx9, 0, none⟩)]) M (RInt) (filtI (fun x i => !f1 x i) 0 l0) := by
  refine SeqV_enter Tryz.func130 rfl Tryz.ntmps130 rfl Tryz.call130 ?_
  intro y J X a w M1 c H hJM hM1 hY hJ S E
  replace h0 := h0.le hM1
  replace h1 := h1.le hM1
  replace hbx8 := hM1.2 _ _ hbx8
  replace hbx9 := hM1.2 _ _ hbx9
  refine WP_seq ?_
  refine WP_region ?_
  refine S_x (X_box (cs := #[y]) E S rfl rfl (cells_one hY.1) ?_)
  clear E a S; rintro a w b_1 E S
  obtain ⟨M_2, hM_2, hb_1, S⟩ := S.freezeB
  replace h0 := h0.le hM_2
  replace h1 := h1.le hM_2
  replace hbx8 := hM_2.2 _ _ hbx8
  replace hbx9 := hM_2.2 _ _ hbx9
  replace hJ := hJM _ _ _ _ hM_2 hJ
  refine WL_nil ?_
  refine T_n ?_
  refine WP_seq ?_
  refine WP_region ?_
  refine S_x (X_alloc (cs := #[.int .i64 0]) E S rfl Tryz.zeroValue3 rfl ?_)
  clear E a S; rintro a w b_3 E S
  refine WL_nil ?_
  refine T_n ?_
  refine WP_seq ?_
  refine WP_region ?_
  refine S_v E rfl (R_loadM E rfl Tryz.isAgg74 S.imm (cellM_box hbx8)) rfl ?_
  clear E a; intro a E
  refine WL_nil ?_
  refine T_n ?_
  refine WP_block ?_
  replace S := S.front2
  replace S := S.front1
  replace E := E.keep (l' := [(2, .pointer (some ⟨bx9, 0, none⟩)), (3, .pointer (some ⟨b_1, 0, none⟩)), (4, .pointer (some ⟨b_3, 0, none⟩)), (6, v0)]) ⟨rfl, rfl, rfl, rfl, trivial⟩
  replace S := S.front1
  replace S := S.front1
  replace S := S.blk_int (j := ((([] : List Int)).length : Int)) (by (first | (simp; done) | omega))
  have S0 := S; clear S; have S := St.pack [blk b_3 (.cells #[.int .i64 ((([] : List Int)).length : Int)] 3), c] S0; clear S0
  refine WP_range (RV := RInt) (l := l0) (fun pre M c => ∃ (c0 : HProp), c = bigs [blk b_3 (.cells #[.int .i64 ((pre).length : Int)] 3), c0] ∧ (J (filtI (fun x i => !f1 x i) 0 (pre)) M c0)) (fun cd pre M c => cd = .ret ∧ ∃ z, z <+: (filtI (fun x i => !f1 x i) 0 l0) ∧ X z M c) E S rfl h0 (Hp.le.refl _) (fun _ _ _ h => by rw [h]; rfl) (by decide) (by rintro _ M M' c hM ⟨c0, rfl, f0⟩; exact ⟨_, rfl, hJM _ _ _ _ hM f0⟩) ⟨_, rfl, J_eq hJ (by ((try clear S); (try clear E); first | assumption | omega | rfl | (simp; done) | (simp_all; done) | (simp [List.take_add_one, *]; done) | grind [List.take_add_one]))⟩ ?_ ?_ ?_
  clear E S
  · rintro lb_5 rec_6 pre x _ a w M_4 _ G hM_4 hp_7 rfl ⟨c0, rfl, f0⟩ E S
    replace E : Env a 21 [] [(7, .int .i64 x), (2, .pointer (some ⟨bx9, 0, none⟩)), (3, .pointer (some ⟨b_1, 0, none⟩)), (4, .pointer (some ⟨b_3, 0, none⟩)), (6, v0)] := E
    replace S := S.swap.unpack2
    have hq0 := prefix_lt hp_7
    replace h0 := h0.le hM_4
    replace h1 := h1.le hM_4
    replace hbx8 := hM_4.2 _ _ hbx8
    replace hbx9 := hM_4.2 _ _ hbx9
    replace hb_1 := hM_4.2 _ _ hb_1
    refine WP_region ?_
    refine S_v E rfl (R_assign E rfl) rfl ?_
    clear E a; intro a E
    refine WL_nil ?_
    refine T_n ?_
    replace S := S.front2
    refine rb S ?_
    clear S; intro w S
    refine WP_block ?_
    refine WP_seq ?_
    refine WP_seq ?_
    refine WP_region ?_
    refine S_v E rfl (R_loadM E rfl Tryz.isAgg126 S.imm (cellM_box hbx9)) rfl ?_
    clear E a; intro a E
    refine S_v E rfl (R_move E rfl) rfl ?_
    clear E a; intro a E
    refine S_v E rfl (R_load E rfl (Tryz.isAgg3 _) (cell_blk (S.mem (.tail _ (.head _))))) rfl ?_
    clear E a; intro a E
    refine S_x (X_pu E S rfl rfl rfl (h1.2 x ((pre).length : Int)) (Hp.le.refl _) ?_)
    clear E a S; rintro a _ w M_9 hM_9 rfl S E
    replace h0 := h0.le hM_9
    replace h1 := h1.le hM_9
    replace hbx8 := hM_9.2 _ _ hbx8
    replace hbx9 := hM_9.2 _ _ hbx9
    replace hb_1 := hM_9.2 _ _ hb_1
    replace f0 := hJM _ _ _ _ hM_9 f0
    refine S_v E rfl (R_not E rfl) rfl ?_
    clear E a; intro a E
    refine S_v E rfl (R_move E rfl) rfl ?_
    clear E a; intro a E
    refine split_bool (!(f1 x ((pre).length : Int))) (fun hc_10 => ?_) (fun hc_10 => ?_)
    · replace E := E.val (t := 12) rfl hc_10
      replace E := E.val (t := 13) rfl hc_10
      refine WL_guard_yes E rfl rfl ?_
      refine S_v E rfl (R_loadM E rfl Tryz.isAgg85 S.imm (cellM_box hb_1)) rfl ?_
      clear E a; intro a E
      refine WL_guard_yes E rfl rfl ?_
      refine S_v E rfl (R_move E rfl) rfl ?_
      clear E a; intro a E
      replace S := S.front2
      refine WL_guard_yes E rfl rfl ?_
      refine S_x (X_yield (x := x) E S rfl rfl rfl hY (hM_2.trans (hM_4.trans hM_9)) (by exact filtI_prefix (by assumption) (by first | assumption | (simp_all; done))) rfl f0 ?_)
      clear E a S; rintro a w M_11 c_12 go_13 hM_11 f0 S E
      replace h0 := h0.le hM_11
      replace h1 := h1.le hM_11
      replace hbx8 := hM_11.2 _ _ hbx8
      replace hbx9 := hM_11.2 _ _ hbx9
      replace hb_1 := hM_11.2 _ _ hb_1
      cases go_13
      · replace f0 : X (filtI (fun x i => !f1 x i) 0 (pre) ++ [x]) M_11 c_12 := f0
        refine WL_guard_yes E rfl rfl ?_
        refine S_v E rfl (R_not E rfl) rfl ?_
        clear E a; intro a E
        refine S_v E rfl (R_pickT E rfl rfl) rfl ?_
        clear E a; intro a E
        refine WL_nil ?_
        refine T_n ?_
        refine WP_condT E rfl rfl ?_
        refine WP_ret ?_
        refine T_r ?_
        refine B_r ?_
        replace S := S.front2
        replace S := S.drop
        replace S := S.front1
        exact ⟨M_11, _, (hM_9.trans hM_11), ⟨rfl, _, (by first | assumption | (exact filtI_prefix (by assumption) (by first | assumption | (simp_all; done))) | (exact filtI_prefix0 (by assumption))), f0⟩, S⟩
      · replace f0 : J (filtI (fun x i => !f1 x i) 0 (pre) ++ [x]) M_11 c_12 := f0
        refine WL_guard_yes E rfl rfl ?_
        refine S_v E rfl (R_not E rfl) rfl ?_
        clear E a; intro a E
        refine S_v E rfl (R_pickT E rfl rfl) rfl ?_
        clear E a; intro a E
        refine WL_nil ?_
        refine T_n ?_
        refine WP_condF E rfl rfl ?_
        refine WP_skip ?_
        refine T_n ?_
        refine WP_region ?_
        refine S_v E rfl (R_load E rfl (Tryz.isAgg3 _) (cell_blk (S.mem (.tail _ (.tail _ (.head _)))))) rfl ?_
        clear E a; intro a E
        refine S_v E rfl (R_addx (m := (((pre).length + 1 : Nat) : Int)) E rfl rfl (by omega) (by omega)) rfl ?_
        clear E a; intro a E
        replace S := S.front2
        refine S_x0 (X_store E S rfl rfl (Tryz.sizeOf3 _) rfl ?_)
        clear E a S; rintro a w E S
        refine WL_nil ?_
        refine B_n ?_
        replace S := S.front1
        replace S := S.front1
        replace S := S.front1
        replace S := S.front1
        replace S := S.blk_int (j := (((pre ++ [x])).length : Int)) (by (first | (simp; done) | omega))
        have S0 := S; clear S; have S := (St.pack [blk b_3 (.cells #[.int .i64 (((pre ++ [x])).length : Int)] 3), c_12] S0).swap; clear S0
        exact ⟨M_11, _, (hM_9.trans hM_11), ⟨_, rfl, J_eq f0 (by (rw [filtI_app1]; first | (simp [*]; done) | (simp_all; done)))⟩, S⟩
    · replace E := E.val (t := 12) rfl hc_10
      replace E := E.val (t := 13) rfl hc_10
      refine WL_guard_no E rfl rfl rfl rfl fun a E => ?_
      refine WL_guard_no E rfl rfl rfl rfl fun a E => ?_
      refine WL_guard_no E rfl rfl rfl rfl fun a E => ?_
      refine WL_guard_no E rfl rfl rfl rfl fun a E => ?_
      refine S_v E rfl (R_pickF E rfl rfl) rfl ?_
      clear E a; intro a E
      refine WL_nil ?_
      refine T_n ?_
      refine WP_condF E rfl rfl ?_
      refine WP_skip ?_
      refine T_n ?_
      refine WP_region ?_
      refine S_v E rfl (R_load E rfl (Tryz.isAgg3 _) (cell_blk (S.mem (.tail _ (.head _))))) rfl ?_
      clear E a; intro a E
      refine S_v E rfl (R_addx (m := (((pre).length + 1 : Nat) : Int)) E rfl rfl (by omega) (by omega)) rfl ?_
      clear E a; intro a E
      replace S := S.front1
      refine S_x0 (X_store E S rfl rfl (Tryz.sizeOf3 _) rfl ?_)
      clear E a S; rintro a w E S
      refine WL_nil ?_
      refine B_n ?_
      replace S := S.front2
      replace S := S.front1
      replace S := S.front1
      replace S := S.front1
      replace S := S.blk_int (j := (((pre ++ [x])).length : Int)) (by (first | (simp; done) | omega))
      have S0 := S; clear S; have S := (St.pack [blk b_3 (.cells #[.int .i64 (((pre ++ [x])).length : Int)] 3), c0] S0).swap; clear S0
      exact ⟨M_9, _, hM_9, ⟨_, rfl, J_eq f0 (by (rw [filtI_app1]; first | (simp [*]; done) | (simp_all; done)))⟩, S⟩
  · rintro a w M_14 _ D_15 hM_14 ⟨c0, rfl, f0⟩ S E
    replace S := S.unpack2
    replace h0 := h0.le hM_14
    replace h1 := h1.le hM_14
    replace hbx8 := hM_14.2 _ _ hbx8
    replace hbx9 := hM_14.2 _ _ hbx9
    replace hb_1 := hM_14.2 _ _ hb_1
    refine B_n ?_
    refine F_nrm ?_
    replace S := S.drop
    replace S := S.front1
    have hpre : filtI (fun x i => !f1 x i) 0 (l0) = filtI (fun x i => !f1 x i) 0 l0 := by ((try clear S); (try clear E); first | rfl | (simp; done) | (simp_all; done) | grind [List.take_add_one])
    rw [hpre] at f0
    exact F_retM0 E S Tryz.results130 (fun w S => ⟨_, rfl, M_14, _, (hM_2.trans hM_14), .inl f0, S⟩)
  · rintro a w M_16 c_ D_17 p_18 _ hM_16 hp_19 ⟨rfl, z_, hz_, f0⟩ S E
    replace h0 := h0.le hM_16
    replace h1 := h1.le hM_16
    replace hbx8 := hM_16.2 _ _ hbx8
    replace hbx9 := hM_16.2 _ _ hbx9
    replace hb_1 := hM_16.2 _ _ hb_1
    refine WP_ret ?_
    refine B_r ?_
    replace S := S.front1
    exact F_retM0 E S Tryz.results130 (fun w S => ⟨_, rfl, M_16, _, (hM_2.trans hM_16), .inr ⟨z_, (by first | assumption | (exact filtI_prefix0 (by assumption))), f0⟩, S⟩)

set_option maxRecDepth 100000 in
set_option maxHeartbeats 4000000 in
theorem it_RejectI {M : Hp} {v0 : Value} {l0 : List Int} (h0 : SeqV Tryz.prog v0 M (RInt) l0) {v1 : Value} {f1 : Int → Int → Bool} (h1 : PF2B Tryz.prog v1 M f1) (hb : l0.length ≤ 1000000000000) :
    Pu Tryz.prog (.func (.func 110) #[] #[]) M [v0, v1] (fun r M' => SeqV Tryz.prog r M' RInt (filtI (fun x i => !f1 x i) 0 l0)) := by
  refine Pu_enter Tryz.func110 rfl Tryz.ntmps110 rfl Tryz.call110 ?_
  intro a w M1 H hM1 S E
  replace h0 := h0.le hM1
  replace h1 := h1.le hM1
  refine WP_seq ?_
  refine WP_region ?_
  refine S_x (X_box (cs := #[v0]) E S rfl rfl (cells_one h0.1) ?_)
  clear E a S; rintro a w b_1 E S
  obtain ⟨M_2, hM_2, hb_1, S⟩ := S.freezeB
  replace h0 := h0.le hM_2
  replace h1 := h1.le hM_2
  refine S_x (X_box (cs := #[v1]) E S rfl rfl (cells_one h1.1) ?_)
  clear E a S; rintro a w b_3 E S
  obtain ⟨M_4, hM_4, hb_3, S⟩ := S.freezeB
  replace h0 := h0.le hM_4
  replace h1 := h1.le hM_4
  replace hb_1 := hM_4.2 _ _ hb_1
  refine S_v E rfl (R_assign E rfl) rfl ?_
  clear E a; intro a E
  refine WL_nil ?_
  refine T_n ?_
  refine WP_seq ?_
  refine WP_region ?_
  refine S_v E rfl (R_makeFunc E rfl rfl) rfl ?_
  clear E a; intro a E
  refine S_v E rfl (R_assign E rfl) rfl ?_
  clear E a; intro a E
  refine WL_nil ?_
  refine T_n ?_
  refine WP_ret ?_
  exact F_ret1 E Tryz.results110 rfl ⟨_, rfl, M_4, (hM_2.trans hM_4), (SeqV_eq (it_RejectI1 (f1 := f1) h0 h1 (by (first | omega | (simp; omega) | (simp; done) | (simp_all; omega) | grind)) hb_1 hb_3) (by ((try clear S); (try clear E); first | rfl | (simp; done) | (simp_all; done) | grind [List.take_add_one]))), S⟩

set_option maxRecDepth 100000 in
set_option maxHeartbeats 4000000 in
theorem it_Reject1 {M : Hp} {v9 : Value} {f9 : Int → Bool} (h9 : PF1B Tryz.prog v9 M f9) {x0 x1 : Int} {bx9 : Nat} (hbx9 : M bx9 = some (.cells #[v9] 85)) :
    Pu Tryz.prog (.func (.func 111) #[] #[.pointer (some ⟨bx9, 0, none⟩)]) M [.int .i64 x0, .int .i64 x1] (fun r M' => r = .bool (f9 x0)) := by
  refine Pu_enter Tryz.func111 rfl Tryz.ntmps111 rfl Tryz.call111 ?_
  intro a w M1 H hM1 S E
  replace h9 := h9.le hM1
  replace hbx9 := hM1.2 _ _ hbx9
  refine WP_seq ?_
  refine WP_region ?_
  refine S_v E rfl (R_assign E rfl) rfl ?_
  clear E a; intro a E
  refine WL_nil ?_
  refine T_n ?_
  refine WP_seq ?_
  refine WP_region ?_
  refine S_v E rfl (R_loadM E rfl Tryz.isAgg85 S.imm (cellM_box hbx9)) rfl ?_
  clear E a; intro a E
  refine S_v E rfl (R_move E rfl) rfl ?_
  clear E a; intro a E
  refine S_x (X_pu E S rfl rfl rfl (h9.2 x0) (Hp.le.refl _) ?_)
  clear E a S; rintro a _ w M_1 hM_1 rfl S E
  replace h9 := h9.le hM_1
  replace hbx9 := hM_1.2 _ _ hbx9
  refine S_v E rfl (R_assign E rfl) rfl ?_
  clear E a; intro a E
  refine WL_nil ?_
  refine T_n ?_
  refine WP_ret ?_
  exact F_ret1 E Tryz.results111 rfl ⟨_, rfl, M_1, hM_1, rfl, S⟩

set_option maxRecDepth 100000 in
set_option maxHeartbeats 4000000 in
theorem it_Reject {M : Hp} {v0 : Value} {l0 : List Int} (h0 : SeqV Tryz.prog v0 M (RInt) l0) {v1 : Value} {f1 : Int → Bool} (h1 : PF1B Tryz.prog v1 M f1) (hb : l0.length ≤ 1000000000000) :
    Pu Tryz.prog (.func (.func 92) #[] #[]) M [v0, v1] (fun r M' => SeqV Tryz.prog r M' RInt ((l0).filter (fun x => !(f1 x)))) := by
  refine Pu_enter Tryz.func92 rfl Tryz.ntmps92 rfl Tryz.call92 ?_
  intro a w M1 H hM1 S E
  replace h0 := h0.le hM1
  replace h1 := h1.le hM1
  refine WP_seq ?_
  refine WP_region ?_
  refine S_x (X_box (cs := #[v1]) E S rfl rfl (cells_one h1.1) ?_)
  clear E a S; rintro a w b_1 E S
  obtain ⟨M_2, hM_2, hb_1, S⟩ := S.freezeB
  replace h0 := h0.le hM_2
  replace h1 := h1.le hM_2
  refine S_v E rfl (R_assign E rfl) rfl ?_
  clear E a; intro a E
  refine WL_nil ?_
  refine T_n ?_
  refine WP_seq ?_
  refine WP_region ?_
  refine S_v E rfl (R_move E rfl) rfl ?_
  clear E a; intro a E
  refine S_v E rfl (R_makeFunc E rfl rfl) rfl ?_
  clear E a; intro a E
  refine S_x (X_pu E S rfl rfl rfl (it_RejectI h0 ⟨rfl, fun zx0 zx1 => it_Reject1 (x0 := zx0) (x1 := zx1) (f9 := f1) h1 hb_1⟩ (by (first | omega | (simp; omega) | (simp; done) | (simp_all; omega) | grind))) (Hp.le.refl _) ?_)
  clear E a S; rintro a v_4 w M_3 hM_3 hv_4 S E
  replace h0 := h0.le hM_3
  replace h1 := h1.le hM_3
  replace hb_1 := hM_3.2 _ _ hb_1
  refine S_v E rfl (R_assign E rfl) rfl ?_
  clear E a; intro a E
  refine WL_nil ?_
  refine T_n ?_
  refine WP_ret ?_
  exact F_ret1 E Tryz.results92 rfl ⟨_, rfl, M_3, (hM_2.trans hM_3), (SeqV_eq hv_4 (by (exact filtI_flt _ _ _))), S⟩

set_option maxRecDepth 100000 in
set_option maxHeartbeats 4000000 in
theorem lo_HasKey {M : Hp} {m0 : Value} {q0 : List Int} (hm0 : RdM M m0 (Sl.encS q0)){x1 : Int} :
    Pu Tryz.prog (.func (.func 94) #[] #[]) M [m0, .int .i64 x1] (fun r M' => r = .bool (decide (x1 ∈ q0))) := by
  refine Pu_enter Tryz.func94 rfl Tryz.ntmps94 rfl Tryz.call94 ?_
  intro a w M1 H hM1 S E
  replace hm0 := hm0.le hM1
  refine WP_seq ?_
  refine WP_region ?_
  refine S_v E rfl (R_assign E rfl) rfl ?_
  clear E a; intro a E
  refine WL_nil ?_
  refine T_n ?_
  refine WP_seq ?_
  refine WP_region ?_
  refine S_v E rfl (R_move E rfl) rfl ?_
  clear E a; intro a E
  refine S_v E rfl (R_move E rfl) rfl ?_
  clear E a; intro a E
  refine S_v E rfl (R_lookupFS S.imm hm0 E MT102 rfl rfl) rfl ?_
  clear E a; intro a E
  refine S_v E rfl (R_move E rfl) rfl ?_
  clear E a; intro a E
  refine S_v E rfl (R_extract E rfl rfl) rfl ?_
  clear E a; intro a E
  refine S_v E rfl (R_extract E rfl rfl) rfl ?_
  clear E a; intro a E
  refine S_x (X_alloc (cs := #[]) E S rfl Tryz.zeroValue104 rfl ?_)
  clear E a S; rintro a w b_1 E S
  refine S_x0 (X_storeG (us := []) E S rfl rfl (Tryz.sizeOf104 _) rfl (by intro u hu; cases hu) ?_)
  clear E a S; rintro a w E S
  replace S : St w M1 (blk b_1 (.cells #[] 104) :: _) := S
  have S0 := S; clear S
  obtain ⟨M_2, hM_2, hb_3, S⟩ := S0.freezeB
  clear S0
  replace hm0 := hm0.le hM_2
  refine S_v E rfl (R_assign E rfl) rfl ?_
  clear E a; intro a E
  refine WL_nil ?_
  refine T_n ?_
  refine WP_seq ?_
  refine WP_region ?_
  refine S_v E rfl (R_move E rfl) rfl ?_
  clear E a; intro a E
  refine S_v E rfl (R_assign E rfl) rfl ?_
  clear E a; intro a E
  refine WL_nil ?_
  refine T_n ?_
  refine WP_ret ?_
  exact F_ret1 E Tryz.results94 rfl ⟨_, rfl, M_2, hM_2, rfl, S⟩

set_option maxRecDepth 100000 in
set_option maxHeartbeats 4000000 in
theorem it_WithoutBy1 {M : Hp} {m8 : Value} {q8 : List Int} (hm8 : RdM M m8 (Sl.encS q8)){v9 : Value} {f9 : Int → Int} (h9 : PF1I Tryz.prog v9 M f9) {x0 : Int} {bx8 bx9 : Nat} (hbx8 : M bx8 = some (.cells #[m8] 102)) (hbx9 : M bx9 = some (.cells #[v9] 99)) :
    Pu Tryz.prog (.func (.func 93) #[] #[.pointer (some ⟨bx8, 0, none⟩), .pointer (some ⟨bx9, 0, none⟩)]) M [.int .i64 x0] (fun r M' => r = .bool (decide (f9 x0 ∈ q8))) := by
  refine Pu_enter Tryz.func93 rfl Tryz.ntmps93 rfl Tryz.call93 ?_
  intro a w M1 H hM1 S E
  replace hm8 := hm8.le hM1
  replace h9 := h9.le hM1
  replace hbx8 := hM1.2 _ _ hbx8
  replace hbx9 := hM1.2 _ _ hbx9
  refine WP_seq ?_
  refine WP_region ?_
  refine S_v E rfl (R_assign E rfl) rfl ?_
  clear E a; intro a E
  refine WL_nil ?_
  refine T_n ?_
  refine WP_seq ?_
  have hbx8k0 := hbx8
  have hbx9k0 := hbx9
  replace S := S.mono_heap (w' := World.drew _) rfl
  refine WP_drawn (C := fun x w => agree M1 w) (bf := (fun i => [])) [0, 1, 2, 5] [0, 1, 2, 3, 4, 5] Tryz.mixed (by kernel_rfl) (fun x hq => S.imm) ?_
  refine D_v E rfl rfl rfl (fun w hC => (R_loadM E rfl Tryz.isAgg102 hC (cellM_box hbx8k0))) ?_
  clear E a; intro a E
  refine D_v E rfl rfl rfl (fun w hC => (R_loadM E rfl Tryz.isAgg99 hC (cellM_box hbx9k0))) ?_
  clear E a; intro a E
  refine D_v E rfl rfl rfl (fun w hC => (R_move E rfl)) ?_
  clear E a; intro a E
  refine D_x rfl rfl rfl (X_pu E S rfl rfl rfl (h9.2 x0) (Hp.le.refl _) ?_)
  clear E a S; rintro a _ w M_1 hM_1 rfl S E
  replace hm8 := hm8.le hM_1
  replace h9 := h9.le hM_1
  replace hbx8 := hM_1.2 _ _ hbx8
  replace hbx9 := hM_1.2 _ _ hbx9
  refine ⟨fun x hq hb => (agree_le hM_1 S.imm), ?_⟩
  refine D_x rfl rfl rfl (X_pu E S rfl rfl rfl (lo_HasKey hm8) (Hp.le.refl _) ?_)
  clear E a S; rintro a _ w M_2 hM_2 rfl S E
  replace hm8 := hm8.le hM_2
  replace h9 := h9.le hM_2
  replace hbx8 := hM_2.2 _ _ hbx8
  replace hbx9 := hM_2.2 _ _ hbx9
  refine ⟨fun x hq hb => (agree_le (hM_1.trans hM_2) S.imm), ?_⟩
  refine D_v E rfl rfl rfl (fun w hC => (R_assign E rfl)) ?_
  clear E a; intro a E
  refine D_end (NoP_n ?_)
  refine T_n ?_
  refine WP_ret ?_
  exact F_ret1 E Tryz.results93 rfl ⟨_, rfl, M_2, (hM_1.trans hM_2), rfl, S⟩

set_option maxRecDepth 100000 in
set_option maxHeartbeats 4000000 in
theorem it_WithoutBy {M : Hp} {v0 : Value} {l0 : List Int} (h0 : SeqV Tryz.prog v0 M (RInt) l0){v1 : Value} {f1 : Int → Int} (h1 : PF1I Tryz.prog v1 M f1) {v2 : Value} {l2 : List Int} (h2 : RdI M v2 l2) (hb : l0.length ≤ 1000000000000) :
    Pu Tryz.prog (.func (.func 78) #[] #[]) M [v0, v1, v2] (fun r M' => SeqV Tryz.prog r M' RInt ((l0).filter (fun x => !decide (f1 x ∈ l2)))) := by
  refine Pu_enter Tryz.func78 rfl Tryz.ntmps78 rfl Tryz.call78 ?_
  intro a w M1 H hM1 S E
  replace h0 := h0.le hM1
  replace h1 := h1.le hM1
  replace h2 := h2.le hM1
  refine WP_seq ?_
  refine WP_region ?_
  refine S_x (X_box (cs := #[v1]) E S rfl rfl (cells_one h1.1) ?_)
  clear E a S; rintro a w b_1 E S
  obtain ⟨M_2, hM_2, hb_1, S⟩ := S.freezeB
  replace h0 := h0.le hM_2
  replace h1 := h1.le hM_2
  replace h2 := h2.le hM_2
  refine S_v E rfl (R_assign E rfl) rfl ?_
  clear E a; intro a E
  refine WL_nil ?_
  refine T_n ?_
  refine WP_seq ?_
  refine WP_region ?_
  refine S_v E rfl (R_move E rfl) rfl ?_
  clear E a; intro a E
  refine S_x (X_sp (p := []) E S rfl rfl rfl (lo_Keyify h2) (Hp.le.refl _) ?_)
  clear E a S; rintro a _ w M_3 _ hM_3 ⟨v_4, rfl, rfl⟩ S E
  replace S : St w M_3 (OwnS v_4 (keyL l2) :: _) := S
  replace h0 := h0.le hM_3
  replace h1 := h1.le hM_3
  replace h2 := h2.le hM_3
  replace hb_1 := hM_3.2 _ _ hb_1
  refine S_x (X_alloc (cs := #[.map none]) E S rfl Tryz.zeroValue102 rfl ?_)
  clear E a S; rintro a w b_5 E S
  refine S_x0 (X_store E S rfl rfl (Tryz.sizeOf102 _) rfl ?_)
  clear E a S; rintro a w E S
  refine WL_nil ?_
  refine T_n ?_
  refine WP_seq ?_
  refine WP_region ?_
  refine S_v E rfl (R_move E rfl) rfl ?_
  clear E a; intro a E
  replace S := S.front1
  have S0 := S; clear S
  obtain ⟨M_6, hM_6, hm_7, S⟩ := S0.freezeM
  clear S0
  replace h0 := h0.le hM_6
  replace h1 := h1.le hM_6
  replace h2 := h2.le hM_6
  replace hb_1 := hM_6.2 _ _ hb_1
  have S0 := S; clear S
  obtain ⟨M_8, hM_8, hb_9, S⟩ := S0.freezeB
  clear S0
  replace h0 := h0.le hM_8
  replace h1 := h1.le hM_8
  replace h2 := h2.le hM_8
  replace hb_1 := hM_8.2 _ _ hb_1
  replace hm_7 := hm_7.le hM_8
  refine S_v E rfl (R_makeFunc E rfl rfl) rfl ?_
  clear E a; intro a E
  refine S_x (X_pu E S rfl rfl rfl (it_Reject h0 ⟨rfl, fun zx0 => it_WithoutBy1 (x0 := zx0) (f9 := f1) hm_7 h1 hb_9 hb_1⟩ (by (first | omega | (simp; omega) | (simp; done) | (simp_all; omega) | grind))) (Hp.le.refl _) ?_)
  clear E a S; rintro a v_11 w M_10 hM_10 hv_11 S E
  replace h0 := h0.le hM_10
  replace h1 := h1.le hM_10
  replace h2 := h2.le hM_10
  replace hb_1 := hM_10.2 _ _ hb_1
  replace hm_7 := hm_7.le hM_10
  replace hb_9 := hM_10.2 _ _ hb_9
  refine S_v E rfl (R_assign E rfl) rfl ?_
  clear E a; intro a E
  refine WL_nil ?_
  refine T_n ?_
  refine WP_ret ?_
  exact F_ret1 E Tryz.results78 rfl ⟨_, rfl, M_10, (hM_2.trans (hM_3.trans (hM_6.trans (hM_8.trans hM_10)))), (SeqV_eq hv_11 (by (simp only [mem_keyL]))), S⟩

set_option maxRecDepth 100000 in
set_option maxHeartbeats 4000000 in
theorem it_Without1 {M : Hp} {x0 : Int} :
    Pu Tryz.prog (.func (.func 79) #[] #[]) M [.int .i64 x0] (fun r M' => r = .int .i64 x0) := by
  refine Pu_enter Tryz.func79 rfl Tryz.ntmps79 rfl Tryz.call79 ?_
  intro a w M1 H hM1 S E
  refine WP_seq ?_
  refine WP_region ?_
  refine S_v E rfl (R_assign E rfl) rfl ?_
  clear E a; intro a E
  refine WL_nil ?_
  refine T_n ?_
  refine WP_seq ?_
  refine WP_region ?_
  refine S_v E rfl (R_move E rfl) rfl ?_
  clear E a; intro a E
  refine S_v E rfl (R_assign E rfl) rfl ?_
  clear E a; intro a E
  refine WL_nil ?_
  refine T_n ?_
  refine WP_ret ?_
  exact F_ret1 E Tryz.results79 rfl ⟨_, rfl, M1, (Hp.le.refl _), rfl, S⟩

set_option maxRecDepth 100000 in
set_option maxHeartbeats 4000000 in
theorem it_Without {M : Hp} {v0 : Value} {l0 : List Int} (h0 : SeqV Tryz.prog v0 M (RInt) l0) {v1 : Value} {l1 : List Int} (h1 : RdI M v1 l1) (hb : l0.length ≤ 1000000000000) :
    Pu Tryz.prog (.func (.func 55) #[] #[]) M [v0, v1] (fun r M' => SeqV Tryz.prog r M' RInt ((l0).filter (fun x => !decide (x ∈ l1)))) := by
  refine Pu_enter Tryz.func55 rfl Tryz.ntmps55 rfl Tryz.call55 ?_
  intro a w M1 H hM1 S E
  replace h0 := h0.le hM1
  replace h1 := h1.le hM1
  refine WP_seq ?_
  refine WP_region ?_
  refine S_v E rfl (R_assign E rfl) rfl ?_
  clear E a; intro a E
  refine WL_nil ?_
  refine T_n ?_
  refine WP_seq ?_
  refine WP_region ?_
  refine S_v E rfl (R_move E rfl) rfl ?_
  clear E a; intro a E
  refine S_v E rfl (R_move E rfl) rfl ?_
  clear E a; intro a E
  refine S_x (X_pu E S rfl rfl rfl (it_WithoutBy h0 ⟨rfl, fun zx0 => it_Without1 (x0 := zx0) ⟩ h1 (by (first | omega | (simp; omega) | (simp; done) | (simp_all; omega) | grind))) (Hp.le.refl _) ?_)
  clear E a S; rintro a v_2 w M_1 hM_1 hv_2 S E
  replace h0 := h0.le hM_1
  replace h1 := h1.le hM_1
  refine S_v E rfl (R_assign E rfl) rfl ?_
  clear E a; intro a E
  refine WL_nil ?_
  refine T_n ?_
  refine WP_ret ?_
  exact F_ret1 E Tryz.results55 rfl ⟨_, rfl, M_1, hM_1, (SeqV_eq hv_2 (by ((try clear S); (try clear E); first | rfl | (simp; done) | (simp_all; done) | grind [List.take_add_one]))), S⟩

set_option maxRecDepth 100000 in
set_option maxHeartbeats 4000000 in
theorem impl_WithoutSeq {M : Hp} {v0 v1 : Value} {l0 l1 : List Int} (h0 : RdI M v0 l0) (h1 : RdI M v1 l1)(hb : l0.length ≤ 1000000000000) :
    Pu Tryz.prog (.func (.func 37) #[] #[]) M [v0, v1] (fun r M' => RdI M' r ((l0).filter (fun x => !decide (x ∈ l1)))) := by
  refine Pu_enter Tryz.func37 rfl Tryz.ntmps37 rfl Tryz.call37 ?_
  intro a w M1 H hM1 S E
  replace h0 := h0.le hM1
  replace h1 := h1.le hM1
  have b0 := h0.bound
  have b1 := h1.bound
  have hfl := List.length_filter_le (fun x => !decide (x ∈ l1)) l0
  refine WP_seq ?_
  refine WP_region ?_
  refine S_v E rfl (R_assign E rfl) rfl ?_
  clear E a; intro a E
  refine WL_nil ?_
  refine T_n ?_
  refine WP_seq ?_
  refine WP_region ?_
  refine S_v E rfl (R_move E rfl) rfl ?_
  clear E a; intro a E
  refine S_x (X_pu E S rfl rfl rfl (slices_Values h0) (Hp.le.refl _) ?_)
  clear E a S; rintro a v_2 w M_1 hM_1 hv_2 S E
  replace h0 := h0.le hM_1
  replace h1 := h1.le hM_1
  refine S_v E rfl (R_move E rfl) rfl ?_
  clear E a; intro a E
  refine S_x (X_pu E S rfl rfl rfl (it_Without hv_2 h1 (by (first | omega | (simp; omega) | (simp; done) | (simp_all; omega) | grind))) (Hp.le.refl _) ?_)
  clear E a S; rintro a v_4 w M_3 hM_3 hv_4 S E
  replace h0 := h0.le hM_3
  replace h1 := h1.le hM_3
  replace hv_2 := hv_2.le hM_3
  refine S_x (X_pu E S rfl rfl rfl (slices_Collect hv_4 (by first | omega | (first | omega | (simp; omega) | (simp; done) | (simp_all; omega) | grind))) (Hp.le.refl _) ?_)
  clear E a S; rintro a v_6 w M_5 hM_5 hv_6 S E
  replace h0 := h0.le hM_5
  replace h1 := h1.le hM_5
  replace hv_2 := hv_2.le hM_5
  replace hv_4 := hv_4.le hM_5
  refine S_v E rfl (R_assign E rfl) rfl ?_
  clear E a; intro a E
  refine WL_nil ?_
  refine T_n ?_
  refine WP_ret ?_
  exact F_ret1 E Tryz.results37 rfl ⟨_, rfl, M_5, (hM_1.trans (hM_3.trans hM_5)), hv_6, S⟩

set_option maxRecDepth 100000 in
set_option maxHeartbeats 4000000 in
theorem U_contains {M : Hp} {x1 : Int} {v0 : Value} {c0 : List Int} (h0 : RdSU 145 M v0 c0) (b0 : c0.length ≤ 1000000000)  :
    Pu Tryz.prog (.func (.func 207) #[] #[]) M [v0, .int .i64 x1] (fun r M' => r = .bool (decide (x1 ∈ c0))) := by
  refine Pu_enter Tryz.func207 rfl Tryz.ntmps207 rfl Tryz.call207 ?_
  intro a w M1 H hM1 S E
  replace h0 := h0.le hM1
  refine WP_seq ?_
  refine WP_region ?_
  refine S_v E rfl (R_assign E rfl) rfl ?_
  clear E a; intro a E
  refine WL_nil ?_
  refine T_n ?_
  refine WP_seq ?_
  refine WP_region ?_
  refine S_v E rfl (R_move E rfl) rfl ?_
  clear E a; intro a E
  have hset := h0
  obtain ⟨sb0, sm0, sq0, se0, shb0, shm0, shn0, shq0⟩ := hset
  have shq0l : sq0.length ≤ c0.length := nodup_len shn0 fun z hz => (shq0 z).1 hz
  refine S_v E rfl (R_nilCheck E rfl se0) rfl ?_
  clear E a; intro a E
  refine S_v E rfl (R_loadM E (congrArg some se0) Tryz.isAgg145 S.imm (cellM_box shb0)) rfl ?_
  clear E a; intro a E
  refine S_v E rfl (R_move E rfl) rfl ?_
  clear E a; intro a E
  refine S_v E rfl (R_lookupFS S.imm shm0 E MT145 rfl rfl) rfl ?_
  clear E a; intro a E
  refine S_v E rfl (R_move E rfl) rfl ?_
  clear E a; intro a E
  refine S_v E rfl (R_extract E rfl rfl) rfl ?_
  clear E a; intro a E
  refine S_v E rfl (R_extract E rfl rfl) rfl ?_
  clear E a; intro a E
  refine S_v E rfl (R_assign E rfl) rfl ?_
  clear E a; intro a E
  refine WL_nil ?_
  refine T_n ?_
  refine WP_seq ?_
  refine WP_region ?_
  refine S_v E rfl (R_move E rfl) rfl ?_
  clear E a; intro a E
  refine S_v E rfl (R_assign E rfl) rfl ?_
  clear E a; intro a E
  refine WL_nil ?_
  refine T_n ?_
  refine WP_ret ?_
  exact F_ret1 E Tryz.results207 rfl ⟨_, rfl, M1, (Hp.le.refl _), (congrArg Value.bool (by (simp [*]; done))), S⟩

set_option maxRecDepth 100000 in
set_option maxHeartbeats 4000000 in
theorem U_Intersect {M : Hp} {v0 : Value} {c0 : List Int} (h0 : RdSU 145 M v0 c0) {v1 : Value} {c1 : List Int} (h1 : RdSU 145 M v1 c1) (b0 : c0.length ≤ 1000000000) (b1 : c1.length ≤ 1000000000)  :
    Pu Tryz.prog (.func (.func 195) #[] #[]) M [v0, .iface 116 v1] (fun r M' => (∃ p, r = .iface 116 p ∧ RdSU 145 M' p ((c0).filter (fun z => decide (z ∈ c1))))) := by
  refine Pu_enter Tryz.func195 rfl Tryz.ntmps195 rfl Tryz.call195 ?_
  intro a w M1 H hM1 S E
  replace h0 := h0.le hM1
  replace h1 := h1.le hM1
  have hcl0 := card_le c0
  have hcl1 := card_le c1
  refine WP_seq ?_
  refine WP_region ?_
  refine S_v E rfl (R_assign E rfl) rfl ?_
  clear E a; intro a E
  refine WL_nil ?_
  refine T_n ?_
  refine WP_seq ?_
  refine WP_region ?_
  refine S_v E rfl (R_move E rfl) rfl ?_
  clear E a; intro a E
  refine S_v E rfl (R_assert E rfl Tryz.underlying116 (by intro z hz; cases hz)) rfl ?_
  clear E a; intro a E
  refine S_v E rfl (R_assign E rfl) rfl ?_
  clear E a; intro a E
  refine WL_nil ?_
  refine T_n ?_
  refine WP_seq ?_
  refine WP_region ?_
  refine S_x (X_alloc (cs := #[.map none]) E S rfl Tryz.zeroValue145 rfl ?_)
  clear E a S; rintro a w b_1 E S
  refine WL_nil ?_
  refine T_n ?_
  refine WP_seq ?_
  refine WP_seq ?_
  refine WP_region ?_
  refine S_v E rfl (R_move E rfl) rfl ?_
  clear E a; intro a E
  refine S_x (X_pu E S rfl rfl rfl (U_Cardinality h0 (by first | assumption | omega)) (Hp.le.refl _) ?_)
  clear E a S; rintro a _ w M_2 hM_2 rfl S E
  replace h0 := h0.le hM_2
  replace h1 := h1.le hM_2
  refine S_v E rfl (R_move E rfl) rfl ?_
  clear E a; intro a E
  refine S_x (X_puI E S rfl rfl rfl (meth_116_Cardinality _ _) Tryz.call205 (U_Cardinality h1 (by first | assumption | omega)) (Hp.le.refl _) ?_)
  clear E a S; rintro a _ w M_3 hM_3 rfl S E
  replace h0 := h0.le hM_3
  replace h1 := h1.le hM_3
  refine S_v E rfl (R_lss E rfl rfl) rfl ?_
  clear E a; intro a E
  refine WL_nil ?_
  refine T_n ?_
  refine WP_cond E rfl (fun hc_4 => ?_) (fun hc_4 => ?_)
  · replace hc_4 := of_decide_eq_true hc_4
    refine WP_seq ?_
    refine WP_region ?_
    refine S_v E rfl (R_move E rfl) rfl ?_
    clear E a; intro a E
    refine S_x (X_pu E S rfl rfl rfl (U_Cardinality h0 (by first | assumption | omega)) (Hp.le.refl _) ?_)
    clear E a S; rintro a _ w M_5 hM_5 rfl S E
    replace h0 := h0.le hM_5
    replace h1 := h1.le hM_5
    refine S_x (X_makeMapR E S rfl MT145 rfl ?_)
    clear E a S; rintro a w b_6 E S
    replace S : St w M_5 (OwnS b_6 ([] : List Int) :: _) := S
    replace S := S.front1
    refine S_x0 (X_store E S rfl rfl (Tryz.sizeOf145 _) rfl ?_)
    clear E a S; rintro a w E S
    refine WL_nil ?_
    refine T_n ?_
    refine WP_seq ?_
    refine WP_region ?_
    refine S_v E rfl (R_move E rfl) rfl ?_
    clear E a; intro a E
    have hset := h0
    obtain ⟨sb0, sm0, sq0, se0, shb0, shm0, shn0, shq0⟩ := hset
    have shq0l : sq0.length ≤ c0.length := nodup_len shn0 fun z hz => (shq0 z).1 hz
    refine S_v E rfl (R_nilCheck E rfl se0) rfl ?_
    clear E a; intro a E
    refine S_v E rfl (R_loadM E (congrArg some se0) Tryz.isAgg145 S.imm (cellM_box shb0)) rfl ?_
    clear E a; intro a E
    refine S_x (X_range E S rfl MT145 shm0 rfl ?_)
    clear E a S; rintro a w i_7 es_8 ck_9 E hf_10 S
    replace S : St w M_5 (ItO sm0 es_8 ck_9 i_7 (Sl.encS ([] : List Int)) :: _) := S
    refine WL_nil ?_
    refine T_n ?_
    refine WP_block ?_
    replace S := S.front2
    replace S := S.front1
    replace S := S.front1
    replace S := S.reM (L' := (Sl.encS (addsL [] (([]).filter (fun z => decide (z ∈ c1)))))) (congrArg Sl.encS (show ([] : List Int) = (addsL [] (([]).filter (fun z => decide (z ∈ c1)))) by (first | rfl | (simp [addsL_snoc]; done) | (simp [addsL_snoc, List.filter_append, *]; done))))
    replace S := S.front1
    replace S := S.reIt (p' := (Sl.encS [])) (congrArg Sl.encS (show ([] : List Int) = [] by (first | rfl | (simp [addsL_snoc]; done) | (simp [addsL_snoc, List.filter_append, *]; done))))
    refine WP_loop (γ := List Int) (fun (p : List Int) a w => ∃ (M_11 : Hp), Hp.le M_5 M_11 ∧ St w M_11 (ItO sm0 es_8 ck_9 i_7 (Sl.encS p) :: OwnS b_6 (addsL [] ((p).filter (fun z => decide (z ∈ c1)))) :: blk b_1 (.cells #[.map (some b_6)] 145) :: H) ∧ Env a 49 [] [(5, v1), (6, .pointer (some ⟨b_1, 0, none⟩)), (22, .pointer (some ⟨i_7, 0, none⟩))] ∧ (p.Nodup) ∧ (∀ z ∈ p, z ∈ sq0) ∧ (p.length ≤ sq0.length)) (fun p => sq0.length - p.length) [] ⟨M_5, Hp.le.refl _, S, E.keep ⟨rfl, rfl, rfl, trivial⟩, (by simp), (by simp), (by simp)⟩ ?_
    try clear E
    try clear S
    try clear a
    try clear w
    rintro p a w ⟨M_11, hM_11, S, E, hL0_0, hL0_1, hL0_2⟩
    replace h0 := h0.le hM_11
    replace h1 := h1.le hM_11
    replace shb0 := hM_11.2 _ _ shb0
    replace shm0 := shm0.le hM_11
    replace hf_10 := hf_10.le hM_11
    refine WP_seq ?_
    refine WP_region ?_
    refine S_x (X_nextS E S rfl hf_10 rfl (by assumption) (by assumption) ?_ ?_)
    · clear E a S; rintro a E hpm_12 S
      refine S_v E rfl (R_extract E rfl rfl) rfl ?_
      clear E a; intro a E
      refine WL_nil ?_
      refine T_n ?_
      refine WP_seq ?_
      refine WP_condF E rfl rfl ?_
      refine WP_exit ?_
      refine T_x ?_
      refine T_x ?_
      refine B_x ?_
      refine T_n ?_
      refine WP_seq ?_
      refine WP_region ?_
      replace S := S.front1
      have S0 := S; clear S
      obtain ⟨M_13, hM_13, hm_14, S⟩ := S0.freezeM
      clear S0
      replace h0 := h0.le hM_13
      replace h1 := h1.le hM_13
      replace shb0 := hM_13.2 _ _ shb0
      replace shm0 := shm0.le hM_13
      replace hf_10 := hf_10.le hM_13
      replace S := S.front1
      have S0 := S; clear S
      obtain ⟨M_15, hM_15, hb_16, S⟩ := S0.freezeB
      clear S0
      replace h0 := h0.le hM_15
      replace h1 := h1.le hM_15
      replace shb0 := hM_15.2 _ _ shb0
      replace shm0 := shm0.le hM_15
      replace hf_10 := hf_10.le hM_15
      replace hm_14 := hm_14.le hM_15
      refine S_v E rfl (R_ifaceP E rfl Tryz.underlying116) rfl ?_
      clear E a; intro a E
      refine S_v E rfl (R_assign E rfl) rfl ?_
      clear E a; intro a E
      refine WL_nil ?_
      refine T_n ?_
      refine WP_ret ?_
      exact F_ret1 E Tryz.results195 rfl ⟨_, rfl, M_15, (hM_2.trans (hM_3.trans (hM_5.trans (hM_11.trans (hM_13.trans hM_15))))), ⟨_, rfl, ⟨_, _, (addsL [] ((p).filter (fun z => decide (z ∈ c1)))), rfl, hb_16, hm_14, (by first | assumption | exact addsL_nodup _ _ List.nodup_nil | exact addsL_nodup _ _ (addsL_nodup _ _ List.nodup_nil)), (by (first | (intro x; have ep := (List.Perm.mem_iff (a := x) (show p.Perm sq0 by first | assumption | (exact List.Perm.symm (by assumption)))).trans (shq0 x); simp only [mem_addsL, List.not_mem_nil, false_or, List.mem_append, List.mem_filter, decide_eq_true_eq, List.nil_append]; simp only [ep]) | (intro x; have ep := (List.Perm.mem_iff (a := x) (show p.Perm sq1 by first | assumption | (exact List.Perm.symm (by assumption)))).trans (shq1 x); simp only [mem_addsL, List.not_mem_nil, false_or, List.mem_filter, decide_eq_true_eq]; rw [ep]; exact And.comm)))⟩⟩, S.drop⟩
    · clear E a S w; rintro a w k_17 E hk_18 hk_18n hk_18l S
      refine S_v E rfl (R_extract E rfl rfl) rfl ?_
      clear E a; intro a E
      refine WL_nil ?_
      refine T_n ?_
      refine WP_seq ?_
      refine WP_condT E rfl rfl ?_
      refine WP_skip ?_
      refine T_n ?_
      refine WP_block ?_
      refine WP_seq ?_
      refine WP_region ?_
      refine S_v E rfl (R_entry (k := k_17) (v := .agg #[]) E (by have S1 := S; simp only [Sl.encS, List.map_append, List.map_cons, List.map_nil] at S1; exact S1) hf_10 rfl) rfl ?_
      clear E a; intro a E
      refine S_v E rfl (R_extract E rfl rfl) rfl ?_
      clear E a; intro a E
      refine S_v E rfl (R_assign E rfl) rfl ?_
      clear E a; intro a E
      refine WL_nil ?_
      refine T_n ?_
      refine WP_seq ?_
      refine WP_region ?_
      refine S_v E rfl (R_move E rfl) rfl ?_
      clear E a; intro a E
      refine S_v E rfl (R_move E rfl) rfl ?_
      clear E a; intro a E
      refine S_x (X_pu E S rfl rfl rfl (U_contains h1 (by first | assumption | omega)) (Hp.le.refl _) ?_)
      clear E a S; rintro a _ w M_19 hM_19 rfl S E
      replace h0 := h0.le hM_19
      replace h1 := h1.le hM_19
      replace shb0 := hM_19.2 _ _ shb0
      replace shm0 := shm0.le hM_19
      replace hf_10 := hf_10.le hM_19
      refine WL_nil ?_
      refine T_n ?_
      refine WP_cond E rfl (fun hc_20 => ?_) (fun hc_20 => ?_)
      · replace hc_20 := of_decide_eq_true hc_20
        refine WP_region ?_
        refine S_v E rfl (R_move E rfl) rfl ?_
        clear E a; intro a E
        replace S := S.front1
        replace S := S.front2
        refine S_x (X_sp (p := [blk b_1 (.cells #[.map (some b_6)] 145), OwnS b_6 (addsL [] ((p).filter (fun z => decide (z ∈ c1))))]) E S rfl rfl rfl (U_add) (Hp.le.refl _) ?_)
        clear E a S; rintro a _ w M_21 _ hM_21 ⟨rfl, rfl⟩ S E
        replace S : St w M_21 (blk b_1 (.cells #[.map (some b_6)] 145) :: OwnS b_6 (addS (addsL [] ((p).filter (fun z => decide (z ∈ c1)))) k_17) :: ItO sm0 es_8 ck_9 i_7 (Sl.encS (p ++ [k_17])) :: H) := S
        replace h0 := h0.le hM_21
        replace h1 := h1.le hM_21
        replace shb0 := hM_21.2 _ _ shb0
        replace shm0 := shm0.le hM_21
        replace hf_10 := hf_10.le hM_21
        refine WL_nil ?_
        refine B_n ?_
        refine T_n ?_
        replace S := S.front1
        replace S := S.front2
        replace S := S.front1
        replace S := S.reM (L' := (Sl.encS (addsL [] (((p ++ [k_17])).filter (fun z => decide (z ∈ c1)))))) (congrArg Sl.encS (show addS (addsL [] ((p).filter (fun z => decide (z ∈ c1)))) k_17 = (addsL [] (((p ++ [k_17])).filter (fun z => decide (z ∈ c1)))) by (first | rfl | (simp [addsL_snoc]; done) | (simp [addsL_snoc, List.filter_append, *]; done))))
        replace S := S.front1
        replace S := S.reIt (p' := (Sl.encS (p ++ [k_17]))) (congrArg Sl.encS (show p ++ [k_17] = (p ++ [k_17]) by (first | rfl | (simp [addsL_snoc]; done) | (simp [addsL_snoc, List.filter_append, *]; done))))
        exact ⟨(p ++ [k_17]), ⟨M_21, (hM_11.trans (hM_19.trans hM_21)), S, E.keep ⟨rfl, rfl, rfl, trivial⟩, (by exact snocN (by assumption) (by assumption)), (by exact snocS (by assumption) (by assumption)), (by simp; omega)⟩, (by simp; omega)⟩
      · replace hc_20 := of_decide_eq_false hc_20
        refine WP_skip ?_
        refine B_n ?_
        refine T_n ?_
        replace S := S.front1
        replace S := S.reM (L' := (Sl.encS (addsL [] (((p ++ [k_17])).filter (fun z => decide (z ∈ c1)))))) (congrArg Sl.encS (show (addsL [] ((p).filter (fun z => decide (z ∈ c1)))) = (addsL [] (((p ++ [k_17])).filter (fun z => decide (z ∈ c1)))) by (first | rfl | (simp [addsL_snoc]; done) | (simp [addsL_snoc, List.filter_append, *]; done))))
        replace S := S.front1
        replace S := S.reIt (p' := (Sl.encS (p ++ [k_17]))) (congrArg Sl.encS (show p ++ [k_17] = (p ++ [k_17]) by (first | rfl | (simp [addsL_snoc]; done) | (simp [addsL_snoc, List.filter_append, *]; done))))
        exact ⟨(p ++ [k_17]), ⟨M_19, (hM_11.trans hM_19), S, E.keep ⟨rfl, rfl, rfl, trivial⟩, (by exact snocN (by assumption) (by assumption)), (by exact snocS (by assumption) (by assumption)), (by simp; omega)⟩, (by simp; omega)⟩
  · replace hc_4 := of_decide_eq_false hc_4
    refine WP_seq ?_
    refine WP_region ?_
    refine S_v E rfl (R_move E rfl) rfl ?_
    clear E a; intro a E
    refine S_x (X_pu E S rfl rfl rfl (U_Cardinality h1 (by first | assumption | omega)) (Hp.le.refl _) ?_)
    clear E a S; rintro a _ w M_22 hM_22 rfl S E
    replace h0 := h0.le hM_22
    replace h1 := h1.le hM_22
    refine S_x (X_makeMapR E S rfl MT145 rfl ?_)
    clear E a S; rintro a w b_23 E S
    replace S : St w M_22 (OwnS b_23 ([] : List Int) :: _) := S
    replace S := S.front1
    refine S_x0 (X_store E S rfl rfl (Tryz.sizeOf145 _) rfl ?_)
    clear E a S; rintro a w E S
    refine WL_nil ?_
    refine T_n ?_
    refine WP_seq ?_
    refine WP_region ?_
    refine S_v E rfl (R_move E rfl) rfl ?_
    clear E a; intro a E
    have hset := h1
    obtain ⟨sb1, sm1, sq1, se1, shb1, shm1, shn1, shq1⟩ := hset
    have shq1l : sq1.length ≤ c1.length := nodup_len shn1 fun z hz => (shq1 z).1 hz
    refine S_v E rfl (R_nilCheck E rfl se1) rfl ?_
    clear E a; intro a E
    refine S_v E rfl (R_loadM E (congrArg some se1) Tryz.isAgg145 S.imm (cellM_box shb1)) rfl ?_
    clear E a; intro a E
    refine S_x (X_range E S rfl MT145 shm1 rfl ?_)
    clear E a S; rintro a w i_24 es_25 ck_26 E hf_27 S
    replace S : St w M_22 (ItO sm1 es_25 ck_26 i_24 (Sl.encS ([] : List Int)) :: _) := S
    refine WL_nil ?_
    refine T_n ?_
    refine WP_block ?_
    replace S := S.front2
    replace S := S.front1
    replace S := S.front1
    replace S := S.reM (L' := (Sl.encS (addsL [] (([]).filter (fun z => decide (z ∈ c0)))))) (congrArg Sl.encS (show ([] : List Int) = (addsL [] (([]).filter (fun z => decide (z ∈ c0)))) by (first | rfl | (simp [addsL_snoc]; done) | (simp [addsL_snoc, List.filter_append, *]; done))))
    replace S := S.front1
    replace S := S.reIt (p' := (Sl.encS [])) (congrArg Sl.encS (show ([] : List Int) = [] by (first | rfl | (simp [addsL_snoc]; done) | (simp [addsL_snoc, List.filter_append, *]; done))))
    refine WP_loop (γ := List Int) (fun (p : List Int) a w => ∃ (M_28 : Hp), Hp.le M_22 M_28 ∧ St w M_28 (ItO sm1 es_25 ck_26 i_24 (Sl.encS p) :: OwnS b_23 (addsL [] ((p).filter (fun z => decide (z ∈ c0)))) :: blk b_1 (.cells #[.map (some b_23)] 145) :: H) ∧ Env a 49 [] [(0, v0), (6, .pointer (some ⟨b_1, 0, none⟩)), (38, .pointer (some ⟨i_24, 0, none⟩))] ∧ (p.Nodup) ∧ (∀ z ∈ p, z ∈ sq1) ∧ (p.length ≤ sq1.length)) (fun p => sq1.length - p.length) [] ⟨M_22, Hp.le.refl _, S, E.keep ⟨rfl, rfl, rfl, trivial⟩, (by simp), (by simp), (by simp)⟩ ?_
    try clear E
    try clear S
    try clear a
    try clear w
    rintro p a w ⟨M_28, hM_28, S, E, hL1_0, hL1_1, hL1_2⟩
    replace h0 := h0.le hM_28
    replace h1 := h1.le hM_28
    replace shb1 := hM_28.2 _ _ shb1
    replace shm1 := shm1.le hM_28
    replace hf_27 := hf_27.le hM_28
    refine WP_seq ?_
    refine WP_region ?_
    refine S_x (X_nextS E S rfl hf_27 rfl (by assumption) (by assumption) ?_ ?_)
    · clear E a S; rintro a E hpm_29 S
      refine S_v E rfl (R_extract E rfl rfl) rfl ?_
      clear E a; intro a E
      refine WL_nil ?_
      refine T_n ?_
      refine WP_seq ?_
      refine WP_condF E rfl rfl ?_
      refine WP_exit ?_
      refine T_x ?_
      refine T_x ?_
      refine B_x ?_
      refine T_n ?_
      refine WP_seq ?_
      refine WP_region ?_
      replace S := S.front1
      have S0 := S; clear S
      obtain ⟨M_30, hM_30, hm_31, S⟩ := S0.freezeM
      clear S0
      replace h0 := h0.le hM_30
      replace h1 := h1.le hM_30
      replace shb1 := hM_30.2 _ _ shb1
      replace shm1 := shm1.le hM_30
      replace hf_27 := hf_27.le hM_30
      replace S := S.front1
      have S0 := S; clear S
      obtain ⟨M_32, hM_32, hb_33, S⟩ := S0.freezeB
      clear S0
      replace h0 := h0.le hM_32
      replace h1 := h1.le hM_32
      replace shb1 := hM_32.2 _ _ shb1
      replace shm1 := shm1.le hM_32
      replace hf_27 := hf_27.le hM_32
      replace hm_31 := hm_31.le hM_32
      refine S_v E rfl (R_ifaceP E rfl Tryz.underlying116) rfl ?_
      clear E a; intro a E
      refine S_v E rfl (R_assign E rfl) rfl ?_
      clear E a; intro a E
      refine WL_nil ?_
      refine T_n ?_
      refine WP_ret ?_
      exact F_ret1 E Tryz.results195 rfl ⟨_, rfl, M_32, (hM_2.trans (hM_3.trans (hM_22.trans (hM_28.trans (hM_30.trans hM_32))))), ⟨_, rfl, ⟨_, _, (addsL [] ((p).filter (fun z => decide (z ∈ c0)))), rfl, hb_33, hm_31, (by first | assumption | exact addsL_nodup _ _ List.nodup_nil | exact addsL_nodup _ _ (addsL_nodup _ _ List.nodup_nil)), (by (first | (intro x; have ep := (List.Perm.mem_iff (a := x) (show p.Perm sq0 by first | assumption | (exact List.Perm.symm (by assumption)))).trans (shq0 x); simp only [mem_addsL, List.not_mem_nil, false_or, List.mem_append, List.mem_filter, decide_eq_true_eq, List.nil_append]; simp only [ep]) | (intro x; have ep := (List.Perm.mem_iff (a := x) (show p.Perm sq1 by first | assumption | (exact List.Perm.symm (by assumption)))).trans (shq1 x); simp only [mem_addsL, List.not_mem_nil, false_or, List.mem_filter, decide_eq_true_eq]; rw [ep]; exact And.comm)))⟩⟩, S.drop⟩
    · clear E a S w; rintro a w k_34 E hk_35 hk_35n hk_35l S
      refine S_v E rfl (R_extract E rfl rfl) rfl ?_
      clear E a; intro a E
      refine WL_nil ?_
      refine T_n ?_
      refine WP_seq ?_
      refine WP_condT E rfl rfl ?_
      refine WP_skip ?_
      refine T_n ?_
      refine WP_block ?_
      refine WP_seq ?_
      refine WP_region ?_
      refine S_v E rfl (R_entry (k := k_34) (v := .agg #[]) E (by have S1 := S; simp only [Sl.encS, List.map_append, List.map_cons, List.map_nil] at S1; exact S1) hf_27 rfl) rfl ?_
      clear E a; intro a E
      refine S_v E rfl (R_extract E rfl rfl) rfl ?_
      clear E a; intro a E
      refine S_v E rfl (R_assign E rfl) rfl ?_
      clear E a; intro a E
      refine WL_nil ?_
      refine T_n ?_
      refine WP_seq ?_
      refine WP_region ?_
      refine S_v E rfl (R_move E rfl) rfl ?_
      clear E a; intro a E
      refine S_v E rfl (R_move E rfl) rfl ?_
      clear E a; intro a E
      refine S_x (X_pu E S rfl rfl rfl (U_contains h0 (by first | assumption | omega)) (Hp.le.refl _) ?_)
      clear E a S; rintro a _ w M_36 hM_36 rfl S E
      replace h0 := h0.le hM_36
      replace h1 := h1.le hM_36
      replace shb1 := hM_36.2 _ _ shb1
      replace shm1 := shm1.le hM_36
      replace hf_27 := hf_27.le hM_36
      refine WL_nil ?_
      refine T_n ?_
      refine WP_cond E rfl (fun hc_37 => ?_) (fun hc_37 => ?_)
      · replace hc_37 := of_decide_eq_true hc_37
        refine WP_region ?_
        refine S_v E rfl (R_move E rfl) rfl ?_
        clear E a; intro a E
        replace S := S.front1
        replace S := S.front2
        refine S_x (X_sp (p := [blk b_1 (.cells #[.map (some b_23)] 145), OwnS b_23 (addsL [] ((p).filter (fun z => decide (z ∈ c0))))]) E S rfl rfl rfl (U_add) (Hp.le.refl _) ?_)
        clear E a S; rintro a _ w M_38 _ hM_38 ⟨rfl, rfl⟩ S E
        replace S : St w M_38 (blk b_1 (.cells #[.map (some b_23)] 145) :: OwnS b_23 (addS (addsL [] ((p).filter (fun z => decide (z ∈ c0)))) k_34) :: ItO sm1 es_25 ck_26 i_24 (Sl.encS (p ++ [k_34])) :: H) := S
        replace h0 := h0.le hM_38
        replace h1 := h1.le hM_38
        replace shb1 := hM_38.2 _ _ shb1
        replace shm1 := shm1.le hM_38
        replace hf_27 := hf_27.le hM_38
        refine WL_nil ?_
        refine B_n ?_
        refine T_n ?_
        replace S := S.front1
        replace S := S.front2
        replace S := S.front1
        replace S := S.reM (L' := (Sl.encS (addsL [] (((p ++ [k_34])).filter (fun z => decide (z ∈ c0)))))) (congrArg Sl.encS (show addS (addsL [] ((p).filter (fun z => decide (z ∈ c0)))) k_34 = (addsL [] (((p ++ [k_34])).filter (fun z => decide (z ∈ c0)))) by (first | rfl | (simp [addsL_snoc]; done) | (simp [addsL_snoc, List.filter_append, *]; done))))
        replace S := S.front1
        replace S := S.reIt (p' := (Sl.encS (p ++ [k_34]))) (congrArg Sl.encS (show p ++ [k_34] = (p ++ [k_34]) by (first | rfl | (simp [addsL_snoc]; done) | (simp [addsL_snoc, List.filter_append, *]; done))))
        exact ⟨(p ++ [k_34]), ⟨M_38, (hM_28.trans (hM_36.trans hM_38)), S, E.keep ⟨rfl, rfl, rfl, trivial⟩, (by exact snocN (by assumption) (by assumption)), (by exact snocS (by assumption) (by assumption)), (by simp; omega)⟩, (by simp; omega)⟩
      · replace hc_37 := of_decide_eq_false hc_37
        refine WP_skip ?_
        refine B_n ?_
        refine T_n ?_
        replace S := S.front1
        replace S := S.reM (L' := (Sl.encS (addsL [] (((p ++ [k_34])).filter (fun z => decide (z ∈ c0)))))) (congrArg Sl.encS (show (addsL [] ((p).filter (fun z => decide (z ∈ c0)))) = (addsL [] (((p ++ [k_34])).filter (fun z => decide (z ∈ c0)))) by (first | rfl | (simp [addsL_snoc]; done) | (simp [addsL_snoc, List.filter_append, *]; done))))
        replace S := S.front1
        replace S := S.reIt (p' := (Sl.encS (p ++ [k_34]))) (congrArg Sl.encS (show p ++ [k_34] = (p ++ [k_34]) by (first | rfl | (simp [addsL_snoc]; done) | (simp [addsL_snoc, List.filter_append, *]; done))))
        exact ⟨(p ++ [k_34]), ⟨M_36, (hM_28.trans hM_36), S, E.keep ⟨rfl, rfl, rfl, trivial⟩, (by exact snocN (by assumption) (by assumption)), (by exact snocS (by assumption) (by assumption)), (by simp; omega)⟩, (by simp; omega)⟩

set_option maxRecDepth 100000 in
set_option maxHeartbeats 4000000 in
theorem U_SetIntersect {M : Hp} {v1 v2 : Value} {l1 l2 : List Int} (h1 : RdI M v1 l1) (h2 : RdI M v2 l2)(hb1 : l1.length ≤ 100000000) (hb2 : l2.length ≤ 100000000)  :
    Pu Tryz.prog (.func (.func 14) #[] #[]) M [.bool false, v1, v2] (fun r M' => RdI M' r (suL ((l1).filter (fun z => decide (z ∈ l2))))) := by
  refine Pu_enter Tryz.func14 rfl Tryz.ntmps14 rfl Tryz.call14 ?_
  intro a w M1 H hM1 S E
  replace h1 := h1.le hM1
  replace h2 := h2.le hM1
  have b1 := h1.bound
  have b2 := h2.bound
  refine WP_seq ?_
  refine WP_region ?_
  refine S_v E rfl (R_assign E rfl) rfl ?_
  clear E a; intro a E
  refine WL_nil ?_
  refine T_n ?_
  refine WP_seq ?_
  refine WP_region ?_
  refine S_v E rfl (R_move E rfl) rfl ?_
  clear E a; intro a E
  refine S_v E rfl (R_move E rfl) rfl ?_
  clear E a; intro a E
  refine S_v E rfl (R_move E rfl) rfl ?_
  clear E a; intro a E
  refine S_x (X_pu E S rfl rfl rfl (U_twoSets h1 h2 (by first | assumption | omega) (by first | assumption | omega)) (Hp.le.refl _) ?_)
  clear E a S; rintro a _ w M_1 hM_1 ⟨_, _, rfl, ⟨v_2, rfl, hv_2⟩, ⟨v_3, rfl, hv_3⟩⟩ S E
  replace h1 := h1.le hM_1
  replace h2 := h2.le hM_1
  refine S_v E rfl (R_move E rfl) rfl ?_
  clear E a; intro a E
  refine S_v E rfl (R_extract E rfl rfl) rfl ?_
  clear E a; intro a E
  refine S_v E rfl (R_extract E rfl rfl) rfl ?_
  clear E a; intro a E
  refine S_v E rfl (R_assign E rfl) rfl ?_
  clear E a; intro a E
  refine S_v E rfl (R_assign E rfl) rfl ?_
  clear E a; intro a E
  refine WL_nil ?_
  refine T_n ?_
  refine WP_seq ?_
  refine WP_region ?_
  refine S_v E rfl (R_move E rfl) rfl ?_
  clear E a; intro a E
  refine S_v E rfl (R_move E rfl) rfl ?_
  clear E a; intro a E
  refine S_x (X_puI E S rfl rfl rfl (meth_116_Intersect _ _) Tryz.call195 (U_Intersect hv_2 hv_3 (by first | assumption | omega) (by first | assumption | omega)) (Hp.le.refl _) ?_)
  clear E a S; rintro a _ w M_4 hM_4 ⟨v_5, rfl, hv_5⟩ S E
  replace h1 := h1.le hM_4
  replace h2 := h2.le hM_4
  replace hv_2 := hv_2.le hM_4
  replace hv_3 := hv_3.le hM_4
  refine S_x (X_pu E S rfl rfl rfl (U_Sorted hv_5 (by first | assumption | omega | (simp only [List.length_append]; omega) | exact Nat.le_trans (List.length_filter_le _ _) (by omega) | (rw [List.length_append]; have h8 := List.length_filter_le (fun z => decide (z ∉ l2)) l1; have h9 := List.length_filter_le (fun z => decide (z ∉ l1)) l2; omega))) (Hp.le.refl _) ?_)
  clear E a S; rintro a v_7 w M_6 hM_6 hv_7 S E
  replace h1 := h1.le hM_6
  replace h2 := h2.le hM_6
  replace hv_2 := hv_2.le hM_6
  replace hv_3 := hv_3.le hM_6
  replace hv_5 := hv_5.le hM_6
  refine S_v E rfl (R_assign E rfl) rfl ?_
  clear E a; intro a E
  refine WL_nil ?_
  refine T_n ?_
  refine WP_ret ?_
  exact F_ret1 E Tryz.results14 rfl ⟨_, rfl, M_6, (hM_1.trans (hM_4.trans hM_6)), hv_7, S⟩

set_option maxRecDepth 100000 in
set_option maxHeartbeats 4000000 in
theorem S_Intersect {M : Hp} {p0 : Nat} {v0 : Value} {c0 : List Int} (h0 : RdSU 145 M v0 c0) {p1 : Nat} {v1 : Value} {c1 : List Int} (h1 : RdSU 145 M v1 c1) (b0 : c0.length ≤ 1000000000) (b1 : c1.length ≤ 1000000000)  :
    Sp Tryz.prog (.func (.func 171) #[] #[]) M [.pointer (some ⟨p0, 0, none⟩), .iface 114 (.pointer (some ⟨p1, 0, none⟩))] [blk p0 (.cells #[.int .i32 0, .int .u32 0, .int .u32 0, .int .u32 0, .int .i32 0, .int .i32 0, v0] 144), blk p1 (.cells #[.int .i32 0, .int .u32 0, .int .u32 0, .int .u32 0, .int .i32 0, .int .i32 0, v1] 144)] (fun r M' C' => ∃ p_0 v_0, r = .iface 114 (.pointer (some ⟨p_0, 0, none⟩)) ∧ C' = [blk p0 (.cells #[.int .i32 0, .int .u32 0, .int .u32 0, .int .u32 0, .int .i32 0, .int .i32 0, v0] 144), blk p1 (.cells #[.int .i32 0, .int .u32 0, .int .u32 0, .int .u32 0, .int .i32 0, .int .i32 0, v1] 144), blk p_0 (.cells #[.int .i32 0, .int .u32 0, .int .u32 0, .int .u32 0, .int .i32 0, .int .i32 0, v_0] 144)] ∧ (RdSU 145 M' v_0 ((c0).filter (fun z => decide (z ∈ c1))))) := by
  refine Sp_enter Tryz.func171 rfl Tryz.ntmps171 rfl Tryz.call171 ?_
  intro a w M1 H hM1 S E
  replace S : St w M1 (blk p0 (.cells #[.int .i32 0, .int .u32 0, .int .u32 0, .int .u32 0, .int .i32 0, .int .i32 0, v0] 144) :: blk p1 (.cells #[.int .i32 0, .int .u32 0, .int .u32 0, .int .u32 0, .int .i32 0, .int .i32 0, v1] 144) :: _) := S
  replace h0 := h0.le hM1
  replace h1 := h1.le hM1
  have hset := h0
  obtain ⟨sb0, sm0, sq0, se0, shb0, shm0, shn0, shq0⟩ := hset
  have shq0l : sq0.length ≤ c0.length := nodup_len shn0 fun z hz => (shq0 z).1 hz
  have hset := h1
  obtain ⟨sb1, sm1, sq1, se1, shb1, shm1, shn1, shq1⟩ := hset
  have shq1l : sq1.length ≤ c1.length := nodup_len shn1 fun z hz => (shq1 z).1 hz
  refine WP_seq ?_
  refine WP_region ?_
  refine S_v E rfl (R_assign E rfl) rfl ?_
  clear E a; intro a E
  refine WL_nil ?_
  refine T_n ?_
  refine WP_seq ?_
  refine WP_region ?_
  refine S_v E rfl (R_move E rfl) rfl ?_
  clear E a; intro a E
  refine S_v E rfl (R_assert E rfl Tryz.underlying114 (by intro z hz; cases hz)) rfl ?_
  clear E a; intro a E
  refine S_v E rfl (R_assign E rfl) rfl ?_
  clear E a; intro a E
  refine WL_nil ?_
  refine T_n ?_
  refine WP_seq ?_
  refine WP_region ?_
  refine S_v E rfl (R_move E rfl) rfl ?_
  clear E a; intro a E
  refine S_v E rfl (R_nilCheck E rfl rfl) rfl ?_
  clear E a; intro a E
  refine S_v E rfl (R_fieldAddr E rfl (FA144_0 _)) rfl ?_
  clear E a; intro a E
  replace S : St w M1 (LK p0 144 0 v0 :: _) := S
  refine S_x (X_sp (p := [LK p0 144 0 v0]) E S rfl rfl rfl (rlock_sp Tryz.rwRLib (T := 144) (n := 0) (by decide) (by decide)) (Hp.le.refl _) ?_)
  clear E a S; rintro a _ w M_1 _ hM_1 ⟨rfl, rfl⟩ S E
  replace S : St w M_1 (blk p0 (.cells #[.int .i32 0, .int .u32 0, .int .u32 0, .int .u32 0, .int .i32 1, .int .i32 0, v0] 144) :: blk p1 (.cells #[.int .i32 0, .int .u32 0, .int .u32 0, .int .u32 0, .int .i32 0, .int .i32 0, v1] 144) :: H) := S
  replace h0 := h0.le hM_1
  replace h1 := h1.le hM_1
  replace shb0 := hM_1.2 _ _ shb0
  replace shm0 := shm0.le hM_1
  replace shb1 := hM_1.2 _ _ shb1
  replace shm1 := shm1.le hM_1
  refine WL_nil ?_
  refine T_n ?_
  refine WP_seq ?_
  refine WP_region ?_
  refine S_v E rfl (R_move E rfl) rfl ?_
  clear E a; intro a E
  refine S_v E rfl (R_nilCheck E rfl rfl) rfl ?_
  clear E a; intro a E
  refine S_v E rfl (R_fieldAddr E rfl (FA144_0 _)) rfl ?_
  clear E a; intro a E
  replace S := S.front1
  replace S : St w M_1 (LK p1 144 0 v1 :: _) := S
  refine S_x (X_sp (p := [LK p1 144 0 v1]) E S rfl rfl rfl (rlock_sp Tryz.rwRLib (T := 144) (n := 0) (by decide) (by decide)) (Hp.le.refl _) ?_)
  clear E a S; rintro a _ w M_2 _ hM_2 ⟨rfl, rfl⟩ S E
  replace S : St w M_2 (blk p1 (.cells #[.int .i32 0, .int .u32 0, .int .u32 0, .int .u32 0, .int .i32 1, .int .i32 0, v1] 144) :: blk p0 (.cells #[.int .i32 0, .int .u32 0, .int .u32 0, .int .u32 0, .int .i32 1, .int .i32 0, v0] 144) :: H) := S
  replace h0 := h0.le hM_2
  replace h1 := h1.le hM_2
  replace shb0 := hM_2.2 _ _ shb0
  replace shm0 := shm0.le hM_2
  replace shb1 := hM_2.2 _ _ shb1
  replace shm1 := shm1.le hM_2
  refine WL_nil ?_
  refine T_n ?_
  refine WP_seq ?_
  replace S := S.mono_heap (w' := World.drew _) rfl
  refine WP_drawn (C := fun x w => agree M_2 w ∧ (x = 3 → w.heap[p0]? = some (.cells #[.int .i32 0, .int .u32 0, .int .u32 0, .int .u32 0, .int .i32 1, .int .i32 0, v0] 144)) ∧ (x = 7 → w.heap[p1]? = some (.cells #[.int .i32 0, .int .u32 0, .int .u32 0, .int .u32 0, .int .i32 1, .int .i32 0, v1] 144))) (bf := (fun i => bif Nat.beq i 9 then [3, 7] else [])) [0, 1, 2, 3, 4, 5, 6, 7, 8, 10, 11] [0, 1, 2, 3, 4, 5, 6, 7, 8, 9, 10, 11] Tryz.mixed (by kernel_rfl) (fun x hq => ⟨S.imm, fun _ => (S.mem (.tail _ (.head _))), fun _ => (S.mem (.head _))⟩) ?_
  refine D_v E rfl rfl rfl (fun w hC => (R_move E rfl)) ?_
  clear E a; intro a E
  refine D_v E rfl rfl rfl (fun w hC => (R_nilCheck E rfl rfl)) ?_
  clear E a; intro a E
  refine D_v E rfl rfl rfl (fun w hC => (R_fieldAddr E rfl (FA144_1 _))) ?_
  clear E a; intro a E
  refine D_v E rfl rfl rfl (fun w hC => (R_load E rfl (Tryz.isAgg116 _) (cell_blkf (hC.2.1 rfl) rfl))) ?_
  clear E a; intro a E
  refine D_v E rfl rfl rfl (fun w hC => (R_move E rfl)) ?_
  clear E a; intro a E
  refine D_v E rfl rfl rfl (fun w hC => (R_nilCheck E rfl rfl)) ?_
  clear E a; intro a E
  refine D_v E rfl rfl rfl (fun w hC => (R_fieldAddr E rfl (FA144_1 _))) ?_
  clear E a; intro a E
  refine D_v E rfl rfl rfl (fun w hC => (R_load E rfl (Tryz.isAgg116 _) (cell_blkf (hC.2.2 rfl) rfl))) ?_
  clear E a; intro a E
  refine D_v E rfl rfl rfl (fun w hC => (R_ifaceP E rfl Tryz.underlying116)) ?_
  clear E a; intro a E
  refine D_x rfl rfl rfl (X_pu E S rfl rfl rfl (U_Intersect h0 h1 (by first | assumption | omega) (by first | assumption | omega)) (Hp.le.refl _) ?_)
  clear E a S; rintro a _ w M_3 hM_3 ⟨v_4, rfl, hv_4⟩ S E
  replace h0 := h0.le hM_3
  replace h1 := h1.le hM_3
  replace shb0 := hM_3.2 _ _ shb0
  replace shm0 := shm0.le hM_3
  replace shb1 := hM_3.2 _ _ shb1
  replace shm1 := shm1.le hM_3
  refine ⟨fun x hq hb => ⟨(agree_le hM_3 S.imm), (fun e => by subst e; exact absurd hb (by decide)), (fun e => by subst e; exact absurd hb (by decide))⟩, ?_⟩
  refine D_v E rfl rfl rfl (fun w hC => (R_assert E rfl Tryz.underlying116 (by intro z hz; cases hz))) ?_
  clear E a; intro a E
  refine D_v E rfl rfl rfl (fun w hC => (R_assign E rfl)) ?_
  clear E a; intro a E
  refine D_end (NoP_n ?_)
  refine T_n ?_
  refine WP_seq ?_
  refine WP_region ?_
  refine S_v E rfl (R_move E rfl) rfl ?_
  clear E a; intro a E
  have hset := hv_4
  obtain ⟨b_5, m_6, q_7, e_8, hb_9, hm_10, hn_11, hq_12⟩ := hset
  have hq_12l : q_7.length ≤ ((c0).filter (fun z => decide (z ∈ c1))).length := nodup_len hn_11 fun z hz => (hq_12 z).1 hz
  refine S_v E rfl (R_build (u := .agg #[.int .i32 0, .int .u32 0, .int .u32 0, .int .u32 0, .int .i32 0, .int .i32 0, v_4]) (vs := [v_4]) E rfl (fun w => by rw [e_8]; exact BLK144 _ w)) rfl ?_
  clear E a; intro a E
  refine S_x (X_box (cs := #[.int .i32 0, .int .u32 0, .int .u32 0, .int .u32 0, .int .i32 0, .int .i32 0, v_4]) E S rfl rfl rfl ?_)
  clear E a S; rintro a w b_13 E S
  refine S_v E rfl (R_assign E rfl) rfl ?_
  clear E a; intro a E
  refine WL_nil ?_
  refine T_n ?_
  refine WP_seq ?_
  refine WP_region ?_
  refine S_v E rfl (R_move E rfl) rfl ?_
  clear E a; intro a E
  refine S_v E rfl (R_nilCheck E rfl rfl) rfl ?_
  clear E a; intro a E
  refine S_v E rfl (R_fieldAddr E rfl (FA144_0 _)) rfl ?_
  clear E a; intro a E
  replace S := S.front2
  replace S : St w M_3 (LK p0 144 (0 + 1) v0 :: _) := S
  refine S_x (X_sp (p := [LK p0 144 (0 + 1) v0]) E S rfl rfl rfl (runlock_sp Tryz.rwRLib (T := 144) (n := 0) (by decide) (by decide)) (Hp.le.refl _) ?_)
  clear E a S; rintro a _ w M_14 _ hM_14 ⟨rfl, rfl⟩ S E
  replace S : St w M_14 (blk p0 (.cells #[.int .i32 0, .int .u32 0, .int .u32 0, .int .u32 0, .int .i32 0, .int .i32 0, v0] 144) :: blk b_13 (.cells #[.int .i32 0, .int .u32 0, .int .u32 0, .int .u32 0, .int .i32 0, .int .i32 0, v_4] 144) :: blk p1 (.cells #[.int .i32 0, .int .u32 0, .int .u32 0, .int .u32 0, .int .i32 1, .int .i32 0, v1] 144) :: H) := S
  replace h0 := h0.le hM_14
  replace h1 := h1.le hM_14
  replace shb0 := hM_14.2 _ _ shb0
  replace shm0 := shm0.le hM_14
  replace shb1 := hM_14.2 _ _ shb1
  replace shm1 := shm1.le hM_14
  replace hv_4 := hv_4.le hM_14
  replace hb_9 := hM_14.2 _ _ hb_9
  replace hm_10 := hm_10.le hM_14
  refine WL_nil ?_
  refine T_n ?_
  refine WP_seq ?_
  refine WP_region ?_
  refine S_v E rfl (R_move E rfl) rfl ?_
  clear E a; intro a E
  refine S_v E rfl (R_nilCheck E rfl rfl) rfl ?_
  clear E a; intro a E
  refine S_v E rfl (R_fieldAddr E rfl (FA144_0 _)) rfl ?_
  clear E a; intro a E
  replace S := S.front2
  replace S : St w M_14 (LK p1 144 (0 + 1) v1 :: _) := S
  refine S_x (X_sp (p := [LK p1 144 (0 + 1) v1]) E S rfl rfl rfl (runlock_sp Tryz.rwRLib (T := 144) (n := 0) (by decide) (by decide)) (Hp.le.refl _) ?_)
  clear E a S; rintro a _ w M_15 _ hM_15 ⟨rfl, rfl⟩ S E
  replace S : St w M_15 (blk p1 (.cells #[.int .i32 0, .int .u32 0, .int .u32 0, .int .u32 0, .int .i32 0, .int .i32 0, v1] 144) :: blk p0 (.cells #[.int .i32 0, .int .u32 0, .int .u32 0, .int .u32 0, .int .i32 0, .int .i32 0, v0] 144) :: blk b_13 (.cells #[.int .i32 0, .int .u32 0, .int .u32 0, .int .u32 0, .int .i32 0, .int .i32 0, v_4] 144) :: H) := S
  replace h0 := h0.le hM_15
  replace h1 := h1.le hM_15
  replace shb0 := hM_15.2 _ _ shb0
  replace shm0 := shm0.le hM_15
  replace shb1 := hM_15.2 _ _ shb1
  replace shm1 := shm1.le hM_15
  replace hv_4 := hv_4.le hM_15
  replace hb_9 := hM_15.2 _ _ hb_9
  replace hm_10 := hm_10.le hM_15
  refine WL_nil ?_
  refine T_n ?_
  refine WP_seq ?_
  refine WP_region ?_
  refine S_v E rfl (R_move E rfl) rfl ?_
  clear E a; intro a E
  refine S_v E rfl (R_ifaceP E rfl Tryz.underlying114) rfl ?_
  clear E a; intro a E
  refine S_v E rfl (R_assign E rfl) rfl ?_
  clear E a; intro a E
  refine WL_nil ?_
  refine T_n ?_
  refine WP_ret ?_
  replace S := S.front2
  replace S := S.front1
  replace S := S.front2
  exact F_ret1 E Tryz.results171 rfl ⟨_, rfl, M_15, _, (hM_1.trans (hM_2.trans (hM_3.trans (hM_14.trans hM_15)))), ⟨_, _, rfl, rfl, hv_4⟩, S⟩

set_option maxRecDepth 100000 in
set_option maxHeartbeats 4000000 in
theorem S_SetIntersect {M : Hp} {v1 v2 : Value} {l1 l2 : List Int} (h1 : RdI M v1 l1) (h2 : RdI M v2 l2)(hb1 : l1.length ≤ 100000000) (hb2 : l2.length ≤ 100000000)  :
    Pu Tryz.prog (.func (.func 14) #[] #[]) M [.bool true, v1, v2] (fun r M' => RdI M' r (suL ((l1).filter (fun z => decide (z ∈ l2))))) := by
  refine Pu_enter Tryz.func14 rfl Tryz.ntmps14 rfl Tryz.call14 ?_
  intro a w M1 H hM1 S E
  replace h1 := h1.le hM1
  replace h2 := h2.le hM1
  have b1 := h1.bound
  have b2 := h2.bound
  refine WP_seq ?_
  refine WP_region ?_
  refine S_v E rfl (R_assign E rfl) rfl ?_
  clear E a; intro a E
  refine WL_nil ?_
  refine T_n ?_
  refine WP_seq ?_
  refine WP_region ?_
  refine S_v E rfl (R_move E rfl) rfl ?_
  clear E a; intro a E
  refine S_v E rfl (R_move E rfl) rfl ?_
  clear E a; intro a E
  refine S_v E rfl (R_move E rfl) rfl ?_
  clear E a; intro a E
  refine S_x (X_sp (p := []) E S rfl rfl rfl (S_twoSets h1 h2 (by first | assumption | omega) (by first | assumption | omega)) (Hp.le.refl _) ?_)
  clear E a S; rintro a _ w M_1 _ hM_1 ⟨p_3, v_4, p_5, v_6, rfl, rfl, hv_4, hv_6⟩ S E
  replace S : St w M_1 (blk p_3 (.cells #[.int .i32 0, .int .u32 0, .int .u32 0, .int .u32 0, .int .i32 0, .int .i32 0, v_4] 144) :: blk p_5 (.cells #[.int .i32 0, .int .u32 0, .int .u32 0, .int .u32 0, .int .i32 0, .int .i32 0, v_6] 144) :: H) := S
  replace h1 := h1.le hM_1
  replace h2 := h2.le hM_1
  refine S_v E rfl (R_move E rfl) rfl ?_
  clear E a; intro a E
  refine S_v E rfl (R_extract E rfl rfl) rfl ?_
  clear E a; intro a E
  refine S_v E rfl (R_extract E rfl rfl) rfl ?_
  clear E a; intro a E
  refine S_v E rfl (R_assign E rfl) rfl ?_
  clear E a; intro a E
  refine S_v E rfl (R_assign E rfl) rfl ?_
  clear E a; intro a E
  refine WL_nil ?_
  refine T_n ?_
  refine WP_seq ?_
  refine WP_region ?_
  refine S_v E rfl (R_move E rfl) rfl ?_
  clear E a; intro a E
  refine S_v E rfl (R_move E rfl) rfl ?_
  clear E a; intro a E
  replace S := S.front1
  replace S := S.front1
  refine S_x (X_spI (p := [blk p_3 (.cells #[.int .i32 0, .int .u32 0, .int .u32 0, .int .u32 0, .int .i32 0, .int .i32 0, v_4] 144), blk p_5 (.cells #[.int .i32 0, .int .u32 0, .int .u32 0, .int .u32 0, .int .i32 0, .int .i32 0, v_6] 144)]) E S rfl rfl rfl (meth_114_Intersect _ _) Tryz.call171 (S_Intersect hv_4 hv_6 (by first | assumption | omega) (by first | assumption | omega)) (Hp.le.refl _) ?_)
  clear E a S; rintro a _ w M_7 _ hM_7 ⟨p_9, v_10, rfl, rfl, hv_10⟩ S E
  replace S : St w M_7 (blk p_3 (.cells #[.int .i32 0, .int .u32 0, .int .u32 0, .int .u32 0, .int .i32 0, .int .i32 0, v_4] 144) :: blk p_5 (.cells #[.int .i32 0, .int .u32 0, .int .u32 0, .int .u32 0, .int .i32 0, .int .i32 0, v_6] 144) :: blk p_9 (.cells #[.int .i32 0, .int .u32 0, .int .u32 0, .int .u32 0, .int .i32 0, .int .i32 0, v_10] 144) :: H) := S
  replace h1 := h1.le hM_7
  replace h2 := h2.le hM_7
  replace hv_4 := hv_4.le hM_7
  replace hv_6 := hv_6.le hM_7
  replace S := S.front2
  refine S_x (X_sp (p := [blk p_9 (.cells #[.int .i32 0, .int .u32 0, .int .u32 0, .int .u32 0, .int .i32 0, .int .i32 0, v_10] 144)]) E S rfl rfl rfl (S_Sorted hv_10 (by first | assumption | omega | (simp only [List.length_append]; omega) | exact Nat.le_trans (List.length_filter_le _ _) (by omega) | (rw [List.length_append]; have h8 := List.length_filter_le (fun z => decide (z ∉ l2)) l1; have h9 := List.length_filter_le (fun z => decide (z ∉ l1)) l2; omega))) (Hp.le.refl _) ?_)
  clear E a S; rintro a v_13 w M_11 _ hM_11 ⟨rfl, hv_13⟩ S E
  replace S : St w M_11 (blk p_9 (.cells #[.int .i32 0, .int .u32 0, .int .u32 0, .int .u32 0, .int .i32 0, .int .i32 0, v_10] 144) :: blk p_3 (.cells #[.int .i32 0, .int .u32 0, .int .u32 0, .int .u32 0, .int .i32 0, .int .i32 0, v_4] 144) :: blk p_5 (.cells #[.int .i32 0, .int .u32 0, .int .u32 0, .int .u32 0, .int .i32 0, .int .i32 0, v_6] 144) :: H) := S
  replace h1 := h1.le hM_11
  replace h2 := h2.le hM_11
  replace hv_4 := hv_4.le hM_11
  replace hv_6 := hv_6.le hM_11
  replace hv_10 := hv_10.le hM_11
  refine S_v E rfl (R_assign E rfl) rfl ?_
  clear E a; intro a E
  refine WL_nil ?_
  refine T_n ?_
  refine WP_ret ?_
  exact F_ret1 E Tryz.results14 rfl ⟨_, rfl, M_11, (hM_1.trans (hM_7.trans hM_11)), hv_13, S.drop.drop.drop⟩

set_option maxRecDepth 100000 in
set_option maxHeartbeats 4000000 in
theorem impl_SetIntersect {M : Hp} {x0 : Bool} {v1 v2 : Value} {l1 l2 : List Int} (h1 : RdI M v1 l1) (h2 : RdI M v2 l2)(hb1 : l1.length ≤ 100000000) (hb2 : l2.length ≤ 100000000) :
    Pu Tryz.prog (.func (.func 14) #[] #[]) M [.bool x0, v1, v2] (fun r M' => RdI M' r (suL ((l1).filter (fun z => decide (z ∈ l2))))) := by
  cases x0
  · exact U_SetIntersect h1 h2 hb1 hb2
  · exact S_SetIntersect h1 h2 hb1 hb2

set_option maxRecDepth 100000 in
set_option maxHeartbeats 4000000 in
theorem U_Difference {M : Hp} {v0 : Value} {c0 : List Int} (h0 : RdSU 145 M v0 c0) {v1 : Value} {c1 : List Int} (h1 : RdSU 145 M v1 c1) (b0 : c0.length ≤ 1000000000) (b1 : c1.length ≤ 1000000000)  :
    Pu Tryz.prog (.func (.func 193) #[] #[]) M [v0, .iface 116 v1] (fun r M' => (∃ p, r = .iface 116 p ∧ RdSU 145 M' p ((c0).filter (fun z => decide (z ∉ c1))))) := by
  refine Pu_enter Tryz.func193 rfl Tryz.ntmps193 rfl Tryz.call193 ?_
  intro a w M1 H hM1 S E
  replace h0 := h0.le hM1
  replace h1 := h1.le hM1
  have hcl0 := card_le c0
  have hcl1 := card_le c1
  refine WP_seq ?_
  refine WP_region ?_
  refine S_v E rfl (R_assign E rfl) rfl ?_
  clear E a; intro a E
  refine WL_nil ?_
  refine T_n ?_
  refine WP_seq ?_
  refine WP_region ?_
  refine S_v E rfl (R_move E rfl) rfl ?_
  clear E a; intro a E
  refine S_v E rfl (R_assert E rfl Tryz.underlying116 (by intro z hz; cases hz)) rfl ?_
  clear E a; intro a E
  refine S_v E rfl (R_assign E rfl) rfl ?_
  clear E a; intro a E
  refine WL_nil ?_
  refine T_n ?_
  refine WP_seq ?_
  refine WP_region ?_
  refine S_v E rfl (R_move E rfl) rfl ?_
  clear E a; intro a E
  refine S_x (X_pu E S rfl rfl rfl (U_Cardinality h0 (by first | assumption | omega)) (Hp.le.refl _) ?_)
  clear E a S; rintro a _ w M_1 hM_1 rfl S E
  replace h0 := h0.le hM_1
  replace h1 := h1.le hM_1
  refine S_x (X_makeMapR E S rfl MT145 rfl ?_)
  clear E a S; rintro a w b_2 E S
  replace S : St w M_1 (OwnS b_2 ([] : List Int) :: _) := S
  refine S_x (X_alloc (cs := #[.map none]) E S rfl Tryz.zeroValue145 rfl ?_)
  clear E a S; rintro a w b_3 E S
  refine S_x0 (X_store E S rfl rfl (Tryz.sizeOf145 _) rfl ?_)
  clear E a S; rintro a w E S
  refine WL_nil ?_
  refine T_n ?_
  refine WP_seq ?_
  refine WP_seq ?_
  refine WP_region ?_
  refine S_v E rfl (R_move E rfl) rfl ?_
  clear E a; intro a E
  have hset := h0
  obtain ⟨sb0, sm0, sq0, se0, shb0, shm0, shn0, shq0⟩ := hset
  have shq0l : sq0.length ≤ c0.length := nodup_len shn0 fun z hz => (shq0 z).1 hz
  refine S_v E rfl (R_nilCheck E rfl se0) rfl ?_
  clear E a; intro a E
  refine S_v E rfl (R_loadM E (congrArg some se0) Tryz.isAgg145 S.imm (cellM_box shb0)) rfl ?_
  clear E a; intro a E
  refine S_x (X_range E S rfl MT145 shm0 rfl ?_)
  clear E a S; rintro a w i_4 es_5 ck_6 E hf_7 S
  replace S : St w M_1 (ItO sm0 es_5 ck_6 i_4 (Sl.encS ([] : List Int)) :: _) := S
  refine WL_nil ?_
  refine T_n ?_
  refine WP_block ?_
  replace S := S.front2
  replace S := S.front1
  replace S := S.front1
  replace S := S.reM (L' := (Sl.encS (addsL [] (([]).filter (fun z => decide (z ∉ c1)))))) (congrArg Sl.encS (show ([] : List Int) = (addsL [] (([]).filter (fun z => decide (z ∉ c1)))) by (first | rfl | (simp [addsL_snoc]; done) | (simp [addsL_snoc, List.filter_append, *]; done))))
  replace S := S.front1
  replace S := S.reIt (p' := (Sl.encS [])) (congrArg Sl.encS (show ([] : List Int) = [] by (first | rfl | (simp [addsL_snoc]; done) | (simp [addsL_snoc, List.filter_append, *]; done))))
  refine WP_loop (γ := List Int) (fun (p : List Int) a w => ∃ (M_8 : Hp), Hp.le M_1 M_8 ∧ St w M_8 (ItO sm0 es_5 ck_6 i_4 (Sl.encS p) :: OwnS b_2 (addsL [] ((p).filter (fun z => decide (z ∉ c1)))) :: blk b_3 (.cells #[.map (some b_2)] 145) :: H) ∧ Env a 28 [] [(5, v1), (6, .pointer (some ⟨b_3, 0, none⟩)), (16, .pointer (some ⟨i_4, 0, none⟩))] ∧ (p.Nodup) ∧ (∀ z ∈ p, z ∈ sq0) ∧ (p.length ≤ sq0.length)) (fun p => sq0.length - p.length) [] ⟨M_1, Hp.le.refl _, S, E.keep ⟨rfl, rfl, rfl, trivial⟩, (by simp), (by simp), (by simp)⟩ ?_
  try clear E
  try clear S
  try clear a
  try clear w
  rintro p a w ⟨M_8, hM_8, S, E, hL0_0, hL0_1, hL0_2⟩
  replace h0 := h0.le hM_8
  replace h1 := h1.le hM_8
  replace shb0 := hM_8.2 _ _ shb0
  replace shm0 := shm0.le hM_8
  replace hf_7 := hf_7.le hM_8
  refine WP_seq ?_
  refine WP_region ?_
  refine S_x (X_nextS E S rfl hf_7 rfl (by assumption) (by assumption) ?_ ?_)
  · clear E a S; rintro a E hpm_9 S
    refine S_v E rfl (R_extract E rfl rfl) rfl ?_
    clear E a; intro a E
    refine WL_nil ?_
    refine T_n ?_
    refine WP_seq ?_
    refine WP_condF E rfl rfl ?_
    refine WP_exit ?_
    refine T_x ?_
    refine T_x ?_
    refine B_x ?_
    refine T_n ?_
    refine WP_seq ?_
    refine WP_region ?_
    replace S := S.front1
    have S0 := S; clear S
    obtain ⟨M_10, hM_10, hm_11, S⟩ := S0.freezeM
    clear S0
    replace h0 := h0.le hM_10
    replace h1 := h1.le hM_10
    replace shb0 := hM_10.2 _ _ shb0
    replace shm0 := shm0.le hM_10
    replace hf_7 := hf_7.le hM_10
    replace S := S.front1
    have S0 := S; clear S
    obtain ⟨M_12, hM_12, hb_13, S⟩ := S0.freezeB
    clear S0
    replace h0 := h0.le hM_12
    replace h1 := h1.le hM_12
    replace shb0 := hM_12.2 _ _ shb0
    replace shm0 := shm0.le hM_12
    replace hf_7 := hf_7.le hM_12
    replace hm_11 := hm_11.le hM_12
    refine S_v E rfl (R_ifaceP E rfl Tryz.underlying116) rfl ?_
    clear E a; intro a E
    refine S_v E rfl (R_assign E rfl) rfl ?_
    clear E a; intro a E
    refine WL_nil ?_
    refine T_n ?_
    refine WP_ret ?_
    exact F_ret1 E Tryz.results193 rfl ⟨_, rfl, M_12, (hM_1.trans (hM_8.trans (hM_10.trans hM_12))), ⟨_, rfl, ⟨_, _, (addsL [] ((p).filter (fun z => decide (z ∉ c1)))), rfl, hb_13, hm_11, (by first | assumption | exact addsL_nodup _ _ List.nodup_nil | exact addsL_nodup _ _ (addsL_nodup _ _ List.nodup_nil)), (by (intro x; have ep := (List.Perm.mem_iff (a := x) (show p.Perm sq0 by first | assumption | (exact List.Perm.symm (by assumption)))).trans (shq0 x); simp only [mem_addsL, List.not_mem_nil, false_or, List.mem_append, List.mem_filter, decide_eq_true_eq, List.nil_append]; simp only [ep]))⟩⟩, S.drop⟩
  · clear E a S w; rintro a w k_14 E hk_15 hk_15n hk_15l S
    refine S_v E rfl (R_extract E rfl rfl) rfl ?_
    clear E a; intro a E
    refine WL_nil ?_
    refine T_n ?_
    refine WP_seq ?_
    refine WP_condT E rfl rfl ?_
    refine WP_skip ?_
    refine T_n ?_
    refine WP_block ?_
    refine WP_seq ?_
    refine WP_region ?_
    refine S_v E rfl (R_entry (k := k_14) (v := .agg #[]) E (by have S1 := S; simp only [Sl.encS, List.map_append, List.map_cons, List.map_nil] at S1; exact S1) hf_7 rfl) rfl ?_
    clear E a; intro a E
    refine S_v E rfl (R_extract E rfl rfl) rfl ?_
    clear E a; intro a E
    refine S_v E rfl (R_assign E rfl) rfl ?_
    clear E a; intro a E
    refine WL_nil ?_
    refine T_n ?_
    refine WP_seq ?_
    refine WP_region ?_
    refine S_v E rfl (R_move E rfl) rfl ?_
    clear E a; intro a E
    refine S_v E rfl (R_move E rfl) rfl ?_
    clear E a; intro a E
    refine S_x (X_pu E S rfl rfl rfl (U_contains h1 (by first | assumption | omega)) (Hp.le.refl _) ?_)
    clear E a S; rintro a _ w M_16 hM_16 rfl S E
    replace h0 := h0.le hM_16
    replace h1 := h1.le hM_16
    replace shb0 := hM_16.2 _ _ shb0
    replace shm0 := shm0.le hM_16
    replace hf_7 := hf_7.le hM_16
    refine S_v E rfl (R_not E rfl) rfl ?_
    clear E a; intro a E
    refine WL_nil ?_
    refine T_n ?_
    refine WP_cond E rfl (fun hc_17 => ?_) (fun hc_17 => ?_)
    · refine WP_region ?_
      refine S_v E rfl (R_move E rfl) rfl ?_
      clear E a; intro a E
      replace S := S.front1
      replace S := S.front2
      refine S_x (X_sp (p := [blk b_3 (.cells #[.map (some b_2)] 145), OwnS b_2 (addsL [] ((p).filter (fun z => decide (z ∉ c1))))]) E S rfl rfl rfl (U_add) (Hp.le.refl _) ?_)
      clear E a S; rintro a _ w M_18 _ hM_18 ⟨rfl, rfl⟩ S E
      replace S : St w M_18 (blk b_3 (.cells #[.map (some b_2)] 145) :: OwnS b_2 (addS (addsL [] ((p).filter (fun z => decide (z ∉ c1)))) k_14) :: ItO sm0 es_5 ck_6 i_4 (Sl.encS (p ++ [k_14])) :: H) := S
      replace h0 := h0.le hM_18
      replace h1 := h1.le hM_18
      replace shb0 := hM_18.2 _ _ shb0
      replace shm0 := shm0.le hM_18
      replace hf_7 := hf_7.le hM_18
      refine WL_nil ?_
      refine B_n ?_
      refine T_n ?_
      replace S := S.front1
      replace S := S.front2
      replace S := S.front1
      replace S := S.reM (L' := (Sl.encS (addsL [] (((p ++ [k_14])).filter (fun z => decide (z ∉ c1)))))) (congrArg Sl.encS (show addS (addsL [] ((p).filter (fun z => decide (z ∉ c1)))) k_14 = (addsL [] (((p ++ [k_14])).filter (fun z => decide (z ∉ c1)))) by (first | rfl | (simp [addsL_snoc]; done) | (simp [addsL_snoc, List.filter_append, *]; done))))
      replace S := S.front1
      replace S := S.reIt (p' := (Sl.encS (p ++ [k_14]))) (congrArg Sl.encS (show p ++ [k_14] = (p ++ [k_14]) by (first | rfl | (simp [addsL_snoc]; done) | (simp [addsL_snoc, List.filter_append, *]; done))))
      exact ⟨(p ++ [k_14]), ⟨M_18, (hM_8.trans (hM_16.trans hM_18)), S, E.keep ⟨rfl, rfl, rfl, trivial⟩, (by exact snocN (by assumption) (by assumption)), (by exact snocS (by assumption) (by assumption)), (by simp; omega)⟩, (by simp; omega)⟩
    · refine WP_skip ?_
      refine B_n ?_
      refine T_n ?_
      replace S := S.front1
      replace S := S.reM (L' := (Sl.encS (addsL [] (((p ++ [k_14])).filter (fun z => decide (z ∉ c1)))))) (congrArg Sl.encS (show (addsL [] ((p).filter (fun z => decide (z ∉ c1)))) = (addsL [] (((p ++ [k_14])).filter (fun z => decide (z ∉ c1)))) by (first | rfl | (simp [addsL_snoc]; done) | (simp [addsL_snoc, List.filter_append, *]; done))))
      replace S := S.front1
      replace S := S.reIt (p' := (Sl.encS (p ++ [k_14]))) (congrArg Sl.encS (show p ++ [k_14] = (p ++ [k_14]) by (first | rfl | (simp [addsL_snoc]; done) | (simp [addsL_snoc, List.filter_append, *]; done))))
      exact ⟨(p ++ [k_14]), ⟨M_16, (hM_8.trans hM_16), S, E.keep ⟨rfl, rfl, rfl, trivial⟩, (by exact snocN (by assumption) (by assumption)), (by exact snocS (by assumption) (by assumption)), (by simp; omega)⟩, (by simp; omega)⟩

set_option maxRecDepth 100000 in
set_option maxHeartbeats 4000000 in
theorem U_SetDifference {M : Hp} {v1 v2 : Value} {l1 l2 : List Int} (h1 : RdI M v1 l1) (h2 : RdI M v2 l2)(hb1 : l1.length ≤ 100000000) (hb2 : l2.length ≤ 100000000)  :
    Pu Tryz.prog (.func (.func 16) #[] #[]) M [.bool false, v1, v2] (fun r M' => RdI M' r (suL ((l1).filter (fun z => decide (z ∉ l2))))) := by
  refine Pu_enter Tryz.func16 rfl Tryz.ntmps16 rfl Tryz.call16 ?_
  intro a w M1 H hM1 S E
  replace h1 := h1.le hM1
  replace h2 := h2.le hM1
  have b1 := h1.bound
  have b2 := h2.bound
  refine WP_seq ?_
  refine WP_region ?_
  refine S_v E rfl (R_assign E rfl) rfl ?_
  clear E a; intro a E
  refine WL_nil ?_
  refine T_n ?_
  refine WP_seq ?_
  refine WP_region ?_
  refine S_v E rfl (R_move E rfl) rfl ?_
  clear E a; intro a E
  refine S_v E rfl (R_move E rfl) rfl ?_
  clear E a; intro a E
  refine S_v E rfl (R_move E rfl) rfl ?_
  clear E a; intro a E
  refine S_x (X_pu E S rfl rfl rfl (U_twoSets h1 h2 (by first | assumption | omega) (by first | assumption | omega)) (Hp.le.refl _) ?_)
  clear E a S; rintro a _ w M_1 hM_1 ⟨_, _, rfl, ⟨v_2, rfl, hv_2⟩, ⟨v_3, rfl, hv_3⟩⟩ S E
  replace h1 := h1.le hM_1
  replace h2 := h2.le hM_1
  refine S_v E rfl (R_move E rfl) rfl ?_
  clear E a; intro a E
  refine S_v E rfl (R_extract E rfl rfl) rfl ?_
  clear E a; intro a E
  refine S_v E rfl (R_extract E rfl rfl) rfl ?_
  clear E a; intro a E
  refine S_v E rfl (R_assign E rfl) rfl ?_
  clear E a; intro a E
  refine S_v E rfl (R_assign E rfl) rfl ?_
  clear E a; intro a E
  refine WL_nil ?_
  refine T_n ?_
  refine WP_seq ?_
  refine WP_region ?_
  refine S_v E rfl (R_move E rfl) rfl ?_
  clear E a; intro a E
  refine S_v E rfl (R_move E rfl) rfl ?_
  clear E a; intro a E
  refine S_x (X_puI E S rfl rfl rfl (meth_116_Difference _ _) Tryz.call193 (U_Difference hv_2 hv_3 (by first | assumption | omega) (by first | assumption | omega)) (Hp.le.refl _) ?_)
  clear E a S; rintro a _ w M_4 hM_4 ⟨v_5, rfl, hv_5⟩ S E
  replace h1 := h1.le hM_4
  replace h2 := h2.le hM_4
  replace hv_2 := hv_2.le hM_4
  replace hv_3 := hv_3.le hM_4
  refine S_x (X_pu E S rfl rfl rfl (U_Sorted hv_5 (by first | assumption | omega | (simp only [List.length_append]; omega) | exact Nat.le_trans (List.length_filter_le _ _) (by omega) | (rw [List.length_append]; have h8 := List.length_filter_le (fun z => decide (z ∉ l2)) l1; have h9 := List.length_filter_le (fun z => decide (z ∉ l1)) l2; omega))) (Hp.le.refl _) ?_)
  clear E a S; rintro a v_7 w M_6 hM_6 hv_7 S E
  replace h1 := h1.le hM_6
  replace h2 := h2.le hM_6
  replace hv_2 := hv_2.le hM_6
  replace hv_3 := hv_3.le hM_6
  replace hv_5 := hv_5.le hM_6
  refine S_v E rfl (R_assign E rfl) rfl ?_
  clear E a; intro a E
  refine WL_nil ?_
  refine T_n ?_
  refine WP_ret ?_
  exact F_ret1 E Tryz.results16 rfl ⟨_, rfl, M_6, (hM_1.trans (hM_4.trans hM_6)), hv_7, S⟩

set_option maxRecDepth 100000 in
set_option maxHeartbeats 4000000 in
theorem S_Difference {M : Hp} {p0 : Nat} {v0 : Value} {c0 : List Int} (h0 : RdSU 145 M v0 c0) {p1 : Nat} {v1 : Value} {c1 : List Int} (h1 : RdSU 145 M v1 c1) (b0 : c0.length ≤ 1000000000) (b1 : c1.length ≤ 1000000000)  :
    Sp Tryz.prog (.func (.func 168) #[] #[]) M [.pointer (some ⟨p0, 0, none⟩), .iface 114 (.pointer (some ⟨p1, 0, none⟩))] [blk p0 (.cells #[.int .i32 0, .int .u32 0, .int .u32 0, .int .u32 0, .int .i32 0, .int .i32 0, v0] 144), blk p1 (.cells #[.int .i32 0, .int .u32 0, .int .u32 0, .int .u32 0, .int .i32 0, .int .i32 0, v1] 144)] (fun r M' C' => ∃ p_0 v_0, r = .iface 114 (.pointer (some ⟨p_0, 0, none⟩)) ∧ C' = [blk p0 (.cells #[.int .i32 0, .int .u32 0, .int .u32 0, .int .u32 0, .int .i32 0, .int .i32 0, v0] 144), blk p1 (.cells #[.int .i32 0, .int .u32 0, .int .u32 0, .int .u32 0, .int .i32 0, .int .i32 0, v1] 144), blk p_0 (.cells #[.int .i32 0, .int .u32 0, .int .u32 0, .int .u32 0, .int .i32 0, .int .i32 0, v_0] 144)] ∧ (RdSU 145 M' v_0 ((c0).filter (fun z => decide (z ∉ c1))))) := by
  refine Sp_enter Tryz.func168 rfl Tryz.ntmps168 rfl Tryz.call168 ?_
  intro a w M1 H hM1 S E
  replace S : St w M1 (blk p0 (.cells #[.int .i32 0, .int .u32 0, .int .u32 0, .int .u32 0, .int .i32 0, .int .i32 0, v0] 144) :: blk p1 (.cells #[.int .i32 0, .int .u32 0, .int .u32 0, .int .u32 0, .int .i32 0, .int .i32 0, v1] 144) :: _) := S
  replace h0 := h0.le hM1
  replace h1 := h1.le hM1
  have hset := h0
  obtain ⟨sb0, sm0, sq0, se0, shb0, shm0, shn0, shq0⟩ := hset
  have shq0l : sq0.length ≤ c0.length := nodup_len shn0 fun z hz => (shq0 z).1 hz
  have hset := h1
  obtain ⟨sb1, sm1, sq1, se1, shb1, shm1, shn1, shq1⟩ := hset
  have shq1l : sq1.length ≤ c1.length := nodup_len shn1 fun z hz => (shq1 z).1 hz
  refine WP_seq ?_
  refine WP_region ?_
  refine S_v E rfl (R_assign E rfl) rfl ?_
  clear E a; intro a E
  refine WL_nil ?_
  refine T_n ?_
  refine WP_seq ?_
  refine WP_region ?_
  refine S_v E rfl (R_move E rfl) rfl ?_
  clear E a; intro a E
  refine S_v E rfl (R_assert E rfl Tryz.underlying114 (by intro z hz; cases hz)) rfl ?_
  clear E a; intro a E
  refine S_v E rfl (R_assign E rfl) rfl ?_
  clear E a; intro a E
  refine WL_nil ?_
  refine T_n ?_
  refine WP_seq ?_
  refine WP_region ?_
  refine S_v E rfl (R_move E rfl) rfl ?_
  clear E a; intro a E
  refine S_v E rfl (R_nilCheck E rfl rfl) rfl ?_
  clear E a; intro a E
  refine S_v E rfl (R_fieldAddr E rfl (FA144_0 _)) rfl ?_
  clear E a; intro a E
  replace S : St w M1 (LK p0 144 0 v0 :: _) := S
  refine S_x (X_sp (p := [LK p0 144 0 v0]) E S rfl rfl rfl (rlock_sp Tryz.rwRLib (T := 144) (n := 0) (by decide) (by decide)) (Hp.le.refl _) ?_)
  clear E a S; rintro a _ w M_1 _ hM_1 ⟨rfl, rfl⟩ S E
  replace S : St w M_1 (blk p0 (.cells #[.int .i32 0, .int .u32 0, .int .u32 0, .int .u32 0, .int .i32 1, .int .i32 0, v0] 144) :: blk p1 (.cells #[.int .i32 0, .int .u32 0, .int .u32 0, .int .u32 0, .int .i32 0, .int .i32 0, v1] 144) :: H) := S
  replace h0 := h0.le hM_1
  replace h1 := h1.le hM_1
  replace shb0 := hM_1.2 _ _ shb0
  replace shm0 := shm0.le hM_1
  replace shb1 := hM_1.2 _ _ shb1
  replace shm1 := shm1.le hM_1
  refine WL_nil ?_
  refine T_n ?_
  refine WP_seq ?_
  refine WP_region ?_
  refine S_v E rfl (R_move E rfl) rfl ?_
  clear E a; intro a E
  refine S_v E rfl (R_nilCheck E rfl rfl) rfl ?_
  clear E a; intro a E
  refine S_v E rfl (R_fieldAddr E rfl (FA144_0 _)) rfl ?_
  clear E a; intro a E
  replace S := S.front1
  replace S : St w M_1 (LK p1 144 0 v1 :: _) := S
  refine S_x (X_sp (p := [LK p1 144 0 v1]) E S rfl rfl rfl (rlock_sp Tryz.rwRLib (T := 144) (n := 0) (by decide) (by decide)) (Hp.le.refl _) ?_)
  clear E a S; rintro a _ w M_2 _ hM_2 ⟨rfl, rfl⟩ S E
  replace S : St w M_2 (blk p1 (.cells #[.int .i32 0, .int .u32 0, .int .u32 0, .int .u32 0, .int .i32 1, .int .i32 0, v1] 144) :: blk p0 (.cells #[.int .i32 0, .int .u32 0, .int .u32 0, .int .u32 0, .int .i32 1, .int .i32 0, v0] 144) :: H) := S
  replace h0 := h0.le hM_2
  replace h1 := h1.le hM_2
  replace shb0 := hM_2.2 _ _ shb0
  replace shm0 := shm0.le hM_2
  replace shb1 := hM_2.2 _ _ shb1
  replace shm1 := shm1.le hM_2
  refine WL_nil ?_
  refine T_n ?_
  refine WP_seq ?_
  replace S := S.mono_heap (w' := World.drew _) rfl
  refine WP_drawn (C := fun x w => agree M_2 w ∧ (x = 3 → w.heap[p0]? = some (.cells #[.int .i32 0, .int .u32 0, .int .u32 0, .int .u32 0, .int .i32 1, .int .i32 0, v0] 144)) ∧ (x = 7 → w.heap[p1]? = some (.cells #[.int .i32 0, .int .u32 0, .int .u32 0, .int .u32 0, .int .i32 1, .int .i32 0, v1] 144))) (bf := (fun i => bif Nat.beq i 9 then [3, 7] else [])) [0, 1, 2, 3, 4, 5, 6, 7, 8, 10, 11] [0, 1, 2, 3, 4, 5, 6, 7, 8, 9, 10, 11] Tryz.mixed (by kernel_rfl) (fun x hq => ⟨S.imm, fun _ => (S.mem (.tail _ (.head _))), fun _ => (S.mem (.head _))⟩) ?_
  refine D_v E rfl rfl rfl (fun w hC => (R_move E rfl)) ?_
  clear E a; intro a E
  refine D_v E rfl rfl rfl (fun w hC => (R_nilCheck E rfl rfl)) ?_
  clear E a; intro a E
  refine D_v E rfl rfl rfl (fun w hC => (R_fieldAddr E rfl (FA144_1 _))) ?_
  clear E a; intro a E
  refine D_v E rfl rfl rfl (fun w hC => (R_load E rfl (Tryz.isAgg116 _) (cell_blkf (hC.2.1 rfl) rfl))) ?_
  clear E a; intro a E
  refine D_v E rfl rfl rfl (fun w hC => (R_move E rfl)) ?_
  clear E a; intro a E
  refine D_v E rfl rfl rfl (fun w hC => (R_nilCheck E rfl rfl)) ?_
  clear E a; intro a E
  refine D_v E rfl rfl rfl (fun w hC => (R_fieldAddr E rfl (FA144_1 _))) ?_
  clear E a; intro a E
  refine D_v E rfl rfl rfl (fun w hC => (R_load E rfl (Tryz.isAgg116 _) (cell_blkf (hC.2.2 rfl) rfl))) ?_
  clear E a; intro a E
  refine D_v E rfl rfl rfl (fun w hC => (R_ifaceP E rfl Tryz.underlying116)) ?_
  clear E a; intro a E
  refine D_x rfl rfl rfl (X_pu E S rfl rfl rfl (U_Difference h0 h1 (by first | assumption | omega) (by first | assumption | omega)) (Hp.le.refl _) ?_)
  clear E a S; rintro a _ w M_3 hM_3 ⟨v_4, rfl, hv_4⟩ S E
  replace h0 := h0.le hM_3
  replace h1 := h1.le hM_3
  replace shb0 := hM_3.2 _ _ shb0
  replace shm0 := shm0.le hM_3
  replace shb1 := hM_3.2 _ _ shb1
  replace shm1 := shm1.le hM_3
  refine ⟨fun x hq hb => ⟨(agree_le hM_3 S.imm), (fun e => by subst e; exact absurd hb (by decide)), (fun e => by subst e; exact absurd hb (by decide))⟩, ?_⟩
  refine D_v E rfl rfl rfl (fun w hC => (R_assert E rfl Tryz.underlying116 (by intro z hz; cases hz))) ?_
  clear E a; intro a E
  refine D_v E rfl rfl rfl (fun w hC => (R_assign E rfl)) ?_
  clear E a; intro a E
  refine D_end (NoP_n ?_)
  refine T_n ?_
  refine WP_seq ?_
  refine WP_region ?_
  refine S_v E rfl (R_move E rfl) rfl ?_
  clear E a; intro a E
  have hset := hv_4
  obtain ⟨b_5, m_6, q_7, e_8, hb_9, hm_10, hn_11, hq_12⟩ := hset
  have hq_12l : q_7.length ≤ ((c0).filter (fun z => decide (z ∉ c1))).length := nodup_len hn_11 fun z hz => (hq_12 z).1 hz
  refine S_v E rfl (R_build (u := .agg #[.int .i32 0, .int .u32 0, .int .u32 0, .int .u32 0, .int .i32 0, .int .i32 0, v_4]) (vs := [v_4]) E rfl (fun w => by rw [e_8]; exact BLK144 _ w)) rfl ?_
  clear E a; intro a E
  refine S_x (X_box (cs := #[.int .i32 0, .int .u32 0, .int .u32 0, .int .u32 0, .int .i32 0, .int .i32 0, v_4]) E S rfl rfl rfl ?_)
  clear E a S; rintro a w b_13 E S
  refine S_v E rfl (R_assign E rfl) rfl ?_
  clear E a; intro a E
  refine WL_nil ?_
  refine T_n ?_
  refine WP_seq ?_
  refine WP_region ?_
  refine S_v E rfl (R_move E rfl) rfl ?_
  clear E a; intro a E
  refine S_v E rfl (R_nilCheck E rfl rfl) rfl ?_
  clear E a; intro a E
  refine S_v E rfl (R_fieldAddr E rfl (FA144_0 _)) rfl ?_
  clear E a; intro a E
  replace S := S.front2
  replace S : St w M_3 (LK p0 144 (0 + 1) v0 :: _) := S
  refine S_x (X_sp (p := [LK p0 144 (0 + 1) v0]) E S rfl rfl rfl (runlock_sp Tryz.rwRLib (T := 144) (n := 0) (by decide) (by decide)) (Hp.le.refl _) ?_)
  clear E a S; rintro a _ w M_14 _ hM_14 ⟨rfl, rfl⟩ S E
  replace S : St w M_14 (blk p0 (.cells #[.int .i32 0, .int .u32 0, .int .u32 0, .int .u32 0, .int .i32 0, .int .i32 0, v0] 144) :: blk b_13 (.cells #[.int .i32 0, .int .u32 0, .int .u32 0, .int .u32 0, .int .i32 0, .int .i32 0, v_4] 144) :: blk p1 (.cells #[.int .i32 0, .int .u32 0, .int .u32 0, .int .u32 0, .int .i32 1, .int .i32 0, v1] 144) :: H) := S
  replace h0 := h0.le hM_14
  replace h1 := h1.le hM_14
  replace shb0 := hM_14.2 _ _ shb0
  replace shm0 := shm0.le hM_14
  replace shb1 := hM_14.2 _ _ shb1
  replace shm1 := shm1.le hM_14
  replace hv_4 := hv_4.le hM_14
  replace hb_9 := hM_14.2 _ _ hb_9
  replace hm_10 := hm_10.le hM_14
  refine WL_nil ?_
  refine T_n ?_
  refine WP_seq ?_
  refine WP_region ?_
  refine S_v E rfl (R_move E rfl) rfl ?_
  clear E a; intro a E
  refine S_v E rfl (R_nilCheck E rfl rfl) rfl ?_
  clear E a; intro a E
  refine S_v E rfl (R_fieldAddr E rfl (FA144_0 _)) rfl ?_
  clear E a; intro a E
  replace S := S.front2
  replace S : St w M_14 (LK p1 144 (0 + 1) v1 :: _) := S
  refine S_x (X_sp (p := [LK p1 144 (0 + 1) v1]) E S rfl rfl rfl (runlock_sp Tryz.rwRLib (T := 144) (n := 0) (by decide) (by decide)) (Hp.le.refl _) ?_)
  clear E a S; rintro a _ w M_15 _ hM_15 ⟨rfl, rfl⟩ S E
  replace S : St w M_15 (blk p1 (.cells #[.int .i32 0, .int .u32 0, .int .u32 0, .int .u32 0, .int .i32 0, .int .i32 0, v1] 144) :: blk p0 (.cells #[.int .i32 0, .int .u32 0, .int .u32 0, .int .u32 0, .int .i32 0, .int .i32 0, v0] 144) :: blk b_13 (.cells #[.int .i32 0, .int .u32 0, .int .u32 0, .int .u32 0, .int .i32 0, .int .i32 0, v_4] 144) :: H) := S
  replace h0 := h0.le hM_15
  replace h1 := h1.le hM_15
  replace shb0 := hM_15.2 _ _ shb0
  replace shm0 := shm0.le hM_15
  replace shb1 := hM_15.2 _ _ shb1
  replace shm1 := shm1.le hM_15
  replace hv_4 := hv_4.le hM_15
  replace hb_9 := hM_15.2 _ _ hb_9
  replace hm_10 := hm_10.le hM_15
  refine WL_nil ?_
  refine T_n ?_
  refine WP_seq ?_
  refine WP_region ?_
  refine S_v E rfl (R_move E rfl) rfl ?_
  clear E a; intro a E
  refine S_v E rfl (R_ifaceP E rfl Tryz.underlying114) rfl ?_
  clear E a; intro a E
  refine S_v E rfl (R_assign E rfl) rfl ?_
  clear E a; intro a E
  refine WL_nil ?_
  refine T_n ?_
  refine WP_ret ?_
  replace S := S.front2
  replace S := S.front1
  replace S := S.front2
  exact F_ret1 E Tryz.results168 rfl ⟨_, rfl, M_15, _, (hM_1.trans (hM_2.trans (hM_3.trans (hM_14.trans hM_15)))), ⟨_, _, rfl, rfl, hv_4⟩, S⟩

set_option maxRecDepth 100000 in
set_option maxHeartbeats 4000000 in
theorem S_SetDifference {M : Hp} {v1 v2 : Value} {l1 l2 : List Int} (h1 : RdI M v1 l1) (h2 : RdI M v2 l2)(hb1 : l1.length ≤ 100000000) (hb2 : l2.length ≤ 100000000)  :
    Pu Tryz.prog (.func (.func 16) #[] #[]) M [.bool true, v1, v2] (fun r M' => RdI M' r (suL ((l1).filter (fun z => decide (z ∉ l2))))) := by
  refine Pu_enter Tryz.func16 rfl Tryz.ntmps16 rfl Tryz.call16 ?_
  intro a w M1 H hM1 S E
  replace h1 := h1.le hM1
  replace h2 := h2.le hM1
  have b1 := h1.bound
  have b2 := h2.bound
  refine WP_seq ?_
  refine WP_region ?_
  refine S_v E rfl (R_assign E rfl) rfl ?_
  clear E a; intro a E
  refine WL_nil ?_
  refine T_n ?_
  refine WP_seq ?_
  refine WP_region ?_
  refine S_v E rfl (R_move E rfl) rfl ?_
  clear E a; intro a E
  refine S_v E rfl (R_move E rfl) rfl ?_
  clear E a; intro a E
  refine S_v E rfl (R_move E rfl) rfl ?_
  clear E a; intro a E
  refine S_x (X_sp (p := []) E S rfl rfl rfl (S_twoSets h1 h2 (by first | assumption | omega) (by first | assumption | omega)) (Hp.le.refl _) ?_)
  clear E a S; rintro a _ w M_1 _ hM_1 ⟨p_3, v_4, p_5, v_6, rfl, rfl, hv_4, hv_6⟩ S E
  replace S : St w M_1 (blk p_3 (.cells #[.int .i32 0, .int .u32 0, .int .u32 0, .int .u32 0, .int .i32 0, .int .i32 0, v_4] 144) :: blk p_5 (.cells #[.int .i32 0, .int .u32 0, .int .u32 0, .int .u32 0, .int .i32 0, .int .i32 0, v_6] 144) :: H) := S
  replace h1 := h1.le hM_1
  replace h2 := h2.le hM_1
  refine S_v E rfl (R_move E rfl) rfl ?_
  clear E a; intro a E
  refine S_v E rfl (R_extract E rfl rfl) rfl ?_
  clear E a; intro a E
  refine S_v E rfl (R_extract E rfl rfl) rfl ?_
  clear E a; intro a E
  refine S_v E rfl (R_assign E rfl) rfl ?_
  clear E a; intro a E
  refine S_v E rfl (R_assign E rfl) rfl ?_
  clear E a; intro a E
  refine WL_nil ?_
  refine T_n ?_
  refine WP_seq ?_
  refine WP_region ?_
  refine S_v E rfl (R_move E rfl) rfl ?_
  clear E a; intro a E
  refine S_v E rfl (R_move E rfl) rfl ?_
  clear E a; intro a E
  replace S := S.front1
  replace S := S.front1
  refine S_x (X_spI (p := [blk p_3 (.cells #[.int .i32 0, .int .u32 0, .int .u32 0, .int .u32 0, .int .i32 0, .int .i32 0, v_4] 144), blk p_5 (.cells #[.int .i32 0, .int .u32 0, .int .u32 0, .int .u32 0, .int .i32 0, .int .i32 0, v_6] 144)]) E S rfl rfl rfl (meth_114_Difference _ _) Tryz.call168 (S_Difference hv_4 hv_6 (by first | assumption | omega) (by first | assumption | omega)) (Hp.le.refl _) ?_)
  clear E a S; rintro a _ w M_7 _ hM_7 ⟨p_9, v_10, rfl, rfl, hv_10⟩ S E
  replace S : St w M_7 (blk p_3 (.cells #[.int .i32 0, .int .u32 0, .int .u32 0, .int .u32 0, .int .i32 0, .int .i32 0, v_4] 144) :: blk p_5 (.cells #[.int .i32 0, .int .u32 0, .int .u32 0, .int .u32 0, .int .i32 0, .int .i32 0, v_6] 144) :: blk p_9 (.cells #[.int .i32 0, .int .u32 0, .int .u32 0, .int .u32 0, .int .i32 0, .int .i32 0, v_10] 144) :: H) := S
  replace h1 := h1.le hM_7
  replace h2 := h2.le hM_7
  replace hv_4 := hv_4.le hM_7
  replace hv_6 := hv_6.le hM_7
  replace S := S.front2
  refine S_x (X_sp (p := [blk p_9 (.cells #[.int .i32 0, .int .u32 0, .int .u32 0, .int .u32 0, .int .i32 0, .int .i32 0, v_10] 144)]) E S rfl rfl rfl (S_Sorted hv_10 (by first | assumption | omega | (simp only [List.length_append]; omega) | exact Nat.le_trans (List.length_filter_le _ _) (by omega) | (rw [List.length_append]; have h8 := List.length_filter_le (fun z => decide (z ∉ l2)) l1; have h9 := List.length_filter_le (fun z => decide (z ∉ l1)) l2; omega))) (Hp.le.refl _) ?_)
  clear E a S; rintro a v_13 w M_11 _ hM_11 ⟨rfl, hv_13⟩ S E
  replace S : St w M_11 (blk p_9 (.cells #[.int .i32 0, .int .u32 0, .int .u32 0, .int .u32 0, .int .i32 0, .int .i32 0, v_10] 144) :: blk p_3 (.cells #[.int .i32 0, .int .u32 0, .int .u32 0, .int .u32 0, .int .i32 0, .int .i32 0, v_4] 144) :: blk p_5 (.cells #[.int .i32 0, .int .u32 0, .int .u32 0, .int .u32 0, .int .i32 0, .int .i32 0, v_6] 144) :: H) := S
  replace h1 := h1.le hM_11
  replace h2 := h2.le hM_11
  replace hv_4 := hv_4.le hM_11
  replace hv_6 := hv_6.le hM_11
  replace hv_10 := hv_10.le hM_11
  refine S_v E rfl (R_assign E rfl) rfl ?_
  clear E a; intro a E
  refine WL_nil ?_
  refine T_n ?_
  refine WP_ret ?_
  exact F_ret1 E Tryz.results16 rfl ⟨_, rfl, M_11, (hM_1.trans (hM_7.trans hM_11)), hv_13, S.drop.drop.drop⟩

set_option maxRecDepth 100000 in
set_option maxHeartbeats 4000000 in
theorem impl_SetDifference {M : Hp} {x0 : Bool} {v1 v2 : Value} {l1 l2 : List Int} (h1 : RdI M v1 l1) (h2 : RdI M v2 l2)(hb1 : l1.length ≤ 100000000) (hb2 : l2.length ≤ 100000000) :
    Pu Tryz.prog (.func (.func 16) #[] #[]) M [.bool x0, v1, v2] (fun r M' => RdI M' r (suL ((l1).filter (fun z => decide (z ∉ l2))))) := by
  cases x0
  · exact U_SetDifference h1 h2 hb1 hb2
  · exact S_SetDifference h1 h2 hb1 hb2

set_option maxRecDepth 100000 in
set_option maxHeartbeats 4000000 in
theorem U_SymmetricDifference {M : Hp} {v0 : Value} {c0 : List Int} (h0 : RdSU 145 M v0 c0) {v1 : Value} {c1 : List Int} (h1 : RdSU 145 M v1 c1) (b0 : c0.length ≤ 1000000000) (b1 : c1.length ≤ 1000000000)  :
    Pu Tryz.prog (.func (.func 201) #[] #[]) M [v0, .iface 116 v1] (fun r M' => (∃ p, r = .iface 116 p ∧ RdSU 145 M' p ((c0).filter (fun z => decide (z ∉ c1)) ++ (c1).filter (fun z => decide (z ∉ c0))))) := by
  refine Pu_enter Tryz.func201 rfl Tryz.ntmps201 rfl Tryz.call201 ?_
  intro a w M1 H hM1 S E
  replace h0 := h0.le hM1
  replace h1 := h1.le hM1
  have hcl0 := card_le c0
  have hcl1 := card_le c1
  refine WP_seq ?_
  refine WP_region ?_
  refine S_v E rfl (R_assign E rfl) rfl ?_
  clear E a; intro a E
  refine WL_nil ?_
  refine T_n ?_
  refine WP_seq ?_
  refine WP_region ?_
  refine S_v E rfl (R_move E rfl) rfl ?_
  clear E a; intro a E
  refine S_v E rfl (R_assert E rfl Tryz.underlying116 (by intro z hz; cases hz)) rfl ?_
  clear E a; intro a E
  refine S_v E rfl (R_assign E rfl) rfl ?_
  clear E a; intro a E
  refine WL_nil ?_
  refine T_n ?_
  refine WP_seq ?_
  refine WP_region ?_
  refine S_v E rfl (R_move E rfl) rfl ?_
  clear E a; intro a E
  refine S_x (X_pu E S rfl rfl rfl (U_Cardinality h0 (by first | assumption | omega)) (Hp.le.refl _) ?_)
  clear E a S; rintro a _ w M_1 hM_1 rfl S E
  replace h0 := h0.le hM_1
  replace h1 := h1.le hM_1
  refine S_v E rfl (R_move E rfl) rfl ?_
  clear E a; intro a E
  refine S_x (X_pu E S rfl rfl rfl (U_Cardinality h1 (by first | assumption | omega)) (Hp.le.refl _) ?_)
  clear E a S; rintro a _ w M_2 hM_2 rfl S E
  replace h0 := h0.le hM_2
  replace h1 := h1.le hM_2
  refine S_v E rfl (R_addx (m := ((card c0 + card c1 : Nat) : Int)) E rfl rfl (by omega) (by omega)) rfl ?_
  clear E a; intro a E
  refine S_v E rfl (R_assign E rfl) rfl ?_
  clear E a; intro a E
  refine WL_nil ?_
  refine T_n ?_
  refine WP_seq ?_
  refine WP_region ?_
  refine S_v E rfl (R_move E rfl) rfl ?_
  clear E a; intro a E
  refine S_x (X_makeMapR E S rfl MT145 rfl ?_)
  clear E a S; rintro a w b_3 E S
  replace S : St w M_2 (OwnS b_3 ([] : List Int) :: _) := S
  refine S_x (X_alloc (cs := #[.map none]) E S rfl Tryz.zeroValue145 rfl ?_)
  clear E a S; rintro a w b_4 E S
  refine S_x0 (X_store E S rfl rfl (Tryz.sizeOf145 _) rfl ?_)
  clear E a S; rintro a w E S
  refine WL_nil ?_
  refine T_n ?_
  refine WP_seq ?_
  refine WP_seq ?_
  refine WP_region ?_
  refine S_v E rfl (R_move E rfl) rfl ?_
  clear E a; intro a E
  have hset := h0
  obtain ⟨sb0, sm0, sq0, se0, shb0, shm0, shn0, shq0⟩ := hset
  have shq0l : sq0.length ≤ c0.length := nodup_len shn0 fun z hz => (shq0 z).1 hz
  refine S_v E rfl (R_nilCheck E rfl se0) rfl ?_
  clear E a; intro a E
  refine S_v E rfl (R_loadM E (congrArg some se0) Tryz.isAgg145 S.imm (cellM_box shb0)) rfl ?_
  clear E a; intro a E
  refine S_x (X_range E S rfl MT145 shm0 rfl ?_)
  clear E a S; rintro a w i_5 es_6 ck_7 E hf_8 S
  replace S : St w M_2 (ItO sm0 es_6 ck_7 i_5 (Sl.encS ([] : List Int)) :: _) := S
  refine WL_nil ?_
  refine T_n ?_
  refine WP_block ?_
  replace S := S.front2
  replace S := S.front1
  replace S := S.front1
  replace S := S.reM (L' := (Sl.encS (addsL [] (([]).filter (fun z => decide (z ∉ c1)))))) (congrArg Sl.encS (show ([] : List Int) = (addsL [] (([]).filter (fun z => decide (z ∉ c1)))) by (first | rfl | (simp [addsL_snoc]; done) | (simp [addsL_snoc, List.filter_append, *]; done))))
  replace S := S.front1
  replace S := S.reIt (p' := (Sl.encS [])) (congrArg Sl.encS (show ([] : List Int) = [] by (first | rfl | (simp [addsL_snoc]; done) | (simp [addsL_snoc, List.filter_append, *]; done))))
  refine WP_loop (γ := List Int) (fun (p : List Int) a w => ∃ (M_9 : Hp), Hp.le M_2 M_9 ∧ St w M_9 (ItO sm0 es_6 ck_7 i_5 (Sl.encS p) :: OwnS b_3 (addsL [] ((p).filter (fun z => decide (z ∉ c1)))) :: blk b_4 (.cells #[.map (some b_3)] 145) :: H) ∧ Env a 48 [] [(0, v0), (5, v1), (7, .pointer (some ⟨b_4, 0, none⟩)), (22, .pointer (some ⟨i_5, 0, none⟩))] ∧ (p.Nodup) ∧ (∀ z ∈ p, z ∈ sq0) ∧ (p.length ≤ sq0.length)) (fun p => sq0.length - p.length) [] ⟨M_2, Hp.le.refl _, S, E.keep ⟨rfl, rfl, rfl, rfl, trivial⟩, (by simp), (by simp), (by simp)⟩ ?_
  try clear E
  try clear S
  try clear a
  try clear w
  rintro p a w ⟨M_9, hM_9, S, E, hL0_0, hL0_1, hL0_2⟩
  replace h0 := h0.le hM_9
  replace h1 := h1.le hM_9
  replace shb0 := hM_9.2 _ _ shb0
  replace shm0 := shm0.le hM_9
  replace hf_8 := hf_8.le hM_9
  refine WP_seq ?_
  refine WP_region ?_
  refine S_x (X_nextS E S rfl hf_8 rfl (by assumption) (by assumption) ?_ ?_)
  · clear E a S; rintro a E hpm_10 S
    refine S_v E rfl (R_extract E rfl rfl) rfl ?_
    clear E a; intro a E
    refine WL_nil ?_
    refine T_n ?_
    refine WP_seq ?_
    refine WP_condF E rfl rfl ?_
    refine WP_exit ?_
    refine T_x ?_
    refine T_x ?_
    refine B_x ?_
    refine T_n ?_
    refine WP_seq ?_
    refine WP_seq ?_
    refine WP_region ?_
    refine S_v E rfl (R_move E rfl) rfl ?_
    clear E a; intro a E
    have hset := h1
    obtain ⟨sb1, sm1, sq1, se1, shb1, shm1, shn1, shq1⟩ := hset
    have shq1l : sq1.length ≤ c1.length := nodup_len shn1 fun z hz => (shq1 z).1 hz
    refine S_v E rfl (R_nilCheck E rfl se1) rfl ?_
    clear E a; intro a E
    refine S_v E rfl (R_loadM E (congrArg some se1) Tryz.isAgg145 S.imm (cellM_box shb1)) rfl ?_
    clear E a; intro a E
    refine S_x (X_range E S rfl MT145 shm1 rfl ?_)
    clear E a S; rintro a w i_11 es_12 ck_13 E hf_14 S
    replace S : St w M_9 (ItO sm1 es_12 ck_13 i_11 (Sl.encS ([] : List Int)) :: _) := S
    refine WL_nil ?_
    refine T_n ?_
    refine WP_block ?_
    replace S := S.front2
    replace S := S.front1
    replace S := S.front1
    replace S := S.reM (L' := (Sl.encS (addsL (addsL [] ((p).filter (fun z => decide (z ∉ c1)))) ([].filter (fun z => decide (z ∉ c0)))))) (congrArg Sl.encS (show (addsL [] ((p).filter (fun z => decide (z ∉ c1)))) = (addsL (addsL [] ((p).filter (fun z => decide (z ∉ c1)))) ([].filter (fun z => decide (z ∉ c0)))) by (first | rfl | (simp [addsL_snoc]; done) | (simp [addsL_snoc, List.filter_append, *]; done))))
    replace S := S.front1
    replace S := S.reIt (p' := (Sl.encS [])) (congrArg Sl.encS (show ([] : List Int) = [] by (first | rfl | (simp [addsL_snoc]; done) | (simp [addsL_snoc, List.filter_append, *]; done))))
    refine WP_loop (γ := List Int) (fun (r : List Int) a w => ∃ (M_15 : Hp), Hp.le M_9 M_15 ∧ St w M_15 (ItO sm1 es_12 ck_13 i_11 (Sl.encS r) :: OwnS b_3 (addsL (addsL [] ((p).filter (fun z => decide (z ∉ c1)))) (r.filter (fun z => decide (z ∉ c0)))) :: ItO sm0 es_6 ck_7 i_5 (Sl.encS p) :: blk b_4 (.cells #[.map (some b_3)] 145) :: H) ∧ Env a 48 [] [(0, v0), (7, .pointer (some ⟨b_4, 0, none⟩)), (36, .pointer (some ⟨i_11, 0, none⟩))] ∧ (r.Nodup) ∧ (∀ z ∈ r, z ∈ sq1) ∧ (r.length ≤ sq1.length)) (fun r => sq1.length - r.length) [] ⟨M_9, Hp.le.refl _, S, E.keep ⟨rfl, rfl, rfl, trivial⟩, (by simp), (by simp), (by simp)⟩ ?_
    try clear E
    try clear S
    try clear a
    try clear w
    rintro r a w ⟨M_15, hM_15, S, E, hL1_0, hL1_1, hL1_2⟩
    replace h0 := h0.le hM_15
    replace h1 := h1.le hM_15
    replace shb0 := hM_15.2 _ _ shb0
    replace shm0 := shm0.le hM_15
    replace hf_8 := hf_8.le hM_15
    replace shb1 := hM_15.2 _ _ shb1
    replace shm1 := shm1.le hM_15
    replace hf_14 := hf_14.le hM_15
    refine WP_seq ?_
    refine WP_region ?_
    refine S_x (X_nextS E S rfl hf_14 rfl (by assumption) (by assumption) ?_ ?_)
    · clear E a S; rintro a E hpm_16 S
      refine S_v E rfl (R_extract E rfl rfl) rfl ?_
      clear E a; intro a E
      refine WL_nil ?_
      refine T_n ?_
      refine WP_seq ?_
      refine WP_condF E rfl rfl ?_
      refine WP_exit ?_
      refine T_x ?_
      refine T_x ?_
      refine B_x ?_
      refine T_n ?_
      refine WP_seq ?_
      refine WP_region ?_
      replace S := S.front1
      have S0 := S; clear S
      obtain ⟨M_17, hM_17, hm_18, S⟩ := S0.freezeM
      clear S0
      replace h0 := h0.le hM_17
      replace h1 := h1.le hM_17
      replace shb0 := hM_17.2 _ _ shb0
      replace shm0 := shm0.le hM_17
      replace hf_8 := hf_8.le hM_17
      replace shb1 := hM_17.2 _ _ shb1
      replace shm1 := shm1.le hM_17
      replace hf_14 := hf_14.le hM_17
      replace S := S.front2
      have S0 := S; clear S
      obtain ⟨M_19, hM_19, hb_20, S⟩ := S0.freezeB
      clear S0
      replace h0 := h0.le hM_19
      replace h1 := h1.le hM_19
      replace shb0 := hM_19.2 _ _ shb0
      replace shm0 := shm0.le hM_19
      replace hf_8 := hf_8.le hM_19
      replace shb1 := hM_19.2 _ _ shb1
      replace shm1 := shm1.le hM_19
      replace hf_14 := hf_14.le hM_19
      replace hm_18 := hm_18.le hM_19
      refine S_v E rfl (R_ifaceP E rfl Tryz.underlying116) rfl ?_
      clear E a; intro a E
      refine S_v E rfl (R_assign E rfl) rfl ?_
      clear E a; intro a E
      refine WL_nil ?_
      refine T_n ?_
      refine WP_ret ?_
      exact F_ret1 E Tryz.results201 rfl ⟨_, rfl, M_19, (hM_1.trans (hM_2.trans (hM_9.trans (hM_15.trans (hM_17.trans hM_19))))), ⟨_, rfl, ⟨_, _, (addsL (addsL [] ((p).filter (fun z => decide (z ∉ c1)))) (r.filter (fun z => decide (z ∉ c0)))), rfl, hb_20, hm_18, (by first | assumption | exact addsL_nodup _ _ List.nodup_nil | exact addsL_nodup _ _ (addsL_nodup _ _ List.nodup_nil)), (by (intro x; have ep := (List.Perm.mem_iff (a := x) (show p.Perm sq0 by first | assumption | (exact List.Perm.symm (by assumption)))).trans (shq0 x); have er := (List.Perm.mem_iff (a := x) (show r.Perm sq1 by first | assumption | (exact List.Perm.symm (by assumption)))).trans (shq1 x); simp only [mem_addsL, List.not_mem_nil, false_or, List.mem_append, List.mem_filter, decide_eq_true_eq, List.nil_append]; simp only [ep, er]))⟩⟩, S.drop.drop⟩
    · clear E a S w; rintro a w k_21 E hk_22 hk_22n hk_22l S
      refine S_v E rfl (R_extract E rfl rfl) rfl ?_
      clear E a; intro a E
      refine WL_nil ?_
      refine T_n ?_
      refine WP_seq ?_
      refine WP_condT E rfl rfl ?_
      refine WP_skip ?_
      refine T_n ?_
      refine WP_block ?_
      refine WP_seq ?_
      refine WP_region ?_
      refine S_v E rfl (R_entry (k := k_21) (v := .agg #[]) E (by have S1 := S; simp only [Sl.encS, List.map_append, List.map_cons, List.map_nil] at S1; exact S1) hf_14 rfl) rfl ?_
      clear E a; intro a E
      refine S_v E rfl (R_extract E rfl rfl) rfl ?_
      clear E a; intro a E
      refine S_v E rfl (R_assign E rfl) rfl ?_
      clear E a; intro a E
      refine WL_nil ?_
      refine T_n ?_
      refine WP_seq ?_
      refine WP_region ?_
      refine S_v E rfl (R_move E rfl) rfl ?_
      clear E a; intro a E
      refine S_v E rfl (R_move E rfl) rfl ?_
      clear E a; intro a E
      refine S_x (X_pu E S rfl rfl rfl (U_contains h0 (by first | assumption | omega)) (Hp.le.refl _) ?_)
      clear E a S; rintro a _ w M_23 hM_23 rfl S E
      replace h0 := h0.le hM_23
      replace h1 := h1.le hM_23
      replace shb0 := hM_23.2 _ _ shb0
      replace shm0 := shm0.le hM_23
      replace hf_8 := hf_8.le hM_23
      replace shb1 := hM_23.2 _ _ shb1
      replace shm1 := shm1.le hM_23
      replace hf_14 := hf_14.le hM_23
      refine S_v E rfl (R_not E rfl) rfl ?_
      clear E a; intro a E
      refine WL_nil ?_
      refine T_n ?_
      refine WP_cond E rfl (fun hc_24 => ?_) (fun hc_24 => ?_)
      · refine WP_region ?_
        refine S_v E rfl (R_move E rfl) rfl ?_
        clear E a; intro a E
        replace S := S.front1
        replace S := S.front3
        refine S_x (X_sp (p := [blk b_4 (.cells #[.map (some b_3)] 145), OwnS b_3 (addsL (addsL [] ((p).filter (fun z => decide (z ∉ c1)))) (r.filter (fun z => decide (z ∉ c0))))]) E S rfl rfl rfl (U_add) (Hp.le.refl _) ?_)
        clear E a S; rintro a _ w M_25 _ hM_25 ⟨rfl, rfl⟩ S E
        replace S : St w M_25 (blk b_4 (.cells #[.map (some b_3)] 145) :: OwnS b_3 (addS (addsL (addsL [] ((p).filter (fun z => decide (z ∉ c1)))) (r.filter (fun z => decide (z ∉ c0)))) k_21) :: ItO sm1 es_12 ck_13 i_11 (Sl.encS (r ++ [k_21])) :: ItO sm0 es_6 ck_7 i_5 (Sl.encS p) :: H) := S
        replace h0 := h0.le hM_25
        replace h1 := h1.le hM_25
        replace shb0 := hM_25.2 _ _ shb0
        replace shm0 := shm0.le hM_25
        replace hf_8 := hf_8.le hM_25
        replace shb1 := hM_25.2 _ _ shb1
        replace shm1 := shm1.le hM_25
        replace hf_14 := hf_14.le hM_25
        refine WL_nil ?_
        refine B_n ?_
        refine T_n ?_
        replace S := S.front3
        replace S := S.front2
        replace S := S.front3
        replace S := S.front1
        replace S := S.reM (L' := (Sl.encS (addsL (addsL [] ((p).filter (fun z => decide (z ∉ c1)))) ((r ++ [k_21]).filter (fun z => decide (z ∉ c0)))))) (congrArg Sl.encS (show addS (addsL (addsL [] ((p).filter (fun z => decide (z ∉ c1)))) (r.filter (fun z => decide (z ∉ c0)))) k_21 = (addsL (addsL [] ((p).filter (fun z => decide (z ∉ c1)))) ((r ++ [k_21]).filter (fun z => decide (z ∉ c0)))) by (first | rfl | (simp [addsL_snoc]; done) | (simp [addsL_snoc, List.filter_append, *]; done))))
        replace S := S.front1
        replace S := S.reIt (p' := (Sl.encS (r ++ [k_21]))) (congrArg Sl.encS (show r ++ [k_21] = (r ++ [k_21]) by (first | rfl | (simp [addsL_snoc]; done) | (simp [addsL_snoc, List.filter_append, *]; done))))
        exact ⟨(r ++ [k_21]), ⟨M_25, (hM_15.trans (hM_23.trans hM_25)), S, E.keep ⟨rfl, rfl, rfl, trivial⟩, (by exact snocN (by assumption) (by assumption)), (by exact snocS (by assumption) (by assumption)), (by simp; omega)⟩, (by simp; omega)⟩
      · refine WP_skip ?_
        refine B_n ?_
        refine T_n ?_
        replace S := S.front1
        replace S := S.reM (L' := (Sl.encS (addsL (addsL [] ((p).filter (fun z => decide (z ∉ c1)))) ((r ++ [k_21]).filter (fun z => decide (z ∉ c0)))))) (congrArg Sl.encS (show (addsL (addsL [] ((p).filter (fun z => decide (z ∉ c1)))) (r.filter (fun z => decide (z ∉ c0)))) = (addsL (addsL [] ((p).filter (fun z => decide (z ∉ c1)))) ((r ++ [k_21]).filter (fun z => decide (z ∉ c0)))) by (first | rfl | (simp [addsL_snoc]; done) | (simp [addsL_snoc, List.filter_append, *]; done))))
        replace S := S.front1
        replace S := S.reIt (p' := (Sl.encS (r ++ [k_21]))) (congrArg Sl.encS (show r ++ [k_21] = (r ++ [k_21]) by (first | rfl | (simp [addsL_snoc]; done) | (simp [addsL_snoc, List.filter_append, *]; done))))
        exact ⟨(r ++ [k_21]), ⟨M_23, (hM_15.trans hM_23), S, E.keep ⟨rfl, rfl, rfl, trivial⟩, (by exact snocN (by assumption) (by assumption)), (by exact snocS (by assumption) (by assumption)), (by simp; omega)⟩, (by simp; omega)⟩
  · clear E a S w; rintro a w k_26 E hk_27 hk_27n hk_27l S
    refine S_v E rfl (R_extract E rfl rfl) rfl ?_
    clear E a; intro a E
    refine WL_nil ?_
    refine T_n ?_
    refine WP_seq ?_
    refine WP_condT E rfl rfl ?_
    refine WP_skip ?_
    refine T_n ?_
    refine WP_block ?_
    refine WP_seq ?_
    refine WP_region ?_
    refine S_v E rfl (R_entry (k := k_26) (v := .agg #[]) E (by have S1 := S; simp only [Sl.encS, List.map_append, List.map_cons, List.map_nil] at S1; exact S1) hf_8 rfl) rfl ?_
    clear E a; intro a E
    refine S_v E rfl (R_extract E rfl rfl) rfl ?_
    clear E a; intro a E
    refine S_v E rfl (R_assign E rfl) rfl ?_
    clear E a; intro a E
    refine WL_nil ?_
    refine T_n ?_
    refine WP_seq ?_
    refine WP_region ?_
    refine S_v E rfl (R_move E rfl) rfl ?_
    clear E a; intro a E
    refine S_v E rfl (R_move E rfl) rfl ?_
    clear E a; intro a E
    refine S_x (X_pu E S rfl rfl rfl (U_contains h1 (by first | assumption | omega)) (Hp.le.refl _) ?_)
    clear E a S; rintro a _ w M_28 hM_28 rfl S E
    replace h0 := h0.le hM_28
    replace h1 := h1.le hM_28
    replace shb0 := hM_28.2 _ _ shb0
    replace shm0 := shm0.le hM_28
    replace hf_8 := hf_8.le hM_28
    refine S_v E rfl (R_not E rfl) rfl ?_
    clear E a; intro a E
    refine WL_nil ?_
    refine T_n ?_
    refine WP_cond E rfl (fun hc_29 => ?_) (fun hc_29 => ?_)
    · refine WP_region ?_
      refine S_v E rfl (R_move E rfl) rfl ?_
      clear E a; intro a E
      replace S := S.front1
      replace S := S.front2
      refine S_x (X_sp (p := [blk b_4 (.cells #[.map (some b_3)] 145), OwnS b_3 (addsL [] ((p).filter (fun z => decide (z ∉ c1))))]) E S rfl rfl rfl (U_add) (Hp.le.refl _) ?_)
      clear E a S; rintro a _ w M_30 _ hM_30 ⟨rfl, rfl⟩ S E
      replace S : St w M_30 (blk b_4 (.cells #[.map (some b_3)] 145) :: OwnS b_3 (addS (addsL [] ((p).filter (fun z => decide (z ∉ c1)))) k_26) :: ItO sm0 es_6 ck_7 i_5 (Sl.encS (p ++ [k_26])) :: H) := S
      replace h0 := h0.le hM_30
      replace h1 := h1.le hM_30
      replace shb0 := hM_30.2 _ _ shb0
      replace shm0 := shm0.le hM_30
      replace hf_8 := hf_8.le hM_30
      refine WL_nil ?_
      refine B_n ?_
      refine T_n ?_
      replace S := S.front1
      replace S := S.front2
      replace S := S.front1
      replace S := S.reM (L' := (Sl.encS (addsL [] (((p ++ [k_26])).filter (fun z => decide (z ∉ c1)))))) (congrArg Sl.encS (show addS (addsL [] ((p).filter (fun z => decide (z ∉ c1)))) k_26 = (addsL [] (((p ++ [k_26])).filter (fun z => decide (z ∉ c1)))) by (first | rfl | (simp [addsL_snoc]; done) | (simp [addsL_snoc, List.filter_append, *]; done))))
      replace S := S.front1
      replace S := S.reIt (p' := (Sl.encS (p ++ [k_26]))) (congrArg Sl.encS (show p ++ [k_26] = (p ++ [k_26]) by (first | rfl | (simp [addsL_snoc]; done) | (simp [addsL_snoc, List.filter_append, *]; done))))
      exact ⟨(p ++ [k_26]), ⟨M_30, (hM_9.trans (hM_28.trans hM_30)), S, E.keep ⟨rfl, rfl, rfl, rfl, trivial⟩, (by exact snocN (by assumption) (by assumption)), (by exact snocS (by assumption) (by assumption)), (by simp; omega)⟩, (by simp; omega)⟩
    · refine WP_skip ?_
      refine B_n ?_
      refine T_n ?_
      replace S := S.front1
      replace S := S.reM (L' := (Sl.encS (addsL [] (((p ++ [k_26])).filter (fun z => decide (z ∉ c1)))))) (congrArg Sl.encS (show (addsL [] ((p).filter (fun z => decide (z ∉ c1)))) = (addsL [] (((p ++ [k_26])).filter (fun z => decide (z ∉ c1)))) by (first | rfl | (simp [addsL_snoc]; done) | (simp [addsL_snoc, List.filter_append, *]; done))))
      replace S := S.front1
      replace S := S.reIt (p' := (Sl.encS (p ++ [k_26]))) (congrArg Sl.encS (show p ++ [k_26] = (p ++ [k_26]) by (first | rfl | (simp [addsL_snoc]; done) | (simp [addsL_snoc, List.filter_append, *]; done))))
      exact ⟨(p ++ [k_26]), ⟨M_28, (hM_9.trans hM_28), S, E.keep ⟨rfl, rfl, rfl, rfl, trivial⟩, (by exact snocN (by assumption) (by assumption)), (by exact snocS (by assumption) (by assumption)), (by simp; omega)⟩, (by simp; omega)⟩

set_option maxRecDepth 100000 in
set_option maxHeartbeats 4000000 in
theorem U_SetSymmetric {M : Hp} {v1 v2 : Value} {l1 l2 : List Int} (h1 : RdI M v1 l1) (h2 : RdI M v2 l2)(hb1 : l1.length ≤ 100000000) (hb2 : l2.length ≤ 100000000)  :
    Pu Tryz.prog (.func (.func 18) #[] #[]) M [.bool false, v1, v2] (fun r M' => RdI M' r (suL ((l1).filter (fun z => decide (z ∉ l2)) ++ (l2).filter (fun z => decide (z ∉ l1))))) := by
  refine Pu_enter Tryz.func18 rfl Tryz.ntmps18 rfl Tryz.call18 ?_
  intro a w M1 H hM1 S E
  replace h1 := h1.le hM1
  replace h2 := h2.le hM1
  have b1 := h1.bound
  have b2 := h2.bound
  refine WP_seq ?_
  refine WP_region ?_
  refine S_v E rfl (R_assign E rfl) rfl ?_
  clear E a; intro a E
  refine WL_nil ?_
  refine T_n ?_
  refine WP_seq ?_
  refine WP_region ?_
  refine S_v E rfl (R_move E rfl) rfl ?_
  clear E a; intro a E
  refine S_v E rfl (R_move E rfl) rfl ?_
  clear E a; intro a E
  refine S_v E rfl (R_move E rfl) rfl ?_
  clear E a; intro a E
  refine S_x (X_pu E S rfl rfl rfl (U_twoSets h1 h2 (by first | assumption | omega) (by first | assumption | omega)) (Hp.le.refl _) ?_)
  clear E a S; rintro a _ w M_1 hM_1 ⟨_, _, rfl, ⟨v_2, rfl, hv_2⟩, ⟨v_3, rfl, hv_3⟩⟩ S E
  replace h1 := h1.le hM_1
  replace h2 := h2.le hM_1
  refine S_v E rfl (R_move E rfl) rfl ?_
  clear E a; intro a E
  refine S_v E rfl (R_extract E rfl rfl) rfl ?_
  clear E a; intro a E
  refine S_v E rfl (R_extract E rfl rfl) rfl ?_
  clear E a; intro a E
  refine S_v E rfl (R_assign E rfl) rfl ?_
  clear E a; intro a E
  refine S_v E rfl (R_assign E rfl) rfl ?_
  clear E a; intro a E
  refine WL_nil ?_
  refine T_n ?_
  refine WP_seq ?_
  refine WP_region ?_
  refine S_v E rfl (R_move E rfl) rfl ?_
  clear E a; intro a E
  refine S_v E rfl (R_move E rfl) rfl ?_
  clear E a; intro a E
  refine S_x (X_puI E S rfl rfl rfl (meth_116_SymmetricDifference _ _) Tryz.call201 (U_SymmetricDifference hv_2 hv_3 (by first | assumption | omega) (by first | assumption | omega)) (Hp.le.refl _) ?_)
  clear E a S; rintro a _ w M_4 hM_4 ⟨v_5, rfl, hv_5⟩ S E
  replace h1 := h1.le hM_4
  replace h2 := h2.le hM_4
  replace hv_2 := hv_2.le hM_4
  replace hv_3 := hv_3.le hM_4
  refine S_x (X_pu E S rfl rfl rfl (U_Sorted hv_5 (by first | assumption | omega | (simp only [List.length_append]; omega) | exact Nat.le_trans (List.length_filter_le _ _) (by omega) | (rw [List.length_append]; have h8 := List.length_filter_le (fun z => decide (z ∉ l2)) l1; have h9 := List.length_filter_le (fun z => decide (z ∉ l1)) l2; omega))) (Hp.le.refl _) ?_)
  clear E a S; rintro a v_7 w M_6 hM_6 hv_7 S E
  replace h1 := h1.le hM_6
  replace h2 := h2.le hM_6
  replace hv_2 := hv_2.le hM_6
  replace hv_3 := hv_3.le hM_6
  replace hv_5 := hv_5.le hM_6
  refine S_v E rfl (R_assign E rfl) rfl ?_
  clear E a; intro a E
  refine WL_nil ?_
  refine T_n ?_
  refine WP_ret ?_
  exact F_ret1 E Tryz.results18 rfl ⟨_, rfl, M_6, (hM_1.trans (hM_4.trans hM_6)), hv_7, S⟩

set_option maxRecDepth 100000 in
set_option maxHeartbeats 4000000 in
theorem S_SymmetricDifference {M : Hp} {p0 : Nat} {v0 : Value} {c0 : List Int} (h0 : RdSU 145 M v0 c0) {p1 : Nat} {v1 : Value} {c1 : List Int} (h1 : RdSU 145 M v1 c1) (b0 : c0.length ≤ 1000000000) (b1 : c1.length ≤ 1000000000)  :
    Sp Tryz.prog (.func (.func 181) #[] #[]) M [.pointer (some ⟨p0, 0, none⟩), .iface 114 (.pointer (some ⟨p1, 0, none⟩))] [blk p0 (.cells #[.int .i32 0, .int .u32 0, .int .u32 0, .int .u32 0, .int .i32 0, .int .i32 0, v0] 144), blk p1 (.cells #[.int .i32 0, .int .u32 0, .int .u32 0, .int .u32 0, .int .i32 0, .int .i32 0, v1] 144)] (fun r M' C' => ∃ p_0 v_0, r = .iface 114 (.pointer (some ⟨p_0, 0, none⟩)) ∧ C' = [blk p0 (.cells #[.int .i32 0, .int .u32 0, .int .u32 0, .int .u32 0, .int .i32 0, .int .i32 0, v0] 144), blk p1 (.cells #[.int .i32 0, .int .u32 0, .int .u32 0, .int .u32 0, .int .i32 0, .int .i32 0, v1] 144), blk p_0 (.cells #[.int .i32 0, .int .u32 0, .int .u32 0, .int .u32 0, .int .i32 0, .int .i32 0, v_0] 144)] ∧ (RdSU 145 M' v_0 ((c0).filter (fun z => decide (z ∉ c1)) ++ (c1).filter (fun z => decide (z ∉ c0))))) := by
  refine Sp_enter Tryz.func181 rfl Tryz.ntmps181 rfl Tryz.call181 ?_
  intro a w M1 H hM1 S E
  replace S : St w M1 (blk p0 (.cells #[.int .i32 0, .int .u32 0, .int .u32 0, .int .u32 0, .int .i32 0, .int .i32 0, v0] 144) :: blk p1 (.cells #[.int .i32 0, .int .u32 0, .int .u32 0, .int .u32 0, .int .i32 0, .int .i32 0, v1] 144) :: _) := S
  replace h0 := h0.le hM1
  replace h1 := h1.le hM1
  have hset := h0
  obtain ⟨sb0, sm0, sq0, se0, shb0, shm0, shn0, shq0⟩ := hset
  have shq0l : sq0.length ≤ c0.length := nodup_len shn0 fun z hz => (shq0 z).1 hz
  have hset := h1
  obtain ⟨sb1, sm1, sq1, se1, shb1, shm1, shn1, shq1⟩ := hset
  have shq1l : sq1.length ≤ c1.length := nodup_len shn1 fun z hz => (shq1 z).1 hz
  refine WP_seq ?_
  refine WP_region ?_
  refine S_v E rfl (R_assign E rfl) rfl ?_
  clear E a; intro a E
  refine WL_nil ?_
  refine T_n ?_
  refine WP_seq ?_
  refine WP_region ?_
  refine S_v E rfl (R_move E rfl) rfl ?_
  clear E a; intro a E
  refine S_v E rfl (R_assert E rfl Tryz.underlying114 (by intro z hz; cases hz)) rfl ?_
  clear E a; intro a E
  refine S_v E rfl (R_assign E rfl) rfl ?_
  clear E a; intro a E
  refine WL_nil ?_
  refine T_n ?_
  refine WP_seq ?_
  refine WP_region ?_
  refine S_v E rfl (R_move E rfl) rfl ?_
  clear E a; intro a E
  refine S_v E rfl (R_nilCheck E rfl rfl) rfl ?_
  clear E a; intro a E
  refine S_v E rfl (R_fieldAddr E rfl (FA144_0 _)) rfl ?_
  clear E a; intro a E
  replace S : St w M1 (LK p0 144 0 v0 :: _) := S
  refine S_x (X_sp (p := [LK p0 144 0 v0]) E S rfl rfl rfl (rlock_sp Tryz.rwRLib (T := 144) (n := 0) (by decide) (by decide)) (Hp.le.refl _) ?_)
  clear E a S; rintro a _ w M_1 _ hM_1 ⟨rfl, rfl⟩ S E
  replace S : St w M_1 (blk p0 (.cells #[.int .i32 0, .int .u32 0, .int .u32 0, .int .u32 0, .int .i32 1, .int .i32 0, v0] 144) :: blk p1 (.cells #[.int .i32 0, .int .u32 0, .int .u32 0, .int .u32 0, .int .i32 0, .int .i32 0, v1] 144) :: H) := S
  replace h0 := h0.le hM_1
  replace h1 := h1.le hM_1
  replace shb0 := hM_1.2 _ _ shb0
  replace shm0 := shm0.le hM_1
  replace shb1 := hM_1.2 _ _ shb1
  replace shm1 := shm1.le hM_1
  refine WL_nil ?_
  refine T_n ?_
  refine WP_seq ?_
  refine WP_region ?_
  refine S_v E rfl (R_move E rfl) rfl ?_
  clear E a; intro a E
  refine S_v E rfl (R_nilCheck E rfl rfl) rfl ?_
  clear E a; intro a E
  refine S_v E rfl (R_fieldAddr E rfl (FA144_0 _)) rfl ?_
  clear E a; intro a E
  replace S := S.front1
  replace S : St w M_1 (LK p1 144 0 v1 :: _) := S
  refine S_x (X_sp (p := [LK p1 144 0 v1]) E S rfl rfl rfl (rlock_sp Tryz.rwRLib (T := 144) (n := 0) (by decide) (by decide)) (Hp.le.refl _) ?_)
  clear E a S; rintro a _ w M_2 _ hM_2 ⟨rfl, rfl⟩ S E
  replace S : St w M_2 (blk p1 (.cells #[.int .i32 0, .int .u32 0, .int .u32 0, .int .u32 0, .int .i32 1, .int .i32 0, v1] 144) :: blk p0 (.cells #[.int .i32 0, .int .u32 0, .int .u32 0, .int .u32 0, .int .i32 1, .int .i32 0, v0] 144) :: H) := S
  replace h0 := h0.le hM_2
  replace h1 := h1.le hM_2
  replace shb0 := hM_2.2 _ _ shb0
  replace shm0 := shm0.le hM_2
  replace shb1 := hM_2.2 _ _ shb1
  replace shm1 := shm1.le hM_2
  refine WL_nil ?_
  refine T_n ?_
  refine WP_seq ?_
  replace S := S.mono_heap (w' := World.drew _) rfl
  refine WP_drawn (C := fun x w => agree M_2 w ∧ (x = 3 → w.heap[p0]? = some (.cells #[.int .i32 0, .int .u32 0, .int .u32 0, .int .u32 0, .int .i32 1, .int .i32 0, v0] 144)) ∧ (x = 7 → w.heap[p1]? = some (.cells #[.int .i32 0, .int .u32 0, .int .u32 0, .int .u32 0, .int .i32 1, .int .i32 0, v1] 144))) (bf := (fun i => bif Nat.beq i 9 then [3, 7] else [])) [0, 1, 2, 3, 4, 5, 6, 7, 8, 10, 11] [0, 1, 2, 3, 4, 5, 6, 7, 8, 9, 10, 11] Tryz.mixed (by kernel_rfl) (fun x hq => ⟨S.imm, fun _ => (S.mem (.tail _ (.head _))), fun _ => (S.mem (.head _))⟩) ?_
  refine D_v E rfl rfl rfl (fun w hC => (R_move E rfl)) ?_
  clear E a; intro a E
  refine D_v E rfl rfl rfl (fun w hC => (R_nilCheck E rfl rfl)) ?_
  clear E a; intro a E
  refine D_v E rfl rfl rfl (fun w hC => (R_fieldAddr E rfl (FA144_1 _))) ?_
  clear E a; intro a E
  refine D_v E rfl rfl rfl (fun w hC => (R_load E rfl (Tryz.isAgg116 _) (cell_blkf (hC.2.1 rfl) rfl))) ?_
  clear E a; intro a E
  refine D_v E rfl rfl rfl (fun w hC => (R_move E rfl)) ?_
  clear E a; intro a E
  refine D_v E rfl rfl rfl (fun w hC => (R_nilCheck E rfl rfl)) ?_
  clear E a; intro a E
  refine D_v E rfl rfl rfl (fun w hC => (R_fieldAddr E rfl (FA144_1 _))) ?_
  clear E a; intro a E
  refine D_v E rfl rfl rfl (fun w hC => (R_load E rfl (Tryz.isAgg116 _) (cell_blkf (hC.2.2 rfl) rfl))) ?_
  clear E a; intro a E
  refine D_v E rfl rfl rfl (fun w hC => (R_ifaceP E rfl Tryz.underlying116)) ?_
  clear E a; intro a E
  refine D_x rfl rfl rfl (X_pu E S rfl rfl rfl (U_SymmetricDifference h0 h1 (by first | assumption | omega) (by first | assumption | omega)) (Hp.le.refl _) ?_)
  clear E a S; rintro a _ w M_3 hM_3 ⟨v_4, rfl, hv_4⟩ S E
  replace h0 := h0.le hM_3
  replace h1 := h1.le hM_3
  replace shb0 := hM_3.2 _ _ shb0
  replace shm0 := shm0.le hM_3
  replace shb1 := hM_3.2 _ _ shb1
  replace shm1 := shm1.le hM_3
  refine ⟨fun x hq hb => ⟨(agree_le hM_3 S.imm), (fun e => by subst e; exact absurd hb (by decide)), (fun e => by subst e; exact absurd hb (by decide))⟩, ?_⟩
  refine D_v E rfl rfl rfl (fun w hC => (R_assert E rfl Tryz.underlying116 (by intro z hz; cases hz))) ?_
  clear E a; intro a E
  refine D_v E rfl rfl rfl (fun w hC => (R_assign E rfl)) ?_
  clear E a; intro a E
  refine D_end (NoP_n ?_)
  refine T_n ?_
  refine WP_seq ?_
  refine WP_region ?_
  refine S_v E rfl (R_move E rfl) rfl ?_
  clear E a; intro a E
  have hset := hv_4
  obtain ⟨b_5, m_6, q_7, e_8, hb_9, hm_10, hn_11, hq_12⟩ := hset
  have hq_12l : q_7.length ≤ ((c0).filter (fun z => decide (z ∉ c1)) ++ (c1).filter (fun z => decide (z ∉ c0))).length := nodup_len hn_11 fun z hz => (hq_12 z).1 hz
  refine S_v E rfl (R_build (u := .agg #[.int .i32 0, .int .u32 0, .int .u32 0, .int .u32 0, .int .i32 0, .int .i32 0, v_4]) (vs := [v_4]) E rfl (fun w => by rw [e_8]; exact BLK144 _ w)) rfl ?_
  clear E a; intro a E
  refine S_x (X_box (cs := #[.int .i32 0, .int .u32 0, .int .u32 0, .int .u32 0, .int .i32 0, .int .i32 0, v_4]) E S rfl rfl rfl ?_)
  clear E a S; rintro a w b_13 E S
  refine S_v E rfl (R_assign E rfl) rfl ?_
  clear E a; intro a E
  refine WL_nil ?_
  refine T_n ?_
  refine WP_seq ?_
  refine WP_region ?_
  refine S_v E rfl (R_move E rfl) rfl ?_
  clear E a; intro a E
  refine S_v E rfl (R_nilCheck E rfl rfl) rfl ?_
  clear E a; intro a E
  refine S_v E rfl (R_fieldAddr E rfl (FA144_0 _)) rfl ?_
  clear E a; intro a E
  replace S := S.front2
  replace S : St w M_3 (LK p0 144 (0 + 1) v0 :: _) := S
  refine S_x (X_sp (p := [LK p0 144 (0 + 1) v0]) E S rfl rfl rfl (runlock_sp Tryz.rwRLib (T := 144) (n := 0) (by decide) (by decide)) (Hp.le.refl _) ?_)
  clear E a S; rintro a _ w M_14 _ hM_14 ⟨rfl, rfl⟩ S E
  replace S : St w M_14 (blk p0 (.cells #[.int .i32 0, .int .u32 0, .int .u32 0, .int .u32 0, .int .i32 0, .int .i32 0, v0] 144) :: blk b_13 (.cells #[.int .i32 0, .int .u32 0, .int .u32 0, .int .u32 0, .int .i32 0, .int .i32 0, v_4] 144) :: blk p1 (.cells #[.int .i32 0, .int .u32 0, .int .u32 0, .int .u32 0, .int .i32 1, .int .i32 0, v1] 144) :: H) := S
  replace h0 := h0.le hM_14
  replace h1 := h1.le hM_14
  replace shb0 := hM_14.2 _ _ shb0
  replace shm0 := shm0.le hM_14
  replace shb1 := hM_14.2 _ _ shb1
  replace shm1 := shm1.le hM_14
  replace hv_4 := hv_4.le hM_14
  replace hb_9 := hM_14.2 _ _ hb_9
  replace hm_10 := hm_10.le hM_14
  refine WL_nil ?_
  refine T_n ?_
  refine WP_seq ?_
  refine WP_region ?_
  refine S_v E rfl (R_move E rfl) rfl ?_
  clear E a; intro a E
  refine S_v E rfl (R_nilCheck E rfl rfl) rfl ?_
  clear E a; intro a E
  refine S_v E rfl (R_fieldAddr E rfl (FA144_0 _)) rfl ?_
  clear E a; intro a E
  replace S := S.front2
  replace S : St w M_14 (LK p1 144 (0 + 1) v1 :: _) := S
  refine S_x (X_sp (p := [LK p1 144 (0 + 1) v1]) E S rfl rfl rfl (runlock_sp Tryz.rwRLib (T := 144) (n := 0) (by decide) (by decide)) (Hp.le.refl _) ?_)
  clear E a S; rintro a _ w M_15 _ hM_15 ⟨rfl, rfl⟩ S E
  replace S : St w M_15 (blk p1 (.cells #[.int .i32 0, .int .u32 0, .int .u32 0, .int .u32 0, .int .i32 0, .int .i32 0, v1] 144) :: blk p0 (.cells #[.int .i32 0, .int .u32 0, .int .u32 0, .int .u32 0, .int .i32 0, .int .i32 0, v0] 144) :: blk b_13 (.cells #[.int .i32 0, .int .u32 0, .int .u32 0, .int .u32 0, .int .i32 0, .int .i32 0, v_4] 144) :: H) := S
  replace h0 := h0.le hM_15
  replace h1 := h1.le hM_15
  replace shb0 := hM_15.2 _ _ shb0
  replace shm0 := shm0.le hM_15
  replace shb1 := hM_15.2 _ _ shb1
  replace shm1 := shm1.le hM_15
  replace hv_4 := hv_4.le hM_15
  replace hb_9 := hM_15.2 _ _ hb_9
  replace hm_10 := hm_10.le hM_15
  refine WL_nil ?_
  refine T_n ?_
  refine WP_seq ?_
  refine WP_region ?_
  refine S_v E rfl (R_move E rfl) rfl ?_
  clear E a; intro a E
  refine S_v E rfl (R_ifaceP E rfl Tryz.underlying114) rfl ?_
  clear E a; intro a E
  refine S_v E rfl (R_assign E rfl) rfl ?_
  clear E a; intro a E
  refine WL_nil ?_
  refine T_n ?_
  refine WP_ret ?_
  replace S := S.front2
  replace S := S.front1
  replace S := S.front2
  exact F_ret1 E Tryz.results181 rfl ⟨_, rfl, M_15, _, (hM_1.trans (hM_2.trans (hM_3.trans (hM_14.trans hM_15)))), ⟨_, _, rfl, rfl, hv_4⟩, S⟩

set_option maxRecDepth 100000 in
set_option maxHeartbeats 4000000 in
theorem S_SetSymmetric {M : Hp} {v1 v2 : Value} {l1 l2 : List Int} (h1 : RdI M v1 l1) (h2 : RdI M v2 l2)(hb1 : l1.length ≤ 100000000) (hb2 : l2.length ≤ 100000000)  :
    Pu Tryz.prog (.func (.func 18) #[] #[]) M [.bool true, v1, v2] (fun r M' => RdI M' r (suL ((l1).filter (fun z => decide (z ∉ l2)) ++ (l2).filter (fun z => decide (z ∉ l1))))) := by
  refine Pu_enter Tryz.func18 rfl Tryz.ntmps18 rfl Tryz.call18 ?_
  intro a w M1 H hM1 S E
  replace h1 := h1.le hM1
  replace h2 := h2.le hM1
  have b1 := h1.bound
  have b2 := h2.bound
  refine WP_seq ?_
  refine WP_region ?_
  refine S_v E rfl (R_assign E rfl) rfl ?_
  clear E a; intro a E
  refine WL_nil ?_
  refine T_n ?_
  refine WP_seq ?_
  refine WP_region ?_
  refine S_v E rfl (R_move E rfl) rfl ?_
  clear E a; intro a E
  refine S_v E rfl (R_move E rfl) rfl ?_
  clear E a; intro a E
  refine S_v E rfl (R_move E rfl) rfl ?_
  clear E a; intro a E
  refine S_x (X_sp (p := []) E S rfl rfl rfl (S_twoSets h1 h2 (by first | assumption | omega) (by first | assumption | omega)) (Hp.le.refl _) ?_)
  clear E a S; rintro a _ w M_1 _ hM_1 ⟨p_3, v_4, p_5, v_6, rfl, rfl, hv_4, hv_6⟩ S E
  replace S : St w M_1 (blk p_3 (.cells #[.int .i32 0, .int .u32 0, .int .u32 0, .int .u32 0, .int .i32 0, .int .i32 0, v_4] 144) :: blk p_5 (.cells #[.int .i32 0, .int .u32 0, .int .u32 0, .int .u32 0, .int .i32 0, .int .i32 0, v_6] 144) :: H) := S
  replace h1 := h1.le hM_1
  replace h2 := h2.le hM_1
  refine S_v E rfl (R_move E rfl) rfl ?_
  clear E a; intro a E
  refine S_v E rfl (R_extract E rfl rfl) rfl ?_
  clear E a; intro a E
  refine S_v E rfl (R_extract E rfl rfl) rfl ?_
  clear E a; intro a E
  refine S_v E rfl (R_assign E rfl) rfl ?_
  clear E a; intro a E
  refine S_v E rfl (R_assign E rfl) rfl ?_
  clear E a; intro a E
  refine WL_nil ?_
  refine T_n ?_
  refine WP_seq ?_
  refine WP_region ?_
  refine S_v E rfl (R_move E rfl) rfl ?_
  clear E a; intro a E
  refine S_v E rfl (R_move E rfl) rfl ?_
  clear E a; intro a E
  replace S := S.front1
  replace S := S.front1
  refine S_x (X_spI (p := [blk p_3 (.cells #[.int .i32 0, .int .u32 0, .int .u32 0, .int .u32 0, .int .i32 0, .int .i32 0, v_4] 144), blk p_5 (.cells #[.int .i32 0, .int .u32 0, .int .u32 0, .int .u32 0, .int .i32 0, .int .i32 0, v_6] 144)]) E S rfl rfl rfl (meth_114_SymmetricDifference _ _) Tryz.call181 (S_SymmetricDifference hv_4 hv_6 (by first | assumption | omega) (by first | assumption | omega)) (Hp.le.refl _) ?_)
  clear E a S; rintro a _ w M_7 _ hM_7 ⟨p_9, v_10, rfl, rfl, hv_10⟩ S E
  replace S : St w M_7 (blk p_3 (.cells #[.int .i32 0, .int .u32 0, .int .u32 0, .int .u32 0, .int .i32 0, .int .i32 0, v_4] 144) :: blk p_5 (.cells #[.int .i32 0, .int .u32 0, .int .u32 0, .int .u32 0, .int .i32 0, .int .i32 0, v_6] 144) :: blk p_9 (.cells #[.int .i32 0, .int .u32 0, .int .u32 0, .int .u32 0, .int .i32 0, .int .i32 0, v_10] 144) :: H) := S
  replace h1 := h1.le hM_7
  replace h2 := h2.le hM_7
  replace hv_4 := hv_4.le hM_7
  replace hv_6 := hv_6.le hM_7
  replace S := S.front2
  refine S_x (X_sp (p := [blk p_9 (.cells #[.int .i32 0, .int .u32 0, .int .u32 0, .int .u32 0, .int .i32 0, .int .i32 0, v_10] 144)]) E S rfl rfl rfl (S_Sorted hv_10 (by first | assumption | omega | (simp only [List.length_append]; omega) | exact Nat.le_trans (List.length_filter_le _ _) (by omega) | (rw [List.length_append]; have h8 := List.length_filter_le (fun z => decide (z ∉ l2)) l1; have h9 := List.length_filter_le (fun z => decide (z ∉ l1)) l2; omega))) (Hp.le.refl _) ?_)
  clear E a S; rintro a v_13 w M_11 _ hM_11 ⟨rfl, hv_13⟩ S E
  replace S : St w M_11 (blk p_9 (.cells #[.int .i32 0, .int .u32 0, .int .u32 0, .int .u32 0, .int .i32 0, .int .i32 0, v_10] 144) :: blk p_3 (.cells #[.int .i32 0, .int .u32 0, .int .u32 0, .int .u32 0, .int .i32 0, .int .i32 0, v_4] 144) :: blk p_5 (.cells #[.int .i32 0, .int .u32 0, .int .u32 0, .int .u32 0, .int .i32 0, .int .i32 0, v_6] 144) :: H) := S
  replace h1 := h1.le hM_11
  replace h2 := h2.le hM_11
  replace hv_4 := hv_4.le hM_11
  replace hv_6 := hv_6.le hM_11
  replace hv_10 := hv_10.le hM_11
  refine S_v E rfl (R_assign E rfl) rfl ?_
  clear E a; intro a E
  refine WL_nil ?_
  refine T_n ?_
  refine WP_ret ?_
  exact F_ret1 E Tryz.results18 rfl ⟨_, rfl, M_11, (hM_1.trans (hM_7.trans hM_11)), hv_13, S.drop.drop.drop⟩

set_option maxRecDepth 100000 in
set_option maxHeartbeats 4000000 in
theorem impl_SetSymmetric {M : Hp} {x0 : Bool} {v1 v2 : Value} {l1 l2 : List Int} (h1 : RdI M v1 l1) (h2 : RdI M v2 l2)(hb1 : l1.length ≤ 100000000) (hb2 : l2.length ≤ 100000000) :
    Pu Tryz.prog (.func (.func 18) #[] #[]) M [.bool x0, v1, v2] (fun r M' => RdI M' r (suL ((l1).filter (fun z => decide (z ∉ l2)) ++ (l2).filter (fun z => decide (z ∉ l1))))) := by
  cases x0
  · exact U_SetSymmetric h1 h2 hb1 hb2
  · exact S_SetSymmetric h1 h2 hb1 hb2

end Go.Proofs.YtlmpgefhnmfhpaaGreat.wFnSetRoads
