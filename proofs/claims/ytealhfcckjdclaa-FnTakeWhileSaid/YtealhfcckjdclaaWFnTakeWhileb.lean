/- Walks through the functions that laws.FnTakeWhile reaches: what each computes; no conditions beyond what each theorem states. -/
import Derived.Test.YtealhfcckjdclaaWFnTakeWhilea
set_option linter.unusedVariables false
set_option linter.unusedSimpArgs false
namespace Go.Proofs.Ytealhfcckjdclaa.wFnTakeWhile
open Go Go.Sl
set_option maxRecDepth 100000 in
set_option maxHeartbeats 4000000 in
theorem it_DropLastWhile1 {M : Hp} {v1 : Value} {l1 : List Int} {v2 : Value} {f2 : Int → Bool} (h2 : PF1B Try.prog v2 M f2) {bx1 bx2 : Nat} (hbx1 : M bx1 = some (.cells #[v1] 70)) (h1 : SeqV Try.prog v1 M RInt l1) (hbx2 : M bx2 = some (.cells #[v2] 102)) (hb : l1.length ≤ 1000000000000) :
    SeqV Try.prog (.func (.func 227) #[] #[.pointer (some ⟨bx1, 0, none⟩), .pointer (some ⟨bx2, 0, none⟩)]) M (RInt) (drw f2 l1) := by
  refine SeqV_enter Try.func227 rfl Try.ntmps227 rfl Try.call227 ?_
  intro y J X a w M1 c H hJM hM1 hY hJ S E
  replace hbx1 := hM1.2 _ _ hbx1
  replace hbx2 := hM1.2 _ _ hbx2
  replace h1 := h1.le hM1
  replace h2 := h2.le hM1
  refine WP_seq ?_
  refine WP_region ?_
  refine S_x (X_box (cs := #[y]) E S rfl rfl (cells_one hY.1) ?_)
  clear E a S; rintro a w b_1 E S
  obtain ⟨M_2, hM_2, hb_1, S⟩ := S.freezeB
  replace hbx1 := hM_2.2 _ _ hbx1
  replace hbx2 := hM_2.2 _ _ hbx2
  replace h1 := h1.le hM_2
  replace h2 := h2.le hM_2
  replace hJ := hJM _ _ _ _ hM_2 hJ
  refine WL_nil ?_
  refine T_n ?_
  refine WP_seq ?_
  refine WP_region ?_
  refine S_x (X_alloc (cs := #[.slice none 0 0]) E S rfl Try.zeroValue22 rfl ?_)
  clear E a S; rintro a w b_3 E S
  refine WL_nil ?_
  refine T_n ?_
  refine WP_seq ?_
  refine WP_region ?_
  refine S_v E rfl (R_loadM E rfl Try.isAgg70 S.imm (cellM_box hbx1)) rfl ?_
  clear E a; intro a E
  refine WL_nil ?_
  refine T_n ?_
  refine WP_block ?_
  replace S := (S.ownNil (e := 3) (sz := 1)).made0
  replace S := S.front3
  replace S := S.front1
  replace S := S.front2
  replace E := E.keep (l' := [(2, .pointer (some ⟨bx2, 0, none⟩)), (3, .pointer (some ⟨b_1, 0, none⟩)), (4, .pointer (some ⟨b_3, 0, none⟩)), (7, v1)]) ⟨rfl, rfl, rfl, rfl, trivial⟩
  replace S := S.front2
  replace S := S.front2
  replace S := S.re1 (l' := rtw f2 (([] : List Int))) (by first | (simp [rtw]; done) | (rw [rtw_yes (by assumption)]; done) | (rw [rtw_no (by assumption)]; simp; done) | (rw [rtw_no (by assumption)]; exact List.eq_nil_of_length_eq_zero (by omega)))
  replace S := S.front2
  have S0 := S; clear S; have S := St.pack [blk b_3 (.cells #[(.slice none 0 0)] 22), OwnI 3 (.slice none 0 0) (rtw f2 (([] : List Int))), c] S0; clear S0
  refine WP_range (RV := RInt) (l := l1) (fun pre M c => ∃ (u4 : Value) (c0 : HProp), c = bigs [blk b_3 (.cells #[u4] 22), OwnI 3 u4 (rtw f2 (pre)), c0] ∧ (J (drw f2 (pre)) M c0)) (fun cd pre M c => cd = .ret ∧ ∃ z, z <+: (drw f2 l1) ∧ X z M c) E S rfl h1 (Hp.le.refl _) (fun _ _ _ h => by rw [h]; rfl) (by decide) (by rintro _ M M' c hM ⟨u4, c0, rfl, f0⟩; exact ⟨_, _, rfl, hJM _ _ _ _ hM f0⟩) ⟨_, _, rfl, J_eq hJ (by (simp [drw]))⟩ ?_ ?_ ?_
  clear E S
  · rintro lb_6 rec_7 pre x _ a w M_5 _ G hM_5 hp_8 rfl ⟨u4, c0, rfl, f0⟩ E S
    replace E : Env a 38 [] [(8, .int .i64 x), (2, .pointer (some ⟨bx2, 0, none⟩)), (3, .pointer (some ⟨b_1, 0, none⟩)), (4, .pointer (some ⟨b_3, 0, none⟩)), (7, v1)] := E
    replace S := S.swap.unpack3
    have hq0 := prefix_lt hp_8
    replace hbx1 := hM_5.2 _ _ hbx1
    replace hbx2 := hM_5.2 _ _ hbx2
    replace h1 := h1.le hM_5
    replace h2 := h2.le hM_5
    replace hb_1 := hM_5.2 _ _ hb_1
    have hpl := hp_8.length_le; simp at hpl; have hrt := congrArg List.length (drw_rtw f2 pre); simp at hrt
    refine WP_region ?_
    refine S_v E rfl (R_assign E rfl) rfl ?_
    clear E a; intro a E
    refine WL_nil ?_
    refine T_n ?_
    replace S := S.front3
    refine rb S ?_
    clear S; intro w S
    refine WP_block ?_
    refine WP_seq ?_
    refine WP_seq ?_
    refine WP_region ?_
    refine S_v E rfl (R_loadM E rfl Try.isAgg102 S.imm (cellM_box hbx2)) rfl ?_
    clear E a; intro a E
    refine S_v E rfl (R_move E rfl) rfl ?_
    clear E a; intro a E
    refine S_x (X_pu E S rfl rfl rfl (h2.2 x) (Hp.le.refl _) ?_)
    clear E a S; rintro a _ w M_10 hM_10 rfl S E
    replace hbx1 := hM_10.2 _ _ hbx1
    replace hbx2 := hM_10.2 _ _ hbx2
    replace h1 := h1.le hM_10
    replace h2 := h2.le hM_10
    replace hb_1 := hM_10.2 _ _ hb_1
    replace f0 := hJM _ _ _ _ hM_10 f0
    refine WL_nil ?_
    refine T_n ?_
    refine WP_cond E rfl (fun hc_11 => ?_) (fun hc_11 => ?_)
    · refine WP_seq ?_
      refine WP_region ?_
      refine S_v E rfl (R_load E rfl (Try.isAgg22 _) (cell_blk (S.mem (.tail _ (.head _))))) rfl ?_
      clear E a; intro a E
      refine S_v E rfl (R_move E rfl) rfl ?_
      clear E a; intro a E
      refine S_x (X_buildI (ys := [x]) E S rfl T22 rfl rfl rfl ?_)
      clear E a S; rintro a w v_12 E S
      replace S := S.front3
      replace S := S.front1
      refine S_x (X_appendB (xs := rtw f2 (pre)) (ys := [x]) E S rfl rfl rfl T22 (by first | omega | (simp; done) | (simp; omega) | (simp_all; omega)) ?_)
      clear E a S; rintro a w v_13 E S
      have ho_14 := S.oneI
      replace S := S.front2
      refine S_x0 (X_store E S rfl rfl (Try.sizeOf22 _) ho_14 ?_)
      clear E a S; rintro a w E S
      refine WL_nil ?_
      refine T_n ?_
      refine WP_exit ?_
      refine T_x ?_
      refine B_x ?_
      replace S := S.front3
      replace S := S.front2
      replace S := S.front2
      replace S := S.front2
      replace S := S.front2
      replace S := S.re1 (l' := rtw f2 ((pre ++ [x]))) (by first | (simp [rtw]; done) | (rw [rtw_yes (by assumption)]; done) | (rw [rtw_no (by assumption)]; simp; done) | (rw [rtw_no (by assumption)]; exact List.eq_nil_of_length_eq_zero (by omega)))
      replace S := S.front2
      have S0 := S; clear S; have S := (St.pack [blk b_3 (.cells #[v_13] 22), OwnI 3 v_13 (rtw f2 ((pre ++ [x]))), c0] S0).swap; clear S0
      exact ⟨M_10, _, hM_10, ⟨_, _, rfl, J_eq f0 (by (first | (rw [drw_yes (by assumption)]; done) | (rw [drw_no (by assumption), List.take_of_length_le (by omega), drw_rtw]; done) | (rw [drw_no (by assumption)]; have e := drw_rtw f2 pre; rw [List.eq_nil_of_length_eq_zero (l := rtw f2 pre) (by omega), List.append_nil] at e; rw [e])))⟩, S⟩
    · refine WP_skip ?_
      refine T_n ?_
      refine WP_seq ?_
      refine WP_seq ?_
      refine WP_region ?_
      refine S_v E rfl (R_load E rfl (Try.isAgg22 _) (cell_blk (S.mem (.tail _ (.head _))))) rfl ?_
      clear E a; intro a E
      replace S := S.front2
      refine S_v E rfl (R_lenV E rfl T22 S.lenC) rfl ?_
      clear E a; intro a E
      refine S_v E rfl (R_gtr E rfl rfl) rfl ?_
      clear E a; intro a E
      refine WL_nil ?_
      refine T_n ?_
      refine WP_cond E rfl (fun hc_15 => ?_) (fun hc_15 => ?_)
      · replace hc_15 := of_decide_eq_true hc_15
        refine WP_seq ?_
        refine WP_seq ?_
        refine WP_region ?_
        refine S_v E rfl (R_load E rfl (Try.isAgg22 _) (cell_blk (S.mem (.tail _ (.tail _ (.head _)))))) rfl ?_
        clear E a; intro a E
        refine S_v E rfl (R_lenV E rfl T22 S.lenC) rfl ?_
        clear E a; intro a E
        refine S_v E rfl (R_move E rfl) rfl ?_
        clear E a; intro a E
        refine WL_nil ?_
        refine T_n ?_
        refine WP_block ?_
        refine WP_loop (γ := Nat) (fun (k : Nat) a w => ∃ (M_16 : Hp) (cL1 : HProp), Hp.le M_10 M_16 ∧ St w M_16 (OwnI 3 u4 (rtw f2 (pre)) :: lp lb_6 rec_7 .busy none :: blk b_3 (.cells #[u4] 22) :: cL1 :: G) ∧ Env a 38 [] [(3, .pointer (some ⟨b_1, 0, none⟩)), (4, .pointer (some ⟨b_3, 0, none⟩)), (5, .int .i64 x), (20, .int .i64 (((rtw f2 (pre)).length : Nat) : Int)), (21, .int .i64 ((k : Nat) : Int))] ∧ (k ≤ (rtw f2 (pre)).length) ∧ J (drw f2 pre ++ (rtw f2 pre).take k) M_16 cL1) (fun k => ((rtw f2 (pre)).length) - k) 0 ⟨M_10, _, Hp.le.refl _, S, E.keep ⟨rfl, rfl, rfl, rfl, rfl, trivial⟩, by ((try clear S); (try clear E); first | assumption | omega | rfl | (simp; done) | (simp_all; done) | (simp [List.take_add_one, *]; done) | grind [List.take_add_one]), J_eq f0 (by (simp))⟩ ?_
        try clear E
        try clear S
        try clear a
        try clear w
        rintro k a w ⟨M_16, cL1, hM_16, S, E, hL1_0, f0⟩
        replace hbx1 := hM_16.2 _ _ hbx1
        replace hbx2 := hM_16.2 _ _ hbx2
        replace h1 := h1.le hM_16
        replace h2 := h2.le hM_16
        replace hb_1 := hM_16.2 _ _ hb_1
        refine WP_seq ?_
        refine WP_region ?_
        refine S_v E rfl (R_lss E rfl rfl) rfl ?_
        clear E a; intro a E
        refine WL_nil ?_
        refine T_n ?_
        refine WP_seq ?_
        refine WP_cond E rfl (fun hc_17 => ?_) (fun hc_17 => ?_)
        · replace hc_17 := of_decide_eq_true hc_17
          refine WP_skip ?_
          refine T_n ?_
          refine WP_seq ?_
          refine WP_block ?_
          refine WP_seq ?_
          refine WP_region ?_
          refine S_v E rfl (R_move E rfl) rfl ?_
          clear E a; intro a E
          refine S_v E rfl (R_assign E rfl) rfl ?_
          clear E a; intro a E
          refine WL_nil ?_
          refine T_n ?_
          refine WP_seq ?_
          have hb_1k17 := hb_1
          replace S := S.mono_heap (w' := World.drew _) rfl
          obtain ⟨p_18, hp_18⟩ := S.ptrC (k := k) (by first | omega | (simp; done) | (simp; omega) | (simp_all; omega))
          obtain ⟨x_19, hx_19⟩ : ∃ x, (rtw f2 (pre))[k]? = some x := ⟨_, List.getElem?_eq_getElem (by first | omega | (simp; done) | (simp; omega) | (simp_all; omega))⟩
          refine WP_drawn (C := fun x w => agree M_16 w ∧ (x = 1 → w.heap[b_3]? = some (.cells #[u4] 22)) ∧ (x = 4 → w.cell? p_18 = some (.int .i64 x_19))) (bf := (fun i => bif Nat.beq i 5 then [1, 4] else [])) [0, 1, 2, 3, 4, 6] [0, 1, 2, 3, 4, 5, 6] Try.mixed (by kernel_rfl) (fun x hq => ⟨S.imm, fun _ => (S.mem (.tail _ (.tail _ (.head _)))), fun _ => S.cellI hp_18 hx_19⟩) ?_
          refine D_v E rfl rfl rfl (fun w hC => (R_loadM E rfl Try.isAgg102 hC.1 (cellM_box hb_1k17))) ?_
          clear E a; intro a E
          refine D_v E rfl rfl rfl (fun w hC => (R_load E rfl (Try.isAgg22 _) (cell_blk (hC.2.1 rfl)))) ?_
          clear E a; intro a E
          refine D_v E rfl rfl rfl (fun w hC => (R_move E rfl)) ?_
          clear E a; intro a E
          refine D_v E rfl rfl rfl (fun w hC => (R_idx E rfl rfl T22 hp_18 rfl)) ?_
          clear E a; intro a E
          refine D_v E rfl rfl rfl (fun w hC => (R_load E rfl (Try.isAgg3 _) (hC.2.2 rfl))) ?_
          clear E a; intro a E
          replace S := S.front3
          refine D_x rfl rfl rfl (X_yield (x := x_19) E S rfl rfl rfl hY (hM_2.trans (hM_5.trans (hM_10.trans hM_16))) (by (first | exact drw_stepk (by assumption) (by assumption) (by assumption) | (rw [List.take_of_length_le (by omega), drw_rtw]; exact drw_step (by assumption) (by assumption)) | exact drw_stepe (by assumption) (by assumption) (by omega))) rfl f0 ?_)
          clear E a S; rintro a w M_20 c_21 go_22 hM_20 f0 S E
          replace hbx1 := hM_20.2 _ _ hbx1
          replace hbx2 := hM_20.2 _ _ hbx2
          replace h1 := h1.le hM_20
          replace h2 := h2.le hM_20
          replace hb_1 := hM_20.2 _ _ hb_1
          refine ⟨fun x hq hb => ⟨(agree_le hM_20 S.imm), (fun e => by subst e; exact absurd hb (by decide)), (fun e => by subst e; exact absurd hb (by decide))⟩, ?_⟩
          cases go_22
          · replace f0 : X (drw f2 pre ++ (rtw f2 pre).take k ++ [x_19]) M_20 c_21 := f0
            refine D_v E rfl rfl rfl (fun w hC => (R_not E rfl)) ?_
            clear E a; intro a E
            refine D_end (NoP_n ?_)
            refine T_n ?_
            refine WP_condT E rfl rfl ?_
            refine WP_ret ?_
            refine B_r ?_
            refine T_r ?_
            refine T_r ?_
            refine B_r ?_
            refine T_r ?_
            refine T_r ?_
            refine B_r ?_
            replace S := S.front1
            replace S := S.drop
            replace S := S.front2
            replace S := S.drop
            replace S := S.front1
            exact ⟨M_20, _, (hM_10.trans (hM_16.trans hM_20)), ⟨rfl, _, (by first | assumption | ((first | exact drw_stepk (by assumption) (by assumption) (by assumption) | (rw [List.take_of_length_le (by omega), drw_rtw]; exact drw_step (by assumption) (by assumption)) | exact drw_stepe (by assumption) (by assumption) (by omega))) | ((first | exact drw_stepk (by assumption) (by assumption) (by assumption) | (rw [List.take_of_length_le (by omega), drw_rtw]; exact drw_step (by assumption) (by assumption)) | exact drw_stepe (by assumption) (by assumption) (by omega)))), f0⟩, S⟩
          · replace f0 : J (drw f2 pre ++ (rtw f2 pre).take k ++ [x_19]) M_20 c_21 := f0
            refine D_v E rfl rfl rfl (fun w hC => (R_not E rfl)) ?_
            clear E a; intro a E
            refine D_end (NoP_n ?_)
            refine T_n ?_
            refine WP_condF E rfl rfl ?_
            refine WP_skip ?_
            refine B_n ?_
            refine T_n ?_
            refine WP_region ?_
            refine S_v E rfl (R_addx (m := ((k + 1 : Nat) : Int)) E rfl rfl (by omega) (by omega)) rfl ?_
            clear E a; intro a E
            refine S_v E rfl (R_move E rfl) rfl ?_
            clear E a; intro a E
            refine WL_nil ?_
            refine T_n ?_
            replace S := S.front3
            replace S := S.front3
            replace S := S.front3
            exact ⟨k + 1, ⟨M_20, _, (hM_16.trans hM_20), S, E.keep ⟨rfl, rfl, rfl, rfl, rfl, trivial⟩, by ((try clear S); (try clear E); first | assumption | omega | rfl | (simp; done) | (simp_all; done) | (simp [List.take_add_one, *]; done) | grind [List.take_add_one]), J_eq f0 (by (rw [List.append_assoc, pre_take (by assumption)]))⟩, by omega⟩
        · replace hc_17 := of_decide_eq_false hc_17
          refine WP_exit ?_
          refine T_x ?_
          refine T_x ?_
          refine B_x ?_
          refine T_n ?_
          refine WP_region ?_
          refine S_v E rfl (R_load E rfl (Try.isAgg22 _) (cell_blk (S.mem (.tail _ (.tail _ (.head _)))))) rfl ?_
          clear E a; intro a E
          obtain ⟨v_23, sv_23, S⟩ := S.cutI (k := 0) (by first | omega | (simp; done) | (simp; omega))
          refine S_v E rfl (R_sliceH E rfl rfl T22 sv_23 (by omega)) rfl ?_
          clear E a; intro a E
          have ho_24 := S.oneI
          replace S := S.front2
          refine S_x0 (X_store E S rfl rfl (Try.sizeOf22 _) ho_24 ?_)
          clear E a S; rintro a w E S
          refine WL_nil ?_
          refine T_n ?_
          refine WP_seq ?_
          refine WP_region ?_
          refine S_v E rfl (R_loadM E rfl Try.isAgg102 S.imm (cellM_box hb_1)) rfl ?_
          clear E a; intro a E
          refine S_v E rfl (R_move E rfl) rfl ?_
          clear E a; intro a E
          replace S := S.front3
          refine S_x (X_yield (x := x) E S rfl rfl rfl hY (hM_2.trans (hM_5.trans (hM_10.trans hM_16))) (by (first | exact drw_stepk (by assumption) (by assumption) (by assumption) | (rw [List.take_of_length_le (by omega), drw_rtw]; exact drw_step (by assumption) (by assumption)) | exact drw_stepe (by assumption) (by assumption) (by omega))) rfl f0 ?_)
          clear E a S; rintro a w M_25 c_26 go_27 hM_25 f0 S E
          replace hbx1 := hM_25.2 _ _ hbx1
          replace hbx2 := hM_25.2 _ _ hbx2
          replace h1 := h1.le hM_25
          replace h2 := h2.le hM_25
          replace hb_1 := hM_25.2 _ _ hb_1
          cases go_27
          · replace f0 : X (drw f2 pre ++ (rtw f2 pre).take k ++ [x]) M_25 c_26 := f0
            refine S_v E rfl (R_not E rfl) rfl ?_
            clear E a; intro a E
            refine WL_nil ?_
            refine T_n ?_
            refine WP_condT E rfl rfl ?_
            refine WP_ret ?_
            refine B_r ?_
            replace S := S.front1
            replace S := S.drop
            replace S := S.front1
            replace S := S.drop
            replace S := S.front1
            exact ⟨M_25, _, (hM_10.trans (hM_16.trans hM_25)), ⟨rfl, _, (by first | assumption | ((first | exact drw_stepk (by assumption) (by assumption) (by assumption) | (rw [List.take_of_length_le (by omega), drw_rtw]; exact drw_step (by assumption) (by assumption)) | exact drw_stepe (by assumption) (by assumption) (by omega))) | ((first | exact drw_stepk (by assumption) (by assumption) (by assumption) | (rw [List.take_of_length_le (by omega), drw_rtw]; exact drw_step (by assumption) (by assumption)) | exact drw_stepe (by assumption) (by assumption) (by omega)))), f0⟩, S⟩
          · replace f0 : J (drw f2 pre ++ (rtw f2 pre).take k ++ [x]) M_25 c_26 := f0
            refine S_v E rfl (R_not E rfl) rfl ?_
            clear E a; intro a E
            refine WL_nil ?_
            refine T_n ?_
            refine WP_condF E rfl rfl ?_
            refine WP_skip ?_
            refine B_n ?_
            replace S := S.front2
            replace S := S.front2
            replace S := S.front2
            replace S := S.front2
            replace S := S.re1 (l' := rtw f2 ((pre ++ [x]))) (by first | (simp [rtw]; done) | (rw [rtw_yes (by assumption)]; done) | (rw [rtw_no (by assumption)]; simp; done) | (rw [rtw_no (by assumption)]; exact List.eq_nil_of_length_eq_zero (by omega)))
            replace S := S.front2
            have S0 := S; clear S; have S := (St.pack [blk b_3 (.cells #[v_23] 22), OwnI 3 v_23 (rtw f2 ((pre ++ [x]))), c_26] S0).swap; clear S0
            exact ⟨M_25, _, (hM_10.trans (hM_16.trans hM_25)), ⟨_, _, rfl, J_eq f0 (by (first | (rw [drw_yes (by assumption)]; done) | (rw [drw_no (by assumption), List.take_of_length_le (by omega), drw_rtw]; done) | (rw [drw_no (by assumption)]; have e := drw_rtw f2 pre; rw [List.eq_nil_of_length_eq_zero (l := rtw f2 pre) (by omega), List.append_nil] at e; rw [e])))⟩, S⟩
      · replace hc_15 := of_decide_eq_false hc_15
        refine WP_skip ?_
        refine T_n ?_
        refine WP_seq ?_
        refine WP_region ?_
        refine S_v E rfl (R_loadM E rfl Try.isAgg102 S.imm (cellM_box hb_1)) rfl ?_
        clear E a; intro a E
        refine S_v E rfl (R_move E rfl) rfl ?_
        clear E a; intro a E
        replace S := S.front3
        refine S_x (X_yield (x := x) E S rfl rfl rfl hY (hM_2.trans (hM_5.trans hM_10)) (by (first | exact drw_stepk (by assumption) (by assumption) (by assumption) | (rw [List.take_of_length_le (by omega), drw_rtw]; exact drw_step (by assumption) (by assumption)) | exact drw_stepe (by assumption) (by assumption) (by omega))) rfl f0 ?_)
        clear E a S; rintro a w M_28 c_29 go_30 hM_28 f0 S E
        replace hbx1 := hM_28.2 _ _ hbx1
        replace hbx2 := hM_28.2 _ _ hbx2
        replace h1 := h1.le hM_28
        replace h2 := h2.le hM_28
        replace hb_1 := hM_28.2 _ _ hb_1
        cases go_30
        · replace f0 : X (drw f2 (pre) ++ [x]) M_28 c_29 := f0
          refine S_v E rfl (R_not E rfl) rfl ?_
          clear E a; intro a E
          refine WL_nil ?_
          refine T_n ?_
          refine WP_condT E rfl rfl ?_
          refine WP_ret ?_
          refine B_r ?_
          replace S := S.front1
          replace S := S.drop
          replace S := S.front2
          replace S := S.drop
          replace S := S.front1
          exact ⟨M_28, _, (hM_10.trans hM_28), ⟨rfl, _, (by first | assumption | ((first | exact drw_stepk (by assumption) (by assumption) (by assumption) | (rw [List.take_of_length_le (by omega), drw_rtw]; exact drw_step (by assumption) (by assumption)) | exact drw_stepe (by assumption) (by assumption) (by omega))) | ((first | exact drw_stepk (by assumption) (by assumption) (by assumption) | (rw [List.take_of_length_le (by omega), drw_rtw]; exact drw_step (by assumption) (by assumption)) | exact drw_stepe (by assumption) (by assumption) (by omega)))), f0⟩, S⟩
        · replace f0 : J (drw f2 (pre) ++ [x]) M_28 c_29 := f0
          refine S_v E rfl (R_not E rfl) rfl ?_
          clear E a; intro a E
          refine WL_nil ?_
          refine T_n ?_
          refine WP_condF E rfl rfl ?_
          refine WP_skip ?_
          refine B_n ?_
          replace S := S.front1
          replace S := S.front3
          replace S := S.front2
          replace S := S.front2
          replace S := S.re1 (l' := rtw f2 ((pre ++ [x]))) (by first | (simp [rtw]; done) | (rw [rtw_yes (by assumption)]; done) | (rw [rtw_no (by assumption)]; simp; done) | (rw [rtw_no (by assumption)]; exact List.eq_nil_of_length_eq_zero (by omega)))
          replace S := S.front2
          have S0 := S; clear S; have S := (St.pack [blk b_3 (.cells #[u4] 22), OwnI 3 u4 (rtw f2 ((pre ++ [x]))), c_29] S0).swap; clear S0
          exact ⟨M_28, _, (hM_10.trans hM_28), ⟨_, _, rfl, J_eq f0 (by (first | (rw [drw_yes (by assumption)]; done) | (rw [drw_no (by assumption), List.take_of_length_le (by omega), drw_rtw]; done) | (rw [drw_no (by assumption)]; have e := drw_rtw f2 pre; rw [List.eq_nil_of_length_eq_zero (l := rtw f2 pre) (by omega), List.append_nil] at e; rw [e])))⟩, S⟩
  · rintro a w M_31 _ D_32 hM_31 ⟨u4, c0, rfl, f0⟩ S E
    replace S := S.unpack3
    replace hbx1 := hM_31.2 _ _ hbx1
    replace hbx2 := hM_31.2 _ _ hbx2
    replace h1 := h1.le hM_31
    replace h2 := h2.le hM_31
    replace hb_1 := hM_31.2 _ _ hb_1
    refine B_n ?_
    refine F_nrm ?_
    replace S := S.drop
    replace S := S.drop
    replace S := S.front1
    have hpre : drw f2 (l1) = drw f2 l1 := by ((try clear S); (try clear E); first | rfl | (simp; done) | (simp_all; done) | grind [List.take_add_one])
    rw [hpre] at f0
    exact F_retM0 E S Try.results227 (fun w S => ⟨_, rfl, M_31, _, (hM_2.trans hM_31), .inl f0, S⟩)
  · rintro a w M_33 c_ D_34 p_35 _ hM_33 hp_36 ⟨rfl, z_, hz_, f0⟩ S E
    replace hbx1 := hM_33.2 _ _ hbx1
    replace hbx2 := hM_33.2 _ _ hbx2
    replace h1 := h1.le hM_33
    replace h2 := h2.le hM_33
    replace hb_1 := hM_33.2 _ _ hb_1
    refine WP_ret ?_
    refine B_r ?_
    replace S := S.front1
    exact F_retM0 E S Try.results227 (fun w S => ⟨_, rfl, M_33, _, (hM_2.trans hM_33), .inr ⟨z_, (by first | assumption | ((first | exact drw_stepk (by assumption) (by assumption) (by assumption) | (rw [List.take_of_length_le (by omega), drw_rtw]; exact drw_step (by assumption) (by assumption)) | exact drw_stepe (by assumption) (by assumption) (by omega)))), f0⟩, S⟩)

set_option maxRecDepth 100000 in
set_option maxHeartbeats 4000000 in
theorem it_DropLastWhile {M : Hp} {v0 : Value} {l0 : List Int} (h0 : SeqV Try.prog v0 M (RInt) l0){v1 : Value} {f1 : Int → Bool} (h1 : PF1B Try.prog v1 M f1) (hb : l0.length ≤ 1000000000000) :
    Pu Try.prog (.func (.func 163) #[] #[]) M [v0, v1] (fun r M' => SeqV Try.prog r M' RInt (drw f1 l0)) := by
  refine Pu_enter Try.func163 rfl Try.ntmps163 rfl Try.call163 ?_
  intro a w M1 H hM1 S E
  replace h0 := h0.le hM1
  replace h1 := h1.le hM1
  refine WP_seq ?_
  refine WP_region ?_
  refine S_x (X_box (cs := #[v0]) E S rfl rfl (cells_one h0.1) ?_)
  clear E a S; rintro a w b_1 E S
  obtain ⟨M_2, hM_2, hb_1, S⟩ := S.freezeB
  replace h0 := h0.le hM_2
  replace h1 := h1.le hM_2
  refine S_x (X_box (cs := #[v1]) E S rfl rfl (cells_one h1.1) ?_)
  clear E a S; rintro a w b_3 E S
  obtain ⟨M_4, hM_4, hb_3, S⟩ := S.freezeB
  replace h0 := h0.le hM_4
  replace h1 := h1.le hM_4
  replace hb_1 := hM_4.2 _ _ hb_1
  refine S_v E rfl (R_assign E rfl) rfl ?_
  clear E a; intro a E
  refine WL_nil ?_
  refine T_n ?_
  refine WP_seq ?_
  refine WP_region ?_
  refine S_v E rfl (R_makeFunc E rfl rfl) rfl ?_
  clear E a; intro a E
  refine S_v E rfl (R_assign E rfl) rfl ?_
  clear E a; intro a E
  refine WL_nil ?_
  refine T_n ?_
  refine WP_ret ?_
  exact F_ret1 E Try.results163 rfl ⟨_, rfl, M_4, (hM_2.trans hM_4), (SeqV_eq (it_DropLastWhile1 (f2 := f1) h1 hb_1 h0 hb_3 (by (first | omega | (simp; omega) | (simp; done) | (simp_all; omega) | grind))) (by ((try clear S); (try clear E); first | rfl | (simp; done) | (simp_all; done) | grind [List.take_add_one]))), S⟩

set_option maxRecDepth 100000 in
set_option maxHeartbeats 4000000 in
theorem impl_DropRightWhileSeq {M : Hp} {v0 : Value} {l0 : List Int} (h0 : RdI M v0 l0){pk1 pn1 : Int} {w1 : Value} {pl1 : List Int} (hw1 : RdI M w1 pl1) (gn1 : -9223372036854775808 ≤ pn1 ∧ pn1 ≤ 9223372036854775807) (hb : l0.length ≤ 1000000000000) :
    Pu Try.prog (.func (.func 75) #[] #[]) M [v0, .agg #[.int .i64 pk1, .int .i64 pn1, w1]] (fun r M' => RdI M' r (drw (fun x => predAt pk1 pn1 pl1 x 0) l0)) := by
  refine Pu_enter Try.func75 rfl Try.ntmps75 rfl Try.call75 ?_
  intro a w M1 H hM1 S E
  replace h0 := h0.le hM1
  replace hw1 := hw1.le hM1
  have b0 := h0.bound
  have hwl := drw_len (fun x => predAt pk1 pn1 pl1 x 0) l0
  refine WP_seq ?_
  refine WP_region ?_
  refine S_x (X_box (cs := #[.int .i64 pk1, .int .i64 pn1, w1]) E S rfl rfl rfl ?_)
  clear E a S; rintro a w b_1 E S
  obtain ⟨M_2, hM_2, hb_1, S⟩ := S.freezeB
  replace h0 := h0.le hM_2
  replace hw1 := hw1.le hM_2
  refine S_v E rfl (R_assign E rfl) rfl ?_
  clear E a; intro a E
  refine WL_nil ?_
  refine T_n ?_
  refine WP_seq ?_
  have hb_1k2 := hb_1
  replace S := S.mono_heap (w' := World.drew _) rfl
  refine WP_drawn (C := fun x w => agree M_2 w) (bf := (fun i => [])) [0, 2, 3, 6] [0, 2, 3, 1, 4, 5, 6] Try.mixed (by kernel_rfl) (fun x hq => S.imm) ?_
  refine D_v E rfl rfl rfl (fun w hC => (R_move E rfl)) ?_
  clear E a; intro a E
  refine D_v E rfl rfl rfl (fun w hC => (R_loadGM E rfl (Try.isAgg29 _) (Try.sizeOf29 _) hC hb_1k2)) ?_
  clear E a; intro a E
  refine D_v E rfl rfl rfl (fun w hC => (R_makeFunc E rfl rfl)) ?_
  clear E a; intro a E
  refine D_x rfl rfl rfl (X_pu E S rfl rfl rfl (slices_Values h0) (Hp.le.refl _) ?_)
  clear E a S; rintro a v_4 w M_3 hM_3 hv_4 S E
  replace h0 := h0.le hM_3
  replace hw1 := hw1.le hM_3
  replace hb_1 := hM_3.2 _ _ hb_1
  refine ⟨fun x hq hb => (agree_le hM_3 S.imm), ?_⟩
  refine D_x rfl rfl rfl (X_pu E S rfl rfl rfl (it_DropLastWhile hv_4 ⟨rfl, fun zx1 => Pred_of (x1 := zx1) hw1 (by omega)⟩ (by (first | omega | (simp; omega) | (simp; done) | (simp_all; omega) | grind))) (Hp.le.refl _) ?_)
  clear E a S; rintro a v_6 w M_5 hM_5 hv_6 S E
  replace h0 := h0.le hM_5
  replace hw1 := hw1.le hM_5
  replace hb_1 := hM_5.2 _ _ hb_1
  replace hv_4 := hv_4.le hM_5
  refine ⟨fun x hq hb => (agree_le (hM_3.trans hM_5) S.imm), ?_⟩
  refine D_x rfl rfl rfl (X_pu E S rfl rfl rfl (slices_Collect hv_6 (by (first | omega | (simp; omega) | (simp; done) | (simp_all; omega) | grind))) (Hp.le.refl _) ?_)
  clear E a S; rintro a v_8 w M_7 hM_7 hv_8 S E
  replace h0 := h0.le hM_7
  replace hw1 := hw1.le hM_7
  replace hb_1 := hM_7.2 _ _ hb_1
  replace hv_4 := hv_4.le hM_7
  replace hv_6 := hv_6.le hM_7
  refine ⟨fun x hq hb => (agree_le (hM_3.trans (hM_5.trans hM_7)) S.imm), ?_⟩
  refine D_v E rfl rfl rfl (fun w hC => (R_assign E rfl)) ?_
  clear E a; intro a E
  refine D_end (NoP_n ?_)
  refine T_n ?_
  refine WP_ret ?_
  exact F_ret1 E Try.results75 rfl ⟨_, rfl, M_7, (hM_2.trans (hM_3.trans (hM_5.trans hM_7))), hv_8, S⟩

set_option maxRecDepth 100000 in
set_option maxHeartbeats 4000000 in
theorem impl_fresh {M : Hp} {v0 : Value} {l0 : List Int} (h0 : RdI M v0 l0)(hb : l0.length ≤ 1000000000000) :
    Sp Try.prog (.func (.func 117) #[] #[]) M [v0] [] (fun r M' C' => C' = [OwnI 3 r l0]) := by
  refine Sp_enter Try.func117 rfl Try.ntmps117 rfl Try.call117 ?_
  intro a w M1 H hM1 S E
  replace h0 := h0.le hM1
  have b0 := h0.bound
  refine WP_seq ?_
  refine WP_region ?_
  refine S_v E rfl (R_assign E rfl) rfl ?_
  clear E a; intro a E
  refine WL_nil ?_
  refine T_n ?_
  refine WP_seq ?_
  refine WP_region ?_
  refine S_x (X_buildI (ys := []) E S rfl T22 rfl rfl rfl ?_)
  clear E a S; rintro a w v_1 E S
  refine S_v E rfl (R_move E rfl) rfl ?_
  clear E a; intro a E
  refine S_x (X_appendI (xs := ([] : List Int)) E S rfl rfl rfl T22 h0 (by first | omega | (simp; done) | (simp; omega) | (simp_all; omega)) ?_)
  clear E a S; rintro a w v_2 E S
  refine S_v E rfl (R_assign E rfl) rfl ?_
  clear E a; intro a E
  refine WL_nil ?_
  refine T_n ?_
  refine WP_ret ?_
  replace S := S.re1 (l' := l0) (by ((try clear S); (try clear E); first | assumption | omega | rfl | (simp; done) | (simp_all; done) | (simp [List.take_add_one, *]; done) | grind [List.take_add_one]))
  exact F_ret1 E Try.results117 rfl ⟨_, rfl, M1, _, (Hp.le.refl _), rfl, S⟩

set_option maxRecDepth 100000 in
set_option maxHeartbeats 4000000 in
theorem mutable_Reverse {M : Hp} {v0 : Value} {l0 : List Int} (b0 : l0.length ≤ 1000000000000) :
    Sp Try.prog (.func (.func 228) #[] #[]) M [v0] [OwnI 3 v0 l0] (fun r M' C' => C' = [OwnI 3 v0 ((l0).reverse)]) := by
  refine Sp_enter Try.func228 rfl Try.ntmps228 rfl Try.call228 ?_
  intro a w M1 H hM1 S E
  replace S : St w M1 (OwnI 3 v0 l0 :: _) := S
  refine WP_seq ?_
  refine WP_region ?_
  refine S_v E rfl (R_move E rfl) rfl ?_
  clear E a; intro a E
  refine S_v E rfl (R_lenV E rfl T22 S.lenC) rfl ?_
  clear E a; intro a E
  refine S_v E rfl (R_assign E rfl) rfl ?_
  clear E a; intro a E
  refine WL_nil ?_
  refine T_n ?_
  refine WP_seq ?_
  refine WP_region ?_
  refine S_v E rfl (R_move E rfl) rfl ?_
  clear E a; intro a E
  refine S_v E rfl (R_quon (p := (l0).length) (q := 2) E rfl rfl (by first | decide | omega) (by omega)) rfl ?_
  clear E a; intro a E
  refine S_v E rfl (R_assign E rfl) rfl ?_
  clear E a; intro a E
  refine WL_nil ?_
  refine T_n ?_
  refine WP_seq ?_
  refine WP_region ?_
  refine S_v E rfl (R_assign E rfl) rfl ?_
  clear E a; intro a E
  refine WL_nil ?_
  refine T_n ?_
  refine WP_block ?_
  replace S := S.re1 (l' := swapK l0 0) (by first | exact swapK_zero _ | (refine swapK_succ ?_ ?_ (by assumption) (by assumption); omega; omega))
  refine WP_loop (γ := Nat) (fun (k : Nat) a w => ∃ (M_1 : Hp), Hp.le M1 M_1 ∧ St w M_1 (OwnI 3 v0 (swapK l0 k) :: H) ∧ Env a 33 [] [(0, v0), (2, .int .i64 (((l0).length : Nat) : Int)), (3, .int .i64 ((((l0).length) / 2 : Nat) : Int)), (4, .int .i64 ((k : Nat) : Int))] ∧ (k ≤ l0.length / 2)) (fun k => l0.length / 2 - k) 0 ⟨M1, Hp.le.refl _, S, E.keep ⟨rfl, rfl, rfl, rfl, trivial⟩, by ((try clear S); (try clear E); first | assumption | omega | rfl | (simp; done) | (simp_all; done) | (simp [List.take_add_one, *]; done) | grind [List.take_add_one])⟩ ?_
  try clear E
  try clear S
  try clear a
  try clear w
  rintro k a w ⟨M_1, hM_1, S, E, hL0_0⟩
  have hsl := swapK_length l0 k
  refine WP_seq ?_
  refine WP_seq ?_
  refine WP_region ?_
  refine S_v E rfl (R_move E rfl) rfl ?_
  clear E a; intro a E
  refine S_v E rfl (R_move E rfl) rfl ?_
  clear E a; intro a E
  refine S_v E rfl (R_lss E rfl rfl) rfl ?_
  clear E a; intro a E
  refine WL_nil ?_
  refine T_n ?_
  refine WP_cond E rfl (fun hc_2 => ?_) (fun hc_2 => ?_)
  · replace hc_2 := of_decide_eq_true hc_2
    refine WP_skip ?_
    refine T_n ?_
    refine WP_seq ?_
    refine WP_block ?_
    refine WP_seq ?_
    refine WP_region ?_
    refine S_v E rfl (R_move E rfl) rfl ?_
    clear E a; intro a E
    refine S_v E rfl (R_subx (m := (((l0).length - 1 : Nat) : Int)) E rfl rfl (by omega) (by omega)) rfl ?_
    clear E a; intro a E
    refine S_v E rfl (R_move E rfl) rfl ?_
    clear E a; intro a E
    refine S_v E rfl (R_subx (m := (((l0).length - 1 - k : Nat) : Int)) E rfl rfl (by omega) (by omega)) rfl ?_
    clear E a; intro a E
    refine S_v E rfl (R_assign E rfl) rfl ?_
    clear E a; intro a E
    refine WL_nil ?_
    refine T_n ?_
    replace S := S.mono_heap (w' := World.drew _) rfl
    obtain ⟨p_3, hp_3⟩ := S.ptrC (k := (l0).length - 1 - k) (by first | omega | (simp; done) | (simp; omega) | (simp_all; omega))
    obtain ⟨x_4, hx_4⟩ : ∃ x, (swapK l0 k)[(l0).length - 1 - k]? = some x := ⟨_, List.getElem?_eq_getElem (by first | omega | (simp; done) | (simp; omega) | (simp_all; omega))⟩
    obtain ⟨p_5, hp_5⟩ := S.ptrC (k := k) (by first | omega | (simp; done) | (simp; omega) | (simp_all; omega))
    obtain ⟨x_6, hx_6⟩ : ∃ x, (swapK l0 k)[k]? = some x := ⟨_, List.getElem?_eq_getElem (by first | omega | (simp; done) | (simp; omega) | (simp_all; omega))⟩
    refine WP_drawn (C := fun x w => agree M_1 w ∧ (x = 7 → w.cell? p_3 = some (.int .i64 x_4)) ∧ (x = 11 → w.cell? p_5 = some (.int .i64 x_6))) (bf := (fun i => bif Nat.beq i 13 then [7, 11] else bif Nat.beq i 15 then [7, 11] else [])) [0, 1, 2, 3, 4, 5, 6, 7, 8, 9, 10, 11, 12, 14] [0, 1, 2, 3, 4, 5, 6, 7, 8, 9, 10, 11, 12, 13, 14, 15] Try.mixed (by kernel_rfl) (fun x hq => ⟨S.imm, fun _ => S.cellI hp_3 hx_4, fun _ => S.cellI hp_5 hx_6⟩) ?_
    refine D_v E rfl rfl rfl (fun w hC => (R_move E rfl)) ?_
    clear E a; intro a E
    refine D_v E rfl rfl rfl (fun w hC => (R_move E rfl)) ?_
    clear E a; intro a E
    refine D_v E rfl rfl rfl (fun w hC => (R_move E rfl)) ?_
    clear E a; intro a E
    refine D_v E rfl rfl rfl (fun w hC => (R_move E rfl)) ?_
    clear E a; intro a E
    refine D_v E rfl rfl rfl (fun w hC => (R_move E rfl)) ?_
    clear E a; intro a E
    refine D_v E rfl rfl rfl (fun w hC => (R_move E rfl)) ?_
    clear E a; intro a E
    refine D_v E rfl rfl rfl (fun w hC => (R_idx E rfl rfl T22 hp_3 rfl)) ?_
    clear E a; intro a E
    refine D_v E rfl rfl rfl (fun w hC => (R_load E rfl (Try.isAgg3 _) (hC.2.1 rfl))) ?_
    clear E a; intro a E
    refine D_v E rfl rfl rfl (fun w hC => (R_move E rfl)) ?_
    clear E a; intro a E
    refine D_v E rfl rfl rfl (fun w hC => (R_move E rfl)) ?_
    clear E a; intro a E
    refine D_v E rfl rfl rfl (fun w hC => (R_idx E rfl rfl T22 hp_5 rfl)) ?_
    clear E a; intro a E
    refine D_v E rfl rfl rfl (fun w hC => (R_load E rfl (Try.isAgg3 _) (hC.2.2 rfl))) ?_
    clear E a; intro a E
    refine D_v E rfl rfl rfl (fun w hC => (R_idx E rfl rfl T22 hp_5 rfl)) ?_
    clear E a; intro a E
    refine D_x rfl rfl rfl (X_storeI E S rfl rfl (Try.sizeOf3 _) hp_5 ?_)
    clear E a S; rintro a w E S
    refine ⟨fun x hq hb => ⟨(agree_le (Hp.le.refl _) S.imm), (fun e => by subst e; exact absurd hb (by decide)), (fun e => by subst e; exact absurd hb (by decide))⟩, ?_⟩
    refine D_v E rfl rfl rfl (fun w hC => (R_idx E rfl rfl T22 hp_3 rfl)) ?_
    clear E a; intro a E
    refine D_x rfl rfl rfl (X_storeI E S rfl rfl (Try.sizeOf3 _) hp_3 ?_)
    clear E a S; rintro a w E S
    refine ⟨fun x hq hb => ⟨(agree_le (Hp.le.refl _) S.imm), (fun e => by subst e; exact absurd hb (by decide)), (fun e => by subst e; exact absurd hb (by decide))⟩, ?_⟩
    refine D_end (NoP_n ?_)
    refine B_n ?_
    refine T_n ?_
    refine WP_region ?_
    refine S_v E rfl (R_move E rfl) rfl ?_
    clear E a; intro a E
    refine S_v E rfl (R_addx (m := ((k + 1 : Nat) : Int)) E rfl rfl (by omega) (by omega)) rfl ?_
    clear E a; intro a E
    refine S_v E rfl (R_assign E rfl) rfl ?_
    clear E a; intro a E
    refine WL_nil ?_
    refine T_n ?_
    replace S := S.re1 (l' := swapK l0 (k + 1)) (by first | exact swapK_zero _ | (refine swapK_succ ?_ ?_ (by assumption) (by assumption); omega; omega))
    exact ⟨k + 1, ⟨M_1, hM_1, S, E.keep ⟨rfl, rfl, rfl, rfl, trivial⟩, by ((try clear S); (try clear E); first | assumption | omega | rfl | (simp; done) | (simp_all; done) | (simp [List.take_add_one, *]; done) | grind [List.take_add_one])⟩, by omega⟩
  · replace hc_2 := of_decide_eq_false hc_2
    refine WP_exit ?_
    refine T_x ?_
    refine T_x ?_
    refine B_x ?_
    refine F_nrm ?_
    replace S := S.re1 (l' := (l0).reverse) (by (exact swapK_half (by omega)))
    exact F_ret0 E Try.results228 ⟨_, rfl, M_1, _, hM_1, rfl, S⟩

set_option maxRecDepth 100000 in
set_option maxHeartbeats 4000000 in
theorem lo_Reverse {M : Hp} {v0 : Value} {l0 : List Int} (b0 : l0.length ≤ 1000000000000) :
    Sp Try.prog (.func (.func 164) #[] #[]) M [v0] [OwnI 3 v0 l0] (fun r M' C' => C' = [OwnI 3 r ((l0).reverse)]) := by
  refine Sp_enter Try.func164 rfl Try.ntmps164 rfl Try.call164 ?_
  intro a w M1 H hM1 S E
  replace S : St w M1 (OwnI 3 v0 l0 :: _) := S
  refine WP_seq ?_
  refine WP_region ?_
  refine S_v E rfl (R_assign E rfl) rfl ?_
  clear E a; intro a E
  refine WL_nil ?_
  refine T_n ?_
  refine WP_seq ?_
  refine WP_region ?_
  refine S_v E rfl (R_move E rfl) rfl ?_
  clear E a; intro a E
  refine S_x (X_sp (p := [OwnI 3 v0 l0]) E S rfl rfl rfl (mutable_Reverse (by (first | omega | (simp; omega) | (simp; done) | (simp_all; omega) | grind))) (Hp.le.refl _) ?_)
  clear E a S; rintro a v_2 w M_1 _ hM_1 rfl S E
  replace S : St w M_1 (OwnI 3 v0 ((l0).reverse) :: _) := S
  refine WL_nil ?_
  refine T_n ?_
  refine WP_seq ?_
  refine WP_region ?_
  refine S_v E rfl (R_move E rfl) rfl ?_
  clear E a; intro a E
  refine S_v E rfl (R_assign E rfl) rfl ?_
  clear E a; intro a E
  refine WL_nil ?_
  refine T_n ?_
  refine WP_ret ?_
  exact F_ret1 E Try.results164 rfl ⟨_, rfl, M_1, _, hM_1, rfl, S⟩

set_option maxRecDepth 100000 in
set_option maxHeartbeats 4000000 in
theorem impl_Reverse {M : Hp} {v0 : Value} {l0 : List Int} (h0 : RdI M v0 l0)(hb : l0.length ≤ 1000000000000) :
    Pu Try.prog (.func (.func 76) #[] #[]) M [v0] (fun r M' => RdI M' r ((l0).reverse)) := by
  refine Pu_enter Try.func76 rfl Try.ntmps76 rfl Try.call76 ?_
  intro a w M1 H hM1 S E
  replace h0 := h0.le hM1
  have b0 := h0.bound
  refine WP_seq ?_
  refine WP_region ?_
  refine S_v E rfl (R_assign E rfl) rfl ?_
  clear E a; intro a E
  refine WL_nil ?_
  refine T_n ?_
  refine WP_seq ?_
  refine WP_region ?_
  refine S_v E rfl (R_move E rfl) rfl ?_
  clear E a; intro a E
  refine S_x (X_sp (p := []) E S rfl rfl rfl (impl_fresh h0 (by (first | omega | (simp; omega) | (simp; done) | (simp_all; omega) | grind))) (Hp.le.refl _) ?_)
  clear E a S; rintro a v_2 w M_1 _ hM_1 rfl S E
  replace S : St w M_1 (OwnI 3 v_2 l0 :: _) := S
  replace h0 := h0.le hM_1
  refine S_x (X_sp (p := [OwnI 3 v_2 l0]) E S rfl rfl rfl (lo_Reverse (by (first | omega | (simp; omega) | (simp; done) | (simp_all; omega) | grind))) (Hp.le.refl _) ?_)
  clear E a S; rintro a v_4 w M_3 _ hM_3 rfl S E
  replace S : St w M_3 (OwnI 3 v_4 ((l0).reverse) :: _) := S
  replace h0 := h0.le hM_3
  refine S_v E rfl (R_assign E rfl) rfl ?_
  clear E a; intro a E
  refine WL_nil ?_
  refine T_n ?_
  refine WP_ret ?_
  have S0 := S; clear S
  obtain ⟨M_5, hM_5, hz_6, S⟩ := S0.freezeI (by (first | omega | (simp; omega) | (simp; done) | (simp_all; omega) | grind))
  clear S0
  replace h0 := h0.le hM_5
  exact F_ret1 E Try.results76 rfl ⟨_, rfl, M_5, (hM_1.trans (hM_3.trans hM_5)), hz_6, S⟩

set_option maxRecDepth 100000 in
set_option maxHeartbeats 4000000 in
theorem laws_FnTakeWhile {M : Hp} {v0 : Value} {l0 : List Int} (h0 : RdI M v0 l0){pk1 pn1 : Int} {w1 : Value} {pl1 : List Int} (hw1 : RdI M w1 pl1) (gn1 : -9223372036854775808 ≤ pn1 ∧ pn1 ≤ 9223372036854775807) (hr0 : (∀ x ∈ l0, -9223372036854775808 ≤ x ∧ x ≤ 9223372036854775807)) :
    PuC Try.prog 10 M [v0, .agg #[.int .i64 pk1, .int .i64 pn1, w1]] (fun r M' => r = .bool true) := by
  refine PuC_enter Try.func10 rfl Try.ntmps10 rfl ?_
  intro a w M1 H hM1 S E
  replace h0 := h0.le hM1
  replace hw1 := hw1.le hM1
  have b0 := h0.bound
  have hwr := dwlen (fun x => predAt pk1 pn1 pl1 x 0) l0.reverse
  rw [List.length_reverse] at hwr
  refine WP_seq ?_
  refine WP_region ?_
  refine S_x (X_box (cs := #[.int .i64 pk1, .int .i64 pn1, w1]) E S rfl rfl rfl ?_)
  clear E a S; rintro a w b_1 E S
  obtain ⟨M_2, hM_2, hb_1, S⟩ := S.freezeB
  replace h0 := h0.le hM_2
  replace hw1 := hw1.le hM_2
  refine S_v E rfl (R_assign E rfl) rfl ?_
  clear E a; intro a E
  refine WL_nil ?_
  refine T_n ?_
  refine WP_seq ?_
  refine WP_seq ?_
  refine WP_region ?_
  refine S_v E rfl (R_move E rfl) rfl ?_
  clear E a; intro a E
  refine S_v E rfl (R_lenV E rfl T22 h0.len) rfl ?_
  clear E a; intro a E
  refine S_v E rfl (R_gtr E rfl rfl) rfl ?_
  clear E a; intro a E
  refine S_v E rfl (R_move E rfl) rfl ?_
  clear E a; intro a E
  refine split_bool (decide (2147483647 < (((l0).length : Nat) : Int))) (fun hc_3 => ?_) (fun hc_3 => ?_)
  · replace E := E.val (t := 10) rfl hc_3
    replace E := E.val (t := 11) rfl hc_3
    replace hc_3 := of_decide_eq_true hc_3
    refine WL_guard_no E rfl rfl rfl rfl fun a E => ?_
    refine WL_guard_no E rfl rfl rfl rfl fun a E => ?_
    refine WL_guard_no E rfl rfl rfl rfl fun a E => ?_
    refine S_v E rfl (R_pickT E rfl rfl) rfl ?_
    clear E a; intro a E
    refine WL_nil ?_
    refine T_n ?_
    refine WP_condT E rfl rfl ?_
    refine WP_seq ?_
    refine WP_region ?_
    refine S_v E rfl (R_assign E rfl) rfl ?_
    clear E a; intro a E
    refine WL_nil ?_
    refine T_n ?_
    refine WP_ret ?_
    refine T_r ?_
    exact F_ret1 E Try.results10 rfl ⟨_, rfl, M_2, hM_2, rfl, S⟩
  · replace E := E.val (t := 10) rfl hc_3
    replace E := E.val (t := 11) rfl hc_3
    replace hc_3 := of_decide_eq_false hc_3
    refine WL_guard_yes E rfl rfl ?_
    refine S_v E rfl (R_loadGM E rfl (Try.isAgg29 _) (Try.sizeOf29 _) S.imm hb_1) rfl ?_
    clear E a; intro a E
    refine WL_guard_yes E rfl rfl ?_
    refine S_x (X_pu E S rfl rfl rfl (laws_zzFits1 hw1 (by omega)) (Hp.le.refl _) ?_)
    clear E a S; rintro a _ w M_4 hM_4 rfl S E
    replace h0 := h0.le hM_4
    replace hw1 := hw1.le hM_4
    replace hb_1 := hM_4.2 _ _ hb_1
    refine WL_guard_yes E rfl rfl ?_
    refine S_v E rfl (R_not E rfl) rfl ?_
    clear E a; intro a E
    refine S_v E rfl (R_pickF E rfl rfl) rfl ?_
    clear E a; intro a E
    refine WL_nil ?_
    refine T_n ?_
    refine WP_cond E rfl (fun hc_5 => ?_) (fun hc_5 => ?_)
    · refine WP_seq ?_
      refine WP_region ?_
      refine S_v E rfl (R_assign E rfl) rfl ?_
      clear E a; intro a E
      refine WL_nil ?_
      refine T_n ?_
      refine WP_ret ?_
      refine T_r ?_
      exact F_ret1 E Try.results10 rfl ⟨_, rfl, M_4, (hM_2.trans hM_4), rfl, S⟩
    · refine WP_skip ?_
      refine T_n ?_
      refine WP_seq ?_
      refine WP_seq ?_
      refine WP_region ?_
      refine S_x (X_buildI (ys := [1]) E S rfl T22 rfl rfl rfl ?_)
      clear E a S; rintro a w v_6 E S
      refine S_v E rfl (R_build (u := .agg #[.int .i64 4, .int .i64 0, .slice none 0 0]) (vs := [.int .i64 4]) E rfl (fun w => FB29_0_i 4 w)) rfl ?_
      clear E a; intro a E
      have S0 := S; clear S
      obtain ⟨M_7, hM_7, hz_8, S⟩ := S0.freezeI (by (first | omega | (simp; omega) | (simp; done) | (simp_all; omega) | grind))
      clear S0
      replace h0 := h0.le hM_7
      replace hw1 := hw1.le hM_7
      replace hb_1 := hM_7.2 _ _ hb_1
      refine S_x (X_pu E S rfl rfl rfl (impl_TakeWhile hz_8 (RdS.nil _) (by omega) (by (first | omega | (simp; omega) | (simp; done) | (simp_all; omega) | grind))) (Hp.le.refl _) ?_)
      clear E a S; rintro a v_10 w M_9 hM_9 hv_10 S E
      replace h0 := h0.le hM_9
      replace hw1 := hw1.le hM_9
      replace hb_1 := hM_9.2 _ _ hb_1
      replace hz_8 := hz_8.le hM_9
      refine S_v E rfl (R_lenV E rfl T22 hv_10.len) rfl ?_
      clear E a; intro a E
      refine S_v E rfl (R_neq E rfl rfl) rfl ?_
      clear E a; intro a E
      refine WL_nil ?_
      refine T_n ?_
      have hc_11 : (decide ((((([1]).takeWhile (fun x => predAt 4 0 ([] : List Int) x 0)).length : Nat) : Int) ≠ 1)) = false := by (clear S E; first | (simp; done) | decide | (simp [predAt]; done))
      refine WP_condF E rfl hc_11 ?_
      refine WP_skip ?_
      refine T_n ?_
      refine WP_seq ?_
      refine WP_seq ?_
      refine WP_region ?_
      refine S_v E rfl (R_move E rfl) rfl ?_
      clear E a; intro a E
      refine S_x (X_buildM (R := RSl 1 RInt) (vs := [v0]) (xs := [l0]) (RSl_mono RInt_mono) E S rfl T36 rfl rfl rfl (by intro u hu; simp only [List.mem_cons, List.not_mem_nil, or_false] at hu; rcases hu with rfl <;> first | exact RdI.one h0 | rfl) rfl (rowsC (R := RSl 1 RInt) (RdI.row h0) rowsN) ?_)
      clear E a S; rintro a v_12 w M_13 hM_13 hv_12 S E
      replace hv_12 : RdII M_13 v_12 [l0] := hv_12
      replace h0 := h0.le hM_13
      replace hw1 := hw1.le hM_13
      replace hb_1 := hM_13.2 _ _ hb_1
      replace hz_8 := hz_8.le hM_13
      replace hv_10 := hv_10.le hM_13
      refine S_x (X_pu E S rfl rfl rfl (laws_few hv_12) (Hp.le.refl _) ?_)
      clear E a S; rintro a _ w M_14 hM_14 rfl S E
      replace h0 := h0.le hM_14
      replace hw1 := hw1.le hM_14
      replace hb_1 := hM_14.2 _ _ hb_1
      replace hz_8 := hz_8.le hM_14
      replace hv_10 := hv_10.le hM_14
      replace hv_12 := hv_12.le hM_14
      refine S_v E rfl (R_not E rfl) rfl ?_
      clear E a; intro a E
      refine S_v E rfl (R_move E rfl) rfl ?_
      clear E a; intro a E
      refine split_bool (!(decide (∀ x ∈ [l0], x.length ≤ 300))) (fun hc_15 => ?_) (fun hc_15 => ?_)
      · replace E := E.val (t := 24) rfl hc_15
        replace E := E.val (t := 25) rfl hc_15
        refine WL_guard_no E rfl rfl rfl rfl fun a E => ?_
        refine WL_guard_no E rfl rfl rfl rfl fun a E => ?_
        refine WL_guard_no E rfl rfl rfl rfl fun a E => ?_
        refine S_v E rfl (R_pickT E rfl rfl) rfl ?_
        clear E a; intro a E
        refine WL_nil ?_
        refine T_n ?_
        refine WP_condT E rfl rfl ?_
        refine WP_seq ?_
        refine WP_region ?_
        refine S_v E rfl (R_assign E rfl) rfl ?_
        clear E a; intro a E
        refine WL_nil ?_
        refine T_n ?_
        refine WP_ret ?_
        refine T_r ?_
        exact F_ret1 E Try.results10 rfl ⟨_, rfl, M_14, (hM_2.trans (hM_4.trans (hM_7.trans (hM_9.trans (hM_13.trans hM_14))))), rfl, S⟩
      · replace E := E.val (t := 24) rfl hc_15
        replace E := E.val (t := 25) rfl hc_15
        refine WL_guard_yes E rfl rfl ?_
        refine S_v E rfl (R_loadGM E rfl (Try.isAgg29 _) (Try.sizeOf29 _) S.imm hb_1) rfl ?_
        clear E a; intro a E
        refine WL_guard_yes E rfl rfl ?_
        refine S_x (X_pu E S rfl rfl rfl (laws_fair hw1 (by omega)) (Hp.le.refl _) ?_)
        clear E a S; rintro a _ w M_16 hM_16 rfl S E
        replace h0 := h0.le hM_16
        replace hw1 := hw1.le hM_16
        replace hb_1 := hM_16.2 _ _ hb_1
        replace hz_8 := hz_8.le hM_16
        replace hv_10 := hv_10.le hM_16
        replace hv_12 := hv_12.le hM_16
        refine WL_guard_yes E rfl rfl ?_
        refine S_v E rfl (R_not E rfl) rfl ?_
        clear E a; intro a E
        refine S_v E rfl (R_pickF E rfl rfl) rfl ?_
        clear E a; intro a E
        refine WL_nil ?_
        refine T_n ?_
        refine WP_cond E rfl (fun hc_17 => ?_) (fun hc_17 => ?_)
        · refine WP_seq ?_
          refine WP_region ?_
          refine S_v E rfl (R_assign E rfl) rfl ?_
          clear E a; intro a E
          refine WL_nil ?_
          refine T_n ?_
          refine WP_ret ?_
          refine T_r ?_
          exact F_ret1 E Try.results10 rfl ⟨_, rfl, M_16, (hM_2.trans (hM_4.trans (hM_7.trans (hM_9.trans (hM_13.trans (hM_14.trans hM_16)))))), rfl, S⟩
        · have hkp : -1099511627776 < pn1 ∧ pn1 < 1099511627776 := (by simp_all)
          refine WP_skip ?_
          refine T_n ?_
          refine WP_seq ?_
          refine WP_region ?_
          refine S_v E rfl (R_move E rfl) rfl ?_
          clear E a; intro a E
          refine S_v E rfl (R_lenV E rfl T22 h0.len) rfl ?_
          clear E a; intro a E
          refine S_v E rfl (R_assign E rfl) rfl ?_
          clear E a; intro a E
          refine S_v E rfl (R_assign E rfl) rfl ?_
          clear E a; intro a E
          refine WL_nil ?_
          refine T_n ?_
          refine WP_seq ?_
          refine WP_join (fun a w => ∃ (M_18 : Hp) (k : Nat), Hp.le M_16 M_18 ∧ St w M_18 (H) ∧ Env a 150 [] [(0, v0), (3, .pointer (some ⟨b_1, 0, none⟩)), (5, .int .i64 ((k : Nat) : Int)), (6, .int .i64 (((l0).length : Nat) : Int))] ∧ (k ≤ l0.length) ∧ (l0.take k = l0.takeWhile (fun x => predAt pk1 pn1 pl1 x 0)) ∧ (l0.drop k = l0.dropWhile (fun x => predAt pk1 pn1 pl1 x 0))) ?_ ?_
          · refine WP_block ?_
            refine WP_loop (γ := Nat) (fun (k : Nat) a w => ∃ (M_19 : Hp), Hp.le M_16 M_19 ∧ St w M_19 (H) ∧ Env a 150 [] [(0, v0), (3, .pointer (some ⟨b_1, 0, none⟩)), (5, .int .i64 ((k : Nat) : Int)), (6, .int .i64 (((l0).length : Nat) : Int))] ∧ (k ≤ l0.length) ∧ (∀ x ∈ l0.take k, predAt pk1 pn1 pl1 x 0 = true)) (fun k => l0.length - k) 0 ⟨M_16, Hp.le.refl _, S, E.keep ⟨rfl, rfl, rfl, rfl, trivial⟩, by ((try clear S); (try clear E); first | assumption | omega | rfl | (simp; done) | (simp_all; done) | (simp [List.take_add_one, *]; done) | grind [List.take_add_one]), (by simp)⟩ ?_
            try clear E
            try clear S
            try clear a
            try clear w
            rintro k a w ⟨M_19, hM_19, S, E, hL0_0, hL0_1⟩
            replace h0 := h0.le hM_19
            replace hw1 := hw1.le hM_19
            replace hb_1 := hM_19.2 _ _ hb_1
            replace hz_8 := hz_8.le hM_19
            replace hv_10 := hv_10.le hM_19
            replace hv_12 := hv_12.le hM_19
            refine WP_seq ?_
            refine WP_seq ?_
            have hb_1k19 := hb_1
            replace S := S.mono_heap (w' := World.drew _) rfl
            refine WP_drawn (C := fun x w => agree M_19 w) (bf := (fun i => [])) [0, 1, 2, 3, 4, 5, 6, 7, 8, 9, 11] [0, 1, 2, 3, 4, 5, 6, 7, 8, 9, 10, 11] Try.mixed (by kernel_rfl) (fun x hq => S.imm) ?_
            refine D_v E rfl rfl rfl (fun w hC => (R_move E rfl)) ?_
            clear E a; intro a E
            refine D_v E rfl rfl rfl (fun w hC => (R_move E rfl)) ?_
            clear E a; intro a E
            refine D_v E rfl rfl rfl (fun w hC => (R_lenV E rfl T22 h0.len)) ?_
            clear E a; intro a E
            refine D_v E rfl rfl rfl (fun w hC => (R_lss E rfl rfl)) ?_
            clear E a; intro a E
            refine D_v E rfl rfl rfl (fun w hC => (R_move E rfl)) ?_
            clear E a; intro a E
            refine split_bool (decide (((k : Nat) : Int) < (((l0).length : Nat) : Int))) (fun hc_20 => ?_) (fun hc_20 => ?_)
            · replace E := E.val (t := 35) rfl hc_20
              replace E := E.val (t := 36) rfl hc_20
              replace hc_20 := of_decide_eq_true hc_20
              refine D_vyes E rfl rfl rfl rfl rfl (fun w hC => (R_loadGM E rfl (Try.isAgg29 _) (Try.sizeOf29 _) hC hb_1k19)) ?_
              clear E a; intro a E
              refine D_vyes E rfl rfl rfl rfl rfl (fun w hC => (R_move E rfl)) ?_
              clear E a; intro a E
              refine D_vyes E rfl rfl rfl rfl rfl (fun w hC => (R_move E rfl)) ?_
              clear E a; intro a E
              obtain ⟨x_21, hx_21⟩ : ∃ x, (l0)[k]? = some x := ⟨_, List.getElem?_eq_getElem (by first | omega | (simp; done) | (simp; omega) | (simp_all; omega))⟩
              obtain ⟨p_22, hp_22, qp_22⟩ := h0.at hx_21
              refine D_vyes E rfl rfl rfl rfl rfl (fun w hC => (R_idx E rfl rfl T22 hp_22 rfl)) ?_
              clear E a; intro a E
              refine D_vyes E rfl rfl rfl rfl rfl (fun w hC => (R_loadM E rfl Try.isAgg3 hC qp_22)) ?_
              clear E a; intro a E
              refine D_yes E rfl rfl rfl rfl (X_pu E S rfl rfl rfl (laws_holds hw1 (by omega)) (Hp.le.refl _) ?_)
              clear E a S; rintro a _ w M_23 hM_23 rfl S E
              replace h0 := h0.le hM_23
              replace hw1 := hw1.le hM_23
              replace hb_1 := hM_23.2 _ _ hb_1
              replace hz_8 := hz_8.le hM_23
              replace hv_10 := hv_10.le hM_23
              replace hv_12 := hv_12.le hM_23
              refine ⟨fun x hq hb => (agree_le hM_23 S.imm), ?_⟩
              refine D_v E rfl rfl rfl (fun w hC => (R_pickT E rfl rfl)) ?_
              clear E a; intro a E
              refine D_end (NoP_n ?_)
              refine T_n ?_
              refine WP_cond E rfl (fun hc_24 => ?_) (fun hc_24 => ?_)
              · refine WP_skip ?_
                refine T_n ?_
                refine WP_block ?_
                refine WP_region ?_
                refine S_v E rfl (R_move E rfl) rfl ?_
                clear E a; intro a E
                refine S_v E rfl (R_addx (m := ((k + 1 : Nat) : Int)) E rfl rfl (by omega) (by omega)) rfl ?_
                clear E a; intro a E
                refine S_v E rfl (R_assign E rfl) rfl ?_
                clear E a; intro a E
                refine WL_nil ?_
                refine B_n ?_
                refine T_n ?_
                exact ⟨k + 1, ⟨M_23, (hM_19.trans hM_23), S, E.keep ⟨rfl, rfl, rfl, rfl, trivial⟩, (by omega), (by exact take_all (P := fun x => predAt pk1 pn1 pl1 x 0 = true) hL0_1 (by assumption) (by assumption))⟩, by omega⟩
              · refine WP_exit ?_
                refine T_x ?_
                refine T_x ?_
                refine B_x ?_
                refine .inl ⟨rfl, ?_⟩
                exact ⟨M_23, k, (hM_19.trans hM_23), S, E.keep ⟨rfl, rfl, rfl, rfl, trivial⟩, (by omega), (by (first | exact (tw_eq (f := fun x => predAt pk1 pn1 pl1 x 0) hL0_1 (.inl (by omega))).symm | exact (tw_eq (f := fun x => predAt pk1 pn1 pl1 x 0) hL0_1 (.inr ⟨_, by assumption, by assumption⟩)).symm)), (by (first | exact (dw_eq (f := fun x => predAt pk1 pn1 pl1 x 0) hL0_1 (.inl (by omega))).symm | exact (dw_eq (f := fun x => predAt pk1 pn1 pl1 x 0) hL0_1 (.inr ⟨_, by assumption, by assumption⟩)).symm))⟩
            · replace E := E.val (t := 35) rfl hc_20
              replace E := E.val (t := 36) rfl hc_20
              replace hc_20 := of_decide_eq_false hc_20
              refine D_no E rfl rfl rfl rfl rfl fun a E => ?_
              refine D_no E rfl rfl rfl rfl rfl fun a E => ?_
              refine D_no E rfl rfl rfl rfl rfl fun a E => ?_
              refine D_no E rfl rfl rfl rfl rfl fun a E => ?_
              refine D_no E rfl rfl rfl rfl rfl fun a E => ?_
              refine D_no E rfl rfl rfl rfl rfl fun a E => ?_
              refine D_v E rfl rfl rfl (fun w hC => (R_pickF E rfl rfl)) ?_
              clear E a; intro a E
              refine D_end (NoP_n ?_)
              refine T_n ?_
              refine WP_condF E rfl rfl ?_
              refine WP_exit ?_
              refine T_x ?_
              refine T_x ?_
              refine B_x ?_
              refine .inl ⟨rfl, ?_⟩
              exact ⟨M_19, k, hM_19, S, E.keep ⟨rfl, rfl, rfl, rfl, trivial⟩, (by omega), (by (first | exact (tw_eq (f := fun x => predAt pk1 pn1 pl1 x 0) hL0_1 (.inl (by omega))).symm | exact (tw_eq (f := fun x => predAt pk1 pn1 pl1 x 0) hL0_1 (.inr ⟨_, by assumption, by assumption⟩)).symm)), (by (first | exact (dw_eq (f := fun x => predAt pk1 pn1 pl1 x 0) hL0_1 (.inl (by omega))).symm | exact (dw_eq (f := fun x => predAt pk1 pn1 pl1 x 0) hL0_1 (.inr ⟨_, by assumption, by assumption⟩)).symm))⟩
          · clear E S a w
            rintro a w ⟨M_18, k, hM_18, S, E, hJ0_0, hJ0_1, hJ0_2⟩
            replace h0 := h0.le hM_18
            replace hw1 := hw1.le hM_18
            replace hb_1 := hM_18.2 _ _ hb_1
            replace hz_8 := hz_8.le hM_18
            replace hv_10 := hv_10.le hM_18
            replace hv_12 := hv_12.le hM_18
            refine T_n ?_
            refine WP_seq ?_
            refine WP_join (fun a w => ∃ (M_25 : Hp) (j : Nat), Hp.le M_18 M_25 ∧ St w M_25 (H) ∧ Env a 150 [] [(0, v0), (3, .pointer (some ⟨b_1, 0, none⟩)), (5, .int .i64 ((k : Nat) : Int)), (6, .int .i64 ((l0.length - j : Nat) : Int))] ∧ (j ≤ l0.length) ∧ (l0.take (l0.length - j) = drw (fun x => predAt pk1 pn1 pl1 x 0) l0)) ?_ ?_
            · refine WP_block ?_
              refine WP_loop (γ := Nat) (fun (j : Nat) a w => ∃ (M_26 : Hp), Hp.le M_18 M_26 ∧ St w M_26 (H) ∧ Env a 150 [] [(0, v0), (3, .pointer (some ⟨b_1, 0, none⟩)), (5, .int .i64 ((k : Nat) : Int)), (6, .int .i64 ((l0.length - j : Nat) : Int))] ∧ (j ≤ l0.length) ∧ (∀ x ∈ l0.drop (l0.length - j), predAt pk1 pn1 pl1 x 0 = true)) (fun j => l0.length - j) 0 ⟨M_18, Hp.le.refl _, S, E.keep ⟨rfl, rfl, rfl, look_nat (i := (l0).length) rfl (by (simp)), trivial⟩, by ((try clear S); (try clear E); first | assumption | omega | rfl | (simp; done) | (simp_all; done) | (simp [List.take_add_one, *]; done) | grind [List.take_add_one]), (by simp)⟩ ?_
              try clear E
              try clear S
              try clear a
              try clear w
              rintro j a w ⟨M_26, hM_26, S, E, hL1_0, hL1_1⟩
              replace h0 := h0.le hM_26
              replace hw1 := hw1.le hM_26
              replace hb_1 := hM_26.2 _ _ hb_1
              replace hz_8 := hz_8.le hM_26
              replace hv_10 := hv_10.le hM_26
              replace hv_12 := hv_12.le hM_26
              refine WP_seq ?_
              refine WP_seq ?_
              have hb_1k26 := hb_1
              replace S := S.mono_heap (w' := World.drew _) rfl
              refine WP_drawn (C := fun x w => agree M_26 w) (bf := (fun i => [])) [0, 1, 2, 3, 4, 5, 6, 7, 8, 10] [0, 1, 2, 3, 4, 5, 6, 7, 8, 9, 10] Try.mixed (by kernel_rfl) (fun x hq => S.imm) ?_
              refine D_v E rfl rfl rfl (fun w hC => (R_move E rfl)) ?_
              clear E a; intro a E
              refine D_v E rfl rfl rfl (fun w hC => (R_gtr E rfl rfl)) ?_
              clear E a; intro a E
              refine D_v E rfl rfl rfl (fun w hC => (R_move E rfl)) ?_
              clear E a; intro a E
              refine split_bool (decide (0 < ((l0.length - j : Nat) : Int))) (fun hc_27 => ?_) (fun hc_27 => ?_)
              · replace E := E.val (t := 47) rfl hc_27
                replace E := E.val (t := 48) rfl hc_27
                replace hc_27 := of_decide_eq_true hc_27
                refine D_vyes E rfl rfl rfl rfl rfl (fun w hC => (R_loadGM E rfl (Try.isAgg29 _) (Try.sizeOf29 _) hC hb_1k26)) ?_
                clear E a; intro a E
                refine D_vyes E rfl rfl rfl rfl rfl (fun w hC => (R_move E rfl)) ?_
                clear E a; intro a E
                refine D_vyes E rfl rfl rfl rfl rfl (fun w hC => (R_move E rfl)) ?_
                clear E a; intro a E
                refine D_vyes E rfl rfl rfl rfl rfl (fun w hC => (R_subx (m := ((l0.length - j - 1 : Nat) : Int)) E rfl rfl (by omega) (by omega))) ?_
                clear E a; intro a E
                obtain ⟨x_28, hx_28⟩ : ∃ x, (l0)[l0.length - j - 1]? = some x := ⟨_, List.getElem?_eq_getElem (by first | omega | (simp; done) | (simp; omega) | (simp_all; omega))⟩
                obtain ⟨p_29, hp_29, qp_29⟩ := h0.at hx_28
                refine D_vyes E rfl rfl rfl rfl rfl (fun w hC => (R_idx E rfl rfl T22 hp_29 rfl)) ?_
                clear E a; intro a E
                refine D_vyes E rfl rfl rfl rfl rfl (fun w hC => (R_loadM E rfl Try.isAgg3 hC qp_29)) ?_
                clear E a; intro a E
                refine D_yes E rfl rfl rfl rfl (X_pu E S rfl rfl rfl (laws_holds hw1 (by omega)) (Hp.le.refl _) ?_)
                clear E a S; rintro a _ w M_30 hM_30 rfl S E
                replace h0 := h0.le hM_30
                replace hw1 := hw1.le hM_30
                replace hb_1 := hM_30.2 _ _ hb_1
                replace hz_8 := hz_8.le hM_30
                replace hv_10 := hv_10.le hM_30
                replace hv_12 := hv_12.le hM_30
                refine ⟨fun x hq hb => (agree_le hM_30 S.imm), ?_⟩
                refine D_v E rfl rfl rfl (fun w hC => (R_pickT E rfl rfl)) ?_
                clear E a; intro a E
                refine D_end (NoP_n ?_)
                refine T_n ?_
                refine WP_cond E rfl (fun hc_31 => ?_) (fun hc_31 => ?_)
                · refine WP_skip ?_
                  refine T_n ?_
                  refine WP_block ?_
                  refine WP_region ?_
                  refine S_v E rfl (R_move E rfl) rfl ?_
                  clear E a; intro a E
                  refine S_v E rfl (R_subx (m := ((l0.length - j - 1 : Nat) : Int)) E rfl rfl (by omega) (by omega)) rfl ?_
                  clear E a; intro a E
                  refine S_v E rfl (R_assign E rfl) rfl ?_
                  clear E a; intro a E
                  refine WL_nil ?_
                  refine B_n ?_
                  refine T_n ?_
                  exact ⟨j + 1, ⟨M_30, (hM_26.trans hM_30), S, E.keep ⟨rfl, rfl, rfl, look_nat (i := l0.length - j - 1) rfl (by (omega)), trivial⟩, (by omega), (by exact drop_all (f := fun x => predAt pk1 pn1 pl1 x 0) hL1_1 (by omega) (by rw [show l0.length - 1 - j = l0.length - j - 1 by omega]; assumption) (by assumption))⟩, by omega⟩
                · refine WP_exit ?_
                  refine T_x ?_
                  refine T_x ?_
                  refine B_x ?_
                  refine .inl ⟨rfl, ?_⟩
                  exact ⟨M_30, j, (hM_26.trans hM_30), S, E.keep ⟨rfl, rfl, rfl, rfl, trivial⟩, (by omega), (by (symm; (first | exact drw_eq (f := fun x => predAt pk1 pn1 pl1 x 0) (by omega) hL1_1 (.inl (by omega)) | exact drw_eq (f := fun x => predAt pk1 pn1 pl1 x 0) (by omega) hL1_1 (.inr ⟨_, by rw [show l0.length - 1 - j = l0.length - j - 1 by omega]; assumption, by assumption⟩))))⟩
              · replace E := E.val (t := 47) rfl hc_27
                replace E := E.val (t := 48) rfl hc_27
                replace hc_27 := of_decide_eq_false hc_27
                refine D_no E rfl rfl rfl rfl rfl fun a E => ?_
                refine D_no E rfl rfl rfl rfl rfl fun a E => ?_
                refine D_no E rfl rfl rfl rfl rfl fun a E => ?_
                refine D_no E rfl rfl rfl rfl rfl fun a E => ?_
                refine D_no E rfl rfl rfl rfl rfl fun a E => ?_
                refine D_no E rfl rfl rfl rfl rfl fun a E => ?_
                refine D_no E rfl rfl rfl rfl rfl fun a E => ?_
                refine D_v E rfl rfl rfl (fun w hC => (R_pickF E rfl rfl)) ?_
                clear E a; intro a E
                refine D_end (NoP_n ?_)
                refine T_n ?_
                refine WP_condF E rfl rfl ?_
                refine WP_exit ?_
                refine T_x ?_
                refine T_x ?_
                refine B_x ?_
                refine .inl ⟨rfl, ?_⟩
                exact ⟨M_26, j, hM_26, S, E.keep ⟨rfl, rfl, rfl, rfl, trivial⟩, (by omega), (by (symm; (first | exact drw_eq (f := fun x => predAt pk1 pn1 pl1 x 0) (by omega) hL1_1 (.inl (by omega)) | exact drw_eq (f := fun x => predAt pk1 pn1 pl1 x 0) (by omega) hL1_1 (.inr ⟨_, by rw [show l0.length - 1 - j = l0.length - j - 1 by omega]; assumption, by assumption⟩))))⟩
            · clear E S a w
              rintro a w ⟨M_25, j, hM_25, S, E, hJ1_0, hJ1_1⟩
              replace h0 := h0.le hM_25
              replace hw1 := hw1.le hM_25
              replace hb_1 := hM_25.2 _ _ hb_1
              replace hz_8 := hz_8.le hM_25
              replace hv_10 := hv_10.le hM_25
              replace hv_12 := hv_12.le hM_25
              refine T_n ?_
              refine WP_seq ?_
              refine WP_region ?_
              refine S_v E rfl (R_loadGM E rfl (Try.isAgg29 _) (Try.sizeOf29 _) S.imm hb_1) rfl ?_
              clear E a; intro a E
              refine S_x (X_alloc (cs := #[.int .i64 0, .int .i64 0, .slice none 0 0]) E S rfl Try.zeroValue56 rfl ?_)
              clear E a S; rintro a w b_32 E S
              refine S_x0 (X_storeG (us := [.int .i64 pk1, .int .i64 pn1, w1]) E S rfl rfl (Try.sizeOf56 _) rfl (by intro u hu; simp only [List.mem_cons, List.not_mem_nil, or_false] at hu; rcases hu with rfl | rfl | rfl <;> first | exact rfl | exact rfl | exact (RdS.one' hw1)) ?_)
              clear E a S; rintro a w E S
              replace S : St w M_25 (blk b_32 (.cells #[.int .i64 pk1, .int .i64 pn1, w1] 56) :: _) := S
              have S0 := S; clear S
              obtain ⟨M_33, hM_33, hb_34, S⟩ := S0.freezeB
              clear S0
              replace h0 := h0.le hM_33
              replace hw1 := hw1.le hM_33
              replace hb_1 := hM_33.2 _ _ hb_1
              replace hz_8 := hz_8.le hM_33
              replace hv_10 := hv_10.le hM_33
              replace hv_12 := hv_12.le hM_33
              refine WL_nil ?_
              refine T_n ?_
              refine WP_seq ?_
              have hb_1k34 := hb_1
              have hb_34k34 := hb_34
              replace S := S.mono_heap (w' := World.drew _) rfl
              refine WP_drawn (C := fun x w => agree M_33 w) (bf := (fun i => [])) [0, 1, 3, 4, 5, 7, 8, 9, 11, 12, 13, 15, 16, 17, 18, 20, 21, 22, 24, 25, 26, 27, 29, 30, 31, 33, 34, 35, 36, 38, 39, 40, 42, 43, 44, 45, 47, 48, 49, 51, 52, 53, 54, 56, 57, 58, 60, 61, 62, 63, 65, 66, 67, 69, 70, 71, 72, 74, 75, 76, 78, 79, 80, 81, 83, 85, 89, 90] [0, 1, 3, 4, 5, 2, 6, 7, 8, 9, 11, 12, 13, 10, 14, 15, 16, 17, 18, 20, 21, 22, 19, 23, 24, 25, 26, 27, 29, 30, 31, 28, 32, 33, 34, 35, 36, 38, 39, 40, 37, 41, 42, 43, 44, 45, 47, 48, 49, 46, 50, 51, 52, 53, 54, 56, 57, 58, 55, 59, 60, 61, 62, 63, 65, 66, 67, 64, 68, 69, 70, 71, 72, 74, 75, 76, 73, 77, 78, 79, 80, 81, 83, 85, 82, 84, 86, 87, 88, 89, 90] Try.mixed (by kernel_rfl) (fun x hq => S.imm) ?_
              refine D_v E rfl rfl rfl (fun w hC => (R_move E rfl)) ?_
              clear E a; intro a E
              refine D_v E rfl rfl rfl (fun w hC => (R_loadGM E rfl (Try.isAgg56 _) (Try.sizeOf56 _) hC hb_34k34)) ?_
              clear E a; intro a E
              refine D_v E rfl rfl rfl (fun w hC => (R_move E rfl)) ?_
              clear E a; intro a E
              refine D_v E rfl rfl rfl (fun w hC => (R_move E rfl)) ?_
              clear E a; intro a E
              obtain ⟨v_35, sv_35, hv_35⟩ := h0.subv 0 k (by first | omega | (simp; done) | (simp; omega) | (simp_all; omega)) (by first | omega | (simp; done) | (simp; omega) | (simp_all; omega))
              simp only [List.drop_zero] at hv_35
              replace hv_35 : RdI M_33 v_35 ((l0).take k) := hv_35
              refine D_v E rfl rfl rfl (fun w hC => (R_sliceH E rfl rfl T22 sv_35 (by omega))) ?_
              clear E a; intro a E
              refine D_x rfl rfl rfl (X_pu E S rfl rfl rfl (spec_TakeWhile h0 hw1 (by omega) (by assumption)) (Hp.le.refl _) ?_)
              clear E a S; rintro a v_37 w M_36 hM_36 hv_37 S E
              replace h0 := h0.le hM_36
              replace hw1 := hw1.le hM_36
              replace hb_1 := hM_36.2 _ _ hb_1
              replace hz_8 := hz_8.le hM_36
              replace hv_10 := hv_10.le hM_36
              replace hv_12 := hv_12.le hM_36
              replace hb_34 := hM_36.2 _ _ hb_34
              replace hv_35 := hv_35.le hM_36
              refine ⟨fun x hq hb => (agree_le hM_36 S.imm), ?_⟩
              refine D_x rfl rfl rfl (X_pu E S rfl rfl rfl (laws_eq hv_37 hv_35) (Hp.le.refl _) ?_)
              clear E a S; rintro a _ w M_38 hM_38 rfl S E
              replace h0 := h0.le hM_38
              replace hw1 := hw1.le hM_38
              replace hb_1 := hM_38.2 _ _ hb_1
              replace hz_8 := hz_8.le hM_38
              replace hv_10 := hv_10.le hM_38
              replace hv_12 := hv_12.le hM_38
              replace hb_34 := hM_38.2 _ _ hb_34
              replace hv_35 := hv_35.le hM_38
              replace hv_37 := hv_37.le hM_38
              refine ⟨fun x hq hb => (agree_le (hM_36.trans hM_38) S.imm), ?_⟩
              refine D_v E rfl rfl rfl (fun w hC => (R_move E rfl)) ?_
              clear E a; intro a E
              have hc_39 : (decide ((l0).takeWhile (fun x => predAt pk1 pn1 pl1 x 0) = (l0).take k)) = true := by (clear S E; first | (rw [hJ0_1]; simp; done) | (rw [hJ0_2]; simp; done) | (rw [hJ1_1]; simp; done) | (simp [drw]; done))
              replace E := E.val (t := 66) rfl hc_39
              replace E := E.val (t := 67) rfl hc_39
              refine D_vyes E rfl rfl rfl rfl rfl (fun w hC => (R_move E rfl)) ?_
              clear E a; intro a E
              refine D_vyes E rfl rfl rfl rfl rfl (fun w hC => (R_loadGM E rfl (Try.isAgg56 _) (Try.sizeOf56 _) hC hb_34k34)) ?_
              clear E a; intro a E
              refine D_vyes E rfl rfl rfl rfl rfl (fun w hC => (R_move E rfl)) ?_
              clear E a; intro a E
              refine D_vyes E rfl rfl rfl rfl rfl (fun w hC => (R_move E rfl)) ?_
              clear E a; intro a E
              obtain ⟨v_40, sv_40, hv_40⟩ := h0.subv k ((l0).length) (by first | omega | (simp; done) | (simp; omega) | (simp_all; omega)) (by first | omega | (simp; done) | (simp; omega) | (simp_all; omega))
              simp only [List.take_length] at hv_40
              replace hv_40 : RdI M_38 v_40 ((l0).drop k) := hv_40
              refine D_vyes E rfl rfl rfl rfl rfl (fun w hC => (R_sliceL E rfl rfl T22 h0.len sv_40 (by omega))) ?_
              clear E a; intro a E
              refine D_yes E rfl rfl rfl rfl (X_pu E S rfl rfl rfl (spec_DropWhile h0 hw1 (by omega) (by assumption)) (Hp.le.refl _) ?_)
              clear E a S; rintro a v_42 w M_41 hM_41 hv_42 S E
              replace h0 := h0.le hM_41
              replace hw1 := hw1.le hM_41
              replace hb_1 := hM_41.2 _ _ hb_1
              replace hz_8 := hz_8.le hM_41
              replace hv_10 := hv_10.le hM_41
              replace hv_12 := hv_12.le hM_41
              replace hb_34 := hM_41.2 _ _ hb_34
              replace hv_35 := hv_35.le hM_41
              replace hv_37 := hv_37.le hM_41
              replace hv_40 := hv_40.le hM_41
              refine ⟨fun x hq hb => (agree_le (hM_36.trans (hM_38.trans hM_41)) S.imm), ?_⟩
              refine D_yes E rfl rfl rfl rfl (X_pu E S rfl rfl rfl (laws_eq hv_42 hv_40) (Hp.le.refl _) ?_)
              clear E a S; rintro a _ w M_43 hM_43 rfl S E
              replace h0 := h0.le hM_43
              replace hw1 := hw1.le hM_43
              replace hb_1 := hM_43.2 _ _ hb_1
              replace hz_8 := hz_8.le hM_43
              replace hv_10 := hv_10.le hM_43
              replace hv_12 := hv_12.le hM_43
              replace hb_34 := hM_43.2 _ _ hb_34
              replace hv_35 := hv_35.le hM_43
              replace hv_37 := hv_37.le hM_43
              replace hv_40 := hv_40.le hM_43
              replace hv_42 := hv_42.le hM_43
              refine ⟨fun x hq hb => (agree_le (hM_36.trans (hM_38.trans (hM_41.trans hM_43))) S.imm), ?_⟩
              refine D_v E rfl rfl rfl (fun w hC => (R_pickT E rfl rfl)) ?_
              clear E a; intro a E
              refine D_v E rfl rfl rfl (fun w hC => (R_move E rfl)) ?_
              clear E a; intro a E
              have hc_44 : (decide ((l0).dropWhile (fun x => predAt pk1 pn1 pl1 x 0) = (l0).drop k)) = true := by (clear S E; first | (rw [hJ0_1]; simp; done) | (rw [hJ0_2]; simp; done) | (rw [hJ1_1]; simp; done) | (simp [drw]; done))
              replace E := E.val (t := 74) rfl hc_44
              replace E := E.val (t := 75) rfl hc_44
              replace E := E.val (t := 76) rfl hc_44
              refine D_vyes E rfl rfl rfl rfl rfl (fun w hC => (R_move E rfl)) ?_
              clear E a; intro a E
              refine D_vyes E rfl rfl rfl rfl rfl (fun w hC => (R_loadGM E rfl (Try.isAgg56 _) (Try.sizeOf56 _) hC hb_34k34)) ?_
              clear E a; intro a E
              refine D_vyes E rfl rfl rfl rfl rfl (fun w hC => (R_move E rfl)) ?_
              clear E a; intro a E
              refine D_vyes E rfl rfl rfl rfl rfl (fun w hC => (R_move E rfl)) ?_
              clear E a; intro a E
              obtain ⟨v_45, sv_45, hv_45⟩ := h0.subv 0 (l0.length - j) (by first | omega | (simp; done) | (simp; omega) | (simp_all; omega)) (by first | omega | (simp; done) | (simp; omega) | (simp_all; omega))
              simp only [List.drop_zero] at hv_45
              replace hv_45 : RdI M_43 v_45 ((l0).take (l0.length - j)) := hv_45
              refine D_vyes E rfl rfl rfl rfl rfl (fun w hC => (R_sliceH E rfl rfl T22 sv_45 (by omega))) ?_
              clear E a; intro a E
              refine D_yes E rfl rfl rfl rfl (X_pu E S rfl rfl rfl (spec_DropRightWhile h0 hw1 (by omega) (by assumption)) (Hp.le.refl _) ?_)
              clear E a S; rintro a v_47 w M_46 hM_46 hv_47 S E
              replace h0 := h0.le hM_46
              replace hw1 := hw1.le hM_46
              replace hb_1 := hM_46.2 _ _ hb_1
              replace hz_8 := hz_8.le hM_46
              replace hv_10 := hv_10.le hM_46
              replace hv_12 := hv_12.le hM_46
              replace hb_34 := hM_46.2 _ _ hb_34
              replace hv_35 := hv_35.le hM_46
              replace hv_37 := hv_37.le hM_46
              replace hv_40 := hv_40.le hM_46
              replace hv_42 := hv_42.le hM_46
              replace hv_45 := hv_45.le hM_46
              refine ⟨fun x hq hb => (agree_le (hM_36.trans (hM_38.trans (hM_41.trans (hM_43.trans hM_46)))) S.imm), ?_⟩
              refine D_yes E rfl rfl rfl rfl (X_pu E S rfl rfl rfl (laws_eq hv_47 hv_45) (Hp.le.refl _) ?_)
              clear E a S; rintro a _ w M_48 hM_48 rfl S E
              replace h0 := h0.le hM_48
              replace hw1 := hw1.le hM_48
              replace hb_1 := hM_48.2 _ _ hb_1
              replace hz_8 := hz_8.le hM_48
              replace hv_10 := hv_10.le hM_48
              replace hv_12 := hv_12.le hM_48
              replace hb_34 := hM_48.2 _ _ hb_34
              replace hv_35 := hv_35.le hM_48
              replace hv_37 := hv_37.le hM_48
              replace hv_40 := hv_40.le hM_48
              replace hv_42 := hv_42.le hM_48
              replace hv_45 := hv_45.le hM_48
              replace hv_47 := hv_47.le hM_48
              refine ⟨fun x hq hb => (agree_le (hM_36.trans (hM_38.trans (hM_41.trans (hM_43.trans (hM_46.trans hM_48))))) S.imm), ?_⟩
              refine D_v E rfl rfl rfl (fun w hC => (R_pickT E rfl rfl)) ?_
              clear E a; intro a E
              refine D_v E rfl rfl rfl (fun w hC => (R_move E rfl)) ?_
              clear E a; intro a E
              have hc_49 : (decide (drw (fun x => predAt pk1 pn1 pl1 x 0) l0 = (l0).take (l0.length - j))) = true := by (clear S E; first | (rw [hJ0_1]; simp; done) | (rw [hJ0_2]; simp; done) | (rw [hJ1_1]; simp; done) | (simp [drw]; done))
              replace E := E.val (t := 83) rfl hc_49
              replace E := E.val (t := 84) rfl hc_49
              replace E := E.val (t := 85) rfl hc_49
              refine D_vyes E rfl rfl rfl rfl rfl (fun w hC => (R_move E rfl)) ?_
              clear E a; intro a E
              refine D_vyes E rfl rfl rfl rfl rfl (fun w hC => (R_loadGM E rfl (Try.isAgg29 _) (Try.sizeOf29 _) hC hb_1k34)) ?_
              clear E a; intro a E
              refine D_vyes E rfl rfl rfl rfl rfl (fun w hC => (R_move E rfl)) ?_
              clear E a; intro a E
              refine D_vyes E rfl rfl rfl rfl rfl (fun w hC => (R_move E rfl)) ?_
              clear E a; intro a E
              obtain ⟨v_50, sv_50, hv_50⟩ := h0.subv 0 k (by first | omega | (simp; done) | (simp; omega) | (simp_all; omega)) (by first | omega | (simp; done) | (simp; omega) | (simp_all; omega))
              simp only [List.drop_zero] at hv_50
              replace hv_50 : RdI M_48 v_50 ((l0).take k) := hv_50
              refine D_vyes E rfl rfl rfl rfl rfl (fun w hC => (R_sliceH E rfl rfl T22 sv_50 (by omega))) ?_
              clear E a; intro a E
              refine D_yes E rfl rfl rfl rfl (X_pu E S rfl rfl rfl (impl_TakeWhile h0 hw1 (by omega) (by (first | omega | (simp; omega) | (simp; done) | (simp_all; omega) | grind))) (Hp.le.refl _) ?_)
              clear E a S; rintro a v_52 w M_51 hM_51 hv_52 S E
              replace h0 := h0.le hM_51
              replace hw1 := hw1.le hM_51
              replace hb_1 := hM_51.2 _ _ hb_1
              replace hz_8 := hz_8.le hM_51
              replace hv_10 := hv_10.le hM_51
              replace hv_12 := hv_12.le hM_51
              replace hb_34 := hM_51.2 _ _ hb_34
              replace hv_35 := hv_35.le hM_51
              replace hv_37 := hv_37.le hM_51
              replace hv_40 := hv_40.le hM_51
              replace hv_42 := hv_42.le hM_51
              replace hv_45 := hv_45.le hM_51
              replace hv_47 := hv_47.le hM_51
              replace hv_50 := hv_50.le hM_51
              refine ⟨fun x hq hb => (agree_le (hM_36.trans (hM_38.trans (hM_41.trans (hM_43.trans (hM_46.trans (hM_48.trans hM_51)))))) S.imm), ?_⟩
              refine D_yes E rfl rfl rfl rfl (X_pu E S rfl rfl rfl (laws_eq hv_52 hv_50) (Hp.le.refl _) ?_)
              clear E a S; rintro a _ w M_53 hM_53 rfl S E
              replace h0 := h0.le hM_53
              replace hw1 := hw1.le hM_53
              replace hb_1 := hM_53.2 _ _ hb_1
              replace hz_8 := hz_8.le hM_53
              replace hv_10 := hv_10.le hM_53
              replace hv_12 := hv_12.le hM_53
              replace hb_34 := hM_53.2 _ _ hb_34
              replace hv_35 := hv_35.le hM_53
              replace hv_37 := hv_37.le hM_53
              replace hv_40 := hv_40.le hM_53
              replace hv_42 := hv_42.le hM_53
              replace hv_45 := hv_45.le hM_53
              replace hv_47 := hv_47.le hM_53
              replace hv_50 := hv_50.le hM_53
              replace hv_52 := hv_52.le hM_53
              refine ⟨fun x hq hb => (agree_le (hM_36.trans (hM_38.trans (hM_41.trans (hM_43.trans (hM_46.trans (hM_48.trans (hM_51.trans hM_53))))))) S.imm), ?_⟩
              refine D_v E rfl rfl rfl (fun w hC => (R_pickT E rfl rfl)) ?_
              clear E a; intro a E
              refine D_v E rfl rfl rfl (fun w hC => (R_move E rfl)) ?_
              clear E a; intro a E
              have hc_54 : (decide ((l0).takeWhile (fun x => predAt pk1 pn1 pl1 x 0) = (l0).take k)) = true := by (clear S E; first | (rw [hJ0_1]; simp; done) | (rw [hJ0_2]; simp; done) | (rw [hJ1_1]; simp; done) | (simp [drw]; done))
              replace E := E.val (t := 92) rfl hc_54
              replace E := E.val (t := 93) rfl hc_54
              replace E := E.val (t := 94) rfl hc_54
              refine D_vyes E rfl rfl rfl rfl rfl (fun w hC => (R_move E rfl)) ?_
              clear E a; intro a E
              refine D_vyes E rfl rfl rfl rfl rfl (fun w hC => (R_loadGM E rfl (Try.isAgg29 _) (Try.sizeOf29 _) hC hb_1k34)) ?_
              clear E a; intro a E
              refine D_vyes E rfl rfl rfl rfl rfl (fun w hC => (R_move E rfl)) ?_
              clear E a; intro a E
              refine D_vyes E rfl rfl rfl rfl rfl (fun w hC => (R_move E rfl)) ?_
              clear E a; intro a E
              obtain ⟨v_55, sv_55, hv_55⟩ := h0.subv k ((l0).length) (by first | omega | (simp; done) | (simp; omega) | (simp_all; omega)) (by first | omega | (simp; done) | (simp; omega) | (simp_all; omega))
              simp only [List.take_length] at hv_55
              replace hv_55 : RdI M_53 v_55 ((l0).drop k) := hv_55
              refine D_vyes E rfl rfl rfl rfl rfl (fun w hC => (R_sliceL E rfl rfl T22 h0.len sv_55 (by omega))) ?_
              clear E a; intro a E
              refine D_yes E rfl rfl rfl rfl (X_pu E S rfl rfl rfl (impl_DropWhile h0 hw1 (by omega) (by (first | omega | (simp; omega) | (simp; done) | (simp_all; omega) | grind))) (Hp.le.refl _) ?_)
              clear E a S; rintro a v_57 w M_56 hM_56 hv_57 S E
              replace h0 := h0.le hM_56
              replace hw1 := hw1.le hM_56
              replace hb_1 := hM_56.2 _ _ hb_1
              replace hz_8 := hz_8.le hM_56
              replace hv_10 := hv_10.le hM_56
              replace hv_12 := hv_12.le hM_56
              replace hb_34 := hM_56.2 _ _ hb_34
              replace hv_35 := hv_35.le hM_56
              replace hv_37 := hv_37.le hM_56
              replace hv_40 := hv_40.le hM_56
              replace hv_42 := hv_42.le hM_56
              replace hv_45 := hv_45.le hM_56
              replace hv_47 := hv_47.le hM_56
              replace hv_50 := hv_50.le hM_56
              replace hv_52 := hv_52.le hM_56
              replace hv_55 := hv_55.le hM_56
              refine ⟨fun x hq hb => (agree_le (hM_36.trans (hM_38.trans (hM_41.trans (hM_43.trans (hM_46.trans (hM_48.trans (hM_51.trans (hM_53.trans hM_56)))))))) S.imm), ?_⟩
              refine D_yes E rfl rfl rfl rfl (X_pu E S rfl rfl rfl (laws_eq hv_57 hv_55) (Hp.le.refl _) ?_)
              clear E a S; rintro a _ w M_58 hM_58 rfl S E
              replace h0 := h0.le hM_58
              replace hw1 := hw1.le hM_58
              replace hb_1 := hM_58.2 _ _ hb_1
              replace hz_8 := hz_8.le hM_58
              replace hv_10 := hv_10.le hM_58
              replace hv_12 := hv_12.le hM_58
              replace hb_34 := hM_58.2 _ _ hb_34
              replace hv_35 := hv_35.le hM_58
              replace hv_37 := hv_37.le hM_58
              replace hv_40 := hv_40.le hM_58
              replace hv_42 := hv_42.le hM_58
              replace hv_45 := hv_45.le hM_58
              replace hv_47 := hv_47.le hM_58
              replace hv_50 := hv_50.le hM_58
              replace hv_52 := hv_52.le hM_58
              replace hv_55 := hv_55.le hM_58
              replace hv_57 := hv_57.le hM_58
              refine ⟨fun x hq hb => (agree_le (hM_36.trans (hM_38.trans (hM_41.trans (hM_43.trans (hM_46.trans (hM_48.trans (hM_51.trans (hM_53.trans (hM_56.trans hM_58))))))))) S.imm), ?_⟩
              refine D_v E rfl rfl rfl (fun w hC => (R_pickT E rfl rfl)) ?_
              clear E a; intro a E
              refine D_v E rfl rfl rfl (fun w hC => (R_move E rfl)) ?_
              clear E a; intro a E
              have hc_59 : (decide ((l0).dropWhile (fun x => predAt pk1 pn1 pl1 x 0) = (l0).drop k)) = true := by (clear S E; first | (rw [hJ0_1]; simp; done) | (rw [hJ0_2]; simp; done) | (rw [hJ1_1]; simp; done) | (simp [drw]; done))
              replace E := E.val (t := 101) rfl hc_59
              replace E := E.val (t := 102) rfl hc_59
              replace E := E.val (t := 103) rfl hc_59
              refine D_vyes E rfl rfl rfl rfl rfl (fun w hC => (R_move E rfl)) ?_
              clear E a; intro a E
              refine D_vyes E rfl rfl rfl rfl rfl (fun w hC => (R_loadGM E rfl (Try.isAgg29 _) (Try.sizeOf29 _) hC hb_1k34)) ?_
              clear E a; intro a E
              refine D_vyes E rfl rfl rfl rfl rfl (fun w hC => (R_move E rfl)) ?_
              clear E a; intro a E
              refine D_vyes E rfl rfl rfl rfl rfl (fun w hC => (R_move E rfl)) ?_
              clear E a; intro a E
              obtain ⟨v_60, sv_60, hv_60⟩ := h0.subv 0 (l0.length - j) (by first | omega | (simp; done) | (simp; omega) | (simp_all; omega)) (by first | omega | (simp; done) | (simp; omega) | (simp_all; omega))
              simp only [List.drop_zero] at hv_60
              replace hv_60 : RdI M_58 v_60 ((l0).take (l0.length - j)) := hv_60
              refine D_vyes E rfl rfl rfl rfl rfl (fun w hC => (R_sliceH E rfl rfl T22 sv_60 (by omega))) ?_
              clear E a; intro a E
              refine D_yes E rfl rfl rfl rfl (X_pu E S rfl rfl rfl (impl_DropRightWhile h0 hw1 (by omega) (by (first | omega | (simp; omega) | (simp; done) | (simp_all; omega) | grind))) (Hp.le.refl _) ?_)
              clear E a S; rintro a v_62 w M_61 hM_61 hv_62 S E
              replace h0 := h0.le hM_61
              replace hw1 := hw1.le hM_61
              replace hb_1 := hM_61.2 _ _ hb_1
              replace hz_8 := hz_8.le hM_61
              replace hv_10 := hv_10.le hM_61
              replace hv_12 := hv_12.le hM_61
              replace hb_34 := hM_61.2 _ _ hb_34
              replace hv_35 := hv_35.le hM_61
              replace hv_37 := hv_37.le hM_61
              replace hv_40 := hv_40.le hM_61
              replace hv_42 := hv_42.le hM_61
              replace hv_45 := hv_45.le hM_61
              replace hv_47 := hv_47.le hM_61
              replace hv_50 := hv_50.le hM_61
              replace hv_52 := hv_52.le hM_61
              replace hv_55 := hv_55.le hM_61
              replace hv_57 := hv_57.le hM_61
              replace hv_60 := hv_60.le hM_61
              refine ⟨fun x hq hb => (agree_le (hM_36.trans (hM_38.trans (hM_41.trans (hM_43.trans (hM_46.trans (hM_48.trans (hM_51.trans (hM_53.trans (hM_56.trans (hM_58.trans hM_61)))))))))) S.imm), ?_⟩
              refine D_yes E rfl rfl rfl rfl (X_pu E S rfl rfl rfl (laws_eq hv_62 hv_60) (Hp.le.refl _) ?_)
              clear E a S; rintro a _ w M_63 hM_63 rfl S E
              replace h0 := h0.le hM_63
              replace hw1 := hw1.le hM_63
              replace hb_1 := hM_63.2 _ _ hb_1
              replace hz_8 := hz_8.le hM_63
              replace hv_10 := hv_10.le hM_63
              replace hv_12 := hv_12.le hM_63
              replace hb_34 := hM_63.2 _ _ hb_34
              replace hv_35 := hv_35.le hM_63
              replace hv_37 := hv_37.le hM_63
              replace hv_40 := hv_40.le hM_63
              replace hv_42 := hv_42.le hM_63
              replace hv_45 := hv_45.le hM_63
              replace hv_47 := hv_47.le hM_63
              replace hv_50 := hv_50.le hM_63
              replace hv_52 := hv_52.le hM_63
              replace hv_55 := hv_55.le hM_63
              replace hv_57 := hv_57.le hM_63
              replace hv_60 := hv_60.le hM_63
              replace hv_62 := hv_62.le hM_63
              refine ⟨fun x hq hb => (agree_le (hM_36.trans (hM_38.trans (hM_41.trans (hM_43.trans (hM_46.trans (hM_48.trans (hM_51.trans (hM_53.trans (hM_56.trans (hM_58.trans (hM_61.trans hM_63))))))))))) S.imm), ?_⟩
              refine D_v E rfl rfl rfl (fun w hC => (R_pickT E rfl rfl)) ?_
              clear E a; intro a E
              refine D_v E rfl rfl rfl (fun w hC => (R_move E rfl)) ?_
              clear E a; intro a E
              have hc_64 : (decide (drw (fun x => predAt pk1 pn1 pl1 x 0) l0 = (l0).take (l0.length - j))) = true := by (clear S E; first | (rw [hJ0_1]; simp; done) | (rw [hJ0_2]; simp; done) | (rw [hJ1_1]; simp; done) | (simp [drw]; done))
              replace E := E.val (t := 110) rfl hc_64
              replace E := E.val (t := 111) rfl hc_64
              replace E := E.val (t := 112) rfl hc_64
              refine D_vyes E rfl rfl rfl rfl rfl (fun w hC => (R_move E rfl)) ?_
              clear E a; intro a E
              refine D_vyes E rfl rfl rfl rfl rfl (fun w hC => (R_loadGM E rfl (Try.isAgg29 _) (Try.sizeOf29 _) hC hb_1k34)) ?_
              clear E a; intro a E
              refine D_vyes E rfl rfl rfl rfl rfl (fun w hC => (R_move E rfl)) ?_
              clear E a; intro a E
              refine D_vyes E rfl rfl rfl rfl rfl (fun w hC => (R_move E rfl)) ?_
              clear E a; intro a E
              obtain ⟨v_65, sv_65, hv_65⟩ := h0.subv 0 k (by first | omega | (simp; done) | (simp; omega) | (simp_all; omega)) (by first | omega | (simp; done) | (simp; omega) | (simp_all; omega))
              simp only [List.drop_zero] at hv_65
              replace hv_65 : RdI M_63 v_65 ((l0).take k) := hv_65
              refine D_vyes E rfl rfl rfl rfl rfl (fun w hC => (R_sliceH E rfl rfl T22 sv_65 (by omega))) ?_
              clear E a; intro a E
              refine D_yes E rfl rfl rfl rfl (X_pu E S rfl rfl rfl (impl_TakeWhileSeq h0 hw1 (by omega) (by (first | omega | (simp; omega) | (simp; done) | (simp_all; omega) | grind))) (Hp.le.refl _) ?_)
              clear E a S; rintro a v_67 w M_66 hM_66 hv_67 S E
              replace h0 := h0.le hM_66
              replace hw1 := hw1.le hM_66
              replace hb_1 := hM_66.2 _ _ hb_1
              replace hz_8 := hz_8.le hM_66
              replace hv_10 := hv_10.le hM_66
              replace hv_12 := hv_12.le hM_66
              replace hb_34 := hM_66.2 _ _ hb_34
              replace hv_35 := hv_35.le hM_66
              replace hv_37 := hv_37.le hM_66
              replace hv_40 := hv_40.le hM_66
              replace hv_42 := hv_42.le hM_66
              replace hv_45 := hv_45.le hM_66
              replace hv_47 := hv_47.le hM_66
              replace hv_50 := hv_50.le hM_66
              replace hv_52 := hv_52.le hM_66
              replace hv_55 := hv_55.le hM_66
              replace hv_57 := hv_57.le hM_66
              replace hv_60 := hv_60.le hM_66
              replace hv_62 := hv_62.le hM_66
              replace hv_65 := hv_65.le hM_66
              refine ⟨fun x hq hb => (agree_le (hM_36.trans (hM_38.trans (hM_41.trans (hM_43.trans (hM_46.trans (hM_48.trans (hM_51.trans (hM_53.trans (hM_56.trans (hM_58.trans (hM_61.trans (hM_63.trans hM_66)))))))))))) S.imm), ?_⟩
              refine D_yes E rfl rfl rfl rfl (X_pu E S rfl rfl rfl (laws_eq hv_67 hv_65) (Hp.le.refl _) ?_)
              clear E a S; rintro a _ w M_68 hM_68 rfl S E
              replace h0 := h0.le hM_68
              replace hw1 := hw1.le hM_68
              replace hb_1 := hM_68.2 _ _ hb_1
              replace hz_8 := hz_8.le hM_68
              replace hv_10 := hv_10.le hM_68
              replace hv_12 := hv_12.le hM_68
              replace hb_34 := hM_68.2 _ _ hb_34
              replace hv_35 := hv_35.le hM_68
              replace hv_37 := hv_37.le hM_68
              replace hv_40 := hv_40.le hM_68
              replace hv_42 := hv_42.le hM_68
              replace hv_45 := hv_45.le hM_68
              replace hv_47 := hv_47.le hM_68
              replace hv_50 := hv_50.le hM_68
              replace hv_52 := hv_52.le hM_68
              replace hv_55 := hv_55.le hM_68
              replace hv_57 := hv_57.le hM_68
              replace hv_60 := hv_60.le hM_68
              replace hv_62 := hv_62.le hM_68
              replace hv_65 := hv_65.le hM_68
              replace hv_67 := hv_67.le hM_68
              refine ⟨fun x hq hb => (agree_le (hM_36.trans (hM_38.trans (hM_41.trans (hM_43.trans (hM_46.trans (hM_48.trans (hM_51.trans (hM_53.trans (hM_56.trans (hM_58.trans (hM_61.trans (hM_63.trans (hM_66.trans hM_68))))))))))))) S.imm), ?_⟩
              refine D_v E rfl rfl rfl (fun w hC => (R_pickT E rfl rfl)) ?_
              clear E a; intro a E
              refine D_v E rfl rfl rfl (fun w hC => (R_move E rfl)) ?_
              clear E a; intro a E
              have hc_69 : (decide ((l0).takeWhile (fun x => predAt pk1 pn1 pl1 x 0) = (l0).take k)) = true := by (clear S E; first | (rw [hJ0_1]; simp; done) | (rw [hJ0_2]; simp; done) | (rw [hJ1_1]; simp; done) | (simp [drw]; done))
              replace E := E.val (t := 119) rfl hc_69
              replace E := E.val (t := 120) rfl hc_69
              replace E := E.val (t := 121) rfl hc_69
              refine D_vyes E rfl rfl rfl rfl rfl (fun w hC => (R_move E rfl)) ?_
              clear E a; intro a E
              refine D_vyes E rfl rfl rfl rfl rfl (fun w hC => (R_loadGM E rfl (Try.isAgg29 _) (Try.sizeOf29 _) hC hb_1k34)) ?_
              clear E a; intro a E
              refine D_vyes E rfl rfl rfl rfl rfl (fun w hC => (R_move E rfl)) ?_
              clear E a; intro a E
              refine D_vyes E rfl rfl rfl rfl rfl (fun w hC => (R_move E rfl)) ?_
              clear E a; intro a E
              obtain ⟨v_70, sv_70, hv_70⟩ := h0.subv k ((l0).length) (by first | omega | (simp; done) | (simp; omega) | (simp_all; omega)) (by first | omega | (simp; done) | (simp; omega) | (simp_all; omega))
              simp only [List.take_length] at hv_70
              replace hv_70 : RdI M_68 v_70 ((l0).drop k) := hv_70
              refine D_vyes E rfl rfl rfl rfl rfl (fun w hC => (R_sliceL E rfl rfl T22 h0.len sv_70 (by omega))) ?_
              clear E a; intro a E
              refine D_yes E rfl rfl rfl rfl (X_pu E S rfl rfl rfl (impl_DropWhileSeq h0 hw1 (by omega) (by (first | omega | (simp; omega) | (simp; done) | (simp_all; omega) | grind))) (Hp.le.refl _) ?_)
              clear E a S; rintro a v_72 w M_71 hM_71 hv_72 S E
              replace h0 := h0.le hM_71
              replace hw1 := hw1.le hM_71
              replace hb_1 := hM_71.2 _ _ hb_1
              replace hz_8 := hz_8.le hM_71
              replace hv_10 := hv_10.le hM_71
              replace hv_12 := hv_12.le hM_71
              replace hb_34 := hM_71.2 _ _ hb_34
              replace hv_35 := hv_35.le hM_71
              replace hv_37 := hv_37.le hM_71
              replace hv_40 := hv_40.le hM_71
              replace hv_42 := hv_42.le hM_71
              replace hv_45 := hv_45.le hM_71
              replace hv_47 := hv_47.le hM_71
              replace hv_50 := hv_50.le hM_71
              replace hv_52 := hv_52.le hM_71
              replace hv_55 := hv_55.le hM_71
              replace hv_57 := hv_57.le hM_71
              replace hv_60 := hv_60.le hM_71
              replace hv_62 := hv_62.le hM_71
              replace hv_65 := hv_65.le hM_71
              replace hv_67 := hv_67.le hM_71
              replace hv_70 := hv_70.le hM_71
              refine ⟨fun x hq hb => (agree_le (hM_36.trans (hM_38.trans (hM_41.trans (hM_43.trans (hM_46.trans (hM_48.trans (hM_51.trans (hM_53.trans (hM_56.trans (hM_58.trans (hM_61.trans (hM_63.trans (hM_66.trans (hM_68.trans hM_71)))))))))))))) S.imm), ?_⟩
              refine D_yes E rfl rfl rfl rfl (X_pu E S rfl rfl rfl (laws_eq hv_72 hv_70) (Hp.le.refl _) ?_)
              clear E a S; rintro a _ w M_73 hM_73 rfl S E
              replace h0 := h0.le hM_73
              replace hw1 := hw1.le hM_73
              replace hb_1 := hM_73.2 _ _ hb_1
              replace hz_8 := hz_8.le hM_73
              replace hv_10 := hv_10.le hM_73
              replace hv_12 := hv_12.le hM_73
              replace hb_34 := hM_73.2 _ _ hb_34
              replace hv_35 := hv_35.le hM_73
              replace hv_37 := hv_37.le hM_73
              replace hv_40 := hv_40.le hM_73
              replace hv_42 := hv_42.le hM_73
              replace hv_45 := hv_45.le hM_73
              replace hv_47 := hv_47.le hM_73
              replace hv_50 := hv_50.le hM_73
              replace hv_52 := hv_52.le hM_73
              replace hv_55 := hv_55.le hM_73
              replace hv_57 := hv_57.le hM_73
              replace hv_60 := hv_60.le hM_73
              replace hv_62 := hv_62.le hM_73
              replace hv_65 := hv_65.le hM_73
              replace hv_67 := hv_67.le hM_73
              replace hv_70 := hv_70.le hM_73
              replace hv_72 := hv_72.le hM_73
              refine ⟨fun x hq hb => (agree_le (hM_36.trans (hM_38.trans (hM_41.trans (hM_43.trans (hM_46.trans (hM_48.trans (hM_51.trans (hM_53.trans (hM_56.trans (hM_58.trans (hM_61.trans (hM_63.trans (hM_66.trans (hM_68.trans (hM_71.trans hM_73))))))))))))))) S.imm), ?_⟩
              refine D_v E rfl rfl rfl (fun w hC => (R_pickT E rfl rfl)) ?_
              clear E a; intro a E
              refine D_v E rfl rfl rfl (fun w hC => (R_move E rfl)) ?_
              clear E a; intro a E
              have hc_74 : (decide ((l0).dropWhile (fun x => predAt pk1 pn1 pl1 x 0) = (l0).drop k)) = true := by (clear S E; first | (rw [hJ0_1]; simp; done) | (rw [hJ0_2]; simp; done) | (rw [hJ1_1]; simp; done) | (simp [drw]; done))
              replace E := E.val (t := 128) rfl hc_74
              replace E := E.val (t := 129) rfl hc_74
              replace E := E.val (t := 130) rfl hc_74
              refine D_vyes E rfl rfl rfl rfl rfl (fun w hC => (R_move E rfl)) ?_
              clear E a; intro a E
              refine D_vyes E rfl rfl rfl rfl rfl (fun w hC => (R_loadGM E rfl (Try.isAgg29 _) (Try.sizeOf29 _) hC hb_1k34)) ?_
              clear E a; intro a E
              refine D_vyes E rfl rfl rfl rfl rfl (fun w hC => (R_move E rfl)) ?_
              clear E a; intro a E
              refine D_vyes E rfl rfl rfl rfl rfl (fun w hC => (R_move E rfl)) ?_
              clear E a; intro a E
              obtain ⟨v_75, sv_75, hv_75⟩ := h0.subv 0 (l0.length - j) (by first | omega | (simp; done) | (simp; omega) | (simp_all; omega)) (by first | omega | (simp; done) | (simp; omega) | (simp_all; omega))
              simp only [List.drop_zero] at hv_75
              replace hv_75 : RdI M_73 v_75 ((l0).take (l0.length - j)) := hv_75
              refine D_vyes E rfl rfl rfl rfl rfl (fun w hC => (R_sliceH E rfl rfl T22 sv_75 (by omega))) ?_
              clear E a; intro a E
              refine D_yes E rfl rfl rfl rfl (X_pu E S rfl rfl rfl (impl_DropRightWhileSeq h0 hw1 (by omega) (by (first | omega | (simp; omega) | (simp; done) | (simp_all; omega) | grind))) (Hp.le.refl _) ?_)
              clear E a S; rintro a v_77 w M_76 hM_76 hv_77 S E
              replace h0 := h0.le hM_76
              replace hw1 := hw1.le hM_76
              replace hb_1 := hM_76.2 _ _ hb_1
              replace hz_8 := hz_8.le hM_76
              replace hv_10 := hv_10.le hM_76
              replace hv_12 := hv_12.le hM_76
              replace hb_34 := hM_76.2 _ _ hb_34
              replace hv_35 := hv_35.le hM_76
              replace hv_37 := hv_37.le hM_76
              replace hv_40 := hv_40.le hM_76
              replace hv_42 := hv_42.le hM_76
              replace hv_45 := hv_45.le hM_76
              replace hv_47 := hv_47.le hM_76
              replace hv_50 := hv_50.le hM_76
              replace hv_52 := hv_52.le hM_76
              replace hv_55 := hv_55.le hM_76
              replace hv_57 := hv_57.le hM_76
              replace hv_60 := hv_60.le hM_76
              replace hv_62 := hv_62.le hM_76
              replace hv_65 := hv_65.le hM_76
              replace hv_67 := hv_67.le hM_76
              replace hv_70 := hv_70.le hM_76
              replace hv_72 := hv_72.le hM_76
              replace hv_75 := hv_75.le hM_76
              refine ⟨fun x hq hb => (agree_le (hM_36.trans (hM_38.trans (hM_41.trans (hM_43.trans (hM_46.trans (hM_48.trans (hM_51.trans (hM_53.trans (hM_56.trans (hM_58.trans (hM_61.trans (hM_63.trans (hM_66.trans (hM_68.trans (hM_71.trans (hM_73.trans hM_76)))))))))))))))) S.imm), ?_⟩
              refine D_yes E rfl rfl rfl rfl (X_pu E S rfl rfl rfl (laws_eq hv_77 hv_75) (Hp.le.refl _) ?_)
              clear E a S; rintro a _ w M_78 hM_78 rfl S E
              replace h0 := h0.le hM_78
              replace hw1 := hw1.le hM_78
              replace hb_1 := hM_78.2 _ _ hb_1
              replace hz_8 := hz_8.le hM_78
              replace hv_10 := hv_10.le hM_78
              replace hv_12 := hv_12.le hM_78
              replace hb_34 := hM_78.2 _ _ hb_34
              replace hv_35 := hv_35.le hM_78
              replace hv_37 := hv_37.le hM_78
              replace hv_40 := hv_40.le hM_78
              replace hv_42 := hv_42.le hM_78
              replace hv_45 := hv_45.le hM_78
              replace hv_47 := hv_47.le hM_78
              replace hv_50 := hv_50.le hM_78
              replace hv_52 := hv_52.le hM_78
              replace hv_55 := hv_55.le hM_78
              replace hv_57 := hv_57.le hM_78
              replace hv_60 := hv_60.le hM_78
              replace hv_62 := hv_62.le hM_78
              replace hv_65 := hv_65.le hM_78
              replace hv_67 := hv_67.le hM_78
              replace hv_70 := hv_70.le hM_78
              replace hv_72 := hv_72.le hM_78
              replace hv_75 := hv_75.le hM_78
              replace hv_77 := hv_77.le hM_78
              refine ⟨fun x hq hb => (agree_le (hM_36.trans (hM_38.trans (hM_41.trans (hM_43.trans (hM_46.trans (hM_48.trans (hM_51.trans (hM_53.trans (hM_56.trans (hM_58.trans (hM_61.trans (hM_63.trans (hM_66.trans (hM_68.trans (hM_71.trans (hM_73.trans (hM_76.trans hM_78))))))))))))))))) S.imm), ?_⟩
              refine D_v E rfl rfl rfl (fun w hC => (R_pickT E rfl rfl)) ?_
              clear E a; intro a E
              refine D_v E rfl rfl rfl (fun w hC => (R_move E rfl)) ?_
              clear E a; intro a E
              have hc_79 : (decide (drw (fun x => predAt pk1 pn1 pl1 x 0) l0 = (l0).take (l0.length - j))) = true := by (clear S E; first | (rw [hJ0_1]; simp; done) | (rw [hJ0_2]; simp; done) | (rw [hJ1_1]; simp; done) | (simp [drw]; done))
              replace E := E.val (t := 137) rfl hc_79
              replace E := E.val (t := 138) rfl hc_79
              replace E := E.val (t := 139) rfl hc_79
              refine D_vyes E rfl rfl rfl rfl rfl (fun w hC => (R_move E rfl)) ?_
              clear E a; intro a E
              refine D_vyes E rfl rfl rfl rfl rfl (fun w hC => (R_loadGM E rfl (Try.isAgg29 _) (Try.sizeOf29 _) hC hb_1k34)) ?_
              clear E a; intro a E
              refine D_vyes E rfl rfl rfl rfl rfl (fun w hC => (R_move E rfl)) ?_
              clear E a; intro a E
              refine D_vyes E rfl rfl rfl rfl rfl (fun w hC => (R_loadGM E rfl (Try.isAgg29 _) (Try.sizeOf29 _) hC hb_1k34)) ?_
              clear E a; intro a E
              refine D_yes E rfl rfl rfl rfl (X_pu E S rfl rfl rfl (impl_DropRightWhile h0 hw1 (by omega) (by (first | omega | (simp; omega) | (simp; done) | (simp_all; omega) | grind))) (Hp.le.refl _) ?_)
              clear E a S; rintro a v_81 w M_80 hM_80 hv_81 S E
              replace h0 := h0.le hM_80
              replace hw1 := hw1.le hM_80
              replace hb_1 := hM_80.2 _ _ hb_1
              replace hz_8 := hz_8.le hM_80
              replace hv_10 := hv_10.le hM_80
              replace hv_12 := hv_12.le hM_80
              replace hb_34 := hM_80.2 _ _ hb_34
              replace hv_35 := hv_35.le hM_80
              replace hv_37 := hv_37.le hM_80
              replace hv_40 := hv_40.le hM_80
              replace hv_42 := hv_42.le hM_80
              replace hv_45 := hv_45.le hM_80
              replace hv_47 := hv_47.le hM_80
              replace hv_50 := hv_50.le hM_80
              replace hv_52 := hv_52.le hM_80
              replace hv_55 := hv_55.le hM_80
              replace hv_57 := hv_57.le hM_80
              replace hv_60 := hv_60.le hM_80
              replace hv_62 := hv_62.le hM_80
              replace hv_65 := hv_65.le hM_80
              replace hv_67 := hv_67.le hM_80
              replace hv_70 := hv_70.le hM_80
              replace hv_72 := hv_72.le hM_80
              replace hv_75 := hv_75.le hM_80
              replace hv_77 := hv_77.le hM_80
              refine ⟨fun x hq hb => (agree_le (hM_36.trans (hM_38.trans (hM_41.trans (hM_43.trans (hM_46.trans (hM_48.trans (hM_51.trans (hM_53.trans (hM_56.trans (hM_58.trans (hM_61.trans (hM_63.trans (hM_66.trans (hM_68.trans (hM_71.trans (hM_73.trans (hM_76.trans (hM_78.trans hM_80)))))))))))))))))) S.imm), ?_⟩
              refine D_yes E rfl rfl rfl rfl (X_pu E S rfl rfl rfl (impl_Reverse h0 (by (first | omega | (simp; omega) | (simp; done) | (simp_all; omega) | grind))) (Hp.le.refl _) ?_)
              clear E a S; rintro a v_83 w M_82 hM_82 hv_83 S E
              replace h0 := h0.le hM_82
              replace hw1 := hw1.le hM_82
              replace hb_1 := hM_82.2 _ _ hb_1
              replace hz_8 := hz_8.le hM_82
              replace hv_10 := hv_10.le hM_82
              replace hv_12 := hv_12.le hM_82
              replace hb_34 := hM_82.2 _ _ hb_34
              replace hv_35 := hv_35.le hM_82
              replace hv_37 := hv_37.le hM_82
              replace hv_40 := hv_40.le hM_82
              replace hv_42 := hv_42.le hM_82
              replace hv_45 := hv_45.le hM_82
              replace hv_47 := hv_47.le hM_82
              replace hv_50 := hv_50.le hM_82
              replace hv_52 := hv_52.le hM_82
              replace hv_55 := hv_55.le hM_82
              replace hv_57 := hv_57.le hM_82
              replace hv_60 := hv_60.le hM_82
              replace hv_62 := hv_62.le hM_82
              replace hv_65 := hv_65.le hM_82
              replace hv_67 := hv_67.le hM_82
              replace hv_70 := hv_70.le hM_82
              replace hv_72 := hv_72.le hM_82
              replace hv_75 := hv_75.le hM_82
              replace hv_77 := hv_77.le hM_82
              replace hv_81 := hv_81.le hM_82
              refine ⟨fun x hq hb => (agree_le (hM_36.trans (hM_38.trans (hM_41.trans (hM_43.trans (hM_46.trans (hM_48.trans (hM_51.trans (hM_53.trans (hM_56.trans (hM_58.trans (hM_61.trans (hM_63.trans (hM_66.trans (hM_68.trans (hM_71.trans (hM_73.trans (hM_76.trans (hM_78.trans (hM_80.trans hM_82))))))))))))))))))) S.imm), ?_⟩
              refine D_yes E rfl rfl rfl rfl (X_pu E S rfl rfl rfl (impl_DropWhile hv_83 hw1 (by omega) (by (first | omega | (simp; omega) | (simp; done) | (simp_all; omega) | grind))) (Hp.le.refl _) ?_)
              clear E a S; rintro a v_85 w M_84 hM_84 hv_85 S E
              replace h0 := h0.le hM_84
              replace hw1 := hw1.le hM_84
              replace hb_1 := hM_84.2 _ _ hb_1
              replace hz_8 := hz_8.le hM_84
              replace hv_10 := hv_10.le hM_84
              replace hv_12 := hv_12.le hM_84
              replace hb_34 := hM_84.2 _ _ hb_34
              replace hv_35 := hv_35.le hM_84
              replace hv_37 := hv_37.le hM_84
              replace hv_40 := hv_40.le hM_84
              replace hv_42 := hv_42.le hM_84
              replace hv_45 := hv_45.le hM_84
              replace hv_47 := hv_47.le hM_84
              replace hv_50 := hv_50.le hM_84
              replace hv_52 := hv_52.le hM_84
              replace hv_55 := hv_55.le hM_84
              replace hv_57 := hv_57.le hM_84
              replace hv_60 := hv_60.le hM_84
              replace hv_62 := hv_62.le hM_84
              replace hv_65 := hv_65.le hM_84
              replace hv_67 := hv_67.le hM_84
              replace hv_70 := hv_70.le hM_84
              replace hv_72 := hv_72.le hM_84
              replace hv_75 := hv_75.le hM_84
              replace hv_77 := hv_77.le hM_84
              replace hv_81 := hv_81.le hM_84
              replace hv_83 := hv_83.le hM_84
              refine ⟨fun x hq hb => (agree_le (hM_36.trans (hM_38.trans (hM_41.trans (hM_43.trans (hM_46.trans (hM_48.trans (hM_51.trans (hM_53.trans (hM_56.trans (hM_58.trans (hM_61.trans (hM_63.trans (hM_66.trans (hM_68.trans (hM_71.trans (hM_73.trans (hM_76.trans (hM_78.trans (hM_80.trans (hM_82.trans hM_84)))))))))))))))))))) S.imm), ?_⟩
              refine D_yes E rfl rfl rfl rfl (X_pu E S rfl rfl rfl (impl_Reverse hv_85 (by (first | omega | (simp; omega) | (simp; done) | (simp_all; omega) | grind))) (Hp.le.refl _) ?_)
              clear E a S; rintro a v_87 w M_86 hM_86 hv_87 S E
              replace h0 := h0.le hM_86
              replace hw1 := hw1.le hM_86
              replace hb_1 := hM_86.2 _ _ hb_1
              replace hz_8 := hz_8.le hM_86
              replace hv_10 := hv_10.le hM_86
              replace hv_12 := hv_12.le hM_86
              replace hb_34 := hM_86.2 _ _ hb_34
              replace hv_35 := hv_35.le hM_86
              replace hv_37 := hv_37.le hM_86
              replace hv_40 := hv_40.le hM_86
              replace hv_42 := hv_42.le hM_86
              replace hv_45 := hv_45.le hM_86
              replace hv_47 := hv_47.le hM_86
              replace hv_50 := hv_50.le hM_86
              replace hv_52 := hv_52.le hM_86
              replace hv_55 := hv_55.le hM_86
              replace hv_57 := hv_57.le hM_86
              replace hv_60 := hv_60.le hM_86
              replace hv_62 := hv_62.le hM_86
              replace hv_65 := hv_65.le hM_86
              replace hv_67 := hv_67.le hM_86
              replace hv_70 := hv_70.le hM_86
              replace hv_72 := hv_72.le hM_86
              replace hv_75 := hv_75.le hM_86
              replace hv_77 := hv_77.le hM_86
              replace hv_81 := hv_81.le hM_86
              replace hv_83 := hv_83.le hM_86
              replace hv_85 := hv_85.le hM_86
              refine ⟨fun x hq hb => (agree_le (hM_36.trans (hM_38.trans (hM_41.trans (hM_43.trans (hM_46.trans (hM_48.trans (hM_51.trans (hM_53.trans (hM_56.trans (hM_58.trans (hM_61.trans (hM_63.trans (hM_66.trans (hM_68.trans (hM_71.trans (hM_73.trans (hM_76.trans (hM_78.trans (hM_80.trans (hM_82.trans (hM_84.trans hM_86))))))))))))))))))))) S.imm), ?_⟩
              refine D_yes E rfl rfl rfl rfl (X_pu E S rfl rfl rfl (laws_eq hv_81 hv_87) (Hp.le.refl _) ?_)
              clear E a S; rintro a _ w M_88 hM_88 rfl S E
              replace h0 := h0.le hM_88
              replace hw1 := hw1.le hM_88
              replace hb_1 := hM_88.2 _ _ hb_1
              replace hz_8 := hz_8.le hM_88
              replace hv_10 := hv_10.le hM_88
              replace hv_12 := hv_12.le hM_88
              replace hb_34 := hM_88.2 _ _ hb_34
              replace hv_35 := hv_35.le hM_88
              replace hv_37 := hv_37.le hM_88
              replace hv_40 := hv_40.le hM_88
              replace hv_42 := hv_42.le hM_88
              replace hv_45 := hv_45.le hM_88
              replace hv_47 := hv_47.le hM_88
              replace hv_50 := hv_50.le hM_88
              replace hv_52 := hv_52.le hM_88
              replace hv_55 := hv_55.le hM_88
              replace hv_57 := hv_57.le hM_88
              replace hv_60 := hv_60.le hM_88
              replace hv_62 := hv_62.le hM_88
              replace hv_65 := hv_65.le hM_88
              replace hv_67 := hv_67.le hM_88
              replace hv_70 := hv_70.le hM_88
              replace hv_72 := hv_72.le hM_88
              replace hv_75 := hv_75.le hM_88
              replace hv_77 := hv_77.le hM_88
              replace hv_81 := hv_81.le hM_88
              replace hv_83 := hv_83.le hM_88
              replace hv_85 := hv_85.le hM_88
              replace hv_87 := hv_87.le hM_88
              refine ⟨fun x hq hb => (agree_le (hM_36.trans (hM_38.trans (hM_41.trans (hM_43.trans (hM_46.trans (hM_48.trans (hM_51.trans (hM_53.trans (hM_56.trans (hM_58.trans (hM_61.trans (hM_63.trans (hM_66.trans (hM_68.trans (hM_71.trans (hM_73.trans (hM_76.trans (hM_78.trans (hM_80.trans (hM_82.trans (hM_84.trans (hM_86.trans hM_88)))))))))))))))))))))) S.imm), ?_⟩
              refine D_v E rfl rfl rfl (fun w hC => (R_pickT E rfl rfl)) ?_
              clear E a; intro a E
              refine D_v E rfl rfl rfl (fun w hC => (R_assign E rfl)) ?_
              clear E a; intro a E
              refine D_end (NoP_n ?_)
              refine T_n ?_
              refine WP_ret ?_
              exact F_ret1 E Try.results10 rfl ⟨_, rfl, M_88, (hM_2.trans (hM_4.trans (hM_7.trans (hM_9.trans (hM_13.trans (hM_14.trans (hM_16.trans (hM_18.trans (hM_25.trans (hM_33.trans (hM_36.trans (hM_38.trans (hM_41.trans (hM_43.trans (hM_46.trans (hM_48.trans (hM_51.trans (hM_53.trans (hM_56.trans (hM_58.trans (hM_61.trans (hM_63.trans (hM_66.trans (hM_68.trans (hM_71.trans (hM_73.trans (hM_76.trans (hM_78.trans (hM_80.trans (hM_82.trans (hM_84.trans (hM_86.trans hM_88)))))))))))))))))))))))))))))))), (congrArg Value.bool (by (clear S E; first | (rw [hJ0_1]; simp; done) | (rw [hJ0_2]; simp; done) | (rw [hJ1_1]; simp; done) | (simp [drw]; done)))), S⟩

end Go.Proofs.Ytealhfcckjdclaa.wFnTakeWhile
