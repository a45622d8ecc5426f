/- Walks through the functions that laws.FnTrimmedEnds reaches: what each computes; no conditions beyond what each theorem states. -/
import Derived.Test.YtealhfcckjdclaaWFnTrimmedEndsa
set_option linter.unusedVariables false
set_option linter.unusedSimpArgs false
namespace Go.Proofs.Ytealhfcckjdclaa.wFnTrimmedEnds
open Go Go.Sl
set_option maxRecDepth 100000 in
set_option maxHeartbeats 4000000 in
theorem it_TrimSuffix1 {M : Hp} {v1 : Value} {l1 : List Int} {v2 : Value} {l2 : List Int} (h2 : RdI M v2 l2) (g2 : 0 < l2.length) (hb : l1.length ≤ 1000000000000) {bx1 bx2 bx3 : Nat} (hbx1 : M bx1 = some (.cells #[v1] 70)) (h1 : SeqV Try.prog v1 M RInt l1) (hbx2 : M bx2 = some (.cells #[v2] 22)) (hbx3 : M bx3 = some (.cells #[.int .i64 ((l2.length : Nat) : Int)] 3)) :
    SeqV Try.prog (.func (.func 208) #[] #[.pointer (some ⟨bx1, 0, none⟩), .pointer (some ⟨bx2, 0, none⟩), .pointer (some ⟨bx3, 0, none⟩)]) M (RInt) (tsR l2 l1) := by
  refine SeqV_enter Try.func208 rfl Try.ntmps208 rfl Try.call208 ?_
  intro y J X a w M1 c H hJM hM1 hY hJ S E
  replace hbx1 := hM1.2 _ _ hbx1
  replace hbx2 := hM1.2 _ _ hbx2
  replace hbx3 := hM1.2 _ _ hbx3
  replace h1 := h1.le hM1
  replace h2 := h2.le hM1
  have b2 := h2.bound
  refine WP_seq ?_
  refine WP_region ?_
  refine S_x (X_box (cs := #[y]) E S rfl rfl (cells_one hY.1) ?_)
  clear E a S; rintro a w b_1 E S
  obtain ⟨M_2, hM_2, hb_1, S⟩ := S.freezeB
  replace hbx1 := hM_2.2 _ _ hbx1
  replace hbx2 := hM_2.2 _ _ hbx2
  replace hbx3 := hM_2.2 _ _ hbx3
  replace h1 := h1.le hM_2
  replace h2 := h2.le hM_2
  replace hJ := hJM _ _ _ _ hM_2 hJ
  refine WL_nil ?_
  refine T_n ?_
  refine WP_seq ?_
  refine WP_region ?_
  refine S_x (X_alloc (cs := #[.int .i64 0]) E S rfl Try.zeroValue3 rfl ?_)
  clear E a S; rintro a w b_3 E S
  refine WL_nil ?_
  refine T_n ?_
  refine WP_seq ?_
  refine WP_seq ?_
  refine WP_region ?_
  refine S_v E rfl (R_loadM E rfl Try.isAgg70 S.imm (cellM_box hbx1)) rfl ?_
  clear E a; intro a E
  refine WL_nil ?_
  refine T_n ?_
  refine WP_block ?_
  replace S := S.front2
  replace S := S.front1
  replace E := E.keep (l' := [(2, .pointer (some ⟨bx2, 0, none⟩)), (3, .pointer (some ⟨bx3, 0, none⟩)), (4, .pointer (some ⟨b_1, 0, none⟩)), (5, .pointer (some ⟨b_3, 0, none⟩)), (9, v1)]) ⟨rfl, rfl, rfl, rfl, rfl, trivial⟩
  replace S := S.front1
  replace S := S.front1
  replace S := S.blk_int (j := ((tsF l2 (([] : List Int))).1 : Int)) (by (first | rfl | (rw [tsF_yes (by assumption) (by assumption)]; first | done | simp) | (rw [tsF_b0 (by assumption) (by assumption) (by assumption) (by assumption)]; first | done | simp) | (rw [tsF_no (by assumption) (by assumption) (by assumption) (by assumption)]; first | done | simp)))
  have S0 := S; clear S; have S := St.pack [blk b_3 (.cells #[.int .i64 ((tsF l2 (([] : List Int))).1 : Int)] 3), c] S0; clear S0
  refine WP_range (RV := RInt) (l := l1) (fun pre M c => ∃ (c0 : HProp), c = bigs [blk b_3 (.cells #[.int .i64 ((tsF l2 (pre)).1 : Int)] 3), c0] ∧ (J ((tsF l2 (pre)).2) M c0)) (fun cd pre M c => cd = .ret ∧ ∃ z, z <+: (tsR l2 l1) ∧ X z M c) E S rfl h1 (Hp.le.refl _) (fun _ _ _ h => by rw [h]; rfl) (by decide) (by rintro _ M M' c hM ⟨c0, rfl, f0⟩; exact ⟨_, rfl, hJM _ _ _ _ hM f0⟩) ⟨_, rfl, J_eq hJ (by (rfl))⟩ ?_ ?_ ?_
  clear E S
  · rintro lb_5 rec_6 pre x _ a w M_4 _ G hM_4 hp_7 rfl ⟨c0, rfl, f0⟩ E S
    replace E : Env a 64 [] [(10, .int .i64 x), (2, .pointer (some ⟨bx2, 0, none⟩)), (3, .pointer (some ⟨bx3, 0, none⟩)), (4, .pointer (some ⟨b_1, 0, none⟩)), (5, .pointer (some ⟨b_3, 0, none⟩)), (9, v1)] := E
    replace S := S.swap.unpack2
    have hq0 := prefix_lt hp_7
    replace hbx1 := hM_4.2 _ _ hbx1
    replace hbx2 := hM_4.2 _ _ hbx2
    replace hbx3 := hM_4.2 _ _ hbx3
    replace h1 := h1.le hM_4
    replace h2 := h2.le hM_4
    replace hb_1 := hM_4.2 _ _ hb_1
    have hpl := hp_7.length_le; simp at hpl; have hti := tsF_le l2 pre
    refine WP_region ?_
    refine S_v E rfl (R_assign E rfl) rfl ?_
    clear E a; intro a E
    refine WL_nil ?_
    refine T_n ?_
    replace S := S.front2
    refine rb S ?_
    clear S; intro w S
    refine WP_block ?_
    refine WP_seq ?_
    refine WP_seq ?_
    have hbx2k8 := hbx2
    have hbx3k8 := hbx3
    have hb_1k8 := hb_1
    replace S := S.mono_heap (w' := World.drew _) rfl
    refine WP_drawn (C := fun x w => agree M_4 w ∧ (x = 2 → w.heap[b_3]? = some (.cells #[.int .i64 ((tsF l2 (pre)).1 : Int)] 3))) (bf := (fun i => [])) [0, 1, 2, 3, 4, 5, 6, 7] [0, 1, 2, 3, 4, 5, 6, 7] Try.mixed (by kernel_rfl) (fun x hq => ⟨S.imm, fun _ => (S.mem (.tail _ (.head _)))⟩) ?_
    refine D_v E rfl rfl rfl (fun w hC => (R_move E rfl)) ?_
    clear E a; intro a E
    refine D_v E rfl rfl rfl (fun w hC => (R_loadM E rfl Try.isAgg22 hC.1 (cellM_box hbx2k8))) ?_
    clear E a; intro a E
    refine D_v E rfl rfl rfl (fun w hC => (R_load E rfl (Try.isAgg3 _) (cell_blk (hC.2 rfl)))) ?_
    clear E a; intro a E
    refine D_v E rfl rfl rfl (fun w hC => (R_loadM E rfl Try.isAgg3 hC.1 (cellM_box hbx3k8))) ?_
    clear E a; intro a E
    refine D_v E rfl rfl rfl (fun w hC => (R_remn (p := (tsF l2 (pre)).1) (q := l2.length) E rfl rfl (by first | decide | omega))) ?_
    clear E a; intro a E
    obtain ⟨x_9, hx_9⟩ : ∃ x, (l2)[((tsF l2 (pre)).1) % l2.length]? = some x := ⟨_, List.getElem?_eq_getElem (by exact Nat.mod_lt _ (by omega))⟩
    obtain ⟨p_10, hp_10, qp_10⟩ := h2.at hx_9
    refine D_v E rfl rfl rfl (fun w hC => (R_idx E rfl rfl T22 hp_10 rfl)) ?_
    clear E a; intro a E
    refine D_v E rfl rfl rfl (fun w hC => (R_loadM E rfl Try.isAgg3 hC.1 qp_10)) ?_
    clear E a; intro a E
    refine D_v E rfl rfl rfl (fun w hC => (R_eql E rfl rfl)) ?_
    clear E a; intro a E
    refine D_end (NoP_n ?_)
    refine T_n ?_
    refine WP_cond E rfl (fun hc_11 => ?_) (fun hc_11 => ?_)
    · replace hc_11 := of_decide_eq_true hc_11
      refine WP_seq ?_
      refine WP_region ?_
      refine S_v E rfl (R_load E rfl (Try.isAgg3 _) (cell_blk (S.mem (.tail _ (.head _))))) rfl ?_
      clear E a; intro a E
      refine S_v E rfl (R_addx (m := (((tsF l2 (pre)).1 + 1 : Nat) : Int)) E rfl rfl (by omega) (by omega)) rfl ?_
      clear E a; intro a E
      replace S := S.front1
      refine S_x0 (X_store E S rfl rfl (Try.sizeOf3 _) rfl ?_)
      clear E a S; rintro a w E S
      refine WL_nil ?_
      refine T_n ?_
      refine WP_exit ?_
      refine T_x ?_
      refine B_x ?_
      replace S := S.front2
      replace S := S.front1
      replace S := S.front1
      replace S := S.front1
      replace S := S.blk_int (j := ((tsF l2 ((pre ++ [x]))).1 : Int)) (by (first | rfl | (rw [tsF_yes (by assumption) (by assumption)]; first | done | simp) | (rw [tsF_b0 (by assumption) (by assumption) (by assumption) (by assumption)]; first | done | simp) | (rw [tsF_no (by assumption) (by assumption) (by assumption) (by assumption)]; first | done | simp)))
      have S0 := S; clear S; have S := (St.pack [blk b_3 (.cells #[.int .i64 ((tsF l2 ((pre ++ [x]))).1 : Int)] 3), c0] S0).swap; clear S0
      exact ⟨M_4, _, (Hp.le.refl _), ⟨_, rfl, J_eq f0 (by (first | (rw [tsF_yes (by assumption) (by assumption)]; done) | (rw [tsF_b0 (by assumption) (by assumption) (by assumption) (by assumption)]; first | done | (rw [show k = (tsF l2 pre).1 by omega])) | (rw [tsF_no (by assumption) (by assumption) (by assumption) (by assumption)]; first | done | (rw [show k = (tsF l2 pre).1 by omega]))))⟩, S⟩
    · replace hc_11 := of_decide_eq_false hc_11
      refine WP_skip ?_
      refine T_n ?_
      refine WP_seq ?_
      refine WP_seq ?_
      refine WP_region ?_
      refine S_v E rfl (R_load E rfl (Try.isAgg3 _) (cell_blk (S.mem (.tail _ (.head _))))) rfl ?_
      clear E a; intro a E
      refine S_v E rfl (R_move E rfl) rfl ?_
      clear E a; intro a E
      refine WL_nil ?_
      refine T_n ?_
      refine WP_block ?_
      refine WP_loop (γ := Nat) (fun (k : Nat) a w => ∃ (M_12 : Hp) (cL1 : HProp), Hp.le M_4 M_12 ∧ St w M_12 (lp lb_5 rec_6 .busy none :: blk b_3 (.cells #[.int .i64 ((tsF l2 (pre)).1 : Int)] 3) :: cL1 :: G) ∧ Env a 64 [] [(2, .pointer (some ⟨bx2, 0, none⟩)), (3, .pointer (some ⟨bx3, 0, none⟩)), (4, .pointer (some ⟨b_1, 0, none⟩)), (5, .pointer (some ⟨b_3, 0, none⟩)), (6, .int .i64 x), (21, .int .i64 ((tsF l2 (pre)).1 : Int)), (22, .int .i64 ((k : Nat) : Int))] ∧ (k ≤ (tsF l2 (pre)).1) ∧ J ((tsF l2 pre).2 ++ cyc l2 k) M_12 cL1) (fun k => ((tsF l2 (pre)).1) - k) 0 ⟨M_4, _, Hp.le.refl _, S, E.keep ⟨rfl, rfl, rfl, rfl, rfl, rfl, rfl, trivial⟩, by ((try clear S); (try clear E); first | assumption | omega | rfl | (simp; done) | (simp_all; done) | (simp [List.take_add_one, *]; done) | grind [List.take_add_one]), J_eq f0 (by (simp [cyc]))⟩ ?_
      try clear E
      try clear S
      try clear a
      try clear w
      rintro k a w ⟨M_12, cL1, hM_12, S, E, hL1_0, f0⟩
      replace hbx1 := hM_12.2 _ _ hbx1
      replace hbx2 := hM_12.2 _ _ hbx2
      replace hbx3 := hM_12.2 _ _ hbx3
      replace h1 := h1.le hM_12
      replace h2 := h2.le hM_12
      replace hb_1 := hM_12.2 _ _ hb_1
      refine WP_seq ?_
      refine WP_region ?_
      refine S_v E rfl (R_lss E rfl rfl) rfl ?_
      clear E a; intro a E
      refine WL_nil ?_
      refine T_n ?_
      refine WP_seq ?_
      refine WP_cond E rfl (fun hc_13 => ?_) (fun hc_13 => ?_)
      · replace hc_13 := of_decide_eq_true hc_13
        refine WP_skip ?_
        refine T_n ?_
        refine WP_seq ?_
        refine WP_block ?_
        refine WP_seq ?_
        refine WP_region ?_
        refine S_v E rfl (R_move E rfl) rfl ?_
        clear E a; intro a E
        refine S_v E rfl (R_assign E rfl) rfl ?_
        clear E a; intro a E
        refine WL_nil ?_
        refine T_n ?_
        refine WP_seq ?_
        have hbx2k13 := hbx2
        have hbx3k13 := hbx3
        have hb_1k13 := hb_1
        replace S := S.mono_heap (w' := World.drew _) rfl
        refine WP_drawn (C := fun x w => agree M_12 w) (bf := (fun i => [])) [0, 1, 2, 3, 4, 5, 6, 8] [0, 1, 2, 3, 4, 5, 6, 7, 8] Try.mixed (by kernel_rfl) (fun x hq => S.imm) ?_
        refine D_v E rfl rfl rfl (fun w hC => (R_loadM E rfl Try.isAgg102 hC (cellM_box hb_1k13))) ?_
        clear E a; intro a E
        refine D_v E rfl rfl rfl (fun w hC => (R_loadM E rfl Try.isAgg22 hC (cellM_box hbx2k13))) ?_
        clear E a; intro a E
        refine D_v E rfl rfl rfl (fun w hC => (R_move E rfl)) ?_
        clear E a; intro a E
        refine D_v E rfl rfl rfl (fun w hC => (R_loadM E rfl Try.isAgg3 hC (cellM_box hbx3k13))) ?_
        clear E a; intro a E
        refine D_v E rfl rfl rfl (fun w hC => (R_remn (p := k) (q := l2.length) E rfl rfl (by first | decide | omega))) ?_
        clear E a; intro a E
        obtain ⟨x_14, hx_14⟩ : ∃ x, (l2)[k % l2.length]? = some x := ⟨_, List.getElem?_eq_getElem (by exact Nat.mod_lt _ (by omega))⟩
        obtain ⟨p_15, hp_15, qp_15⟩ := h2.at hx_14
        refine D_v E rfl rfl rfl (fun w hC => (R_idx E rfl rfl T22 hp_15 rfl)) ?_
        clear E a; intro a E
        refine D_v E rfl rfl rfl (fun w hC => (R_loadM E rfl Try.isAgg3 hC qp_15)) ?_
        clear E a; intro a E
        replace S := S.front2
        refine D_x rfl rfl rfl (X_yield (x := x_14) E S rfl rfl rfl hY (hM_2.trans (hM_4.trans hM_12)) (by (first | exact ts_pre1 (by assumption) (by assumption) (by assumption) (by omega) (by assumption) | exact ts_pre2 (by assumption) (by assumption) (by assumption) (by assumption) (by assumption) (by omega) | exact ts_pre4 (by omega) (by omega) (by assumption))) rfl f0 ?_)
        clear E a S; rintro a w M_16 c_17 go_18 hM_16 f0 S E
        replace hbx1 := hM_16.2 _ _ hbx1
        replace hbx2 := hM_16.2 _ _ hbx2
        replace hbx3 := hM_16.2 _ _ hbx3
        replace h1 := h1.le hM_16
        replace h2 := h2.le hM_16
        replace hb_1 := hM_16.2 _ _ hb_1
        refine ⟨fun x hq hb => (agree_le hM_16 S.imm), ?_⟩
        cases go_18
        · replace f0 : X ((tsF l2 pre).2 ++ cyc l2 k ++ [x_14]) M_16 c_17 := f0
          refine D_v E rfl rfl rfl (fun w hC => (R_not E rfl)) ?_
          clear E a; intro a E
          refine D_end (NoP_n ?_)
          refine T_n ?_
          refine WP_condT E rfl rfl ?_
          refine WP_ret ?_
          refine B_r ?_
          refine T_r ?_
          refine T_r ?_
          refine B_r ?_
          refine T_r ?_
          refine B_r ?_
          replace S := S.front2
          replace S := S.drop
          replace S := S.front1
          exact ⟨M_16, _, (hM_12.trans hM_16), ⟨rfl, _, (by first | assumption | ((first | exact ts_pre1 (by assumption) (by assumption) (by assumption) (by omega) (by assumption) | exact ts_pre2 (by assumption) (by assumption) (by assumption) (by assumption) (by assumption) (by omega) | exact ts_pre4 (by omega) (by omega) (by assumption))) | ((first | exact ts_pre1 (by assumption) (by assumption) (by assumption) (by omega) (by assumption) | exact ts_pre2 (by assumption) (by assumption) (by assumption) (by assumption) (by assumption) (by omega) | exact ts_pre4 (by omega) (by omega) (by assumption)))), f0⟩, S⟩
        · replace f0 : J ((tsF l2 pre).2 ++ cyc l2 k ++ [x_14]) M_16 c_17 := f0
          refine D_v E rfl rfl rfl (fun w hC => (R_not E rfl)) ?_
          clear E a; intro a E
          refine D_end (NoP_n ?_)
          refine T_n ?_
          refine WP_condF E rfl rfl ?_
          refine WP_skip ?_
          refine B_n ?_
          refine T_n ?_
          refine WP_region ?_
          refine S_v E rfl (R_addx (m := ((k + 1 : Nat) : Int)) E rfl rfl (by omega) (by omega)) rfl ?_
          clear E a; intro a E
          refine S_v E rfl (R_move E rfl) rfl ?_
          clear E a; intro a E
          refine WL_nil ?_
          refine T_n ?_
          replace S := S.front2
          replace S := S.front2
          exact ⟨k + 1, ⟨M_16, _, (hM_12.trans hM_16), S, E.keep ⟨rfl, rfl, rfl, rfl, rfl, rfl, rfl, trivial⟩, by ((try clear S); (try clear E); first | assumption | omega | rfl | (simp; done) | (simp_all; done) | (simp [List.take_add_one, *]; done) | grind [List.take_add_one]), J_eq f0 (by (rw [List.append_assoc, ← cyc_succ (by assumption)]))⟩, by omega⟩
      · replace hc_13 := of_decide_eq_false hc_13
        refine WP_exit ?_
        refine T_x ?_
        refine T_x ?_
        refine B_x ?_
        refine T_n ?_
        refine WP_seq ?_
        refine WP_region ?_
        replace S := S.front1
        refine S_x0 (X_store E S rfl rfl (Try.sizeOf3 _) rfl ?_)
        clear E a S; rintro a w E S
        refine WL_nil ?_
        refine T_n ?_
        refine WP_seq ?_
        refine WP_seq ?_
        refine WP_region ?_
        refine S_v E rfl (R_move E rfl) rfl ?_
        clear E a; intro a E
        refine S_v E rfl (R_loadM E rfl Try.isAgg22 S.imm (cellM_box hbx2)) rfl ?_
        clear E a; intro a E
        obtain ⟨x_19, hx_19⟩ : ∃ x, (l2)[0]? = some x := ⟨_, List.getElem?_eq_getElem (by first | omega | (simp; done) | (simp; omega) | (simp_all; omega))⟩
        obtain ⟨p_20, hp_20, qp_20⟩ := h2.at hx_19
        refine S_v E rfl (R_idx E rfl rfl T22 hp_20 (by omega)) rfl ?_
        clear E a; intro a E
        refine S_v E rfl (R_loadM E rfl Try.isAgg3 S.imm qp_20) rfl ?_
        clear E a; intro a E
        refine S_v E rfl (R_eql E rfl rfl) rfl ?_
        clear E a; intro a E
        refine WL_nil ?_
        refine T_n ?_
        refine WP_cond E rfl (fun hc_21 => ?_) (fun hc_21 => ?_)
        · replace hc_21 := of_decide_eq_true hc_21
          refine WP_seq ?_
          refine WP_region ?_
          refine S_v E rfl (R_load E rfl (Try.isAgg3 _) (cell_blk (S.mem (.head _)))) rfl ?_
          clear E a; intro a E
          refine S_v E rfl (R_addx (m := ((1 : Nat) : Int)) E rfl rfl (by omega) (by omega)) rfl ?_
          clear E a; intro a E
          refine S_x0 (X_store E S rfl rfl (Try.sizeOf3 _) rfl ?_)
          clear E a S; rintro a w E S
          refine WL_nil ?_
          refine T_n ?_
          refine WP_exit ?_
          refine T_x ?_
          refine B_x ?_
          replace S := S.front2
          replace S := S.front1
          replace S := S.front1
          replace S := S.front1
          replace S := S.blk_int (j := ((tsF l2 ((pre ++ [x]))).1 : Int)) (by (first | rfl | (rw [tsF_yes (by assumption) (by assumption)]; first | done | simp) | (rw [tsF_b0 (by assumption) (by assumption) (by assumption) (by assumption)]; first | done | simp) | (rw [tsF_no (by assumption) (by assumption) (by assumption) (by assumption)]; first | done | simp)))
          have S0 := S; clear S; have S := (St.pack [blk b_3 (.cells #[.int .i64 ((tsF l2 ((pre ++ [x]))).1 : Int)] 3), cL1] S0).swap; clear S0
          exact ⟨M_12, _, hM_12, ⟨_, rfl, J_eq f0 (by (first | (rw [tsF_yes (by assumption) (by assumption)]; done) | (rw [tsF_b0 (by assumption) (by assumption) (by assumption) (by assumption)]; first | done | (rw [show k = (tsF l2 pre).1 by omega])) | (rw [tsF_no (by assumption) (by assumption) (by assumption) (by assumption)]; first | done | (rw [show k = (tsF l2 pre).1 by omega]))))⟩, S⟩
        · replace hc_21 := of_decide_eq_false hc_21
          refine WP_skip ?_
          refine T_n ?_
          refine WP_seq ?_
          refine WP_region ?_
          refine S_v E rfl (R_loadM E rfl Try.isAgg102 S.imm (cellM_box hb_1)) rfl ?_
          clear E a; intro a E
          refine S_v E rfl (R_move E rfl) rfl ?_
          clear E a; intro a E
          replace S := S.front2
          refine S_x (X_yield (x := x) E S rfl rfl rfl hY (hM_2.trans (hM_4.trans hM_12)) (by (first | exact ts_pre1 (by assumption) (by assumption) (by assumption) (by omega) (by assumption) | exact ts_pre2 (by assumption) (by assumption) (by assumption) (by assumption) (by assumption) (by omega) | exact ts_pre4 (by omega) (by omega) (by assumption))) rfl f0 ?_)
          clear E a S; rintro a w M_22 c_23 go_24 hM_22 f0 S E
          replace hbx1 := hM_22.2 _ _ hbx1
          replace hbx2 := hM_22.2 _ _ hbx2
          replace hbx3 := hM_22.2 _ _ hbx3
          replace h1 := h1.le hM_22
          replace h2 := h2.le hM_22
          replace hb_1 := hM_22.2 _ _ hb_1
          cases go_24
          · replace f0 : X ((tsF l2 pre).2 ++ cyc l2 k ++ [x]) M_22 c_23 := f0
            refine S_v E rfl (R_not E rfl) rfl ?_
            clear E a; intro a E
            refine WL_nil ?_
            refine T_n ?_
            refine WP_condT E rfl rfl ?_
            refine WP_ret ?_
            refine B_r ?_
            replace S := S.front1
            replace S := S.drop
            replace S := S.front1
            exact ⟨M_22, _, (hM_12.trans hM_22), ⟨rfl, _, (by first | assumption | ((first | exact ts_pre1 (by assumption) (by assumption) (by assumption) (by omega) (by assumption) | exact ts_pre2 (by assumption) (by assumption) (by assumption) (by assumption) (by assumption) (by omega) | exact ts_pre4 (by omega) (by omega) (by assumption))) | ((first | exact ts_pre1 (by assumption) (by assumption) (by assumption) (by omega) (by assumption) | exact ts_pre2 (by assumption) (by assumption) (by assumption) (by assumption) (by assumption) (by omega) | exact ts_pre4 (by omega) (by omega) (by assumption)))), f0⟩, S⟩
          · replace f0 : J ((tsF l2 pre).2 ++ cyc l2 k ++ [x]) M_22 c_23 := f0
            refine S_v E rfl (R_not E rfl) rfl ?_
            clear E a; intro a E
            refine WL_nil ?_
            refine T_n ?_
            refine WP_condF E rfl rfl ?_
            refine WP_skip ?_
            refine B_n ?_
            replace S := S.front1
            replace S := S.front1
            replace S := S.front1
            replace S := S.blk_int (j := ((tsF l2 ((pre ++ [x]))).1 : Int)) (by (first | rfl | (rw [tsF_yes (by assumption) (by assumption)]; first | done | simp) | (rw [tsF_b0 (by assumption) (by assumption) (by assumption) (by assumption)]; first | done | simp) | (rw [tsF_no (by assumption) (by assumption) (by assumption) (by assumption)]; first | done | simp)))
            have S0 := S; clear S; have S := (St.pack [blk b_3 (.cells #[.int .i64 ((tsF l2 ((pre ++ [x]))).1 : Int)] 3), c_23] S0).swap; clear S0
            exact ⟨M_22, _, (hM_12.trans hM_22), ⟨_, rfl, J_eq f0 (by (first | (rw [tsF_yes (by assumption) (by assumption)]; done) | (rw [tsF_b0 (by assumption) (by assumption) (by assumption) (by assumption)]; first | done | (rw [show k = (tsF l2 pre).1 by omega])) | (rw [tsF_no (by assumption) (by assumption) (by assumption) (by assumption)]; first | done | (rw [show k = (tsF l2 pre).1 by omega]))))⟩, S⟩
  · rintro a w M_25 _ D_26 hM_25 ⟨c0, rfl, f0⟩ S E
    replace S := S.unpack2
    replace hbx1 := hM_25.2 _ _ hbx1
    replace hbx2 := hM_25.2 _ _ hbx2
    replace hbx3 := hM_25.2 _ _ hbx3
    replace h1 := h1.le hM_25
    replace h2 := h2.le hM_25
    replace hb_1 := hM_25.2 _ _ hb_1
    refine B_n ?_
    refine T_n ?_
    refine WP_seq ?_
    refine WP_region ?_
    refine S_v E rfl (R_load E rfl (Try.isAgg3 _) (cell_blk (S.mem (.head _)))) rfl ?_
    clear E a; intro a E
    refine S_v E rfl (R_loadM E rfl Try.isAgg3 S.imm (cellM_box hbx3)) rfl ?_
    clear E a; intro a E
    refine S_v E rfl (R_remn (p := (tsF l2 (l1)).1) (q := l2.length) E rfl rfl (by first | decide | omega)) rfl ?_
    clear E a; intro a E
    refine S_v E rfl (R_neq E rfl rfl) rfl ?_
    clear E a; intro a E
    refine WL_nil ?_
    refine T_n ?_
    refine WP_cond E rfl (fun hc_27 => ?_) (fun hc_27 => ?_)
    · replace hc_27 := of_decide_eq_true hc_27
      refine WP_seq ?_
      refine WP_region ?_
      refine S_v E rfl (R_load E rfl (Try.isAgg3 _) (cell_blk (S.mem (.head _)))) rfl ?_
      clear E a; intro a E
      refine S_v E rfl (R_move E rfl) rfl ?_
      clear E a; intro a E
      refine WL_nil ?_
      refine T_n ?_
      refine WP_block ?_
      have hti := tsF_le l2 l1
      refine WP_loop (γ := Nat) (fun (k : Nat) a w => ∃ (M_28 : Hp) (cL2 : HProp), Hp.le M_25 M_28 ∧ St w M_28 (blk b_3 (.cells #[.int .i64 ((tsF l2 (l1)).1 : Int)] 3) :: cL2 :: mks (D_26 :: []) :: H) ∧ Env a 64 ((D_26 :: []).map mk) [(2, .pointer (some ⟨bx2, 0, none⟩)), (3, .pointer (some ⟨bx3, 0, none⟩)), (4, .pointer (some ⟨b_1, 0, none⟩)), (50, .int .i64 ((tsF l2 (l1)).1 : Int)), (51, .int .i64 ((k : Nat) : Int))] ∧ (k ≤ (tsF l2 (l1)).1) ∧ J ((tsF l2 l1).2 ++ cyc l2 k) M_28 cL2) (fun k => ((tsF l2 (l1)).1) - k) 0 ⟨M_25, _, Hp.le.refl _, S, E.keep ⟨rfl, rfl, rfl, rfl, rfl, trivial⟩, by ((try clear S); (try clear E); first | assumption | omega | rfl | (simp; done) | (simp_all; done) | (simp [List.take_add_one, *]; done) | grind [List.take_add_one]), J_eq f0 (by (simp [cyc]))⟩ ?_
      try clear E
      try clear S
      try clear a
      try clear w
      rintro k a w ⟨M_28, cL2, hM_28, S, E, hL2_0, f0⟩
      replace hbx1 := hM_28.2 _ _ hbx1
      replace hbx2 := hM_28.2 _ _ hbx2
      replace hbx3 := hM_28.2 _ _ hbx3
      replace h1 := h1.le hM_28
      replace h2 := h2.le hM_28
      replace hb_1 := hM_28.2 _ _ hb_1
      refine WP_seq ?_
      refine WP_region ?_
      refine S_v E rfl (R_lss E rfl rfl) rfl ?_
      clear E a; intro a E
      refine WL_nil ?_
      refine T_n ?_
      refine WP_seq ?_
      refine WP_cond E rfl (fun hc_29 => ?_) (fun hc_29 => ?_)
      · replace hc_29 := of_decide_eq_true hc_29
        refine WP_skip ?_
        refine T_n ?_
        refine WP_seq ?_
        refine WP_block ?_
        refine WP_seq ?_
        refine WP_region ?_
        refine S_v E rfl (R_move E rfl) rfl ?_
        clear E a; intro a E
        refine S_v E rfl (R_assign E rfl) rfl ?_
        clear E a; intro a E
        refine WL_nil ?_
        refine T_n ?_
        refine WP_seq ?_
        have hbx2k29 := hbx2
        have hbx3k29 := hbx3
        have hb_1k29 := hb_1
        replace S := S.mono_heap (w' := World.drew _) rfl
        refine WP_drawn (C := fun x w => agree M_28 w) (bf := (fun i => [])) [0, 1, 2, 3, 4, 5, 6, 8] [0, 1, 2, 3, 4, 5, 6, 7, 8] Try.mixed (by kernel_rfl) (fun x hq => S.imm) ?_
        refine D_v E rfl rfl rfl (fun w hC => (R_loadM E rfl Try.isAgg102 hC (cellM_box hb_1k29))) ?_
        clear E a; intro a E
        refine D_v E rfl rfl rfl (fun w hC => (R_loadM E rfl Try.isAgg22 hC (cellM_box hbx2k29))) ?_
        clear E a; intro a E
        refine D_v E rfl rfl rfl (fun w hC => (R_move E rfl)) ?_
        clear E a; intro a E
        refine D_v E rfl rfl rfl (fun w hC => (R_loadM E rfl Try.isAgg3 hC (cellM_box hbx3k29))) ?_
        clear E a; intro a E
        refine D_v E rfl rfl rfl (fun w hC => (R_remn (p := k) (q := l2.length) E rfl rfl (by first | decide | omega))) ?_
        clear E a; intro a E
        obtain ⟨x_30, hx_30⟩ : ∃ x, (l2)[k % l2.length]? = some x := ⟨_, List.getElem?_eq_getElem (by exact Nat.mod_lt _ (by omega))⟩
        obtain ⟨p_31, hp_31, qp_31⟩ := h2.at hx_30
        refine D_v E rfl rfl rfl (fun w hC => (R_idx E rfl rfl T22 hp_31 rfl)) ?_
        clear E a; intro a E
        refine D_v E rfl rfl rfl (fun w hC => (R_loadM E rfl Try.isAgg3 hC qp_31)) ?_
        clear E a; intro a E
        replace S := S.front1
        refine D_x rfl rfl rfl (X_yield (x := x_30) E S rfl rfl rfl hY (hM_2.trans (hM_25.trans hM_28)) (by (first | exact ts_pre1 (by assumption) (by assumption) (by assumption) (by omega) (by assumption) | exact ts_pre2 (by assumption) (by assumption) (by assumption) (by assumption) (by assumption) (by omega) | exact ts_pre4 (by omega) (by omega) (by assumption))) rfl f0 ?_)
        clear E a S; rintro a w M_32 c_33 go_34 hM_32 f0 S E
        replace hbx1 := hM_32.2 _ _ hbx1
        replace hbx2 := hM_32.2 _ _ hbx2
        replace hbx3 := hM_32.2 _ _ hbx3
        replace h1 := h1.le hM_32
        replace h2 := h2.le hM_32
        replace hb_1 := hM_32.2 _ _ hb_1
        refine ⟨fun x hq hb => (agree_le hM_32 S.imm), ?_⟩
        cases go_34
        · replace f0 : X ((tsF l2 l1).2 ++ cyc l2 k ++ [x_30]) M_32 c_33 := f0
          refine D_v E rfl rfl rfl (fun w hC => (R_not E rfl)) ?_
          clear E a; intro a E
          refine D_end (NoP_n ?_)
          refine T_n ?_
          refine WP_condT E rfl rfl ?_
          refine WP_ret ?_
          refine B_r ?_
          refine T_r ?_
          refine T_r ?_
          refine B_r ?_
          replace S := S.front1
          replace S := S.drop
          replace S := S.front1
          exact F_retM0 E S Try.results208 (fun w S => ⟨_, rfl, M_32, _, (hM_2.trans (hM_25.trans (hM_28.trans hM_32))), .inr ⟨((tsF l2 l1).2 ++ cyc l2 k ++ [x_30]), (by first | assumption | ((first | exact ts_pre1 (by assumption) (by assumption) (by assumption) (by omega) (by assumption) | exact ts_pre2 (by assumption) (by assumption) (by assumption) (by assumption) (by assumption) (by omega) | exact ts_pre4 (by omega) (by omega) (by assumption)))), f0⟩, S⟩)
        · replace f0 : J ((tsF l2 l1).2 ++ cyc l2 k ++ [x_30]) M_32 c_33 := f0
          refine D_v E rfl rfl rfl (fun w hC => (R_not E rfl)) ?_
          clear E a; intro a E
          refine D_end (NoP_n ?_)
          refine T_n ?_
          refine WP_condF E rfl rfl ?_
          refine WP_skip ?_
          refine B_n ?_
          refine T_n ?_
          refine WP_region ?_
          refine S_v E rfl (R_addx (m := ((k + 1 : Nat) : Int)) E rfl rfl (by omega) (by omega)) rfl ?_
          clear E a; intro a E
          refine S_v E rfl (R_move E rfl) rfl ?_
          clear E a; intro a E
          refine WL_nil ?_
          refine T_n ?_
          replace S := S.front2
          replace S := S.front1
          replace S := S.front2
          exact ⟨k + 1, ⟨M_32, _, (hM_28.trans hM_32), S, E.keep ⟨rfl, rfl, rfl, rfl, rfl, trivial⟩, by ((try clear S); (try clear E); first | assumption | omega | rfl | (simp; done) | (simp_all; done) | (simp [List.take_add_one, *]; done) | grind [List.take_add_one]), J_eq f0 (by (rw [List.append_assoc, ← cyc_succ (by assumption)]))⟩, by omega⟩
      · replace hc_29 := of_decide_eq_false hc_29
        refine WP_exit ?_
        refine T_x ?_
        refine T_x ?_
        refine B_x ?_
        refine F_nrm ?_
        replace S := S.drop
        replace S := S.front1
        have hpre : (tsF l2 l1).2 ++ cyc l2 k = tsR l2 l1 := by (first | exact ts_end (by omega) (by omega) | exact ts_end0 (by omega))
        rw [hpre] at f0
        exact F_retM0 E S Try.results208 (fun w S => ⟨_, rfl, M_28, _, (hM_2.trans (hM_25.trans hM_28)), .inl f0, S⟩)
    · replace hc_27 := of_decide_eq_false hc_27
      refine WP_skip ?_
      refine F_nrm ?_
      replace S := S.drop
      replace S := S.front1
      have hpre : (tsF l2 (l1)).2 = tsR l2 l1 := by (first | exact ts_end (by omega) (by omega) | exact ts_end0 (by omega))
      rw [hpre] at f0
      exact F_retM0 E S Try.results208 (fun w S => ⟨_, rfl, M_25, _, (hM_2.trans hM_25), .inl f0, S⟩)
  · rintro a w M_35 c_ D_36 p_37 _ hM_35 hp_38 ⟨rfl, z_, hz_, f0⟩ S E
    replace hbx1 := hM_35.2 _ _ hbx1
    replace hbx2 := hM_35.2 _ _ hbx2
    replace hbx3 := hM_35.2 _ _ hbx3
    replace h1 := h1.le hM_35
    replace h2 := h2.le hM_35
    replace hb_1 := hM_35.2 _ _ hb_1
    refine WP_ret ?_
    refine B_r ?_
    refine T_r ?_
    replace S := S.front1
    exact F_retM0 E S Try.results208 (fun w S => ⟨_, rfl, M_35, _, (hM_2.trans hM_35), .inr ⟨z_, (by first | assumption | ((first | exact ts_pre1 (by assumption) (by assumption) (by assumption) (by omega) (by assumption) | exact ts_pre2 (by assumption) (by assumption) (by assumption) (by assumption) (by assumption) (by omega) | exact ts_pre4 (by omega) (by omega) (by assumption)))), f0⟩, S⟩)

set_option maxRecDepth 100000 in
set_option maxHeartbeats 4000000 in
theorem it_TrimSuffix {M : Hp} {v0 : Value} {l0 : List Int} (h0 : SeqV Try.prog v0 M (RInt) l0){v1 : Value} {l1 : List Int} (h1 : RdI M v1 l1) (hb : l0.length ≤ 1000000000000)(hbl : ∀ j x, 0 < j → l1[0]? = some x → ¬ l1[j]? = some x) :
    Pu Try.prog (.func (.func 123) #[] #[]) M [v0, v1] (fun r M' => SeqV Try.prog r M' RInt (trimS l1 l0)) := by
  refine Pu_enter Try.func123 rfl Try.ntmps123 rfl Try.call123 ?_
  intro a w M1 H hM1 S E
  replace h0 := h0.le hM1
  replace h1 := h1.le hM1
  refine WP_seq ?_
  refine WP_region ?_
  refine S_x (X_box (cs := #[v0]) E S rfl rfl (cells_one h0.1) ?_)
  clear E a S; rintro a w b_1 E S
  obtain ⟨M_2, hM_2, hb_1, S⟩ := S.freezeB
  replace h0 := h0.le hM_2
  replace h1 := h1.le hM_2
  refine S_x (X_box (cs := #[v1]) E S rfl rfl (cells_one (RdS.one' h1)) ?_)
  clear E a S; rintro a w b_3 E S
  obtain ⟨M_4, hM_4, hb_3, S⟩ := S.freezeB
  replace h0 := h0.le hM_4
  replace h1 := h1.le hM_4
  replace hb_1 := hM_4.2 _ _ hb_1
  refine S_v E rfl (R_assign E rfl) rfl ?_
  clear E a; intro a E
  refine WL_nil ?_
  refine T_n ?_
  refine WP_seq ?_
  refine WP_region ?_
  refine S_v E rfl (R_loadM E rfl Try.isAgg22 S.imm (cellM_box hb_3)) rfl ?_
  clear E a; intro a E
  refine S_v E rfl (R_lenV E rfl T22 h1.len) rfl ?_
  clear E a; intro a E
  refine S_x (X_alloc (cs := #[.int .i64 0]) E S rfl Try.zeroValue3 rfl ?_)
  clear E a S; rintro a w b_5 E S
  refine S_x0 (X_store E S rfl rfl (Try.sizeOf3 _) rfl ?_)
  clear E a S; rintro a w E S
  refine WL_nil ?_
  refine T_n ?_
  refine WP_seq ?_
  refine WP_seq ?_
  refine WP_region ?_
  refine S_v E rfl (R_load E rfl (Try.isAgg3 _) (cell_blk (S.mem (.head _)))) rfl ?_
  clear E a; intro a E
  refine S_v E rfl (R_eql E rfl rfl) rfl ?_
  clear E a; intro a E
  refine WL_nil ?_
  refine T_n ?_
  refine WP_cond E rfl (fun hc_6 => ?_) (fun hc_6 => ?_)
  · replace hc_6 := of_decide_eq_true hc_6
    refine WP_seq ?_
    refine WP_region ?_
    refine S_v E rfl (R_loadM E rfl Try.isAgg70 S.imm (cellM_box hb_1)) rfl ?_
    clear E a; intro a E
    refine S_v E rfl (R_assign E rfl) rfl ?_
    clear E a; intro a E
    refine WL_nil ?_
    refine T_n ?_
    refine WP_ret ?_
    refine T_r ?_
    exact F_ret1 E Try.results123 rfl ⟨_, rfl, M_4, (hM_2.trans hM_4), (SeqV_eq h0 (by (first | exact trimS_nil (by omega) | exact (trimS_nil (by omega)).symm | exact tsR_trimS (by omega) hbl _ | exact (tsR_trimS (by omega) hbl _).symm))), S.drop⟩
  · replace hc_6 := of_decide_eq_false hc_6
    refine WP_skip ?_
    refine T_n ?_
    refine WP_seq ?_
    refine WP_region ?_
    have S0 := S; clear S
    obtain ⟨M_7, hM_7, hb_8, S⟩ := S0.freezeB
    clear S0
    replace h0 := h0.le hM_7
    replace h1 := h1.le hM_7
    replace hb_1 := hM_7.2 _ _ hb_1
    replace hb_3 := hM_7.2 _ _ hb_3
    refine S_v E rfl (R_makeFunc E rfl rfl) rfl ?_
    clear E a; intro a E
    refine S_v E rfl (R_assign E rfl) rfl ?_
    clear E a; intro a E
    refine WL_nil ?_
    refine T_n ?_
    refine WP_ret ?_
    exact F_ret1 E Try.results123 rfl ⟨_, rfl, M_7, (hM_2.trans (hM_4.trans hM_7)), (SeqV_eq (it_TrimSuffix1 h1 (by omega) (by (first | omega | (simp; omega) | (simp; done) | (simp_all; omega) | grind)) hb_1 h0 hb_3 hb_8) (by (first | exact trimS_nil (by omega) | exact (trimS_nil (by omega)).symm | exact tsR_trimS (by omega) hbl _ | exact (tsR_trimS (by omega) hbl _).symm))), S⟩

set_option maxRecDepth 100000 in
set_option maxHeartbeats 4000000 in
theorem impl_TrimSuffixSeq {M : Hp} {v0 v1 : Value} {l0 l1 : List Int} (h0 : RdI M v0 l0) (h1 : RdI M v1 l1) (hb : l0.length ≤ 1000000000000)(hbl : ∀ j x, 0 < j → l1[0]? = some x → ¬ l1[j]? = some x) :
    Pu Try.prog (.func (.func 37) #[] #[]) M [v0, v1] (fun r M' => RdI M' r (trimS l1 l0)) := by
  refine Pu_enter Try.func37 rfl Try.ntmps37 rfl Try.call37 ?_
  intro a w M1 H hM1 S E
  replace h0 := h0.le hM1
  replace h1 := h1.le hM1
  have b0 := h0.bound
  have b1 := h1.bound
  have htl := trimS_le l1 l0
  refine WP_seq ?_
  refine WP_region ?_
  refine S_v E rfl (R_assign E rfl) rfl ?_
  clear E a; intro a E
  refine WL_nil ?_
  refine T_n ?_
  refine WP_seq ?_
  refine WP_region ?_
  refine S_v E rfl (R_move E rfl) rfl ?_
  clear E a; intro a E
  refine S_x (X_pu E S rfl rfl rfl (slices_Values h0) (Hp.le.refl _) ?_)
  clear E a S; rintro a v_2 w M_1 hM_1 hv_2 S E
  replace h0 := h0.le hM_1
  replace h1 := h1.le hM_1
  refine S_v E rfl (R_move E rfl) rfl ?_
  clear E a; intro a E
  refine S_x (X_pu E S rfl rfl rfl (it_TrimSuffix hv_2 h1 (by (first | omega | (simp; omega) | (simp; done) | (simp_all; omega) | grind)) (by first | assumption | (clear E S; intro j x hj h0 h9; first | (have h8 := List.mem_of_getElem? (show (l1.drop 1)[j - 1]? = some x by rw [List.getElem?_drop, show 1 + (j - 1) = j by omega]; exact h9); simp_all; done) | simp_all))) (Hp.le.refl _) ?_)
  clear E a S; rintro a v_4 w M_3 hM_3 hv_4 S E
  replace h0 := h0.le hM_3
  replace h1 := h1.le hM_3
  replace hv_2 := hv_2.le hM_3
  refine S_x (X_pu E S rfl rfl rfl (slices_Collect hv_4 (by (first | omega | (simp; omega) | (simp; done) | (simp_all; omega) | grind))) (Hp.le.refl _) ?_)
  clear E a S; rintro a v_6 w M_5 hM_5 hv_6 S E
  replace h0 := h0.le hM_5
  replace h1 := h1.le hM_5
  replace hv_2 := hv_2.le hM_5
  replace hv_4 := hv_4.le hM_5
  refine S_v E rfl (R_assign E rfl) rfl ?_
  clear E a; intro a E
  refine WL_nil ?_
  refine T_n ?_
  refine WP_ret ?_
  exact F_ret1 E Try.results37 rfl ⟨_, rfl, M_5, (hM_1.trans (hM_3.trans hM_5)), hv_6, S⟩

set_option maxRecDepth 100000 in
set_option maxHeartbeats 4000000 in
theorem laws_FnTrimmedEnds {M : Hp} {v0 v1 : Value} {l0 l1 : List Int} (h0 : RdI M v0 l0) (h1 : RdI M v1 l1){x2 : Int} (g2 : 0 ≤ x2 ∧ x2 ≤ 255) :
    PuC Try.prog 5 M [v0, v1, .int .u8 x2] (fun r M' => r = .bool true) := by
  refine PuC_enter Try.func5 rfl Try.ntmps5 rfl ?_
  intro a w M1 H hM1 S E
  replace h0 := h0.le hM1
  replace h1 := h1.le hM1
  have b0 := h0.bound
  have b1 := h1.bound
  refine WP_seq ?_
  refine WP_region ?_
  refine S_v E rfl (R_assign E rfl) rfl ?_
  clear E a; intro a E
  refine WL_nil ?_
  refine T_n ?_
  refine WP_seq ?_
  refine WP_seq ?_
  refine WP_region ?_
  refine S_v E rfl (R_move E rfl) rfl ?_
  clear E a; intro a E
  refine S_v E rfl (R_lenV E rfl T22 h0.len) rfl ?_
  clear E a; intro a E
  refine S_v E rfl (R_gtr E rfl rfl) rfl ?_
  clear E a; intro a E
  refine S_v E rfl (R_move E rfl) rfl ?_
  clear E a; intro a E
  refine split_bool (decide (2147483647 < (((l0).length : Nat) : Int))) (fun hc_1 => ?_) (fun hc_1 => ?_)
  · replace E := E.val (t := 13) rfl hc_1
    replace E := E.val (t := 14) rfl hc_1
    replace hc_1 := of_decide_eq_true hc_1
    refine WL_guard_no E rfl rfl rfl rfl fun a E => ?_
    refine WL_guard_no E rfl rfl rfl rfl fun a E => ?_
    refine WL_guard_no E rfl rfl rfl rfl fun a E => ?_
    refine S_v E rfl (R_pickT E rfl rfl) rfl ?_
    clear E a; intro a E
    refine WL_nil ?_
    refine T_n ?_
    refine WP_condT E rfl rfl ?_
    refine WP_seq ?_
    refine WP_region ?_
    refine S_v E rfl (R_assign E rfl) rfl ?_
    clear E a; intro a E
    refine WL_nil ?_
    refine T_n ?_
    refine WP_ret ?_
    refine T_r ?_
    exact F_ret1 E Try.results5 rfl ⟨_, rfl, M1, (Hp.le.refl _), rfl, S⟩
  · replace E := E.val (t := 13) rfl hc_1
    replace E := E.val (t := 14) rfl hc_1
    replace hc_1 := of_decide_eq_false hc_1
    refine WL_guard_yes E rfl rfl ?_
    refine S_v E rfl (R_move E rfl) rfl ?_
    clear E a; intro a E
    refine WL_guard_yes E rfl rfl ?_
    refine S_v E rfl (R_lenV E rfl T22 h1.len) rfl ?_
    clear E a; intro a E
    refine WL_guard_yes E rfl rfl ?_
    refine S_v E rfl (R_gtr E rfl rfl) rfl ?_
    clear E a; intro a E
    refine S_v E rfl (R_pickF E rfl rfl) rfl ?_
    clear E a; intro a E
    refine WL_nil ?_
    refine T_n ?_
    refine WP_cond E rfl (fun hc_2 => ?_) (fun hc_2 => ?_)
    · replace hc_2 := of_decide_eq_true hc_2
      refine WP_seq ?_
      refine WP_region ?_
      refine S_v E rfl (R_assign E rfl) rfl ?_
      clear E a; intro a E
      refine WL_nil ?_
      refine T_n ?_
      refine WP_ret ?_
      refine T_r ?_
      exact F_ret1 E Try.results5 rfl ⟨_, rfl, M1, (Hp.le.refl _), rfl, S⟩
    · replace hc_2 := of_decide_eq_false hc_2
      refine WP_skip ?_
      refine T_n ?_
      refine WP_seq ?_
      refine WP_seq ?_
      refine WP_region ?_
      refine S_x (X_buildI (ys := [1, 2]) E S rfl T22 rfl rfl rfl ?_)
      clear E a S; rintro a w v_3 E S
      refine S_x (X_buildI (ys := [1]) E S rfl T22 rfl rfl rfl ?_)
      clear E a S; rintro a w v_4 E S
      replace S := S.front1
      have S0 := S; clear S
      obtain ⟨M_5, hM_5, hz_6, S⟩ := S0.freezeI (by (first | omega | (simp; omega) | (simp; done) | (simp_all; omega) | grind))
      clear S0
      replace h0 := h0.le hM_5
      replace h1 := h1.le hM_5
      have S0 := S; clear S
      obtain ⟨M_7, hM_7, hz_8, S⟩ := S0.freezeI (by (first | omega | (simp; omega) | (simp; done) | (simp_all; omega) | grind))
      clear S0
      replace h0 := h0.le hM_7
      replace h1 := h1.le hM_7
      replace hz_6 := hz_6.le hM_7
      refine S_x (X_pu E S rfl rfl rfl (impl_TrimPrefix hz_6 hz_8 (by (first | omega | (simp; omega) | (simp; done) | (simp_all; omega) | grind))) (Hp.le.refl _) ?_)
      clear E a S; rintro a v_10 w M_9 hM_9 hv_10 S E
      replace h0 := h0.le hM_9
      replace h1 := h1.le hM_9
      replace hz_6 := hz_6.le hM_9
      replace hz_8 := hz_8.le hM_9
      refine S_v E rfl (R_lenV E rfl T22 hv_10.len) rfl ?_
      clear E a; intro a E
      refine S_v E rfl (R_neq E rfl rfl) rfl ?_
      clear E a; intro a E
      refine WL_nil ?_
      refine T_n ?_
      have hc_11 : (decide ((((trimP [1] [1, 2]).length : Nat) : Int) ≠ 1)) = false := by (clear E S; first | (simp; done) | decide | (simp [trimP, trimS, trimPn, trimSn, hasP, hasS]; done) | (rw [trimP_repA (by omega), ← htP]; simp; done) | (rw [trimS_repB (by omega), ← htS]; simp; done) | (simp [trimP_repA hln.2.2, trimS_repB hln.2.2, htP, htS]; done))
      refine WP_condF E rfl hc_11 ?_
      refine WP_skip ?_
      refine T_n ?_
      refine WP_seq ?_
      refine WP_seq ?_
      refine WP_region ?_
      refine S_v E rfl (R_move E rfl) rfl ?_
      clear E a; intro a E
      refine S_v E rfl (R_move E rfl) rfl ?_
      clear E a; intro a E
      refine S_x (X_buildM (R := RSl 1 RInt) (vs := [v0, v1]) (xs := [l0, l1]) (RSl_mono RInt_mono) E S rfl T36 rfl rfl rfl (by intro u hu; simp only [List.mem_cons, List.not_mem_nil, or_false] at hu; rcases hu with rfl | rfl <;> first | exact RdI.one h0 | exact RdI.one h1 | rfl) rfl (rowsC (R := RSl 1 RInt) (RdI.row h0) (rowsC (R := RSl 1 RInt) (RdI.row h1) rowsN)) ?_)
      clear E a S; rintro a v_12 w M_13 hM_13 hv_12 S E
      replace hv_12 : RdII M_13 v_12 [l0, l1] := hv_12
      replace h0 := h0.le hM_13
      replace h1 := h1.le hM_13
      replace hz_6 := hz_6.le hM_13
      replace hz_8 := hz_8.le hM_13
      replace hv_10 := hv_10.le hM_13
      refine S_x (X_pu E S rfl rfl rfl (laws_few hv_12) (Hp.le.refl _) ?_)
      clear E a S; rintro a _ w M_14 hM_14 rfl S E
      replace h0 := h0.le hM_14
      replace h1 := h1.le hM_14
      replace hz_6 := hz_6.le hM_14
      replace hz_8 := hz_8.le hM_14
      replace hv_10 := hv_10.le hM_14
      replace hv_12 := hv_12.le hM_14
      refine S_v E rfl (R_not E rfl) rfl ?_
      clear E a; intro a E
      refine S_v E rfl (R_move E rfl) rfl ?_
      clear E a; intro a E
      refine split_bool (!(decide (∀ x ∈ [l0, l1], x.length ≤ 300))) (fun hc_15 => ?_) (fun hc_15 => ?_)
      · replace E := E.val (t := 28) rfl hc_15
        replace E := E.val (t := 29) rfl hc_15
        refine WL_guard_no E rfl rfl rfl rfl fun a E => ?_
        refine WL_guard_no E rfl rfl rfl rfl fun a E => ?_
        refine WL_guard_no E rfl rfl rfl rfl fun a E => ?_
        refine S_v E rfl (R_pickT E rfl rfl) rfl ?_
        clear E a; intro a E
        refine S_v E rfl (R_move E rfl) rfl ?_
        clear E a; intro a E
        refine WL_guard_no E rfl rfl rfl rfl fun a E => ?_
        refine WL_guard_no E rfl rfl rfl rfl fun a E => ?_
        refine WL_guard_no E rfl rfl rfl rfl fun a E => ?_
        refine S_v E rfl (R_pickT E rfl rfl) rfl ?_
        clear E a; intro a E
        refine WL_nil ?_
        refine T_n ?_
        refine WP_condT E rfl rfl ?_
        refine WP_seq ?_
        refine WP_region ?_
        refine S_v E rfl (R_assign E rfl) rfl ?_
        clear E a; intro a E
        refine WL_nil ?_
        refine T_n ?_
        refine WP_ret ?_
        refine T_r ?_
        exact F_ret1 E Try.results5 rfl ⟨_, rfl, M_14, (hM_5.trans (hM_7.trans (hM_9.trans (hM_13.trans hM_14)))), rfl, S⟩
      · replace E := E.val (t := 28) rfl hc_15
        replace E := E.val (t := 29) rfl hc_15
        refine WL_guard_yes E rfl rfl ?_
        refine S_v E rfl (R_move E rfl) rfl ?_
        clear E a; intro a E
        refine WL_guard_yes E rfl rfl ?_
        refine S_v E rfl (R_lenV E rfl T22 h1.len) rfl ?_
        clear E a; intro a E
        refine WL_guard_yes E rfl rfl ?_
        refine S_v E rfl (R_eql E rfl rfl) rfl ?_
        clear E a; intro a E
        refine S_v E rfl (R_pickF E rfl rfl) rfl ?_
        clear E a; intro a E
        refine S_v E rfl (R_move E rfl) rfl ?_
        clear E a; intro a E
        refine split_bool (decide ((((l1).length : Nat) : Int) = 0)) (fun hc_16 => ?_) (fun hc_16 => ?_)
        · replace E := E.val (t := 32) rfl hc_16
          replace E := E.val (t := 33) rfl hc_16
          replace E := E.val (t := 34) rfl hc_16
          replace hc_16 := of_decide_eq_true hc_16
          refine WL_guard_no E rfl rfl rfl rfl fun a E => ?_
          refine WL_guard_no E rfl rfl rfl rfl fun a E => ?_
          refine WL_guard_no E rfl rfl rfl rfl fun a E => ?_
          refine S_v E rfl (R_pickT E rfl rfl) rfl ?_
          clear E a; intro a E
          refine WL_nil ?_
          refine T_n ?_
          refine WP_condT E rfl rfl ?_
          refine WP_seq ?_
          refine WP_region ?_
          refine S_v E rfl (R_assign E rfl) rfl ?_
          clear E a; intro a E
          refine WL_nil ?_
          refine T_n ?_
          refine WP_ret ?_
          refine T_r ?_
          exact F_ret1 E Try.results5 rfl ⟨_, rfl, M_14, (hM_5.trans (hM_7.trans (hM_9.trans (hM_13.trans hM_14)))), rfl, S⟩
        · replace E := E.val (t := 32) rfl hc_16
          replace E := E.val (t := 33) rfl hc_16
          replace E := E.val (t := 34) rfl hc_16
          replace hc_16 := of_decide_eq_false hc_16
          refine WL_guard_yes E rfl rfl ?_
          refine S_v E rfl (R_move E rfl) rfl ?_
          clear E a; intro a E
          refine WL_guard_yes E rfl rfl ?_
          refine S_v E rfl (R_lenV E rfl T22 h1.len) rfl ?_
          clear E a; intro a E
          refine WL_guard_yes E rfl rfl ?_
          refine S_v E rfl (R_gtr E rfl rfl) rfl ?_
          clear E a; intro a E
          refine S_v E rfl (R_pickF E rfl rfl) rfl ?_
          clear E a; intro a E
          refine WL_nil ?_
          refine T_n ?_
          refine WP_cond E rfl (fun hc_17 => ?_) (fun hc_17 => ?_)
          · replace hc_17 := of_decide_eq_true hc_17
            refine WP_seq ?_
            refine WP_region ?_
            refine S_v E rfl (R_assign E rfl) rfl ?_
            clear E a; intro a E
            refine WL_nil ?_
            refine T_n ?_
            refine WP_ret ?_
            refine T_r ?_
            exact F_ret1 E Try.results5 rfl ⟨_, rfl, M_14, (hM_5.trans (hM_7.trans (hM_9.trans (hM_13.trans hM_14)))), rfl, S⟩
          · replace hc_17 := of_decide_eq_false hc_17
            have hln0 : 0 < l1.length := (by omega)
            have hln1 : l0.length ≤ 300 := (by simp_all)
            have hln : l0.length ≤ 300 ∧ l1.length ≤ 20 ∧ 0 < l1.length := ⟨hln1, by omega, hln0⟩
            have htm1 := Int.tmod_nonneg (a := x2) (b := 5) (by omega)
            have htm2 := Int.tmod_lt_of_pos (b := 5) x2 (by omega)
            refine WP_skip ?_
            refine T_n ?_
            refine WP_seq ?_
            refine WP_region ?_
            refine S_v E rfl (R_move E rfl) rfl ?_
            clear E a; intro a E
            refine S_v E rfl (R_move E rfl) rfl ?_
            clear E a; intro a E
            refine S_v E rfl (R_assign E rfl) rfl ?_
            clear E a; intro a E
            refine S_v E rfl (R_assign E rfl) rfl ?_
            clear E a; intro a E
            refine WL_nil ?_
            refine T_n ?_
            refine WP_seq ?_
            refine WP_seq ?_
            refine WP_region ?_
            refine S_v E rfl (R_move E rfl) rfl ?_
            clear E a; intro a E
            refine S_v E rfl (R_rem E rfl rfl (by first | decide | omega)) rfl ?_
            clear E a; intro a E
            refine S_v E rfl (R_move E rfl) rfl ?_
            clear E a; intro a E
            refine WL_nil ?_
            refine T_n ?_
            refine WP_block ?_
            refine WP_loop (γ := Nat) (fun (k : Nat) a w => ∃ (M_18 : Hp) (u7 : Value) (u8 : Value), Hp.le M_14 M_18 ∧ St w M_18 (H) ∧ Env a 119 [] [(0, v0), (1, v1), (7, u7), (8, u8), (42, .int .u8 (Int.tmod x2 5)), (43, .int .u8 (k : Int))] ∧ ((k : Int) ≤ Int.tmod x2 5) ∧ RdI M_18 u7 (repA l1 l0 k) ∧ RdI M_18 u8 (repB l1 l0 k)) (fun k => (Int.tmod x2 5).toNat - k) 0 ⟨M_14, _, _, Hp.le.refl _, S, E.keep ⟨rfl, rfl, rfl, rfl, rfl, look_int (i := 0) rfl (by (rfl)), trivial⟩, (by omega), (SLeq h0 (by first | rfl | (simp; done))), (SLeq h0 (by first | rfl | (simp; done)))⟩ ?_
            try clear E
            try clear S
            try clear a
            try clear w
            rintro k a w ⟨M_18, u7, u8, hM_18, S, E, hL0_0, hs7_0, hs8_0⟩
            replace h0 := h0.le hM_18
            replace h1 := h1.le hM_18
            replace hz_6 := hz_6.le hM_18
            replace hz_8 := hz_8.le hM_18
            replace hv_10 := hv_10.le hM_18
            replace hv_12 := hv_12.le hM_18
            have hrl := rep_le hln k
            refine WP_seq ?_
            refine WP_region ?_
            refine S_v E rfl (R_lss E rfl rfl) rfl ?_
            clear E a; intro a E
            refine WL_nil ?_
            refine T_n ?_
            refine WP_seq ?_
            refine WP_cond E rfl (fun hc_19 => ?_) (fun hc_19 => ?_)
            · replace hc_19 := of_decide_eq_true hc_19
              refine WP_skip ?_
              refine T_n ?_
              refine WP_seq ?_
              refine WP_block ?_
              refine WP_region ?_
              refine S_v E rfl (R_move E rfl) rfl ?_
              clear E a; intro a E
              refine S_v E rfl (R_move E rfl) rfl ?_
              clear E a; intro a E
              refine S_x (X_pu E S rfl rfl rfl (laws_both h1 hs7_0 (by first | omega | (simp; omega) | (simp_all; omega))) (Hp.le.refl _) ?_)
              clear E a S; rintro a v_21 w M_20 hM_20 hv_21 S E
              replace h0 := h0.le hM_20
              replace h1 := h1.le hM_20
              replace hz_6 := hz_6.le hM_20
              replace hz_8 := hz_8.le hM_20
              replace hv_10 := hv_10.le hM_20
              replace hv_12 := hv_12.le hM_20
              replace hs7_0 := hs7_0.le hM_20
              replace hs8_0 := hs8_0.le hM_20
              refine S_v E rfl (R_move E rfl) rfl ?_
              clear E a; intro a E
              refine S_v E rfl (R_move E rfl) rfl ?_
              clear E a; intro a E
              refine S_x (X_pu E S rfl rfl rfl (laws_both hs8_0 h1 (by first | omega | (simp; omega) | (simp_all; omega))) (Hp.le.refl _) ?_)
              clear E a S; rintro a v_23 w M_22 hM_22 hv_23 S E
              replace h0 := h0.le hM_22
              replace h1 := h1.le hM_22
              replace hz_6 := hz_6.le hM_22
              replace hz_8 := hz_8.le hM_22
              replace hv_10 := hv_10.le hM_22
              replace hv_12 := hv_12.le hM_22
              replace hs7_0 := hs7_0.le hM_22
              replace hs8_0 := hs8_0.le hM_22
              replace hv_21 := hv_21.le hM_22
              refine S_v E rfl (R_assign E rfl) rfl ?_
              clear E a; intro a E
              refine S_v E rfl (R_assign E rfl) rfl ?_
              clear E a; intro a E
              refine WL_nil ?_
              refine B_n ?_
              refine T_n ?_
              refine WP_region ?_
              refine S_v E rfl (R_add E rfl rfl) rfl ?_
              clear E a; intro a E
              refine S_v E rfl (R_move E rfl) rfl ?_
              clear E a; intro a E
              refine WL_nil ?_
              refine T_n ?_
              exact ⟨k + 1, ⟨M_22, _, _, (hM_18.trans (hM_20.trans hM_22)), S, E.keep ⟨rfl, rfl, rfl, rfl, rfl, look_int (i := (IntKind.u8).wrap ((k : Int) + 1)) rfl (by (rw [u8_in (by omega)]; omega)), trivial⟩, (by omega), (SLeq hv_21 (by first | rfl | (simp; done))), (SLeq hv_23 (by first | rfl | (simp; done)))⟩, by omega⟩
            · replace hc_19 := of_decide_eq_false hc_19
              refine WP_exit ?_
              refine T_x ?_
              refine T_x ?_
              refine B_x ?_
              refine T_n ?_
              refine WP_seq ?_
              refine WP_region ?_
              refine S_v E rfl (R_move E rfl) rfl ?_
              clear E a; intro a E
              refine S_v E rfl (R_move E rfl) rfl ?_
              clear E a; intro a E
              refine S_v E rfl (R_assign E rfl) rfl ?_
              clear E a; intro a E
              refine S_v E rfl (R_assign E rfl) rfl ?_
              clear E a; intro a E
              refine WL_nil ?_
              refine T_n ?_
              refine WP_seq ?_
              refine WP_block ?_
              refine WP_loop (γ := List Int) (fun (p : List Int) a w => ∃ (M_24 : Hp) (u9 : Value), Hp.le M_18 M_24 ∧ St w M_24 (H) ∧ Env a 119 [] [(1, v1), (7, u7), (8, u8), (9, u9), (10, v0)] ∧ (trimP l1 p = trimP l1 l0) ∧ RdI M_24 u9 p) (fun p => p.length) l0 ⟨M_18, _, Hp.le.refl _, S, E.keep ⟨rfl, rfl, rfl, rfl, rfl, trivial⟩, rfl, (SLeq h0 (by first | rfl | (simp; done)))⟩ ?_
              try clear E
              try clear S
              try clear a
              try clear w
              rintro p a w ⟨M_24, u9, hM_24, S, E, hL1_0, hs9_1⟩
              replace h0 := h0.le hM_24
              replace h1 := h1.le hM_24
              replace hz_6 := hz_6.le hM_24
              replace hz_8 := hz_8.le hM_24
              replace hv_10 := hv_10.le hM_24
              replace hv_12 := hv_12.le hM_24
              replace hs7_0 := hs7_0.le hM_24
              replace hs8_0 := hs8_0.le hM_24
              have hpb := hs9_1.bound
              refine WP_seq ?_
              refine WP_seq ?_
              refine WP_region ?_
              refine S_v E rfl (R_move E rfl) rfl ?_
              clear E a; intro a E
              refine S_v E rfl (R_move E rfl) rfl ?_
              clear E a; intro a E
              refine S_x (X_pu E S rfl rfl rfl (laws_beginning hs9_1 h1) (Hp.le.refl _) ?_)
              clear E a S; rintro a _ w M_25 hM_25 rfl S E
              replace h0 := h0.le hM_25
              replace h1 := h1.le hM_25
              replace hz_6 := hz_6.le hM_25
              replace hz_8 := hz_8.le hM_25
              replace hv_10 := hv_10.le hM_25
              replace hv_12 := hv_12.le hM_25
              replace hs7_0 := hs7_0.le hM_25
              replace hs8_0 := hs8_0.le hM_25
              replace hs9_1 := hs9_1.le hM_25
              refine WL_nil ?_
              refine T_n ?_
              refine WP_cond E rfl (fun hc_26 => ?_) (fun hc_26 => ?_)
              · replace hc_26 := of_decide_eq_true hc_26
                have hle9 := hasP_le (show hasP p l1 = true from decide_eq_true (by assumption))
                refine WP_skip ?_
                refine T_n ?_
                refine WP_block ?_
                refine WP_region ?_
                refine S_v E rfl (R_move E rfl) rfl ?_
                clear E a; intro a E
                refine S_v E rfl (R_move E rfl) rfl ?_
                clear E a; intro a E
                refine S_v E rfl (R_lenV E rfl T22 h1.len) rfl ?_
                clear E a; intro a E
                obtain ⟨v_27, sv_27, hv_27⟩ := hs9_1.subv ((l1).length) ((p).length) (by first | omega | (simp; done) | (simp; omega) | (simp_all; omega)) (by first | omega | (simp; done) | (simp; omega) | (simp_all; omega))
                simp only [List.take_length] at hv_27
                replace hv_27 : RdI M_25 v_27 ((p).drop ((l1).length)) := hv_27
                refine S_v E rfl (R_sliceL E rfl rfl T22 hs9_1.len sv_27 (by omega)) rfl ?_
                clear E a; intro a E
                refine S_v E rfl (R_assign E rfl) rfl ?_
                clear E a; intro a E
                refine WL_nil ?_
                refine B_n ?_
                refine T_n ?_
                exact ⟨p.drop l1.length, ⟨M_25, _, (hM_24.trans hM_25), S, E.keep ⟨rfl, rfl, rfl, rfl, rfl, trivial⟩, (by rw [← trimP_yes (by omega) (decide_eq_true (by assumption))]; exact hL1_0), (SLeq hv_27 (by first | rfl | (simp; done)))⟩, (by simp; omega)⟩
              · replace hc_26 := of_decide_eq_false hc_26
                have htP : trimP l1 p = p := trimP_no (decide_eq_false (by assumption))
                rw [hL1_0] at htP
                refine WP_exit ?_
                refine T_x ?_
                refine T_x ?_
                refine B_x ?_
                refine T_n ?_
                refine WP_seq ?_
                refine WP_block ?_
                refine WP_loop (γ := List Int) (fun (s : List Int) a w => ∃ (M_28 : Hp) (u10 : Value), Hp.le M_25 M_28 ∧ St w M_28 (H) ∧ Env a 119 [] [(1, v1), (7, u7), (8, u8), (9, u9), (10, u10)] ∧ (trimS l1 s = trimS l1 l0) ∧ RdI M_28 u10 s) (fun s => s.length) l0 ⟨M_25, _, Hp.le.refl _, S, E.keep ⟨rfl, rfl, rfl, rfl, rfl, trivial⟩, rfl, (SLeq h0 (by first | rfl | (simp; done)))⟩ ?_
                try clear E
                try clear S
                try clear a
                try clear w
                rintro s a w ⟨M_28, u10, hM_28, S, E, hL2_0, hs10_2⟩
                replace h0 := h0.le hM_28
                replace h1 := h1.le hM_28
                replace hz_6 := hz_6.le hM_28
                replace hz_8 := hz_8.le hM_28
                replace hv_10 := hv_10.le hM_28
                replace hv_12 := hv_12.le hM_28
                replace hs7_0 := hs7_0.le hM_28
                replace hs8_0 := hs8_0.le hM_28
                replace hs9_1 := hs9_1.le hM_28
                have hpb := hs10_2.bound
                refine WP_seq ?_
                refine WP_seq ?_
                refine WP_region ?_
                refine S_v E rfl (R_move E rfl) rfl ?_
                clear E a; intro a E
                refine S_v E rfl (R_move E rfl) rfl ?_
                clear E a; intro a E
                refine S_x (X_pu E S rfl rfl rfl (laws_ending hs10_2 h1) (Hp.le.refl _) ?_)
                clear E a S; rintro a _ w M_29 hM_29 rfl S E
                replace h0 := h0.le hM_29
                replace h1 := h1.le hM_29
                replace hz_6 := hz_6.le hM_29
                replace hz_8 := hz_8.le hM_29
                replace hv_10 := hv_10.le hM_29
                replace hv_12 := hv_12.le hM_29
                replace hs7_0 := hs7_0.le hM_29
                replace hs8_0 := hs8_0.le hM_29
                replace hs9_1 := hs9_1.le hM_29
                replace hs10_2 := hs10_2.le hM_29
                refine WL_nil ?_
                refine T_n ?_
                refine WP_cond E rfl (fun hc_30 => ?_) (fun hc_30 => ?_)
                · have hle9 := hasS_le (by assumption)
                  refine WP_skip ?_
                  refine T_n ?_
                  refine WP_block ?_
                  refine WP_region ?_
                  refine S_v E rfl (R_move E rfl) rfl ?_
                  clear E a; intro a E
                  refine S_v E rfl (R_move E rfl) rfl ?_
                  clear E a; intro a E
                  refine S_v E rfl (R_lenV E rfl T22 hs10_2.len) rfl ?_
                  clear E a; intro a E
                  refine S_v E rfl (R_move E rfl) rfl ?_
                  clear E a; intro a E
                  refine S_v E rfl (R_lenV E rfl T22 h1.len) rfl ?_
                  clear E a; intro a E
                  refine S_v E rfl (R_subx (m := (((s).length - ((l1).length) : Nat) : Int)) E rfl rfl (by omega) (by omega)) rfl ?_
                  clear E a; intro a E
                  obtain ⟨v_31, sv_31, hv_31⟩ := hs10_2.subv 0 ((s).length - ((l1).length)) (by first | omega | (simp; done) | (simp; omega) | (simp_all; omega)) (by first | omega | (simp; done) | (simp; omega) | (simp_all; omega))
                  simp only [List.drop_zero] at hv_31
                  replace hv_31 : RdI M_29 v_31 ((s).take ((s).length - ((l1).length))) := hv_31
                  refine S_v E rfl (R_sliceH E rfl rfl T22 sv_31 (by omega)) rfl ?_
                  clear E a; intro a E
                  refine S_v E rfl (R_assign E rfl) rfl ?_
                  clear E a; intro a E
                  refine WL_nil ?_
                  refine B_n ?_
                  refine T_n ?_
                  exact ⟨s.take (s.length - l1.length), ⟨M_29, _, (hM_28.trans hM_29), S, E.keep ⟨rfl, rfl, rfl, rfl, rfl, trivial⟩, (by rw [← trimS_yes (by omega) (by assumption)]; exact hL2_0), (SLeq hv_31 (by first | rfl | (simp; done)))⟩, (by simp; omega)⟩
                · have htS : trimS l1 s = s := trimS_no (by assumption)
                  rw [hL2_0] at htS
                  refine WP_exit ?_
                  refine T_x ?_
                  refine T_x ?_
                  refine B_x ?_
                  refine T_n ?_
                  refine WP_seq ?_
                  have h1k31 := h1
                  have hs7_0k31 := hs7_0
                  have hs8_0k31 := hs8_0
                  have hs9_1k31 := hs9_1
                  have hs10_2k31 := hs10_2
                  replace S := S.mono_heap (w' := World.drew _) rfl
                  refine WP_drawn (C := fun x w => agree M_29 w) (bf := (fun i => [])) [0, 1, 3, 5, 6, 7, 9, 11, 12, 13, 14, 16, 18, 19, 20, 21, 23, 25, 26, 27, 28, 30, 32, 33, 34, 35, 36, 37, 38, 40, 41, 42, 44, 46, 47, 48] [0, 1, 3, 2, 4, 5, 6, 7, 9, 8, 10, 11, 12, 13, 14, 16, 15, 17, 18, 19, 20, 21, 23, 22, 24, 25, 26, 27, 28, 30, 29, 31, 32, 33, 34, 35, 36, 37, 38, 39, 40, 41, 42, 44, 43, 45, 46, 47, 48] Try.mixed (by kernel_rfl) (fun x hq => S.imm) ?_
                  refine D_v E rfl rfl rfl (fun w hC => (R_move E rfl)) ?_
                  clear E a; intro a E
                  refine D_v E rfl rfl rfl (fun w hC => (R_move E rfl)) ?_
                  clear E a; intro a E
                  refine D_v E rfl rfl rfl (fun w hC => (R_move E rfl)) ?_
                  clear E a; intro a E
                  refine D_x rfl rfl rfl (X_pu E S rfl rfl rfl (spec_TrimPrefix hs7_0 h1) (Hp.le.refl _) ?_)
                  clear E a S; rintro a v_33 w M_32 hM_32 hv_33 S E
                  replace h0 := h0.le hM_32
                  replace h1 := h1.le hM_32
                  replace hz_6 := hz_6.le hM_32
                  replace hz_8 := hz_8.le hM_32
                  replace hv_10 := hv_10.le hM_32
                  replace hv_12 := hv_12.le hM_32
                  replace hs7_0 := hs7_0.le hM_32
                  replace hs8_0 := hs8_0.le hM_32
                  replace hs9_1 := hs9_1.le hM_32
                  replace hs10_2 := hs10_2.le hM_32
                  refine ⟨fun x hq hb => (agree_le hM_32 S.imm), ?_⟩
                  refine D_x rfl rfl rfl (X_pu E S rfl rfl rfl (laws_eq hv_33 hs9_1) (Hp.le.refl _) ?_)
                  clear E a S; rintro a _ w M_34 hM_34 rfl S E
                  replace h0 := h0.le hM_34
                  replace h1 := h1.le hM_34
                  replace hz_6 := hz_6.le hM_34
                  replace hz_8 := hz_8.le hM_34
                  replace hv_10 := hv_10.le hM_34
                  replace hv_12 := hv_12.le hM_34
                  replace hs7_0 := hs7_0.le hM_34
                  replace hs8_0 := hs8_0.le hM_34
                  replace hs9_1 := hs9_1.le hM_34
                  replace hs10_2 := hs10_2.le hM_34
                  replace hv_33 := hv_33.le hM_34
                  refine ⟨fun x hq hb => (agree_le (hM_32.trans hM_34) S.imm), ?_⟩
                  refine D_v E rfl rfl rfl (fun w hC => (R_move E rfl)) ?_
                  clear E a; intro a E
                  have hc_35 : (decide (trimP l1 (repA l1 l0 k) = p)) = true := by (clear E S; first | (simp; done) | decide | (simp [trimP, trimS, trimPn, trimSn, hasP, hasS]; done) | (rw [trimP_repA (by omega), ← htP]; simp; done) | (rw [trimS_repB (by omega), ← htS]; simp; done) | (simp [trimP_repA hln.2.2, trimS_repB hln.2.2, htP, htS]; done))
                  replace E := E.val (t := 75) rfl hc_35
                  replace E := E.val (t := 76) rfl hc_35
                  refine D_vyes E rfl rfl rfl rfl rfl (fun w hC => (R_move E rfl)) ?_
                  clear E a; intro a E
                  refine D_vyes E rfl rfl rfl rfl rfl (fun w hC => (R_move E rfl)) ?_
                  clear E a; intro a E
                  refine D_vyes E rfl rfl rfl rfl rfl (fun w hC => (R_move E rfl)) ?_
                  clear E a; intro a E
                  refine D_yes E rfl rfl rfl rfl (X_pu E S rfl rfl rfl (spec_TrimSuffix hs8_0 h1) (Hp.le.refl _) ?_)
                  clear E a S; rintro a v_37 w M_36 hM_36 hv_37 S E
                  replace h0 := h0.le hM_36
                  replace h1 := h1.le hM_36
                  replace hz_6 := hz_6.le hM_36
                  replace hz_8 := hz_8.le hM_36
                  replace hv_10 := hv_10.le hM_36
                  replace hv_12 := hv_12.le hM_36
                  replace hs7_0 := hs7_0.le hM_36
                  replace hs8_0 := hs8_0.le hM_36
                  replace hs9_1 := hs9_1.le hM_36
                  replace hs10_2 := hs10_2.le hM_36
                  replace hv_33 := hv_33.le hM_36
                  refine ⟨fun x hq hb => (agree_le (hM_32.trans (hM_34.trans hM_36)) S.imm), ?_⟩
                  refine D_yes E rfl rfl rfl rfl (X_pu E S rfl rfl rfl (laws_eq hv_37 hs10_2) (Hp.le.refl _) ?_)
                  clear E a S; rintro a _ w M_38 hM_38 rfl S E
                  replace h0 := h0.le hM_38
                  replace h1 := h1.le hM_38
                  replace hz_6 := hz_6.le hM_38
                  replace hz_8 := hz_8.le hM_38
                  replace hv_10 := hv_10.le hM_38
                  replace hv_12 := hv_12.le hM_38
                  replace hs7_0 := hs7_0.le hM_38
                  replace hs8_0 := hs8_0.le hM_38
                  replace hs9_1 := hs9_1.le hM_38
                  replace hs10_2 := hs10_2.le hM_38
                  replace hv_33 := hv_33.le hM_38
                  replace hv_37 := hv_37.le hM_38
                  refine ⟨fun x hq hb => (agree_le (hM_32.trans (hM_34.trans (hM_36.trans hM_38))) S.imm), ?_⟩
                  refine D_v E rfl rfl rfl (fun w hC => (R_pickT E rfl rfl)) ?_
                  clear E a; intro a E
                  refine D_v E rfl rfl rfl (fun w hC => (R_move E rfl)) ?_
                  clear E a; intro a E
                  have hc_39 : (decide (trimS l1 (repB l1 l0 k) = s)) = true := by (clear E S; first | (simp; done) | decide | (simp [trimP, trimS, trimPn, trimSn, hasP, hasS]; done) | (rw [trimP_repA (by omega), ← htP]; simp; done) | (rw [trimS_repB (by omega), ← htS]; simp; done) | (simp [trimP_repA hln.2.2, trimS_repB hln.2.2, htP, htS]; done))
                  replace E := E.val (t := 81) rfl hc_39
                  replace E := E.val (t := 82) rfl hc_39
                  replace E := E.val (t := 83) rfl hc_39
                  refine D_vyes E rfl rfl rfl rfl rfl (fun w hC => (R_move E rfl)) ?_
                  clear E a; intro a E
                  refine D_vyes E rfl rfl rfl rfl rfl (fun w hC => (R_move E rfl)) ?_
                  clear E a; intro a E
                  refine D_vyes E rfl rfl rfl rfl rfl (fun w hC => (R_move E rfl)) ?_
                  clear E a; intro a E
                  refine D_yes E rfl rfl rfl rfl (X_pu E S rfl rfl rfl (impl_TrimPrefix hs7_0 h1 (by (first | omega | (simp; omega) | (simp; done) | (simp_all; omega) | grind))) (Hp.le.refl _) ?_)
                  clear E a S; rintro a v_41 w M_40 hM_40 hv_41 S E
                  replace h0 := h0.le hM_40
                  replace h1 := h1.le hM_40
                  replace hz_6 := hz_6.le hM_40
                  replace hz_8 := hz_8.le hM_40
                  replace hv_10 := hv_10.le hM_40
                  replace hv_12 := hv_12.le hM_40
                  replace hs7_0 := hs7_0.le hM_40
                  replace hs8_0 := hs8_0.le hM_40
                  replace hs9_1 := hs9_1.le hM_40
                  replace hs10_2 := hs10_2.le hM_40
                  replace hv_33 := hv_33.le hM_40
                  replace hv_37 := hv_37.le hM_40
                  refine ⟨fun x hq hb => (agree_le (hM_32.trans (hM_34.trans (hM_36.trans (hM_38.trans hM_40)))) S.imm), ?_⟩
                  refine D_yes E rfl rfl rfl rfl (X_pu E S rfl rfl rfl (laws_eq hv_41 hs9_1) (Hp.le.refl _) ?_)
                  clear E a S; rintro a _ w M_42 hM_42 rfl S E
                  replace h0 := h0.le hM_42
                  replace h1 := h1.le hM_42
                  replace hz_6 := hz_6.le hM_42
                  replace hz_8 := hz_8.le hM_42
                  replace hv_10 := hv_10.le hM_42
                  replace hv_12 := hv_12.le hM_42
                  replace hs7_0 := hs7_0.le hM_42
                  replace hs8_0 := hs8_0.le hM_42
                  replace hs9_1 := hs9_1.le hM_42
                  replace hs10_2 := hs10_2.le hM_42
                  replace hv_33 := hv_33.le hM_42
                  replace hv_37 := hv_37.le hM_42
                  replace hv_41 := hv_41.le hM_42
                  refine ⟨fun x hq hb => (agree_le (hM_32.trans (hM_34.trans (hM_36.trans (hM_38.trans (hM_40.trans hM_42))))) S.imm), ?_⟩
                  refine D_v E rfl rfl rfl (fun w hC => (R_pickT E rfl rfl)) ?_
                  clear E a; intro a E
                  refine D_v E rfl rfl rfl (fun w hC => (R_move E rfl)) ?_
                  clear E a; intro a E
                  have hc_43 : (decide (trimP l1 (repA l1 l0 k) = p)) = true := by (clear E S; first | (simp; done) | decide | (simp [trimP, trimS, trimPn, trimSn, hasP, hasS]; done) | (rw [trimP_repA (by omega), ← htP]; simp; done) | (rw [trimS_repB (by omega), ← htS]; simp; done) | (simp [trimP_repA hln.2.2, trimS_repB hln.2.2, htP, htS]; done))
                  replace E := E.val (t := 88) rfl hc_43
                  replace E := E.val (t := 89) rfl hc_43
                  replace E := E.val (t := 90) rfl hc_43
                  refine D_vyes E rfl rfl rfl rfl rfl (fun w hC => (R_move E rfl)) ?_
                  clear E a; intro a E
                  refine D_vyes E rfl rfl rfl rfl rfl (fun w hC => (R_move E rfl)) ?_
                  clear E a; intro a E
                  refine D_vyes E rfl rfl rfl rfl rfl (fun w hC => (R_move E rfl)) ?_
                  clear E a; intro a E
                  refine D_yes E rfl rfl rfl rfl (X_pu E S rfl rfl rfl (impl_TrimSuffix hs8_0 h1 (by (first | omega | (simp; omega) | (simp; done) | (simp_all; omega) | grind))) (Hp.le.refl _) ?_)
                  clear E a S; rintro a v_45 w M_44 hM_44 hv_45 S E
                  replace h0 := h0.le hM_44
                  replace h1 := h1.le hM_44
                  replace hz_6 := hz_6.le hM_44
                  replace hz_8 := hz_8.le hM_44
                  replace hv_10 := hv_10.le hM_44
                  replace hv_12 := hv_12.le hM_44
                  replace hs7_0 := hs7_0.le hM_44
                  replace hs8_0 := hs8_0.le hM_44
                  replace hs9_1 := hs9_1.le hM_44
                  replace hs10_2 := hs10_2.le hM_44
                  replace hv_33 := hv_33.le hM_44
                  replace hv_37 := hv_37.le hM_44
                  replace hv_41 := hv_41.le hM_44
                  refine ⟨fun x hq hb => (agree_le (hM_32.trans (hM_34.trans (hM_36.trans (hM_38.trans (hM_40.trans (hM_42.trans hM_44)))))) S.imm), ?_⟩
                  refine D_yes E rfl rfl rfl rfl (X_pu E S rfl rfl rfl (laws_eq hv_45 hs10_2) (Hp.le.refl _) ?_)
                  clear E a S; rintro a _ w M_46 hM_46 rfl S E
                  replace h0 := h0.le hM_46
                  replace h1 := h1.le hM_46
                  replace hz_6 := hz_6.le hM_46
                  replace hz_8 := hz_8.le hM_46
                  replace hv_10 := hv_10.le hM_46
                  replace hv_12 := hv_12.le hM_46
                  replace hs7_0 := hs7_0.le hM_46
                  replace hs8_0 := hs8_0.le hM_46
                  replace hs9_1 := hs9_1.le hM_46
                  replace hs10_2 := hs10_2.le hM_46
                  replace hv_33 := hv_33.le hM_46
                  replace hv_37 := hv_37.le hM_46
                  replace hv_41 := hv_41.le hM_46
                  replace hv_45 := hv_45.le hM_46
                  refine ⟨fun x hq hb => (agree_le (hM_32.trans (hM_34.trans (hM_36.trans (hM_38.trans (hM_40.trans (hM_42.trans (hM_44.trans hM_46))))))) S.imm), ?_⟩
                  refine D_v E rfl rfl rfl (fun w hC => (R_pickT E rfl rfl)) ?_
                  clear E a; intro a E
                  refine D_v E rfl rfl rfl (fun w hC => (R_move E rfl)) ?_
                  clear E a; intro a E
                  have hc_47 : (decide (trimS l1 (repB l1 l0 k) = s)) = true := by (clear E S; first | (simp; done) | decide | (simp [trimP, trimS, trimPn, trimSn, hasP, hasS]; done) | (rw [trimP_repA (by omega), ← htP]; simp; done) | (rw [trimS_repB (by omega), ← htS]; simp; done) | (simp [trimP_repA hln.2.2, trimS_repB hln.2.2, htP, htS]; done))
                  replace E := E.val (t := 95) rfl hc_47
                  replace E := E.val (t := 96) rfl hc_47
                  replace E := E.val (t := 97) rfl hc_47
                  refine D_vyes E rfl rfl rfl rfl rfl (fun w hC => (R_move E rfl)) ?_
                  clear E a; intro a E
                  refine D_vyes E rfl rfl rfl rfl rfl (fun w hC => (R_move E rfl)) ?_
                  clear E a; intro a E
                  refine D_vyes E rfl rfl rfl rfl rfl (fun w hC => (R_move E rfl)) ?_
                  clear E a; intro a E
                  refine D_yes E rfl rfl rfl rfl (X_pu E S rfl rfl rfl (impl_TrimPrefixSeq hs7_0 h1 (by (first | omega | (simp; omega) | (simp; done) | (simp_all; omega) | grind))) (Hp.le.refl _) ?_)
                  clear E a S; rintro a v_49 w M_48 hM_48 hv_49 S E
                  replace h0 := h0.le hM_48
                  replace h1 := h1.le hM_48
                  replace hz_6 := hz_6.le hM_48
                  replace hz_8 := hz_8.le hM_48
                  replace hv_10 := hv_10.le hM_48
                  replace hv_12 := hv_12.le hM_48
                  replace hs7_0 := hs7_0.le hM_48
                  replace hs8_0 := hs8_0.le hM_48
                  replace hs9_1 := hs9_1.le hM_48
                  replace hs10_2 := hs10_2.le hM_48
                  replace hv_33 := hv_33.le hM_48
                  replace hv_37 := hv_37.le hM_48
                  replace hv_41 := hv_41.le hM_48
                  replace hv_45 := hv_45.le hM_48
                  refine ⟨fun x hq hb => (agree_le (hM_32.trans (hM_34.trans (hM_36.trans (hM_38.trans (hM_40.trans (hM_42.trans (hM_44.trans (hM_46.trans hM_48)))))))) S.imm), ?_⟩
                  refine D_yes E rfl rfl rfl rfl (X_pu E S rfl rfl rfl (laws_eq hv_49 hs9_1) (Hp.le.refl _) ?_)
                  clear E a S; rintro a _ w M_50 hM_50 rfl S E
                  replace h0 := h0.le hM_50
                  replace h1 := h1.le hM_50
                  replace hz_6 := hz_6.le hM_50
                  replace hz_8 := hz_8.le hM_50
                  replace hv_10 := hv_10.le hM_50
                  replace hv_12 := hv_12.le hM_50
                  replace hs7_0 := hs7_0.le hM_50
                  replace hs8_0 := hs8_0.le hM_50
                  replace hs9_1 := hs9_1.le hM_50
                  replace hs10_2 := hs10_2.le hM_50
                  replace hv_33 := hv_33.le hM_50
                  replace hv_37 := hv_37.le hM_50
                  replace hv_41 := hv_41.le hM_50
                  replace hv_45 := hv_45.le hM_50
                  replace hv_49 := hv_49.le hM_50
                  refine ⟨fun x hq hb => (agree_le (hM_32.trans (hM_34.trans (hM_36.trans (hM_38.trans (hM_40.trans (hM_42.trans (hM_44.trans (hM_46.trans (hM_48.trans hM_50))))))))) S.imm), ?_⟩
                  refine D_v E rfl rfl rfl (fun w hC => (R_pickT E rfl rfl)) ?_
                  clear E a; intro a E
                  refine D_v E rfl rfl rfl (fun w hC => (R_move E rfl)) ?_
                  clear E a; intro a E
                  have hc_51 : (decide (trimP l1 (repA l1 l0 k) = p)) = true := by (clear E S; first | (simp; done) | decide | (simp [trimP, trimS, trimPn, trimSn, hasP, hasS]; done) | (rw [trimP_repA (by omega), ← htP]; simp; done) | (rw [trimS_repB (by omega), ← htS]; simp; done) | (simp [trimP_repA hln.2.2, trimS_repB hln.2.2, htP, htS]; done))
                  replace E := E.val (t := 102) rfl hc_51
                  replace E := E.val (t := 103) rfl hc_51
                  replace E := E.val (t := 104) rfl hc_51
                  refine D_vyes E rfl rfl rfl rfl rfl (fun w hC => (R_move E rfl)) ?_
                  clear E a; intro a E
                  obtain ⟨v_52, sv_52, hv_52⟩ := h1.subv 1 ((l1).length) (by first | omega | (simp; done) | (simp; omega) | (simp_all; omega)) (by first | omega | (simp; done) | (simp; omega) | (simp_all; omega))
                  simp only [List.take_length] at hv_52
                  replace hv_52 : RdI M_50 v_52 ((l1).drop 1) := hv_52
                  refine D_vyes E rfl rfl rfl rfl rfl (fun w hC => (R_sliceL E rfl rfl T22 h1.len sv_52 (by omega))) ?_
                  clear E a; intro a E
                  refine D_vyes E rfl rfl rfl rfl rfl (fun w hC => (R_move E rfl)) ?_
                  clear E a; intro a E
                  obtain ⟨x_53, hx_53⟩ : ∃ x, (l1)[0]? = some x := ⟨_, List.getElem?_eq_getElem (by first | omega | (simp; done) | (simp; omega) | (simp_all; omega))⟩
                  obtain ⟨p_54, hp_54, qp_54⟩ := h1k31.at hx_53
                  refine D_vyes E rfl rfl rfl rfl rfl (fun w hC => (R_idx E rfl rfl T22 hp_54 (by omega))) ?_
                  clear E a; intro a E
                  refine D_vyes E rfl rfl rfl rfl rfl (fun w hC => (R_loadM E rfl Try.isAgg3 hC qp_54)) ?_
                  clear E a; intro a E
                  refine D_yes E rfl rfl rfl rfl (X_pu E S rfl rfl rfl (laws_in hv_52) (Hp.le.refl _) ?_)
                  clear E a S; rintro a _ w M_55 hM_55 rfl S E
                  replace h0 := h0.le hM_55
                  replace h1 := h1.le hM_55
                  replace hz_6 := hz_6.le hM_55
                  replace hz_8 := hz_8.le hM_55
                  replace hv_10 := hv_10.le hM_55
                  replace hv_12 := hv_12.le hM_55
                  replace hs7_0 := hs7_0.le hM_55
                  replace hs8_0 := hs8_0.le hM_55
                  replace hs9_1 := hs9_1.le hM_55
                  replace hs10_2 := hs10_2.le hM_55
                  replace hv_33 := hv_33.le hM_55
                  replace hv_37 := hv_37.le hM_55
                  replace hv_41 := hv_41.le hM_55
                  replace hv_45 := hv_45.le hM_55
                  replace hv_49 := hv_49.le hM_55
                  replace hv_52 := hv_52.le hM_55
                  refine ⟨fun x hq hb => (agree_le (hM_32.trans (hM_34.trans (hM_36.trans (hM_38.trans (hM_40.trans (hM_42.trans (hM_44.trans (hM_46.trans (hM_48.trans (hM_50.trans hM_55)))))))))) S.imm), ?_⟩
                  refine D_vyes E rfl rfl rfl rfl rfl (fun w hC => (R_move E rfl)) ?_
                  clear E a; intro a E
                  refine split_bool (decide (x_53 ∈ ((l1).drop 1))) (fun hc_56 => ?_) (fun hc_56 => ?_)
                  · replace E := E.val (t := 110) rfl hc_56
                    replace E := E.val (t := 111) rfl hc_56
                    replace hc_56 := of_decide_eq_true hc_56
                    refine D_no E rfl rfl rfl rfl rfl fun a E => ?_
                    refine D_no E rfl rfl rfl rfl rfl fun a E => ?_
                    refine D_no E rfl rfl rfl rfl rfl fun a E => ?_
                    refine D_no E rfl rfl rfl rfl rfl fun a E => ?_
                    refine D_no E rfl rfl rfl rfl rfl fun a E => ?_
                    refine D_vyes E rfl rfl rfl rfl rfl (fun w hC => (R_pickT E rfl rfl)) ?_
                    clear E a; intro a E
                    refine D_v E rfl rfl rfl (fun w hC => (R_pickT E rfl rfl)) ?_
                    clear E a; intro a E
                    refine D_v E rfl rfl rfl (fun w hC => (R_assign E rfl)) ?_
                    clear E a; intro a E
                    refine D_end (NoP_n ?_)
                    refine T_n ?_
                    refine WP_ret ?_
                    exact F_ret1 E Try.results5 rfl ⟨_, rfl, M_55, (hM_5.trans (hM_7.trans (hM_9.trans (hM_13.trans (hM_14.trans (hM_18.trans (hM_24.trans (hM_25.trans (hM_28.trans (hM_29.trans (hM_32.trans (hM_34.trans (hM_36.trans (hM_38.trans (hM_40.trans (hM_42.trans (hM_44.trans (hM_46.trans (hM_48.trans (hM_50.trans hM_55)))))))))))))))))))), rfl, S⟩
                  · replace E := E.val (t := 110) rfl hc_56
                    replace E := E.val (t := 111) rfl hc_56
                    replace hc_56 := of_decide_eq_false hc_56
                    refine D_vyes E rfl rfl rfl rfl rfl (fun w hC => (R_move E rfl)) ?_
                    clear E a; intro a E
                    refine D_vyes E rfl rfl rfl rfl rfl (fun w hC => (R_move E rfl)) ?_
                    clear E a; intro a E
                    refine D_vyes E rfl rfl rfl rfl rfl (fun w hC => (R_move E rfl)) ?_
                    clear E a; intro a E
                    refine D_yes E rfl rfl rfl rfl (X_pu E S rfl rfl rfl (impl_TrimSuffixSeq hs8_0 h1 (by (first | omega | (simp; omega) | (simp; done) | (simp_all; omega) | grind)) (by first | assumption | (clear E S; intro j x hj h0 h9; first | (have h8 := List.mem_of_getElem? (show (l1.drop 1)[j - 1]? = some x by rw [List.getElem?_drop, show 1 + (j - 1) = j by omega]; exact h9); simp_all; done) | simp_all))) (Hp.le.refl _) ?_)
                    clear E a S; rintro a v_58 w M_57 hM_57 hv_58 S E
                    replace h0 := h0.le hM_57
                    replace h1 := h1.le hM_57
                    replace hz_6 := hz_6.le hM_57
                    replace hz_8 := hz_8.le hM_57
                    replace hv_10 := hv_10.le hM_57
                    replace hv_12 := hv_12.le hM_57
                    replace hs7_0 := hs7_0.le hM_57
                    replace hs8_0 := hs8_0.le hM_57
                    replace hs9_1 := hs9_1.le hM_57
                    replace hs10_2 := hs10_2.le hM_57
                    replace hv_33 := hv_33.le hM_57
                    replace hv_37 := hv_37.le hM_57
                    replace hv_41 := hv_41.le hM_57
                    replace hv_45 := hv_45.le hM_57
                    replace hv_49 := hv_49.le hM_57
                    replace hv_52 := hv_52.le hM_57
                    refine ⟨fun x hq hb => (agree_le (hM_32.trans (hM_34.trans (hM_36.trans (hM_38.trans (hM_40.trans (hM_42.trans (hM_44.trans (hM_46.trans (hM_48.trans (hM_50.trans (hM_55.trans hM_57))))))))))) S.imm), ?_⟩
                    refine D_yes E rfl rfl rfl rfl (X_pu E S rfl rfl rfl (laws_eq hv_58 hs10_2) (Hp.le.refl _) ?_)
                    clear E a S; rintro a _ w M_59 hM_59 rfl S E
                    replace h0 := h0.le hM_59
                    replace h1 := h1.le hM_59
                    replace hz_6 := hz_6.le hM_59
                    replace hz_8 := hz_8.le hM_59
                    replace hv_10 := hv_10.le hM_59
                    replace hv_12 := hv_12.le hM_59
                    replace hs7_0 := hs7_0.le hM_59
                    replace hs8_0 := hs8_0.le hM_59
                    replace hs9_1 := hs9_1.le hM_59
                    replace hs10_2 := hs10_2.le hM_59
                    replace hv_33 := hv_33.le hM_59
                    replace hv_37 := hv_37.le hM_59
                    replace hv_41 := hv_41.le hM_59
                    replace hv_45 := hv_45.le hM_59
                    replace hv_49 := hv_49.le hM_59
                    replace hv_52 := hv_52.le hM_59
                    replace hv_58 := hv_58.le hM_59
                    refine ⟨fun x hq hb => (agree_le (hM_32.trans (hM_34.trans (hM_36.trans (hM_38.trans (hM_40.trans (hM_42.trans (hM_44.trans (hM_46.trans (hM_48.trans (hM_50.trans (hM_55.trans (hM_57.trans hM_59)))))))))))) S.imm), ?_⟩
                    refine D_vyes E rfl rfl rfl rfl rfl (fun w hC => (R_pickF E rfl rfl)) ?_
                    clear E a; intro a E
                    refine D_v E rfl rfl rfl (fun w hC => (R_pickT E rfl rfl)) ?_
                    clear E a; intro a E
                    refine D_v E rfl rfl rfl (fun w hC => (R_assign E rfl)) ?_
                    clear E a; intro a E
                    refine D_end (NoP_n ?_)
                    refine T_n ?_
                    refine WP_ret ?_
                    exact F_ret1 E Try.results5 rfl ⟨_, rfl, M_59, (hM_5.trans (hM_7.trans (hM_9.trans (hM_13.trans (hM_14.trans (hM_18.trans (hM_24.trans (hM_25.trans (hM_28.trans (hM_29.trans (hM_32.trans (hM_34.trans (hM_36.trans (hM_38.trans (hM_40.trans (hM_42.trans (hM_44.trans (hM_46.trans (hM_48.trans (hM_50.trans (hM_55.trans (hM_57.trans hM_59)))))))))))))))))))))), (congrArg Value.bool (by (clear E S; first | (simp; done) | decide | (simp [trimP, trimS, trimPn, trimSn, hasP, hasS]; done) | (rw [trimP_repA (by omega), ← htP]; simp; done) | (rw [trimS_repB (by omega), ← htS]; simp; done) | (simp [trimP_repA hln.2.2, trimS_repB hln.2.2, htP, htS]; done)))), S⟩

end Go.Proofs.Ytealhfcckjdclaa.wFnTrimmedEnds
