/- Walks through the functions that laws.FnReplaced reaches: what each computes; no conditions beyond what each theorem states. -/
import Derived.Test.YtbdacnblipmapaaWFnReplaceda
set_option linter.unusedVariables false
set_option linter.unusedSimpArgs false
namespace Go.Proofs.Ytbdacnblipmapaa.wFnReplaced
open Go Go.Sl
set_option maxRecDepth 100000 in
set_option maxHeartbeats 4000000 in
theorem it_Replace11 {M : Hp} {x0 s9 : Int} {b9 : Nat} {bx1 : Nat} {x1 : Int} (hbx1 : M bx1 = some (.cells #[.int .i64 x1] 3)) {bx2 : Nat} {x2 : Int} (hbx2 : M bx2 = some (.cells #[.int .i64 x2] 3)) :
    Sp Try.prog (.func (.func 131) #[] #[.pointer (some ⟨b9, 0, none⟩), .pointer (some ⟨bx1, 0, none⟩), .pointer (some ⟨bx2, 0, none⟩)]) M [.int .i64 x0] [cellI b9 3 s9] (fun r M' C' => r = .int .i64 (repF x1 x2 s9 x0) ∧ C' = [(cellI b9 3) (repG x1 s9 x0)]) := by
  refine Sp_enter Try.func131 rfl Try.ntmps131 rfl Try.call131 ?_
  intro a w M1 H hM1 S E
  replace S : St w M1 (blk b9 (.cells #[.int .i64 s9] 3) :: _) := S
  replace hbx1 := hM1.2 _ _ hbx1
  replace hbx2 := hM1.2 _ _ hbx2
  refine WP_seq ?_
  refine WP_region ?_
  refine S_v E rfl (R_assign E rfl) rfl ?_
  clear E a; intro a E
  refine WL_nil ?_
  refine T_n ?_
  refine WP_seq ?_
  refine WP_seq ?_
  refine WP_region ?_
  refine S_v E rfl (R_load E rfl (Try.isAgg3 _) (cell_blk (S.mem (.head _)))) rfl ?_
  clear E a; intro a E
  refine S_v E rfl (R_neq E rfl rfl) rfl ?_
  clear E a; intro a E
  refine S_v E rfl (R_move E rfl) rfl ?_
  clear E a; intro a E
  refine split_bool (decide (s9 ≠ 0)) (fun hc_1 => ?_) (fun hc_1 => ?_)
  · replace E := E.val (t := 7) rfl hc_1
    replace E := E.val (t := 8) rfl hc_1
    replace hc_1 := of_decide_eq_true hc_1
    refine WL_guard_yes E rfl rfl ?_
    refine S_v E rfl (R_move E rfl) rfl ?_
    clear E a; intro a E
    refine WL_guard_yes E rfl rfl ?_
    refine S_v E rfl (R_loadM E rfl Try.isAgg3 S.imm (cellM_box hbx1)) rfl ?_
    clear E a; intro a E
    refine WL_guard_yes E rfl rfl ?_
    refine S_v E rfl (R_eql E rfl rfl) rfl ?_
    clear E a; intro a E
    refine S_v E rfl (R_pickT E rfl rfl) rfl ?_
    clear E a; intro a E
    refine WL_nil ?_
    refine T_n ?_
    refine WP_cond E rfl (fun hc_2 => ?_) (fun hc_2 => ?_)
    · replace hc_2 := of_decide_eq_true hc_2
      refine WP_seq ?_
      refine WP_region ?_
      refine S_v E rfl (R_load E rfl (Try.isAgg3 _) (cell_blk (S.mem (.head _)))) rfl ?_
      clear E a; intro a E
      refine S_v E rfl (R_sub E rfl rfl) rfl ?_
      clear E a; intro a E
      refine S_x0 (X_store E S rfl rfl (Try.sizeOf3 _) rfl ?_)
      clear E a S; rintro a w E S
      refine WL_nil ?_
      refine T_n ?_
      refine WP_seq ?_
      refine WP_region ?_
      refine S_v E rfl (R_loadM E rfl Try.isAgg3 S.imm (cellM_box hbx2)) rfl ?_
      clear E a; intro a E
      refine S_v E rfl (R_assign E rfl) rfl ?_
      clear E a; intro a E
      refine WL_nil ?_
      refine T_n ?_
      refine WP_ret ?_
      refine T_r ?_
      replace S : St w M1 ((cellI b9 3) (IntKind.i64.wrap (s9 - 1)) :: _) := S
      replace S := S.reSt (C := (cellI b9 3)) (s' := repG x1 s9 x0) (by (first | rfl | (simp_all [repF, repG, w64]; done)))
      exact F_ret1 E Try.results131 rfl ⟨_, rfl, M1, _, (Hp.le.refl _), ⟨(congrArg (Value.int .i64) (show x2 = repF x1 x2 s9 x0 by (first | rfl | (simp_all [repF, repG, w64]; done)))), rfl⟩, S⟩
    · replace hc_2 := of_decide_eq_false hc_2
      refine WP_skip ?_
      refine T_n ?_
      refine WP_seq ?_
      refine WP_region ?_
      refine S_v E rfl (R_move E rfl) rfl ?_
      clear E a; intro a E
      refine S_v E rfl (R_assign E rfl) rfl ?_
      clear E a; intro a E
      refine WL_nil ?_
      refine T_n ?_
      refine WP_ret ?_
      replace S : St w M1 ((cellI b9 3) s9 :: _) := S
      replace S := S.reSt (C := (cellI b9 3)) (s' := repG x1 s9 x0) (by (first | rfl | (simp_all [repF, repG, w64]; done)))
      exact F_ret1 E Try.results131 rfl ⟨_, rfl, M1, _, (Hp.le.refl _), ⟨(congrArg (Value.int .i64) (show x0 = repF x1 x2 s9 x0 by (first | rfl | (simp_all [repF, repG, w64]; done)))), rfl⟩, S⟩
  · replace E := E.val (t := 7) rfl hc_1
    replace E := E.val (t := 8) rfl hc_1
    replace hc_1 := of_decide_eq_false hc_1
    refine WL_guard_no E rfl rfl rfl rfl fun a E => ?_
    refine WL_guard_no E rfl rfl rfl rfl fun a E => ?_
    refine WL_guard_no E rfl rfl rfl rfl fun a E => ?_
    refine S_v E rfl (R_pickF E rfl rfl) rfl ?_
    clear E a; intro a E
    refine WL_nil ?_
    refine T_n ?_
    refine WP_condF E rfl rfl ?_
    refine WP_skip ?_
    refine T_n ?_
    refine WP_seq ?_
    refine WP_region ?_
    refine S_v E rfl (R_move E rfl) rfl ?_
    clear E a; intro a E
    refine S_v E rfl (R_assign E rfl) rfl ?_
    clear E a; intro a E
    refine WL_nil ?_
    refine T_n ?_
    refine WP_ret ?_
    replace S : St w M1 ((cellI b9 3) s9 :: _) := S
    replace S := S.reSt (C := (cellI b9 3)) (s' := repG x1 s9 x0) (by (first | rfl | (simp_all [repF, repG, w64]; done)))
    exact F_ret1 E Try.results131 rfl ⟨_, rfl, M1, _, (Hp.le.refl _), ⟨(congrArg (Value.int .i64) (show x0 = repF x1 x2 s9 x0 by (first | rfl | (simp_all [repF, repG, w64]; done)))), rfl⟩, S⟩

set_option maxRecDepth 100000 in
set_option maxHeartbeats 4000000 in
theorem it_Replace1 {M : Hp} {v0 : Value} {l0 : List Int} (h0 : SeqV Try.prog v0 M (RInt) l0) (hb : l0.length ≤ 1000000000000) {bx1 : Nat} {x1 : Int} (hbx1 : M bx1 = some (.cells #[.int .i64 x1] 3)) {bx3 : Nat} {x3 : Int} (hbx3 : M bx3 = some (.cells #[.int .i64 x3] 3)) {bx4 : Nat} {x4 : Int} (hbx4 : M bx4 = some (.cells #[.int .i64 x4] 3)) {bx2 : Nat} (hbx2 : M bx2 = some (.cells #[v0] 82)) :
    SeqV Try.prog (.func (.func 129) #[] #[.pointer (some ⟨bx1, 0, none⟩), .pointer (some ⟨bx2, 0, none⟩), .pointer (some ⟨bx3, 0, none⟩), .pointer (some ⟨bx4, 0, none⟩)]) M (RInt) (mapS (repF x3 x4) (repG x3) x1 l0) := by
  refine SeqV_enter Try.func129 rfl Try.ntmps129 rfl Try.call129 ?_
  intro y J X a w M1 c H hJM hM1 hY hJ S E
  replace h0 := h0.le hM1
  replace hbx1 := hM1.2 _ _ hbx1
  replace hbx2 := hM1.2 _ _ hbx2
  replace hbx3 := hM1.2 _ _ hbx3
  replace hbx4 := hM1.2 _ _ hbx4
  refine WP_seq ?_
  refine WP_region ?_
  refine S_v E rfl (R_loadM E rfl Try.isAgg3 S.imm (cellM_box hbx1)) rfl ?_
  clear E a; intro a E
  refine S_x (X_alloc (cs := #[.int .i64 0]) E S rfl Try.zeroValue3 rfl ?_)
  clear E a S; rintro a w b_1 E S
  refine S_x0 (X_store E S rfl rfl (Try.sizeOf3 _) rfl ?_)
  clear E a S; rintro a w E S
  refine WL_nil ?_
  refine T_n ?_
  refine WP_region ?_
  refine S_v E rfl (R_loadM E rfl Try.isAgg82 S.imm (cellM_box hbx2)) rfl ?_
  clear E a; intro a E
  refine S_v E rfl (R_makeFunc E rfl rfl) rfl ?_
  clear E a; intro a E
  replace S : St w M1 ((cellI b_1 3) x1 :: _) := S
  refine S_x (X_pu E S rfl rfl rfl (it_Map_st h0 (C1 := (cellI b_1 3)) (f1 := (repF x3 x4)) (g1 := (repG x3)) ⟨rfl, fun s_ zx0 => it_Replace11 (s9 := s_) (b9 := b_1) (x0 := zx0) (x1 := x3) (x2 := x4) hbx3 hbx4⟩ (by (first | omega | (simp; omega) | (simp; done) | (simp_all; omega) | grind))) (Hp.le.refl _) ?_)
  clear E a S; rintro a v_3 w M_2 hM_2 hv_3 S E
  replace h0 := h0.le hM_2
  replace hbx1 := hM_2.2 _ _ hbx1
  replace hbx2 := hM_2.2 _ _ hbx2
  replace hbx3 := hM_2.2 _ _ hbx3
  replace hbx4 := hM_2.2 _ _ hbx4
  replace hJ := hJM _ _ _ _ hM_2 hJ
  refine S_v E rfl (R_move E rfl) rfl ?_
  clear E a; intro a E
  replace S := S.front2
  replace S := S.front1
  refine S_x (X_seqO (xs := mapS (repF x3 x4) (repG x3) x1 l0) E S rfl rfl rfl (show SeqO _ _ _ _ (mapS (repF x3 x4) (repG x3) x1 l0) _ from (show mapS (repF x3 x4) (repG x3) x1 l0 = mapS (repF x3 x4) (repG x3) x1 l0 by rfl) ▸ (hv_3 x1)) (Hp.le.refl _) hJM hY hM_2 hJ ?_)
  clear E a S; rintro a v_6 w M_4 c_5 hM_4 f_7 S E
  replace h0 := h0.le hM_4
  replace hbx1 := hM_4.2 _ _ hbx1
  replace hbx2 := hM_4.2 _ _ hbx2
  replace hbx3 := hM_4.2 _ _ hbx3
  replace hbx4 := hM_4.2 _ _ hbx4
  replace hv_3 := hv_3.le hM_4
  rcases f_7 with f_7 | ⟨z_, hz_, f_7⟩
  · skip
    refine WL_nil ?_
    refine F_nrm ?_
    replace S := S.front1
    exact F_retM0 E S Try.results129 (fun w S => ⟨_, rfl, M_4, _, (hM_2.trans hM_4), .inl f_7, S⟩)
  · skip
    refine WL_nil ?_
    refine F_nrm ?_
    replace S := S.front1
    exact F_retM0 E S Try.results129 (fun w S => ⟨_, rfl, M_4, _, (hM_2.trans hM_4), .inr ⟨z_, (by first | assumption | ((first | (simp; done) | exact List.prefix_refl _ | (rw [pre_take (by assumption)]; exact List.take_prefix _ _) | exact pre_take_lt (by assumption)))), f_7⟩, S⟩)

set_option maxRecDepth 100000 in
set_option maxHeartbeats 4000000 in
theorem it_Replace {M : Hp} {v0 : Value} {l0 : List Int} (h0 : SeqV Try.prog v0 M (RInt) l0){x1 x2 x3 : Int}  (hb : l0.length ≤ 1000000000000) :
    Pu Try.prog (.func (.func 87) #[] #[]) M [v0, .int .i64 x1, .int .i64 x2, .int .i64 x3] (fun r M' => SeqV Try.prog r M' RInt (mapS (repF x1 x2) (repG x1) x3 l0)) := by
  refine Pu_enter Try.func87 rfl Try.ntmps87 rfl Try.call87 ?_
  intro a w M1 H hM1 S E
  replace h0 := h0.le hM1
  refine WP_seq ?_
  refine WP_region ?_
  refine S_x (X_box (cs := #[v0]) E S rfl rfl (cells_one h0.1) ?_)
  clear E a S; rintro a w b_1 E S
  obtain ⟨M_2, hM_2, hb_1, S⟩ := S.freezeB
  replace h0 := h0.le hM_2
  refine S_x (X_box (cs := #[.int .i64 x1]) E S rfl rfl rfl ?_)
  clear E a S; rintro a w b_3 E S
  obtain ⟨M_4, hM_4, hb_3, S⟩ := S.freezeB
  replace h0 := h0.le hM_4
  replace hb_1 := hM_4.2 _ _ hb_1
  refine S_x (X_box (cs := #[.int .i64 x2]) E S rfl rfl rfl ?_)
  clear E a S; rintro a w b_5 E S
  obtain ⟨M_6, hM_6, hb_5, S⟩ := S.freezeB
  replace h0 := h0.le hM_6
  replace hb_1 := hM_6.2 _ _ hb_1
  replace hb_3 := hM_6.2 _ _ hb_3
  refine S_x (X_box (cs := #[.int .i64 x3]) E S rfl rfl rfl ?_)
  clear E a S; rintro a w b_7 E S
  obtain ⟨M_8, hM_8, hb_7, S⟩ := S.freezeB
  replace h0 := h0.le hM_8
  replace hb_1 := hM_8.2 _ _ hb_1
  replace hb_3 := hM_8.2 _ _ hb_3
  replace hb_5 := hM_8.2 _ _ hb_5
  refine S_v E rfl (R_assign E rfl) rfl ?_
  clear E a; intro a E
  refine WL_nil ?_
  refine T_n ?_
  refine WP_seq ?_
  refine WP_region ?_
  refine S_v E rfl (R_makeFunc E rfl rfl) rfl ?_
  clear E a; intro a E
  refine S_v E rfl (R_assign E rfl) rfl ?_
  clear E a; intro a E
  refine WL_nil ?_
  refine T_n ?_
  refine WP_ret ?_
  exact F_ret1 E Try.results87 rfl ⟨_, rfl, M_8, (hM_2.trans (hM_4.trans (hM_6.trans hM_8))), (SeqV_eq (it_Replace1 h0 (by (first | omega | (simp; omega) | (simp; done) | (simp_all; omega) | grind)) hb_7 hb_3 hb_5 hb_1) (by ((try clear S); (try clear E); first | rfl | (simp; done) | (simp_all; done) | grind [List.take_add_one]))), S⟩

set_option maxRecDepth 100000 in
set_option maxHeartbeats 4000000 in
theorem slices_AppendSeq {M : Hp} {v1 : Value} {l1 : List Int} (h1 : SeqV Try.prog v1 M (RInt) l1)(hb : l1.length ≤ 1000000000000) :
    Pu Try.prog (.func (.func 124) #[] #[]) M [.slice none 0 0, v1] (fun r M' => RdI M' r l1) := by
  refine Pu_enter Try.func124 rfl Try.ntmps124 rfl Try.call124 ?_
  intro a w M1 H hM1 S E
  replace h1 := h1.le hM1
  replace S : St w M1 (mks [] :: _) := S.empty
  replace E : Env a 13 (([] : List Nat).map mk) _ := E
  refine WP_seq ?_
  refine WP_region ?_
  refine S_x (X_box (cs := #[.slice none 0 0]) E S rfl rfl rfl ?_)
  clear E a S; rintro a w b_1 E S
  refine S_v E rfl (R_assign E rfl) rfl ?_
  clear E a; intro a E
  refine WL_nil ?_
  refine T_n ?_
  refine WP_seq ?_
  refine WP_seq ?_
  refine WP_region ?_
  refine S_v E rfl (R_move E rfl) rfl ?_
  clear E a; intro a E
  refine WL_nil ?_
  refine T_n ?_
  refine WP_block ?_
  replace S := (S.ownNil (e := 3) (sz := 1)).made0
  replace S := S.front1
  replace E := E.keep (l' := [(2, .pointer (some ⟨b_1, 0, none⟩)), (6, v1)]) ⟨rfl, rfl, trivial⟩
  replace S := S.front1
  replace S := S.re1 (l' := ([] : List Int)) (by ((try clear S); (try clear E); first | assumption | omega | rfl | (simp; done) | (simp_all; done) | (simp [List.take_add_one, *]; done) | grind [List.take_add_one]))
  replace S := S.front1
  have S0 := S; clear S; have S := St.pack [blk b_1 (.cells #[(.slice none 0 0)] 24), OwnI 3 (.slice none 0 0) ([] : List Int)] S0; clear S0
  refine WP_range (RV := RInt) (l := l1) (fun pre M c => ∃ (u2 : Value), c = bigs [blk b_1 (.cells #[u2] 24), OwnI 3 u2 pre]) (fun _ _ _ _ => False) E S rfl h1 (Hp.le.refl _) (fun _ _ _ h => by rw [h]; rfl) (by decide) (by rintro _ M M' c hM ⟨u2, rfl⟩; exact ⟨_, rfl⟩) ⟨_, rfl⟩ ?_ ?_ ?_
  clear E S
  · rintro lb_4 rec_5 pre x _ a w M_3 _ G hM_3 hp_6 rfl ⟨u2, rfl⟩ E S
    replace E : Env a 13 [] [(7, .int .i64 x), (2, .pointer (some ⟨b_1, 0, none⟩)), (6, v1)] := E
    replace S := S.swap.unpack2
    have hq0 := prefix_lt hp_6
    replace h1 := h1.le hM_3
    refine WP_region ?_
    refine S_v E rfl (R_assign E rfl) rfl ?_
    clear E a; intro a E
    refine WL_nil ?_
    refine T_n ?_
    replace S := S.front2
    refine rb S ?_
    clear S; intro w S
    refine WP_block ?_
    refine WP_region ?_
    refine S_v E rfl (R_load E rfl (Try.isAgg24 _) (cell_blk (S.mem (.tail _ (.head _))))) rfl ?_
    clear E a; intro a E
    refine S_v E rfl (R_move E rfl) rfl ?_
    clear E a; intro a E
    refine S_x (X_buildI (ys := [x]) E S rfl T24 rfl rfl rfl ?_)
    clear E a S; rintro a w v_8 E S
    replace S := S.front3
    replace S := S.front1
    refine S_x (X_appendB (xs := pre) (ys := [x]) E S rfl rfl rfl T24 (by first | omega | (simp; done) | (simp; omega) | (simp_all; omega)) ?_)
    clear E a S; rintro a w v_9 E S
    have ho_10 := S.oneI
    replace S := S.front2
    refine S_x0 (X_store E S rfl rfl (Try.sizeOf24 _) ho_10 ?_)
    clear E a S; rintro a w E S
    refine WL_nil ?_
    refine B_n ?_
    replace S := S.front1
    replace S := S.front1
    replace S := S.front1
    replace S := S.front1
    have S0 := S; clear S; have S := (St.pack [blk b_1 (.cells #[v_9] 24), OwnI 3 v_9 (pre ++ [x])] S0).swap; clear S0
    exact ⟨M_3, _, (Hp.le.refl _), ⟨_, rfl⟩, S⟩
  · rintro a w M_11 _ D_12 hM_11 ⟨u2, rfl⟩ S E
    replace S := S.unpack2
    replace h1 := h1.le hM_11
    refine B_n ?_
    refine T_n ?_
    refine WP_seq ?_
    refine WP_region ?_
    refine S_v E rfl (R_load E rfl (Try.isAgg24 _) (cell_blk (S.mem (.head _)))) rfl ?_
    clear E a; intro a E
    refine S_v E rfl (R_assign E rfl) rfl ?_
    clear E a; intro a E
    refine WL_nil ?_
    refine T_n ?_
    refine WP_ret ?_
    replace S := S.front1
    have S0 := S; clear S
    obtain ⟨M_13, hM_13, hz_14, S⟩ := S0.freezeI (by (first | omega | (simp; omega) | (simp; done) | (simp_all; omega) | grind))
    clear S0
    replace h1 := h1.le hM_13
    replace S := S.drop
    exact F_retM1 E S Try.results124 rfl (fun w S => ⟨_, rfl, M_13, (hM_11.trans hM_13), hz_14, S⟩)
  · rintro _ _ _ _ _ _ _ _ _ hX; exact hX.elim

set_option maxRecDepth 100000 in
set_option maxHeartbeats 4000000 in
theorem slices_Collect {M : Hp} {v0 : Value} {l0 : List Int} (h0 : SeqV Try.prog v0 M (RInt) l0)(hb : l0.length ≤ 1000000000000) :
    Pu Try.prog (.func (.func 77) #[] #[]) M [v0] (fun r M' => RdI M' r l0) := by
  refine Pu_enter Try.func77 rfl Try.ntmps77 rfl Try.call77 ?_
  intro a w M1 H hM1 S E
  replace h0 := h0.le hM1
  refine WP_seq ?_
  refine WP_region ?_
  refine S_v E rfl (R_assign E rfl) rfl ?_
  clear E a; intro a E
  refine WL_nil ?_
  refine T_n ?_
  refine WP_seq ?_
  refine WP_region ?_
  refine S_v E rfl (R_move E rfl) rfl ?_
  clear E a; intro a E
  refine S_x (X_pu E S rfl rfl rfl (slices_AppendSeq h0 (by (first | omega | (simp; omega) | (simp; done) | (simp_all; omega) | grind))) (Hp.le.refl _) ?_)
  clear E a S; rintro a v_2 w M_1 hM_1 hv_2 S E
  replace h0 := h0.le hM_1
  refine S_v E rfl (R_assign E rfl) rfl ?_
  clear E a; intro a E
  refine WL_nil ?_
  refine T_n ?_
  refine WP_ret ?_
  exact F_ret1 E Try.results77 rfl ⟨_, rfl, M_1, hM_1, hv_2, S⟩

set_option maxRecDepth 100000 in
set_option maxHeartbeats 4000000 in
theorem impl_ReplaceSeq {M : Hp} {v0 : Value} {l0 : List Int} (h0 : RdI M v0 l0){x1 x2 x3 : Int}  (hb : l0.length ≤ 1000000000000) :
    Pu Try.prog (.func (.func 31) #[] #[]) M [v0, .int .i64 x1, .int .i64 x2, .int .i64 x3] (fun r M' => RdI M' r (mapS (repF x1 x2) (repG x1) x3 l0)) := by
  refine Pu_enter Try.func31 rfl Try.ntmps31 rfl Try.call31 ?_
  intro a w M1 H hM1 S E
  replace h0 := h0.le hM1
  have b0 := h0.bound
  have hms0 := mapS_len (repF x1 x2) (repG x1) l0 x3
  refine WP_seq ?_
  refine WP_region ?_
  refine S_v E rfl (R_assign E rfl) rfl ?_
  clear E a; intro a E
  refine WL_nil ?_
  refine T_n ?_
  refine WP_seq ?_
  refine WP_region ?_
  refine S_v E rfl (R_move E rfl) rfl ?_
  clear E a; intro a E
  refine S_x (X_pu E S rfl rfl rfl (slices_Values h0) (Hp.le.refl _) ?_)
  clear E a S; rintro a v_2 w M_1 hM_1 hv_2 S E
  replace h0 := h0.le hM_1
  refine S_v E rfl (R_move E rfl) rfl ?_
  clear E a; intro a E
  refine S_v E rfl (R_move E rfl) rfl ?_
  clear E a; intro a E
  refine S_v E rfl (R_move E rfl) rfl ?_
  clear E a; intro a E
  refine S_x (X_pu E S rfl rfl rfl (it_Replace hv_2 (by (first | omega | (simp; omega) | (simp; done) | (simp_all; omega) | grind))) (Hp.le.refl _) ?_)
  clear E a S; rintro a v_4 w M_3 hM_3 hv_4 S E
  replace h0 := h0.le hM_3
  replace hv_2 := hv_2.le hM_3
  refine S_x (X_pu E S rfl rfl rfl (slices_Collect hv_4 (by (first | omega | (simp; omega) | (simp; done) | (simp_all; omega) | grind))) (Hp.le.refl _) ?_)
  clear E a S; rintro a v_6 w M_5 hM_5 hv_6 S E
  replace h0 := h0.le hM_5
  replace hv_2 := hv_2.le hM_5
  replace hv_4 := hv_4.le hM_5
  refine S_v E rfl (R_assign E rfl) rfl ?_
  clear E a; intro a E
  refine WL_nil ?_
  refine T_n ?_
  refine WP_ret ?_
  exact F_ret1 E Try.results31 rfl ⟨_, rfl, M_5, (hM_1.trans (hM_3.trans hM_5)), hv_6, S⟩

set_option maxRecDepth 100000 in
set_option maxHeartbeats 4000000 in
theorem lo_ReplaceAll {M : Hp} {v0 : Value} {l0 : List Int} (h0 : RdI M v0 l0){x1 x2 : Int}  (hb : l0.length ≤ 1000000000000) :
    Pu Try.prog (.func (.func 89) #[] #[]) M [v0, .int .i64 x1, .int .i64 x2] (fun r M' => RdI M' r (mapS (repF x1 x2) (repG x1) (-1) l0)) := by
  refine Pu_enter Try.func89 rfl Try.ntmps89 rfl Try.call89 ?_
  intro a w M1 H hM1 S E
  replace h0 := h0.le hM1
  have b0 := h0.bound
  have hms0 := mapS_len (repF x1 x2) (repG x1) l0 (-1)
  refine WP_seq ?_
  refine WP_region ?_
  refine S_v E rfl (R_assign E rfl) rfl ?_
  clear E a; intro a E
  refine WL_nil ?_
  refine T_n ?_
  refine WP_seq ?_
  refine WP_region ?_
  refine S_v E rfl (R_move E rfl) rfl ?_
  clear E a; intro a E
  refine S_v E rfl (R_move E rfl) rfl ?_
  clear E a; intro a E
  refine S_v E rfl (R_move E rfl) rfl ?_
  clear E a; intro a E
  refine S_x (X_pu E S rfl rfl rfl (lo_Replace h0 (by (first | omega | (simp; omega) | (simp; done) | (simp_all; omega) | grind))) (Hp.le.refl _) ?_)
  clear E a S; rintro a v_2 w M_1 hM_1 hv_2 S E
  replace h0 := h0.le hM_1
  refine S_v E rfl (R_assign E rfl) rfl ?_
  clear E a; intro a E
  refine WL_nil ?_
  refine T_n ?_
  refine WP_ret ?_
  exact F_ret1 E Try.results89 rfl ⟨_, rfl, M_1, hM_1, hv_2, S⟩

set_option maxRecDepth 100000 in
set_option maxHeartbeats 4000000 in
theorem impl_ReplaceAll {M : Hp} {v0 : Value} {l0 : List Int} (h0 : RdI M v0 l0){x1 x2 : Int}  (hb : l0.length ≤ 1000000000000) :
    Pu Try.prog (.func (.func 32) #[] #[]) M [v0, .int .i64 x1, .int .i64 x2] (fun r M' => RdI M' r (mapS (repF x1 x2) (repG x1) (-1) l0)) := by
  refine Pu_enter Try.func32 rfl Try.ntmps32 rfl Try.call32 ?_
  intro a w M1 H hM1 S E
  replace h0 := h0.le hM1
  have b0 := h0.bound
  have hms0 := mapS_len (repF x1 x2) (repG x1) l0 (-1)
  refine WP_seq ?_
  refine WP_region ?_
  refine S_v E rfl (R_assign E rfl) rfl ?_
  clear E a; intro a E
  refine WL_nil ?_
  refine T_n ?_
  refine WP_seq ?_
  refine WP_region ?_
  refine S_v E rfl (R_move E rfl) rfl ?_
  clear E a; intro a E
  refine S_v E rfl (R_move E rfl) rfl ?_
  clear E a; intro a E
  refine S_v E rfl (R_move E rfl) rfl ?_
  clear E a; intro a E
  refine S_x (X_pu E S rfl rfl rfl (lo_ReplaceAll h0 (by (first | omega | (simp; omega) | (simp; done) | (simp_all; omega) | grind))) (Hp.le.refl _) ?_)
  clear E a S; rintro a v_2 w M_1 hM_1 hv_2 S E
  replace h0 := h0.le hM_1
  refine S_v E rfl (R_assign E rfl) rfl ?_
  clear E a; intro a E
  refine WL_nil ?_
  refine T_n ?_
  refine WP_ret ?_
  exact F_ret1 E Try.results32 rfl ⟨_, rfl, M_1, hM_1, hv_2, S⟩

set_option maxRecDepth 100000 in
set_option maxHeartbeats 4000000 in
theorem it_ReplaceAll {M : Hp} {v0 : Value} {l0 : List Int} (h0 : SeqV Try.prog v0 M (RInt) l0){x1 x2 : Int}  (hb : l0.length ≤ 1000000000000) :
    Pu Try.prog (.func (.func 90) #[] #[]) M [v0, .int .i64 x1, .int .i64 x2] (fun r M' => SeqV Try.prog r M' RInt (mapS (repF x1 x2) (repG x1) (-1) l0)) := by
  refine Pu_enter Try.func90 rfl Try.ntmps90 rfl Try.call90 ?_
  intro a w M1 H hM1 S E
  replace h0 := h0.le hM1
  refine WP_seq ?_
  refine WP_region ?_
  refine S_v E rfl (R_assign E rfl) rfl ?_
  clear E a; intro a E
  refine WL_nil ?_
  refine T_n ?_
  refine WP_seq ?_
  refine WP_region ?_
  refine S_v E rfl (R_move E rfl) rfl ?_
  clear E a; intro a E
  refine S_v E rfl (R_move E rfl) rfl ?_
  clear E a; intro a E
  refine S_v E rfl (R_move E rfl) rfl ?_
  clear E a; intro a E
  refine S_x (X_pu E S rfl rfl rfl (it_Replace h0 (by (first | omega | (simp; omega) | (simp; done) | (simp_all; omega) | grind))) (Hp.le.refl _) ?_)
  clear E a S; rintro a v_2 w M_1 hM_1 hv_2 S E
  replace h0 := h0.le hM_1
  refine S_v E rfl (R_assign E rfl) rfl ?_
  clear E a; intro a E
  refine WL_nil ?_
  refine T_n ?_
  refine WP_ret ?_
  exact F_ret1 E Try.results90 rfl ⟨_, rfl, M_1, hM_1, hv_2, S⟩

set_option maxRecDepth 100000 in
set_option maxHeartbeats 4000000 in
theorem impl_ReplaceAllSeq {M : Hp} {v0 : Value} {l0 : List Int} (h0 : RdI M v0 l0){x1 x2 : Int}  (hb : l0.length ≤ 1000000000000) :
    Pu Try.prog (.func (.func 33) #[] #[]) M [v0, .int .i64 x1, .int .i64 x2] (fun r M' => RdI M' r (mapS (repF x1 x2) (repG x1) (-1) l0)) := by
  refine Pu_enter Try.func33 rfl Try.ntmps33 rfl Try.call33 ?_
  intro a w M1 H hM1 S E
  replace h0 := h0.le hM1
  have b0 := h0.bound
  have hms0 := mapS_len (repF x1 x2) (repG x1) l0 (-1)
  refine WP_seq ?_
  refine WP_region ?_
  refine S_v E rfl (R_assign E rfl) rfl ?_
  clear E a; intro a E
  refine WL_nil ?_
  refine T_n ?_
  refine WP_seq ?_
  refine WP_region ?_
  refine S_v E rfl (R_move E rfl) rfl ?_
  clear E a; intro a E
  refine S_x (X_pu E S rfl rfl rfl (slices_Values h0) (Hp.le.refl _) ?_)
  clear E a S; rintro a v_2 w M_1 hM_1 hv_2 S E
  replace h0 := h0.le hM_1
  refine S_v E rfl (R_move E rfl) rfl ?_
  clear E a; intro a E
  refine S_v E rfl (R_move E rfl) rfl ?_
  clear E a; intro a E
  refine S_x (X_pu E S rfl rfl rfl (it_ReplaceAll hv_2 (by (first | omega | (simp; omega) | (simp; done) | (simp_all; omega) | grind))) (Hp.le.refl _) ?_)
  clear E a S; rintro a v_4 w M_3 hM_3 hv_4 S E
  replace h0 := h0.le hM_3
  replace hv_2 := hv_2.le hM_3
  refine S_x (X_pu E S rfl rfl rfl (slices_Collect hv_4 (by (first | omega | (simp; omega) | (simp; done) | (simp_all; omega) | grind))) (Hp.le.refl _) ?_)
  clear E a S; rintro a v_6 w M_5 hM_5 hv_6 S E
  replace h0 := h0.le hM_5
  replace hv_2 := hv_2.le hM_5
  replace hv_4 := hv_4.le hM_5
  refine S_v E rfl (R_assign E rfl) rfl ?_
  clear E a; intro a E
  refine WL_nil ?_
  refine T_n ?_
  refine WP_ret ?_
  exact F_ret1 E Try.results33 rfl ⟨_, rfl, M_5, (hM_1.trans (hM_3.trans hM_5)), hv_6, S⟩

set_option maxRecDepth 100000 in
set_option maxHeartbeats 4000000 in
theorem lo_Count {M : Hp} {v0 : Value} {l0 : List Int} (h0 : RdI M v0 l0){x1 : Int} :
    Pu Try.prog (.func (.func 91) #[] #[]) M [v0, .int .i64 x1] (fun r M' => r = .int .i64 (((l0).count x1 : Nat) : Int)) := by
  refine Pu_enter Try.func91 rfl Try.ntmps91 rfl Try.call91 ?_
  intro a w M1 H hM1 S E
  replace h0 := h0.le hM1
  have b0 := h0.bound
  have c0 := List.count_le_length (a := x1) (l := l0)
  refine WP_seq ?_
  refine WP_region ?_
  refine S_v E rfl (R_assign E rfl) rfl ?_
  clear E a; intro a E
  refine WL_nil ?_
  refine T_n ?_
  refine WP_seq ?_
  refine WP_region ?_
  refine S_v E rfl (R_assign E rfl) rfl ?_
  clear E a; intro a E
  refine WL_nil ?_
  refine T_n ?_
  refine WP_seq ?_
  refine WP_seq ?_
  refine WP_region ?_
  refine S_v E rfl (R_move E rfl) rfl ?_
  clear E a; intro a E
  refine S_v E rfl (R_lenV E rfl T24 h0.len) rfl ?_
  clear E a; intro a E
  refine S_v E rfl (R_move E rfl) rfl ?_
  clear E a; intro a E
  refine WL_nil ?_
  refine T_n ?_
  refine WP_block ?_
  refine WP_loop (γ := Nat) (fun (k : Nat) a w => ∃ (M_1 : Hp), Hp.le M1 M_1 ∧ St w M_1 (H) ∧ Env a 22 [] [(0, v0), (1, .int .i64 x1), (5, .int .i64 (((l0.take k).count x1 : Nat) : Int)), (8, .int .i64 (((l0).length : Nat) : Int)), (9, .int .i64 ((k : Nat) : Int))] ∧ (k ≤ (l0).length)) (fun k => ((l0).length) - k) 0 ⟨M1, Hp.le.refl _, S, E.keep ⟨rfl, rfl, look_nat (i := 0) rfl (by (simp)), rfl, rfl, trivial⟩, by ((try clear S); (try clear E); first | assumption | omega | rfl | (simp; done) | (simp_all; done) | (simp [List.take_add_one, *]; done) | grind [List.take_add_one])⟩ ?_
  try clear E
  try clear S
  try clear a
  try clear w
  rintro k a w ⟨M_1, hM_1, S, E, hL0_0⟩
  replace h0 := h0.le hM_1
  have ck := List.count_le_length (a := x1) (l := l0.take k); simp only [List.length_take] at ck
  refine WP_seq ?_
  refine WP_region ?_
  refine S_v E rfl (R_lss E rfl rfl) rfl ?_
  clear E a; intro a E
  refine WL_nil ?_
  refine T_n ?_
  refine WP_seq ?_
  refine WP_cond E rfl (fun hc_2 => ?_) (fun hc_2 => ?_)
  · replace hc_2 := of_decide_eq_true hc_2
    refine WP_skip ?_
    refine T_n ?_
    refine WP_seq ?_
    refine WP_block ?_
    refine WP_seq ?_
    refine WP_region ?_
    refine S_v E rfl (R_move E rfl) rfl ?_
    clear E a; intro a E
    refine S_v E rfl (R_assign E rfl) rfl ?_
    clear E a; intro a E
    refine WL_nil ?_
    refine T_n ?_
    refine WP_seq ?_
    refine WP_region ?_
    refine S_v E rfl (R_move E rfl) rfl ?_
    clear E a; intro a E
    refine S_v E rfl (R_move E rfl) rfl ?_
    clear E a; intro a E
    obtain ⟨x_3, hx_3⟩ : ∃ x, (l0)[k]? = some x := ⟨_, List.getElem?_eq_getElem (by first | omega | (simp; done) | (simp; omega) | (simp_all; omega))⟩
    obtain ⟨p_4, hp_4, qp_4⟩ := h0.at hx_3
    refine S_v E rfl (R_idx E rfl rfl T24 hp_4 rfl) rfl ?_
    clear E a; intro a E
    refine S_v E rfl (R_loadM E rfl Try.isAgg3 S.imm qp_4) rfl ?_
    clear E a; intro a E
    refine S_v E rfl (R_move E rfl) rfl ?_
    clear E a; intro a E
    refine S_v E rfl (R_eql E rfl rfl) rfl ?_
    clear E a; intro a E
    refine WL_nil ?_
    refine T_n ?_
    refine WP_cond E rfl (fun hc_5 => ?_) (fun hc_5 => ?_)
    · replace hc_5 := of_decide_eq_true hc_5
      refine WP_region ?_
      refine S_v E rfl (R_move E rfl) rfl ?_
      clear E a; intro a E
      refine S_v E rfl (R_addx (m := (((l0.take k).count x1 + 1 : Nat) : Int)) E rfl rfl (by omega) (by omega)) rfl ?_
      clear E a; intro a E
      refine S_v E rfl (R_assign E rfl) rfl ?_
      clear E a; intro a E
      refine WL_nil ?_
      refine B_n ?_
      refine T_n ?_
      refine WP_region ?_
      refine S_v E rfl (R_addx (m := ((k + 1 : Nat) : Int)) E rfl rfl (by omega) (by omega)) rfl ?_
      clear E a; intro a E
      refine S_v E rfl (R_move E rfl) rfl ?_
      clear E a; intro a E
      refine WL_nil ?_
      refine T_n ?_
      exact ⟨k + 1, ⟨M_1, hM_1, S, E.keep ⟨rfl, rfl, look_nat (i := (l0.take k).count x1 + 1) rfl (by (rw [List.take_add_one, show l0[k]? = some _ by assumption, List.count_append]; simp_all)), rfl, rfl, trivial⟩, by ((try clear S); (try clear E); first | assumption | omega | rfl | (simp; done) | (simp_all; done) | (simp [List.take_add_one, *]; done) | grind [List.take_add_one])⟩, by omega⟩
    · replace hc_5 := of_decide_eq_false hc_5
      refine WP_skip ?_
      refine B_n ?_
      refine T_n ?_
      refine WP_region ?_
      refine S_v E rfl (R_addx (m := ((k + 1 : Nat) : Int)) E rfl rfl (by omega) (by omega)) rfl ?_
      clear E a; intro a E
      refine S_v E rfl (R_move E rfl) rfl ?_
      clear E a; intro a E
      refine WL_nil ?_
      refine T_n ?_
      exact ⟨k + 1, ⟨M_1, hM_1, S, E.keep ⟨rfl, rfl, look_nat (i := (l0.take k).count x1) rfl (by (rw [List.take_add_one, show l0[k]? = some _ by assumption, List.count_append]; simp_all)), rfl, rfl, trivial⟩, by ((try clear S); (try clear E); first | assumption | omega | rfl | (simp; done) | (simp_all; done) | (simp [List.take_add_one, *]; done) | grind [List.take_add_one])⟩, by omega⟩
  · replace hc_2 := of_decide_eq_false hc_2
    refine WP_exit ?_
    refine T_x ?_
    refine T_x ?_
    refine B_x ?_
    refine T_n ?_
    refine WP_seq ?_
    refine WP_region ?_
    refine S_v E rfl (R_move E rfl) rfl ?_
    clear E a; intro a E
    refine S_v E rfl (R_assign E rfl) rfl ?_
    clear E a; intro a E
    refine WL_nil ?_
    refine T_n ?_
    refine WP_ret ?_
    exact F_ret1 E Try.results91 rfl ⟨_, rfl, M_1, hM_1, (congrArg (Value.int .i64) (by (rw [List.take_of_length_le (by omega)]))), S⟩

set_option maxRecDepth 100000 in
set_option maxHeartbeats 4000000 in
theorem impl_Count {M : Hp} {v0 : Value} {l0 : List Int} (h0 : RdI M v0 l0){x1 : Int} :
    Pu Try.prog (.func (.func 34) #[] #[]) M [v0, .int .i64 x1] (fun r M' => r = .int .i64 (((l0).count x1 : Nat) : Int)) := by
  refine Pu_enter Try.func34 rfl Try.ntmps34 rfl Try.call34 ?_
  intro a w M1 H hM1 S E
  replace h0 := h0.le hM1
  have b0 := h0.bound
  refine WP_seq ?_
  refine WP_region ?_
  refine S_v E rfl (R_assign E rfl) rfl ?_
  clear E a; intro a E
  refine WL_nil ?_
  refine T_n ?_
  refine WP_seq ?_
  refine WP_region ?_
  refine S_v E rfl (R_move E rfl) rfl ?_
  clear E a; intro a E
  refine S_v E rfl (R_move E rfl) rfl ?_
  clear E a; intro a E
  refine S_x (X_pu E S rfl rfl rfl (lo_Count h0) (Hp.le.refl _) ?_)
  clear E a S; rintro a _ w M_1 hM_1 rfl S E
  replace h0 := h0.le hM_1
  refine S_v E rfl (R_assign E rfl) rfl ?_
  clear E a; intro a E
  refine WL_nil ?_
  refine T_n ?_
  refine WP_ret ?_
  exact F_ret1 E Try.results34 rfl ⟨_, rfl, M_1, hM_1, rfl, S⟩

set_option maxRecDepth 100000 in
set_option maxHeartbeats 4000000 in
theorem laws_FnReplaced {M : Hp} {v0 : Value} {l0 : List Int} (h0 : RdI M v0 l0){x1 x2 x3 : Int} (g3 : -128 ≤ x3 ∧ x3 ≤ 127) :
    PuC Try.prog 5 M [v0, .int .i64 x1, .int .i64 x2, .int .i8 x3] (fun r M' => r = .bool true) := by
  refine PuC_enter Try.func5 rfl Try.ntmps5 rfl ?_
  intro a w M1 H hM1 S E
  replace h0 := h0.le hM1
  have b0 := h0.bound
  refine WP_seq ?_
  refine WP_region ?_
  refine S_v E rfl (R_assign E rfl) rfl ?_
  clear E a; intro a E
  refine WL_nil ?_
  refine T_n ?_
  refine WP_seq ?_
  refine WP_seq ?_
  refine WP_region ?_
  refine S_v E rfl (R_move E rfl) rfl ?_
  clear E a; intro a E
  refine S_v E rfl (R_lenV E rfl T24 h0.len) rfl ?_
  clear E a; intro a E
  refine S_v E rfl (R_gtr E rfl rfl) rfl ?_
  clear E a; intro a E
  refine WL_nil ?_
  refine T_n ?_
  refine WP_cond E rfl (fun hc_1 => ?_) (fun hc_1 => ?_)
  · replace hc_1 := of_decide_eq_true hc_1
    refine WP_seq ?_
    refine WP_region ?_
    refine S_v E rfl (R_assign E rfl) rfl ?_
    clear E a; intro a E
    refine WL_nil ?_
    refine T_n ?_
    refine WP_ret ?_
    refine T_r ?_
    exact F_ret1 E Try.results5 rfl ⟨_, rfl, M1, (Hp.le.refl _), rfl, S⟩
  · replace hc_1 := of_decide_eq_false hc_1
    refine WP_skip ?_
    refine T_n ?_
    refine WP_seq ?_
    refine WP_seq ?_
    refine WP_region ?_
    refine S_x (X_buildI (ys := [1]) E S rfl T24 rfl rfl rfl ?_)
    clear E a S; rintro a w v_2 E S
    have S0 := S; clear S
    obtain ⟨M_3, hM_3, hz_4, S⟩ := S0.freezeI (by (first | omega | (simp [mapS_len]; done) | (simp [mapS_len]; omega)))
    clear S0
    replace h0 := h0.le hM_3
    refine S_x (X_pu E S rfl rfl rfl (impl_Replace hz_4 (by (first | omega | (simp; omega) | (simp; done) | (simp_all; omega) | grind))) (Hp.le.refl _) ?_)
    clear E a S; rintro a v_6 w M_5 hM_5 hv_6 S E
    replace h0 := h0.le hM_5
    replace hz_4 := hz_4.le hM_5
    refine S_v E rfl (R_lenV E rfl T24 hv_6.len) rfl ?_
    clear E a; intro a E
    refine S_v E rfl (R_neq E rfl rfl) rfl ?_
    clear E a; intro a E
    refine WL_nil ?_
    refine T_n ?_
    have hc_7 : (decide ((((mapS (repF 1 2) (repG 1) 1 [1]).length : Nat) : Int) ≠ 1)) = false := by (first | (simp; done) | decide | (clear S E; simp [List.take_of_length_le (show l0.length ≤ k by omega)]; done) | (clear S E; rw [rep_neg _ _ _ _ (by omega) (by omega), List.take_of_length_le (show l0.length ≤ k by omega)]; simp; done) | (clear S E; rw [rep_cnt _ _ _ (by omega), List.take_of_length_le (show l0.length ≤ k by omega)]; simp; done))
    refine WP_condF E rfl hc_7 ?_
    refine WP_skip ?_
    refine T_n ?_
    refine WP_seq ?_
    refine WP_seq ?_
    refine WP_region ?_
    refine S_v E rfl (R_move E rfl) rfl ?_
    clear E a; intro a E
    refine S_x (X_buildM (R := RSl 1 RInt) (vs := [v0]) (xs := [l0]) (RSl_mono RInt_mono) E S rfl T22 rfl rfl rfl (by intro u hu; simp only [List.mem_cons, List.not_mem_nil, or_false] at hu; rcases hu with rfl <;> first | exact RdI.one h0 | rfl) rfl (rowsC (R := RSl 1 RInt) (RdI.row h0) rowsN) ?_)
    clear E a S; rintro a v_8 w M_9 hM_9 hv_8 S E
    replace hv_8 : RdII M_9 v_8 [l0] := hv_8
    replace h0 := h0.le hM_9
    replace hz_4 := hz_4.le hM_9
    replace hv_6 := hv_6.le hM_9
    refine S_x (X_pu E S rfl rfl rfl (laws_few hv_8) (Hp.le.refl _) ?_)
    clear E a S; rintro a _ w M_10 hM_10 rfl S E
    replace h0 := h0.le hM_10
    replace hz_4 := hz_4.le hM_10
    replace hv_6 := hv_6.le hM_10
    replace hv_8 := hv_8.le hM_10
    refine S_v E rfl (R_not E rfl) rfl ?_
    clear E a; intro a E
    refine WL_nil ?_
    refine T_n ?_
    refine WP_cond E rfl (fun hc_11 => ?_) (fun hc_11 => ?_)
    · refine WP_seq ?_
      refine WP_region ?_
      refine S_v E rfl (R_assign E rfl) rfl ?_
      clear E a; intro a E
      refine WL_nil ?_
      refine T_n ?_
      refine WP_ret ?_
      refine T_r ?_
      exact F_ret1 E Try.results5 rfl ⟨_, rfl, M_10, (hM_3.trans (hM_5.trans (hM_9.trans hM_10))), rfl, S⟩
    · have hle : l0.length ≤ 300 := (by simp_all)
      refine WP_skip ?_
      refine T_n ?_
      refine WP_seq ?_
      refine WP_region ?_
      refine S_v E rfl (R_assign E rfl) rfl ?_
      clear E a; intro a E
      refine S_v E rfl (R_assign E rfl) rfl ?_
      clear E a; intro a E
      refine WL_nil ?_
      refine T_n ?_
      refine WP_seq ?_
      refine WP_region ?_
      refine S_v E rfl (R_move E rfl) rfl ?_
      clear E a; intro a E
      refine S_v E rfl (R_convx E rfl Try.underlying36 Try.underlying3 (by omega)) rfl ?_
      clear E a; intro a E
      refine S_v E rfl (R_assign E rfl) rfl ?_
      clear E a; intro a E
      refine WL_nil ?_
      refine T_n ?_
      refine WP_seq ?_
      refine WP_seq ?_
      refine WP_region ?_
      refine S_v E rfl (R_move E rfl) rfl ?_
      clear E a; intro a E
      refine S_v E rfl (R_lenV E rfl T24 h0.len) rfl ?_
      clear E a; intro a E
      refine S_v E rfl (R_move E rfl) rfl ?_
      clear E a; intro a E
      refine WL_nil ?_
      refine T_n ?_
      refine WP_block ?_
      replace S := (S.ownNil (e := 3) (sz := 1)).made0
      replace S := (S.ownNil (e := 3) (sz := 1)).made0
      replace S := S.front1
      replace S := S.re1 (l' := (l0.take 0).map (repOne x1 x2)) (by first | rfl | (simp [mapS, endS]; done) | exact rp_yes (by omega) (by assumption) (by assumption) (by assumption) | exact rp_no (by omega) (by assumption) (by first | (left; first | assumption | omega) | (right; first | assumption | omega)) | exact rf_yes (by assumption) (by assumption) (by assumption) | exact rf_no (by assumption) (by first | (left; first | assumption | omega) | (right; first | assumption | omega)) | exact ra_yes (by assumption) (by assumption) | exact ra_no (by assumption) (by assumption))
      replace S := S.front1
      replace S := S.re1 (l' := mapS (repF x1 x2) (repG x1) x3 (l0.take 0)) (by first | rfl | (simp [mapS, endS]; done) | exact rp_yes (by omega) (by assumption) (by assumption) (by assumption) | exact rp_no (by omega) (by assumption) (by first | (left; first | assumption | omega) | (right; first | assumption | omega)) | exact rf_yes (by assumption) (by assumption) (by assumption) | exact rf_no (by assumption) (by first | (left; first | assumption | omega) | (right; first | assumption | omega)) | exact ra_yes (by assumption) (by assumption) | exact ra_no (by assumption) (by assumption))
      refine WP_loop (γ := Nat) (fun (k : Nat) a w => ∃ (M_14 : Hp) (u9 : Value) (u10 : Value), Hp.le M_10 M_14 ∧ St w M_14 (OwnI 3 u9 (mapS (repF x1 x2) (repG x1) x3 (l0.take k)) :: OwnI 3 u10 ((l0.take k).map (repOne x1 x2)) :: H) ∧ Env a 129 [] [(0, v0), (1, .int .i64 x1), (2, .int .i64 x2), (3, .int .i8 x3), (9, u9), (10, u10), (11, .int .i64 (endS (repG x1) x3 (l0.take k))), (28, v0), (29, .int .i64 (((l0).length : Nat) : Int)), (30, .int .i64 ((k : Nat) : Int))] ∧ (k ≤ (l0).length)) (fun k => ((l0).length) - k) 0 ⟨M_10, _, _, Hp.le.refl _, S, E.keep ⟨rfl, rfl, rfl, rfl, rfl, rfl, look_int (i := x3) rfl (by (simp [endS])), rfl, rfl, rfl, trivial⟩, by ((try clear S); (try clear E); first | assumption | omega | rfl | (simp; done) | (simp_all; done) | (simp [List.take_add_one, *]; done) | grind [List.take_add_one])⟩ ?_
      try clear E
      try clear S
      try clear a
      try clear w
      rintro k a w ⟨M_14, u9, u10, hM_14, S, E, hL0_0⟩
      replace h0 := h0.le hM_14
      replace hz_4 := hz_4.le hM_14
      replace hv_6 := hv_6.le hM_14
      replace hv_8 := hv_8.le hM_14
      have hms := mapS_len (repF x1 x2) (repG x1) (l0.take k) x3; simp only [List.length_take] at hms
      refine WP_seq ?_
      refine WP_region ?_
      refine S_v E rfl (R_lss E rfl rfl) rfl ?_
      clear E a; intro a E
      refine WL_nil ?_
      refine T_n ?_
      refine WP_seq ?_
      refine WP_cond E rfl (fun hc_15 => ?_) (fun hc_15 => ?_)
      · replace hc_15 := of_decide_eq_true hc_15
        refine WP_skip ?_
        refine T_n ?_
        refine WP_seq ?_
        refine WP_block ?_
        refine WP_seq ?_
        refine WP_region ?_
        obtain ⟨x_16, hx_16⟩ : ∃ x, (l0)[k]? = some x := ⟨_, List.getElem?_eq_getElem (by first | omega | (simp; done) | (simp; omega) | (simp_all; omega))⟩
        obtain ⟨p_17, hp_17, qp_17⟩ := h0.at hx_16
        refine S_v E rfl (R_idx E rfl rfl T24 hp_17 rfl) rfl ?_
        clear E a; intro a E
        refine S_v E rfl (R_loadM E rfl Try.isAgg3 S.imm qp_17) rfl ?_
        clear E a; intro a E
        refine S_v E rfl (R_assign E rfl) rfl ?_
        clear E a; intro a E
        refine WL_nil ?_
        refine T_n ?_
        refine WP_seq ?_
        refine WP_region ?_
        refine S_v E rfl (R_move E rfl) rfl ?_
        clear E a; intro a E
        refine S_v E rfl (R_assign E rfl) rfl ?_
        clear E a; intro a E
        refine WL_nil ?_
        refine T_n ?_
        refine WP_seq ?_
        refine WP_seq ?_
        refine WP_region ?_
        refine S_v E rfl (R_move E rfl) rfl ?_
        clear E a; intro a E
        refine S_v E rfl (R_move E rfl) rfl ?_
        clear E a; intro a E
        refine S_v E rfl (R_eql E rfl rfl) rfl ?_
        clear E a; intro a E
        refine S_v E rfl (R_move E rfl) rfl ?_
        clear E a; intro a E
        refine split_bool (decide (x_16 = x1)) (fun hc_18 => ?_) (fun hc_18 => ?_)
        · replace E := E.val (t := 37) rfl hc_18
          replace E := E.val (t := 38) rfl hc_18
          replace hc_18 := of_decide_eq_true hc_18
          refine WL_guard_yes E rfl rfl ?_
          refine S_v E rfl (R_move E rfl) rfl ?_
          clear E a; intro a E
          refine WL_guard_yes E rfl rfl ?_
          refine S_v E rfl (R_neq E rfl rfl) rfl ?_
          clear E a; intro a E
          refine S_v E rfl (R_pickT E rfl rfl) rfl ?_
          clear E a; intro a E
          refine WL_nil ?_
          refine T_n ?_
          refine WP_cond E rfl (fun hc_19 => ?_) (fun hc_19 => ?_)
          · replace hc_19 := of_decide_eq_true hc_19
            refine WP_seq ?_
            refine WP_region ?_
            refine S_v E rfl (R_move E rfl) rfl ?_
            clear E a; intro a E
            refine S_v E rfl (R_assign E rfl) rfl ?_
            clear E a; intro a E
            refine WL_nil ?_
            refine T_n ?_
            refine WP_region ?_
            refine S_v E rfl (R_move E rfl) rfl ?_
            clear E a; intro a E
            refine S_v E rfl (R_sub E rfl rfl) rfl ?_
            clear E a; intro a E
            refine S_v E rfl (R_assign E rfl) rfl ?_
            clear E a; intro a E
            refine WL_nil ?_
            refine T_n ?_
            refine WP_seq ?_
            refine WP_region ?_
            refine S_v E rfl (R_move E rfl) rfl ?_
            clear E a; intro a E
            refine S_v E rfl (R_move E rfl) rfl ?_
            clear E a; intro a E
            refine S_x (X_buildI (ys := [x2]) E S rfl T24 rfl rfl rfl ?_)
            clear E a S; rintro a w v_20 E S
            replace S := S.front1
            replace S := S.front1
            refine S_x (X_appendB (xs := mapS (repF x1 x2) (repG x1) x3 (l0.take k)) (ys := [x2]) E S rfl rfl rfl T24 (by (first | (simp [mapS_len]; done) | (simp [mapS_len]; omega))) ?_)
            clear E a S; rintro a w v_21 E S
            refine S_v E rfl (R_assign E rfl) rfl ?_
            clear E a; intro a E
            refine WL_nil ?_
            refine T_n ?_
            refine WP_seq ?_
            refine WP_seq ?_
            refine WP_region ?_
            refine S_v E rfl (R_move E rfl) rfl ?_
            clear E a; intro a E
            refine S_v E rfl (R_move E rfl) rfl ?_
            clear E a; intro a E
            refine S_v E rfl (R_eql E rfl rfl) rfl ?_
            clear E a; intro a E
            refine WL_nil ?_
            refine T_n ?_
            refine WP_cond E rfl (fun hc_22 => ?_) (fun hc_22 => ?_)
            · replace hc_22 := of_decide_eq_true hc_22
              refine WP_region ?_
              refine S_v E rfl (R_move E rfl) rfl ?_
              clear E a; intro a E
              refine S_v E rfl (R_assign E rfl) rfl ?_
              clear E a; intro a E
              refine WL_nil ?_
              refine T_n ?_
              refine WP_region ?_
              refine S_v E rfl (R_move E rfl) rfl ?_
              clear E a; intro a E
              refine S_v E rfl (R_move E rfl) rfl ?_
              clear E a; intro a E
              refine S_x (X_buildI (ys := [x2]) E S rfl T24 rfl rfl rfl ?_)
              clear E a S; rintro a w v_23 E S
              replace S := S.front2
              replace S := S.front1
              refine S_x (X_appendB (xs := (l0.take k).map (repOne x1 x2)) (ys := [x2]) E S rfl rfl rfl T24 (by (first | (simp [mapS_len]; done) | (simp [mapS_len]; omega))) ?_)
              clear E a S; rintro a w v_24 E S
              refine S_v E rfl (R_assign E rfl) rfl ?_
              clear E a; intro a E
              refine WL_nil ?_
              refine B_n ?_
              refine T_n ?_
              refine WP_region ?_
              refine S_v E rfl (R_addx (m := ((k + 1 : Nat) : Int)) E rfl rfl (by omega) (by omega)) rfl ?_
              clear E a; intro a E
              refine S_v E rfl (R_move E rfl) rfl ?_
              clear E a; intro a E
              refine WL_nil ?_
              refine T_n ?_
              replace S := S.front1
              replace S := S.front1
              replace S := S.re1 (l' := (l0.take (k + 1)).map (repOne x1 x2)) (by first | rfl | (simp [mapS, endS]; done) | exact rp_yes (by omega) (by assumption) (by assumption) (by assumption) | exact rp_no (by omega) (by assumption) (by first | (left; first | assumption | omega) | (right; first | assumption | omega)) | exact rf_yes (by assumption) (by assumption) (by assumption) | exact rf_no (by assumption) (by first | (left; first | assumption | omega) | (right; first | assumption | omega)) | exact ra_yes (by assumption) (by assumption) | exact ra_no (by assumption) (by assumption))
              replace S := S.front1
              replace S := S.re1 (l' := mapS (repF x1 x2) (repG x1) x3 (l0.take (k + 1))) (by first | rfl | (simp [mapS, endS]; done) | exact rp_yes (by omega) (by assumption) (by assumption) (by assumption) | exact rp_no (by omega) (by assumption) (by first | (left; first | assumption | omega) | (right; first | assumption | omega)) | exact rf_yes (by assumption) (by assumption) (by assumption) | exact rf_no (by assumption) (by first | (left; first | assumption | omega) | (right; first | assumption | omega)) | exact ra_yes (by assumption) (by assumption) | exact ra_no (by assumption) (by assumption))
              exact ⟨k + 1, ⟨M_14, _, _, hM_14, S, E.keep ⟨rfl, rfl, rfl, rfl, rfl, rfl, look_int (i := IntKind.i64.wrap (endS (repG x1) x3 (l0.take k) - 1)) rfl (by (first | rfl | (simp [endS]; done) | exact rg_yes (by assumption) (by assumption) (by assumption) | exact rg_no (by assumption) (by first | (left; first | assumption | omega) | (right; first | assumption | omega)) | exact rg_yes (rp_get (by omega) (by assumption)) (by assumption) (by assumption) | exact rg_no (rp_get (by omega) (by assumption)) (by first | (left; first | assumption | omega) | (right; first | assumption | omega)))), rfl, rfl, rfl, trivial⟩, by ((try clear S); (try clear E); first | assumption | omega | rfl | (simp; done) | (simp_all; done) | (simp [List.take_add_one, *]; done) | grind [List.take_add_one])⟩, by omega⟩
            · replace hc_22 := of_decide_eq_false hc_22
              refine WP_skip ?_
              refine T_n ?_
              refine WP_region ?_
              refine S_v E rfl (R_move E rfl) rfl ?_
              clear E a; intro a E
              refine S_v E rfl (R_move E rfl) rfl ?_
              clear E a; intro a E
              refine S_x (X_buildI (ys := [x_16]) E S rfl T24 rfl rfl rfl ?_)
              clear E a S; rintro a w v_25 E S
              replace S := S.front2
              replace S := S.front1
              refine S_x (X_appendB (xs := (l0.take k).map (repOne x1 x2)) (ys := [x_16]) E S rfl rfl rfl T24 (by (first | (simp [mapS_len]; done) | (simp [mapS_len]; omega))) ?_)
              clear E a S; rintro a w v_26 E S
              refine S_v E rfl (R_assign E rfl) rfl ?_
              clear E a; intro a E
              refine WL_nil ?_
              refine B_n ?_
              refine T_n ?_
              refine WP_region ?_
              refine S_v E rfl (R_addx (m := ((k + 1 : Nat) : Int)) E rfl rfl (by omega) (by omega)) rfl ?_
              clear E a; intro a E
              refine S_v E rfl (R_move E rfl) rfl ?_
              clear E a; intro a E
              refine WL_nil ?_
              refine T_n ?_
              replace S := S.front1
              replace S := S.front1
              replace S := S.re1 (l' := (l0.take (k + 1)).map (repOne x1 x2)) (by first | rfl | (simp [mapS, endS]; done) | exact rp_yes (by omega) (by assumption) (by assumption) (by assumption) | exact rp_no (by omega) (by assumption) (by first | (left; first | assumption | omega) | (right; first | assumption | omega)) | exact rf_yes (by assumption) (by assumption) (by assumption) | exact rf_no (by assumption) (by first | (left; first | assumption | omega) | (right; first | assumption | omega)) | exact ra_yes (by assumption) (by assumption) | exact ra_no (by assumption) (by assumption))
              replace S := S.front1
              replace S := S.re1 (l' := mapS (repF x1 x2) (repG x1) x3 (l0.take (k + 1))) (by first | rfl | (simp [mapS, endS]; done) | exact rp_yes (by omega) (by assumption) (by assumption) (by assumption) | exact rp_no (by omega) (by assumption) (by first | (left; first | assumption | omega) | (right; first | assumption | omega)) | exact rf_yes (by assumption) (by assumption) (by assumption) | exact rf_no (by assumption) (by first | (left; first | assumption | omega) | (right; first | assumption | omega)) | exact ra_yes (by assumption) (by assumption) | exact ra_no (by assumption) (by assumption))
              exact ⟨k + 1, ⟨M_14, _, _, hM_14, S, E.keep ⟨rfl, rfl, rfl, rfl, rfl, rfl, look_int (i := IntKind.i64.wrap (endS (repG x1) x3 (l0.take k) - 1)) rfl (by (first | rfl | (simp [endS]; done) | exact rg_yes (by assumption) (by assumption) (by assumption) | exact rg_no (by assumption) (by first | (left; first | assumption | omega) | (right; first | assumption | omega)) | exact rg_yes (rp_get (by omega) (by assumption)) (by assumption) (by assumption) | exact rg_no (rp_get (by omega) (by assumption)) (by first | (left; first | assumption | omega) | (right; first | assumption | omega)))), rfl, rfl, rfl, trivial⟩, by ((try clear S); (try clear E); first | assumption | omega | rfl | (simp; done) | (simp_all; done) | (simp [List.take_add_one, *]; done) | grind [List.take_add_one])⟩, by omega⟩
          · replace hc_19 := of_decide_eq_false hc_19
            refine WP_skip ?_
            refine T_n ?_
            refine WP_seq ?_
            refine WP_region ?_
            refine S_v E rfl (R_move E rfl) rfl ?_
            clear E a; intro a E
            refine S_v E rfl (R_move E rfl) rfl ?_
            clear E a; intro a E
            refine S_x (X_buildI (ys := [x_16]) E S rfl T24 rfl rfl rfl ?_)
            clear E a S; rintro a w v_27 E S
            replace S := S.front1
            replace S := S.front1
            refine S_x (X_appendB (xs := mapS (repF x1 x2) (repG x1) x3 (l0.take k)) (ys := [x_16]) E S rfl rfl rfl T24 (by (first | (simp [mapS_len]; done) | (simp [mapS_len]; omega))) ?_)
            clear E a S; rintro a w v_28 E S
            refine S_v E rfl (R_assign E rfl) rfl ?_
            clear E a; intro a E
            refine WL_nil ?_
            refine T_n ?_
            refine WP_seq ?_
            refine WP_seq ?_
            refine WP_region ?_
            refine S_v E rfl (R_move E rfl) rfl ?_
            clear E a; intro a E
            refine S_v E rfl (R_move E rfl) rfl ?_
            clear E a; intro a E
            refine S_v E rfl (R_eql E rfl rfl) rfl ?_
            clear E a; intro a E
            refine WL_nil ?_
            refine T_n ?_
            refine WP_cond E rfl (fun hc_29 => ?_) (fun hc_29 => ?_)
            · replace hc_29 := of_decide_eq_true hc_29
              refine WP_region ?_
              refine S_v E rfl (R_move E rfl) rfl ?_
              clear E a; intro a E
              refine S_v E rfl (R_assign E rfl) rfl ?_
              clear E a; intro a E
              refine WL_nil ?_
              refine T_n ?_
              refine WP_region ?_
              refine S_v E rfl (R_move E rfl) rfl ?_
              clear E a; intro a E
              refine S_v E rfl (R_move E rfl) rfl ?_
              clear E a; intro a E
              refine S_x (X_buildI (ys := [x2]) E S rfl T24 rfl rfl rfl ?_)
              clear E a S; rintro a w v_30 E S
              replace S := S.front2
              replace S := S.front1
              refine S_x (X_appendB (xs := (l0.take k).map (repOne x1 x2)) (ys := [x2]) E S rfl rfl rfl T24 (by (first | (simp [mapS_len]; done) | (simp [mapS_len]; omega))) ?_)
              clear E a S; rintro a w v_31 E S
              refine S_v E rfl (R_assign E rfl) rfl ?_
              clear E a; intro a E
              refine WL_nil ?_
              refine B_n ?_
              refine T_n ?_
              refine WP_region ?_
              refine S_v E rfl (R_addx (m := ((k + 1 : Nat) : Int)) E rfl rfl (by omega) (by omega)) rfl ?_
              clear E a; intro a E
              refine S_v E rfl (R_move E rfl) rfl ?_
              clear E a; intro a E
              refine WL_nil ?_
              refine T_n ?_
              replace S := S.front1
              replace S := S.front1
              replace S := S.re1 (l' := (l0.take (k + 1)).map (repOne x1 x2)) (by first | rfl | (simp [mapS, endS]; done) | exact rp_yes (by omega) (by assumption) (by assumption) (by assumption) | exact rp_no (by omega) (by assumption) (by first | (left; first | assumption | omega) | (right; first | assumption | omega)) | exact rf_yes (by assumption) (by assumption) (by assumption) | exact rf_no (by assumption) (by first | (left; first | assumption | omega) | (right; first | assumption | omega)) | exact ra_yes (by assumption) (by assumption) | exact ra_no (by assumption) (by assumption))
              replace S := S.front1
              replace S := S.re1 (l' := mapS (repF x1 x2) (repG x1) x3 (l0.take (k + 1))) (by first | rfl | (simp [mapS, endS]; done) | exact rp_yes (by omega) (by assumption) (by assumption) (by assumption) | exact rp_no (by omega) (by assumption) (by first | (left; first | assumption | omega) | (right; first | assumption | omega)) | exact rf_yes (by assumption) (by assumption) (by assumption) | exact rf_no (by assumption) (by first | (left; first | assumption | omega) | (right; first | assumption | omega)) | exact ra_yes (by assumption) (by assumption) | exact ra_no (by assumption) (by assumption))
              exact ⟨k + 1, ⟨M_14, _, _, hM_14, S, E.keep ⟨rfl, rfl, rfl, rfl, rfl, rfl, look_int (i := endS (repG x1) x3 (l0.take k)) rfl (by (first | rfl | (simp [endS]; done) | exact rg_yes (by assumption) (by assumption) (by assumption) | exact rg_no (by assumption) (by first | (left; first | assumption | omega) | (right; first | assumption | omega)) | exact rg_yes (rp_get (by omega) (by assumption)) (by assumption) (by assumption) | exact rg_no (rp_get (by omega) (by assumption)) (by first | (left; first | assumption | omega) | (right; first | assumption | omega)))), rfl, rfl, rfl, trivial⟩, by ((try clear S); (try clear E); first | assumption | omega | rfl | (simp; done) | (simp_all; done) | (simp [List.take_add_one, *]; done) | grind [List.take_add_one])⟩, by omega⟩
            · replace hc_29 := of_decide_eq_false hc_29
              refine WP_skip ?_
              refine T_n ?_
              refine WP_region ?_
              refine S_v E rfl (R_move E rfl) rfl ?_
              clear E a; intro a E
              refine S_v E rfl (R_move E rfl) rfl ?_
              clear E a; intro a E
              refine S_x (X_buildI (ys := [x_16]) E S rfl T24 rfl rfl rfl ?_)
              clear E a S; rintro a w v_32 E S
              replace S := S.front2
              replace S := S.front1
              refine S_x (X_appendB (xs := (l0.take k).map (repOne x1 x2)) (ys := [x_16]) E S rfl rfl rfl T24 (by (first | (simp [mapS_len]; done) | (simp [mapS_len]; omega))) ?_)
              clear E a S; rintro a w v_33 E S
              refine S_v E rfl (R_assign E rfl) rfl ?_
              clear E a; intro a E
              refine WL_nil ?_
              refine B_n ?_
              refine T_n ?_
              refine WP_region ?_
              refine S_v E rfl (R_addx (m := ((k + 1 : Nat) : Int)) E rfl rfl (by omega) (by omega)) rfl ?_
              clear E a; intro a E
              refine S_v E rfl (R_move E rfl) rfl ?_
              clear E a; intro a E
              refine WL_nil ?_
              refine T_n ?_
              replace S := S.front1
              replace S := S.front1
              replace S := S.re1 (l' := (l0.take (k + 1)).map (repOne x1 x2)) (by first | rfl | (simp [mapS, endS]; done) | exact rp_yes (by omega) (by assumption) (by assumption) (by assumption) | exact rp_no (by omega) (by assumption) (by first | (left; first | assumption | omega) | (right; first | assumption | omega)) | exact rf_yes (by assumption) (by assumption) (by assumption) | exact rf_no (by assumption) (by first | (left; first | assumption | omega) | (right; first | assumption | omega)) | exact ra_yes (by assumption) (by assumption) | exact ra_no (by assumption) (by assumption))
              replace S := S.front1
              replace S := S.re1 (l' := mapS (repF x1 x2) (repG x1) x3 (l0.take (k + 1))) (by first | rfl | (simp [mapS, endS]; done) | exact rp_yes (by omega) (by assumption) (by assumption) (by assumption) | exact rp_no (by omega) (by assumption) (by first | (left; first | assumption | omega) | (right; first | assumption | omega)) | exact rf_yes (by assumption) (by assumption) (by assumption) | exact rf_no (by assumption) (by first | (left; first | assumption | omega) | (right; first | assumption | omega)) | exact ra_yes (by assumption) (by assumption) | exact ra_no (by assumption) (by assumption))
              exact ⟨k + 1, ⟨M_14, _, _, hM_14, S, E.keep ⟨rfl, rfl, rfl, rfl, rfl, rfl, look_int (i := endS (repG x1) x3 (l0.take k)) rfl (by (first | rfl | (simp [endS]; done) | exact rg_yes (by assumption) (by assumption) (by assumption) | exact rg_no (by assumption) (by first | (left; first | assumption | omega) | (right; first | assumption | omega)) | exact rg_yes (rp_get (by omega) (by assumption)) (by assumption) (by assumption) | exact rg_no (rp_get (by omega) (by assumption)) (by first | (left; first | assumption | omega) | (right; first | assumption | omega)))), rfl, rfl, rfl, trivial⟩, by ((try clear S); (try clear E); first | assumption | omega | rfl | (simp; done) | (simp_all; done) | (simp [List.take_add_one, *]; done) | grind [List.take_add_one])⟩, by omega⟩
        · replace E := E.val (t := 37) rfl hc_18
          replace E := E.val (t := 38) rfl hc_18
          replace hc_18 := of_decide_eq_false hc_18
          refine WL_guard_no E rfl rfl rfl rfl fun a E => ?_
          refine WL_guard_no E rfl rfl rfl rfl fun a E => ?_
          refine S_v E rfl (R_pickF E rfl rfl) rfl ?_
          clear E a; intro a E
          refine WL_nil ?_
          refine T_n ?_
          refine WP_condF E rfl rfl ?_
          refine WP_skip ?_
          refine T_n ?_
          refine WP_seq ?_
          refine WP_region ?_
          refine S_v E rfl (R_move E rfl) rfl ?_
          clear E a; intro a E
          refine S_v E rfl (R_move E rfl) rfl ?_
          clear E a; intro a E
          refine S_x (X_buildI (ys := [x_16]) E S rfl T24 rfl rfl rfl ?_)
          clear E a S; rintro a w v_34 E S
          replace S := S.front1
          replace S := S.front1
          refine S_x (X_appendB (xs := mapS (repF x1 x2) (repG x1) x3 (l0.take k)) (ys := [x_16]) E S rfl rfl rfl T24 (by (first | (simp [mapS_len]; done) | (simp [mapS_len]; omega))) ?_)
          clear E a S; rintro a w v_35 E S
          refine S_v E rfl (R_assign E rfl) rfl ?_
          clear E a; intro a E
          refine WL_nil ?_
          refine T_n ?_
          refine WP_seq ?_
          refine WP_seq ?_
          refine WP_region ?_
          refine S_v E rfl (R_move E rfl) rfl ?_
          clear E a; intro a E
          refine S_v E rfl (R_move E rfl) rfl ?_
          clear E a; intro a E
          refine S_v E rfl (R_eql E rfl rfl) rfl ?_
          clear E a; intro a E
          refine WL_nil ?_
          refine T_n ?_
          refine WP_cond E rfl (fun hc_36 => ?_) (fun hc_36 => ?_)
          · replace hc_36 := of_decide_eq_true hc_36
            refine WP_region ?_
            refine S_v E rfl (R_move E rfl) rfl ?_
            clear E a; intro a E
            refine S_v E rfl (R_assign E rfl) rfl ?_
            clear E a; intro a E
            refine WL_nil ?_
            refine T_n ?_
            refine WP_region ?_
            refine S_v E rfl (R_move E rfl) rfl ?_
            clear E a; intro a E
            refine S_v E rfl (R_move E rfl) rfl ?_
            clear E a; intro a E
            refine S_x (X_buildI (ys := [x2]) E S rfl T24 rfl rfl rfl ?_)
            clear E a S; rintro a w v_37 E S
            replace S := S.front2
            replace S := S.front1
            refine S_x (X_appendB (xs := (l0.take k).map (repOne x1 x2)) (ys := [x2]) E S rfl rfl rfl T24 (by (first | (simp [mapS_len]; done) | (simp [mapS_len]; omega))) ?_)
            clear E a S; rintro a w v_38 E S
            refine S_v E rfl (R_assign E rfl) rfl ?_
            clear E a; intro a E
            refine WL_nil ?_
            refine B_n ?_
            refine T_n ?_
            refine WP_region ?_
            refine S_v E rfl (R_addx (m := ((k + 1 : Nat) : Int)) E rfl rfl (by omega) (by omega)) rfl ?_
            clear E a; intro a E
            refine S_v E rfl (R_move E rfl) rfl ?_
            clear E a; intro a E
            refine WL_nil ?_
            refine T_n ?_
            replace S := S.front1
            replace S := S.front1
            replace S := S.re1 (l' := (l0.take (k + 1)).map (repOne x1 x2)) (by first | rfl | (simp [mapS, endS]; done) | exact rp_yes (by omega) (by assumption) (by assumption) (by assumption) | exact rp_no (by omega) (by assumption) (by first | (left; first | assumption | omega) | (right; first | assumption | omega)) | exact rf_yes (by assumption) (by assumption) (by assumption) | exact rf_no (by assumption) (by first | (left; first | assumption | omega) | (right; first | assumption | omega)) | exact ra_yes (by assumption) (by assumption) | exact ra_no (by assumption) (by assumption))
            replace S := S.front1
            replace S := S.re1 (l' := mapS (repF x1 x2) (repG x1) x3 (l0.take (k + 1))) (by first | rfl | (simp [mapS, endS]; done) | exact rp_yes (by omega) (by assumption) (by assumption) (by assumption) | exact rp_no (by omega) (by assumption) (by first | (left; first | assumption | omega) | (right; first | assumption | omega)) | exact rf_yes (by assumption) (by assumption) (by assumption) | exact rf_no (by assumption) (by first | (left; first | assumption | omega) | (right; first | assumption | omega)) | exact ra_yes (by assumption) (by assumption) | exact ra_no (by assumption) (by assumption))
            exact ⟨k + 1, ⟨M_14, _, _, hM_14, S, E.keep ⟨rfl, rfl, rfl, rfl, rfl, rfl, look_int (i := endS (repG x1) x3 (l0.take k)) rfl (by (first | rfl | (simp [endS]; done) | exact rg_yes (by assumption) (by assumption) (by assumption) | exact rg_no (by assumption) (by first | (left; first | assumption | omega) | (right; first | assumption | omega)) | exact rg_yes (rp_get (by omega) (by assumption)) (by assumption) (by assumption) | exact rg_no (rp_get (by omega) (by assumption)) (by first | (left; first | assumption | omega) | (right; first | assumption | omega)))), rfl, rfl, rfl, trivial⟩, by ((try clear S); (try clear E); first | assumption | omega | rfl | (simp; done) | (simp_all; done) | (simp [List.take_add_one, *]; done) | grind [List.take_add_one])⟩, by omega⟩
          · replace hc_36 := of_decide_eq_false hc_36
            refine WP_skip ?_
            refine T_n ?_
            refine WP_region ?_
            refine S_v E rfl (R_move E rfl) rfl ?_
            clear E a; intro a E
            refine S_v E rfl (R_move E rfl) rfl ?_
            clear E a; intro a E
            refine S_x (X_buildI (ys := [x_16]) E S rfl T24 rfl rfl rfl ?_)
            clear E a S; rintro a w v_39 E S
            replace S := S.front2
            replace S := S.front1
            refine S_x (X_appendB (xs := (l0.take k).map (repOne x1 x2)) (ys := [x_16]) E S rfl rfl rfl T24 (by (first | (simp [mapS_len]; done) | (simp [mapS_len]; omega))) ?_)
            clear E a S; rintro a w v_40 E S
            refine S_v E rfl (R_assign E rfl) rfl ?_
            clear E a; intro a E
            refine WL_nil ?_
            refine B_n ?_
            refine T_n ?_
            refine WP_region ?_
            refine S_v E rfl (R_addx (m := ((k + 1 : Nat) : Int)) E rfl rfl (by omega) (by omega)) rfl ?_
            clear E a; intro a E
            refine S_v E rfl (R_move E rfl) rfl ?_
            clear E a; intro a E
            refine WL_nil ?_
            refine T_n ?_
            replace S := S.front1
            replace S := S.front1
            replace S := S.re1 (l' := (l0.take (k + 1)).map (repOne x1 x2)) (by first | rfl | (simp [mapS, endS]; done) | exact rp_yes (by omega) (by assumption) (by assumption) (by assumption) | exact rp_no (by omega) (by assumption) (by first | (left; first | assumption | omega) | (right; first | assumption | omega)) | exact rf_yes (by assumption) (by assumption) (by assumption) | exact rf_no (by assumption) (by first | (left; first | assumption | omega) | (right; first | assumption | omega)) | exact ra_yes (by assumption) (by assumption) | exact ra_no (by assumption) (by assumption))
            replace S := S.front1
            replace S := S.re1 (l' := mapS (repF x1 x2) (repG x1) x3 (l0.take (k + 1))) (by first | rfl | (simp [mapS, endS]; done) | exact rp_yes (by omega) (by assumption) (by assumption) (by assumption) | exact rp_no (by omega) (by assumption) (by first | (left; first | assumption | omega) | (right; first | assumption | omega)) | exact rf_yes (by assumption) (by assumption) (by assumption) | exact rf_no (by assumption) (by first | (left; first | assumption | omega) | (right; first | assumption | omega)) | exact ra_yes (by assumption) (by assumption) | exact ra_no (by assumption) (by assumption))
            exact ⟨k + 1, ⟨M_14, _, _, hM_14, S, E.keep ⟨rfl, rfl, rfl, rfl, rfl, rfl, look_int (i := endS (repG x1) x3 (l0.take k)) rfl (by (first | rfl | (simp [endS]; done) | exact rg_yes (by assumption) (by assumption) (by assumption) | exact rg_no (by assumption) (by first | (left; first | assumption | omega) | (right; first | assumption | omega)) | exact rg_yes (rp_get (by omega) (by assumption)) (by assumption) (by assumption) | exact rg_no (rp_get (by omega) (by assumption)) (by first | (left; first | assumption | omega) | (right; first | assumption | omega)))), rfl, rfl, rfl, trivial⟩, by ((try clear S); (try clear E); first | assumption | omega | rfl | (simp; done) | (simp_all; done) | (simp [List.take_add_one, *]; done) | grind [List.take_add_one])⟩, by omega⟩
      · replace hc_15 := of_decide_eq_false hc_15
        refine WP_exit ?_
        refine T_x ?_
        refine T_x ?_
        refine B_x ?_
        refine T_n ?_
        refine WP_seq ?_
        refine WP_region ?_
        refine S_v E rfl (R_move E rfl) rfl ?_
        clear E a; intro a E
        refine S_v E rfl (R_move E rfl) rfl ?_
        clear E a; intro a E
        refine S_v E rfl (R_move E rfl) rfl ?_
        clear E a; intro a E
        refine S_v E rfl (R_move E rfl) rfl ?_
        clear E a; intro a E
        refine S_v E rfl (R_convx E rfl Try.underlying36 Try.underlying3 (by omega)) rfl ?_
        clear E a; intro a E
        refine S_x (X_pu E S rfl rfl rfl (spec_Replace h0 (by (first | omega | (simp; omega) | (simp; done) | (simp_all; omega) | grind))) (Hp.le.refl _) ?_)
        clear E a S; rintro a v_42 w M_41 hM_41 hv_42 S E
        replace h0 := h0.le hM_41
        replace hz_4 := hz_4.le hM_41
        replace hv_6 := hv_6.le hM_41
        replace hv_8 := hv_8.le hM_41
        refine S_v E rfl (R_move E rfl) rfl ?_
        clear E a; intro a E
        have S0 := S; clear S
        obtain ⟨M_43, hM_43, hz_44, S⟩ := S0.freezeI (by (first | omega | (simp [mapS_len]; done) | (simp [mapS_len]; omega)))
        clear S0
        replace h0 := h0.le hM_43
        replace hz_4 := hz_4.le hM_43
        replace hv_6 := hv_6.le hM_43
        replace hv_8 := hv_8.le hM_43
        replace hv_42 := hv_42.le hM_43
        refine S_x (X_pu E S rfl rfl rfl (laws_eq hv_42 hz_44) (Hp.le.refl _) ?_)
        clear E a S; rintro a _ w M_45 hM_45 rfl S E
        replace h0 := h0.le hM_45
        replace hz_4 := hz_4.le hM_45
        replace hv_6 := hv_6.le hM_45
        replace hv_8 := hv_8.le hM_45
        replace hv_42 := hv_42.le hM_45
        replace hz_44 := hz_44.le hM_45
        refine S_v E rfl (R_move E rfl) rfl ?_
        clear E a; intro a E
        have hc_46 : (decide (mapS (repF x1 x2) (repG x1) x3 l0 = mapS (repF x1 x2) (repG x1) x3 (l0.take k))) = true := by (first | (simp; done) | decide | (clear S E; simp [List.take_of_length_le (show l0.length ≤ k by omega)]; done) | (clear S E; rw [rep_neg _ _ _ _ (by omega) (by omega), List.take_of_length_le (show l0.length ≤ k by omega)]; simp; done) | (clear S E; rw [rep_cnt _ _ _ (by omega), List.take_of_length_le (show l0.length ≤ k by omega)]; simp; done))
        replace E := E.val (t := 65) rfl hc_46
        replace E := E.val (t := 66) rfl hc_46
        refine WL_guard_yes E rfl rfl ?_
        refine S_v E rfl (R_move E rfl) rfl ?_
        clear E a; intro a E
        refine WL_guard_yes E rfl rfl ?_
        refine S_v E rfl (R_move E rfl) rfl ?_
        clear E a; intro a E
        refine WL_guard_yes E rfl rfl ?_
        refine S_v E rfl (R_move E rfl) rfl ?_
        clear E a; intro a E
        refine WL_guard_yes E rfl rfl ?_
        refine S_x (X_pu E S rfl rfl rfl (spec_ReplaceAll h0 (by (first | omega | (simp; omega) | (simp; done) | (simp_all; omega) | grind))) (Hp.le.refl _) ?_)
        clear E a S; rintro a v_48 w M_47 hM_47 hv_48 S E
        replace h0 := h0.le hM_47
        replace hz_4 := hz_4.le hM_47
        replace hv_6 := hv_6.le hM_47
        replace hv_8 := hv_8.le hM_47
        replace hv_42 := hv_42.le hM_47
        replace hz_44 := hz_44.le hM_47
        refine WL_guard_yes E rfl rfl ?_
        refine S_v E rfl (R_move E rfl) rfl ?_
        clear E a; intro a E
        have S0 := S; clear S
        obtain ⟨M_49, hM_49, hz_50, S⟩ := S0.freezeI (by (first | omega | (simp [mapS_len]; done) | (simp [mapS_len]; omega)))
        clear S0
        replace h0 := h0.le hM_49
        replace hz_4 := hz_4.le hM_49
        replace hv_6 := hv_6.le hM_49
        replace hv_8 := hv_8.le hM_49
        replace hv_42 := hv_42.le hM_49
        replace hz_44 := hz_44.le hM_49
        replace hv_48 := hv_48.le hM_49
        refine WL_guard_yes E rfl rfl ?_
        refine S_x (X_pu E S rfl rfl rfl (laws_eq hv_48 hz_50) (Hp.le.refl _) ?_)
        clear E a S; rintro a _ w M_51 hM_51 rfl S E
        replace h0 := h0.le hM_51
        replace hz_4 := hz_4.le hM_51
        replace hv_6 := hv_6.le hM_51
        replace hv_8 := hv_8.le hM_51
        replace hv_42 := hv_42.le hM_51
        replace hz_44 := hz_44.le hM_51
        replace hv_48 := hv_48.le hM_51
        replace hz_50 := hz_50.le hM_51
        refine S_v E rfl (R_pickT E rfl rfl) rfl ?_
        clear E a; intro a E
        refine S_v E rfl (R_move E rfl) rfl ?_
        clear E a; intro a E
        have hc_52 : (decide (mapS (repF x1 x2) (repG x1) (-1) l0 = (l0.take k).map (repOne x1 x2))) = true := by (first | (simp; done) | decide | (clear S E; simp [List.take_of_length_le (show l0.length ≤ k by omega)]; done) | (clear S E; rw [rep_neg _ _ _ _ (by omega) (by omega), List.take_of_length_le (show l0.length ≤ k by omega)]; simp; done) | (clear S E; rw [rep_cnt _ _ _ (by omega), List.take_of_length_le (show l0.length ≤ k by omega)]; simp; done))
        replace E := E.val (t := 72) rfl hc_52
        replace E := E.val (t := 73) rfl hc_52
        replace E := E.val (t := 74) rfl hc_52
        refine WL_guard_yes E rfl rfl ?_
        refine S_v E rfl (R_move E rfl) rfl ?_
        clear E a; intro a E
        refine WL_guard_yes E rfl rfl ?_
        refine S_v E rfl (R_move E rfl) rfl ?_
        clear E a; intro a E
        refine WL_guard_yes E rfl rfl ?_
        refine S_v E rfl (R_move E rfl) rfl ?_
        clear E a; intro a E
        refine WL_guard_yes E rfl rfl ?_
        refine S_v E rfl (R_move E rfl) rfl ?_
        clear E a; intro a E
        refine WL_guard_yes E rfl rfl ?_
        refine S_v E rfl (R_convx E rfl Try.underlying36 Try.underlying3 (by omega)) rfl ?_
        clear E a; intro a E
        refine WL_guard_yes E rfl rfl ?_
        refine S_x (X_pu E S rfl rfl rfl (impl_Replace h0 (by (first | omega | (simp; omega) | (simp; done) | (simp_all; omega) | grind))) (Hp.le.refl _) ?_)
        clear E a S; rintro a v_54 w M_53 hM_53 hv_54 S E
        replace h0 := h0.le hM_53
        replace hz_4 := hz_4.le hM_53
        replace hv_6 := hv_6.le hM_53
        replace hv_8 := hv_8.le hM_53
        replace hv_42 := hv_42.le hM_53
        replace hz_44 := hz_44.le hM_53
        replace hv_48 := hv_48.le hM_53
        replace hz_50 := hz_50.le hM_53
        refine WL_guard_yes E rfl rfl ?_
        refine S_v E rfl (R_move E rfl) rfl ?_
        clear E a; intro a E
        refine WL_guard_yes E rfl rfl ?_
        refine S_x (X_pu E S rfl rfl rfl (laws_eq hv_54 hz_44) (Hp.le.refl _) ?_)
        clear E a S; rintro a _ w M_55 hM_55 rfl S E
        replace h0 := h0.le hM_55
        replace hz_4 := hz_4.le hM_55
        replace hv_6 := hv_6.le hM_55
        replace hv_8 := hv_8.le hM_55
        replace hv_42 := hv_42.le hM_55
        replace hz_44 := hz_44.le hM_55
        replace hv_48 := hv_48.le hM_55
        replace hz_50 := hz_50.le hM_55
        replace hv_54 := hv_54.le hM_55
        refine S_v E rfl (R_pickT E rfl rfl) rfl ?_
        clear E a; intro a E
        refine S_v E rfl (R_move E rfl) rfl ?_
        clear E a; intro a E
        have hc_56 : (decide (mapS (repF x1 x2) (repG x1) x3 l0 = mapS (repF x1 x2) (repG x1) x3 (l0.take k))) = true := by (first | (simp; done) | decide | (clear S E; simp [List.take_of_length_le (show l0.length ≤ k by omega)]; done) | (clear S E; rw [rep_neg _ _ _ _ (by omega) (by omega), List.take_of_length_le (show l0.length ≤ k by omega)]; simp; done) | (clear S E; rw [rep_cnt _ _ _ (by omega), List.take_of_length_le (show l0.length ≤ k by omega)]; simp; done))
        replace E := E.val (t := 82) rfl hc_56
        replace E := E.val (t := 83) rfl hc_56
        replace E := E.val (t := 84) rfl hc_56
        refine WL_guard_yes E rfl rfl ?_
        refine S_v E rfl (R_move E rfl) rfl ?_
        clear E a; intro a E
        refine WL_guard_yes E rfl rfl ?_
        refine S_v E rfl (R_move E rfl) rfl ?_
        clear E a; intro a E
        refine WL_guard_yes E rfl rfl ?_
        refine S_v E rfl (R_move E rfl) rfl ?_
        clear E a; intro a E
        refine WL_guard_yes E rfl rfl ?_
        refine S_v E rfl (R_move E rfl) rfl ?_
        clear E a; intro a E
        refine WL_guard_yes E rfl rfl ?_
        refine S_v E rfl (R_convx E rfl Try.underlying36 Try.underlying3 (by omega)) rfl ?_
        clear E a; intro a E
        refine WL_guard_yes E rfl rfl ?_
        refine S_x (X_pu E S rfl rfl rfl (impl_ReplaceSeq h0 (by (first | omega | (simp; omega) | (simp; done) | (simp_all; omega) | grind))) (Hp.le.refl _) ?_)
        clear E a S; rintro a v_58 w M_57 hM_57 hv_58 S E
        replace h0 := h0.le hM_57
        replace hz_4 := hz_4.le hM_57
        replace hv_6 := hv_6.le hM_57
        replace hv_8 := hv_8.le hM_57
        replace hv_42 := hv_42.le hM_57
        replace hz_44 := hz_44.le hM_57
        replace hv_48 := hv_48.le hM_57
        replace hz_50 := hz_50.le hM_57
        replace hv_54 := hv_54.le hM_57
        refine WL_guard_yes E rfl rfl ?_
        refine S_v E rfl (R_move E rfl) rfl ?_
        clear E a; intro a E
        refine WL_guard_yes E rfl rfl ?_
        refine S_x (X_pu E S rfl rfl rfl (laws_eq hv_58 hz_44) (Hp.le.refl _) ?_)
        clear E a S; rintro a _ w M_59 hM_59 rfl S E
        replace h0 := h0.le hM_59
        replace hz_4 := hz_4.le hM_59
        replace hv_6 := hv_6.le hM_59
        replace hv_8 := hv_8.le hM_59
        replace hv_42 := hv_42.le hM_59
        replace hz_44 := hz_44.le hM_59
        replace hv_48 := hv_48.le hM_59
        replace hz_50 := hz_50.le hM_59
        replace hv_54 := hv_54.le hM_59
        replace hv_58 := hv_58.le hM_59
        refine S_v E rfl (R_pickT E rfl rfl) rfl ?_
        clear E a; intro a E
        refine S_v E rfl (R_move E rfl) rfl ?_
        clear E a; intro a E
        have hc_60 : (decide (mapS (repF x1 x2) (repG x1) x3 l0 = mapS (repF x1 x2) (repG x1) x3 (l0.take k))) = true := by (first | (simp; done) | decide | (clear S E; simp [List.take_of_length_le (show l0.length ≤ k by omega)]; done) | (clear S E; rw [rep_neg _ _ _ _ (by omega) (by omega), List.take_of_length_le (show l0.length ≤ k by omega)]; simp; done) | (clear S E; rw [rep_cnt _ _ _ (by omega), List.take_of_length_le (show l0.length ≤ k by omega)]; simp; done))
        replace E := E.val (t := 92) rfl hc_60
        replace E := E.val (t := 93) rfl hc_60
        replace E := E.val (t := 94) rfl hc_60
        refine WL_guard_yes E rfl rfl ?_
        refine S_v E rfl (R_move E rfl) rfl ?_
        clear E a; intro a E
        refine WL_guard_yes E rfl rfl ?_
        refine S_v E rfl (R_move E rfl) rfl ?_
        clear E a; intro a E
        refine WL_guard_yes E rfl rfl ?_
        refine S_v E rfl (R_move E rfl) rfl ?_
        clear E a; intro a E
        refine WL_guard_yes E rfl rfl ?_
        refine S_x (X_pu E S rfl rfl rfl (impl_ReplaceAll h0 (by (first | omega | (simp; omega) | (simp; done) | (simp_all; omega) | grind))) (Hp.le.refl _) ?_)
        clear E a S; rintro a v_62 w M_61 hM_61 hv_62 S E
        replace h0 := h0.le hM_61
        replace hz_4 := hz_4.le hM_61
        replace hv_6 := hv_6.le hM_61
        replace hv_8 := hv_8.le hM_61
        replace hv_42 := hv_42.le hM_61
        replace hz_44 := hz_44.le hM_61
        replace hv_48 := hv_48.le hM_61
        replace hz_50 := hz_50.le hM_61
        replace hv_54 := hv_54.le hM_61
        replace hv_58 := hv_58.le hM_61
        refine WL_guard_yes E rfl rfl ?_
        refine S_v E rfl (R_move E rfl) rfl ?_
        clear E a; intro a E
        refine WL_guard_yes E rfl rfl ?_
        refine S_x (X_pu E S rfl rfl rfl (laws_eq hv_62 hz_50) (Hp.le.refl _) ?_)
        clear E a S; rintro a _ w M_63 hM_63 rfl S E
        replace h0 := h0.le hM_63
        replace hz_4 := hz_4.le hM_63
        replace hv_6 := hv_6.le hM_63
        replace hv_8 := hv_8.le hM_63
        replace hv_42 := hv_42.le hM_63
        replace hz_44 := hz_44.le hM_63
        replace hv_48 := hv_48.le hM_63
        replace hz_50 := hz_50.le hM_63
        replace hv_54 := hv_54.le hM_63
        replace hv_58 := hv_58.le hM_63
        replace hv_62 := hv_62.le hM_63
        refine S_v E rfl (R_pickT E rfl rfl) rfl ?_
        clear E a; intro a E
        refine S_v E rfl (R_move E rfl) rfl ?_
        clear E a; intro a E
        have hc_64 : (decide (mapS (repF x1 x2) (repG x1) (-1) l0 = (l0.take k).map (repOne x1 x2))) = true := by (first | (simp; done) | decide | (clear S E; simp [List.take_of_length_le (show l0.length ≤ k by omega)]; done) | (clear S E; rw [rep_neg _ _ _ _ (by omega) (by omega), List.take_of_length_le (show l0.length ≤ k by omega)]; simp; done) | (clear S E; rw [rep_cnt _ _ _ (by omega), List.take_of_length_le (show l0.length ≤ k by omega)]; simp; done))
        replace E := E.val (t := 100) rfl hc_64
        replace E := E.val (t := 101) rfl hc_64
        replace E := E.val (t := 102) rfl hc_64
        refine WL_guard_yes E rfl rfl ?_
        refine S_v E rfl (R_move E rfl) rfl ?_
        clear E a; intro a E
        refine WL_guard_yes E rfl rfl ?_
        refine S_v E rfl (R_move E rfl) rfl ?_
        clear E a; intro a E
        refine WL_guard_yes E rfl rfl ?_
        refine S_v E rfl (R_move E rfl) rfl ?_
        clear E a; intro a E
        refine WL_guard_yes E rfl rfl ?_
        refine S_x (X_pu E S rfl rfl rfl (impl_ReplaceAllSeq h0 (by (first | omega | (simp; omega) | (simp; done) | (simp_all; omega) | grind))) (Hp.le.refl _) ?_)
        clear E a S; rintro a v_66 w M_65 hM_65 hv_66 S E
        replace h0 := h0.le hM_65
        replace hz_4 := hz_4.le hM_65
        replace hv_6 := hv_6.le hM_65
        replace hv_8 := hv_8.le hM_65
        replace hv_42 := hv_42.le hM_65
        replace hz_44 := hz_44.le hM_65
        replace hv_48 := hv_48.le hM_65
        replace hz_50 := hz_50.le hM_65
        replace hv_54 := hv_54.le hM_65
        replace hv_58 := hv_58.le hM_65
        replace hv_62 := hv_62.le hM_65
        refine WL_guard_yes E rfl rfl ?_
        refine S_v E rfl (R_move E rfl) rfl ?_
        clear E a; intro a E
        refine WL_guard_yes E rfl rfl ?_
        refine S_x (X_pu E S rfl rfl rfl (laws_eq hv_66 hz_50) (Hp.le.refl _) ?_)
        clear E a S; rintro a _ w M_67 hM_67 rfl S E
        replace h0 := h0.le hM_67
        replace hz_4 := hz_4.le hM_67
        replace hv_6 := hv_6.le hM_67
        replace hv_8 := hv_8.le hM_67
        replace hv_42 := hv_42.le hM_67
        replace hz_44 := hz_44.le hM_67
        replace hv_48 := hv_48.le hM_67
        replace hz_50 := hz_50.le hM_67
        replace hv_54 := hv_54.le hM_67
        replace hv_58 := hv_58.le hM_67
        replace hv_62 := hv_62.le hM_67
        replace hv_66 := hv_66.le hM_67
        refine S_v E rfl (R_pickT E rfl rfl) rfl ?_
        clear E a; intro a E
        refine S_v E rfl (R_move E rfl) rfl ?_
        clear E a; intro a E
        have hc_68 : (decide (mapS (repF x1 x2) (repG x1) (-1) l0 = (l0.take k).map (repOne x1 x2))) = true := by (first | (simp; done) | decide | (clear S E; simp [List.take_of_length_le (show l0.length ≤ k by omega)]; done) | (clear S E; rw [rep_neg _ _ _ _ (by omega) (by omega), List.take_of_length_le (show l0.length ≤ k by omega)]; simp; done) | (clear S E; rw [rep_cnt _ _ _ (by omega), List.take_of_length_le (show l0.length ≤ k by omega)]; simp; done))
        replace E := E.val (t := 108) rfl hc_68
        replace E := E.val (t := 109) rfl hc_68
        replace E := E.val (t := 110) rfl hc_68
        refine WL_guard_yes E rfl rfl ?_
        refine S_v E rfl (R_move E rfl) rfl ?_
        clear E a; intro a E
        refine WL_guard_yes E rfl rfl ?_
        refine S_v E rfl (R_move E rfl) rfl ?_
        clear E a; intro a E
        refine WL_guard_yes E rfl rfl ?_
        refine S_v E rfl (R_move E rfl) rfl ?_
        clear E a; intro a E
        refine WL_guard_yes E rfl rfl ?_
        refine S_x (X_pu E S rfl rfl rfl (impl_Replace h0 (by (first | omega | (simp; omega) | (simp; done) | (simp_all; omega) | grind))) (Hp.le.refl _) ?_)
        clear E a S; rintro a v_70 w M_69 hM_69 hv_70 S E
        replace h0 := h0.le hM_69
        replace hz_4 := hz_4.le hM_69
        replace hv_6 := hv_6.le hM_69
        replace hv_8 := hv_8.le hM_69
        replace hv_42 := hv_42.le hM_69
        replace hz_44 := hz_44.le hM_69
        replace hv_48 := hv_48.le hM_69
        replace hz_50 := hz_50.le hM_69
        replace hv_54 := hv_54.le hM_69
        replace hv_58 := hv_58.le hM_69
        replace hv_62 := hv_62.le hM_69
        replace hv_66 := hv_66.le hM_69
        refine WL_guard_yes E rfl rfl ?_
        refine S_v E rfl (R_move E rfl) rfl ?_
        clear E a; intro a E
        refine WL_guard_yes E rfl rfl ?_
        refine S_x (X_pu E S rfl rfl rfl (laws_eq hv_70 hz_50) (Hp.le.refl _) ?_)
        clear E a S; rintro a _ w M_71 hM_71 rfl S E
        replace h0 := h0.le hM_71
        replace hz_4 := hz_4.le hM_71
        replace hv_6 := hv_6.le hM_71
        replace hv_8 := hv_8.le hM_71
        replace hv_42 := hv_42.le hM_71
        replace hz_44 := hz_44.le hM_71
        replace hv_48 := hv_48.le hM_71
        replace hz_50 := hz_50.le hM_71
        replace hv_54 := hv_54.le hM_71
        replace hv_58 := hv_58.le hM_71
        replace hv_62 := hv_62.le hM_71
        replace hv_66 := hv_66.le hM_71
        replace hv_70 := hv_70.le hM_71
        refine S_v E rfl (R_pickT E rfl rfl) rfl ?_
        clear E a; intro a E
        refine S_v E rfl (R_move E rfl) rfl ?_
        clear E a; intro a E
        have hc_72 : (decide (mapS (repF x1 x2) (repG x1) (-1) l0 = (l0.take k).map (repOne x1 x2))) = true := by (first | (simp; done) | decide | (clear S E; simp [List.take_of_length_le (show l0.length ≤ k by omega)]; done) | (clear S E; rw [rep_neg _ _ _ _ (by omega) (by omega), List.take_of_length_le (show l0.length ≤ k by omega)]; simp; done) | (clear S E; rw [rep_cnt _ _ _ (by omega), List.take_of_length_le (show l0.length ≤ k by omega)]; simp; done))
        replace E := E.val (t := 116) rfl hc_72
        replace E := E.val (t := 117) rfl hc_72
        replace E := E.val (t := 118) rfl hc_72
        refine WL_guard_yes E rfl rfl ?_
        refine S_v E rfl (R_move E rfl) rfl ?_
        clear E a; intro a E
        refine WL_guard_yes E rfl rfl ?_
        refine S_v E rfl (R_move E rfl) rfl ?_
        clear E a; intro a E
        refine WL_guard_yes E rfl rfl ?_
        refine S_v E rfl (R_move E rfl) rfl ?_
        clear E a; intro a E
        refine WL_guard_yes E rfl rfl ?_
        refine S_v E rfl (R_move E rfl) rfl ?_
        clear E a; intro a E
        refine WL_guard_yes E rfl rfl ?_
        refine S_v E rfl (R_move E rfl) rfl ?_
        clear E a; intro a E
        refine WL_guard_yes E rfl rfl ?_
        refine S_x (X_pu E S rfl rfl rfl (impl_Count h0) (Hp.le.refl _) ?_)
        clear E a S; rintro a _ w M_73 hM_73 rfl S E
        replace h0 := h0.le hM_73
        replace hz_4 := hz_4.le hM_73
        replace hv_6 := hv_6.le hM_73
        replace hv_8 := hv_8.le hM_73
        replace hv_42 := hv_42.le hM_73
        replace hz_44 := hz_44.le hM_73
        replace hv_48 := hv_48.le hM_73
        replace hz_50 := hz_50.le hM_73
        replace hv_54 := hv_54.le hM_73
        replace hv_58 := hv_58.le hM_73
        replace hv_62 := hv_62.le hM_73
        replace hv_66 := hv_66.le hM_73
        replace hv_70 := hv_70.le hM_73
        refine WL_guard_yes E rfl rfl ?_
        refine S_x (X_pu E S rfl rfl rfl (impl_Replace h0 (by (first | omega | (simp; omega) | (simp; done) | (simp_all; omega) | grind))) (Hp.le.refl _) ?_)
        clear E a S; rintro a v_75 w M_74 hM_74 hv_75 S E
        replace h0 := h0.le hM_74
        replace hz_4 := hz_4.le hM_74
        replace hv_6 := hv_6.le hM_74
        replace hv_8 := hv_8.le hM_74
        replace hv_42 := hv_42.le hM_74
        replace hz_44 := hz_44.le hM_74
        replace hv_48 := hv_48.le hM_74
        replace hz_50 := hz_50.le hM_74
        replace hv_54 := hv_54.le hM_74
        replace hv_58 := hv_58.le hM_74
        replace hv_62 := hv_62.le hM_74
        replace hv_66 := hv_66.le hM_74
        replace hv_70 := hv_70.le hM_74
        refine WL_guard_yes E rfl rfl ?_
        refine S_v E rfl (R_move E rfl) rfl ?_
        clear E a; intro a E
        refine WL_guard_yes E rfl rfl ?_
        refine S_x (X_pu E S rfl rfl rfl (laws_eq hv_75 hz_50) (Hp.le.refl _) ?_)
        clear E a S; rintro a _ w M_76 hM_76 rfl S E
        replace h0 := h0.le hM_76
        replace hz_4 := hz_4.le hM_76
        replace hv_6 := hv_6.le hM_76
        replace hv_8 := hv_8.le hM_76
        replace hv_42 := hv_42.le hM_76
        replace hz_44 := hz_44.le hM_76
        replace hv_48 := hv_48.le hM_76
        replace hz_50 := hz_50.le hM_76
        replace hv_54 := hv_54.le hM_76
        replace hv_58 := hv_58.le hM_76
        replace hv_62 := hv_62.le hM_76
        replace hv_66 := hv_66.le hM_76
        replace hv_70 := hv_70.le hM_76
        replace hv_75 := hv_75.le hM_76
        refine S_v E rfl (R_pickT E rfl rfl) rfl ?_
        clear E a; intro a E
        refine S_v E rfl (R_assign E rfl) rfl ?_
        clear E a; intro a E
        refine WL_nil ?_
        refine T_n ?_
        refine WP_ret ?_
        exact F_ret1 E Try.results5 rfl ⟨_, rfl, M_76, (hM_3.trans (hM_5.trans (hM_9.trans (hM_10.trans (hM_14.trans (hM_41.trans (hM_43.trans (hM_45.trans (hM_47.trans (hM_49.trans (hM_51.trans (hM_53.trans (hM_55.trans (hM_57.trans (hM_59.trans (hM_61.trans (hM_63.trans (hM_65.trans (hM_67.trans (hM_69.trans (hM_71.trans (hM_73.trans (hM_74.trans hM_76))))))))))))))))))))))), (congrArg Value.bool (by (first | (simp; done) | decide | (clear S E; simp [List.take_of_length_le (show l0.length ≤ k by omega)]; done) | (clear S E; rw [rep_neg _ _ _ _ (by omega) (by omega), List.take_of_length_le (show l0.length ≤ k by omega)]; simp; done) | (clear S E; rw [rep_cnt _ _ _ (by omega), List.take_of_length_le (show l0.length ≤ k by omega)]; simp; done)))), S⟩

end Go.Proofs.Ytbdacnblipmapaa.wFnReplaced
