/- Walks through the functions that laws.FnSortedness reaches: what each computes; no conditions beyond what each theorem states. -/
import Derived.Test.YtgljcnmakpnamaaWFnSortednessa
set_option linter.unusedVariables false
set_option linter.unusedSimpArgs false
namespace Go.Proofs.Ytgljcnmakpnamaa.wFnSortedness
open Go Go.Sl
set_option maxRecDepth 100000 in
set_option maxHeartbeats 4000000 in
theorem spec_IsSortedBy {M : Hp} {v0 : Value} {l0 : List Int} (h0 : RdI M v0 l0){kk1 kn1 : Int} (gk1 : -9223372036854775808 ≤ kn1 ∧ kn1 ≤ 9223372036854775807) (hr0 : (∀ x ∈ l0, -9223372036854775808 ≤ x ∧ x ≤ 9223372036854775807)) (hb : l0.length ≤ 1000000000000) :
    Pu Try.prog (.func (.func 72) #[] #[]) M [v0, .agg #[.int .i64 kk1, .int .i64 kn1]] (fun r M' => r = .bool (decide (SortedI ((l0).map (fun x => keyAt kk1 kn1 x 0))))) := by
  refine Pu_enter Try.func72 rfl Try.ntmps72 rfl Try.call72 ?_
  intro a w M1 H hM1 S E
  replace h0 := h0.le hM1
  have b0 := h0.bound
  refine WP_seq ?_
  refine WP_region ?_
  refine S_x (X_box (cs := #[.int .i64 kk1, .int .i64 kn1]) E S rfl rfl rfl ?_)
  clear E a S; rintro a w b_1 E S
  obtain ⟨M_2, hM_2, hb_1, S⟩ := S.freezeB
  replace h0 := h0.le hM_2
  refine S_v E rfl (R_assign E rfl) rfl ?_
  clear E a; intro a E
  refine WL_nil ?_
  refine T_n ?_
  refine WP_seq ?_
  refine WP_region ?_
  refine S_v E rfl (R_move E rfl) rfl ?_
  clear E a; intro a E
  refine S_v E rfl (R_loadGM E rfl (Try.isAgg31 _) (Try.sizeOf31 _) S.imm hb_1) rfl ?_
  clear E a; intro a E
  refine S_x (X_pu E S rfl rfl rfl (spec_keys h0 (by omega) (by first | assumption | exact (fun x hx => by rcases List.mem_append.1 hx with h | h; exact hr0 x h; exact hr1 x h)) (by (first | omega | (simp; omega) | (simp; done) | (simp_all; omega) | grind))) (Hp.le.refl _) ?_)
  clear E a S; rintro a v_4 w M_3 hM_3 hv_4 S E
  replace h0 := h0.le hM_3
  replace hb_1 := hM_3.2 _ _ hb_1
  refine S_v E rfl (R_assign E rfl) rfl ?_
  clear E a; intro a E
  refine WL_nil ?_
  refine T_n ?_
  refine WP_seq ?_
  refine WP_region ?_
  refine S_v E rfl (R_move E rfl) rfl ?_
  clear E a; intro a E
  refine S_v E rfl (R_move E rfl) rfl ?_
  clear E a; intro a E
  refine S_x (X_pu E S rfl rfl rfl (spec_Sorted hv_4 (by (first | omega | (simp; omega) | (simp; done) | (simp_all; omega) | grind))) (Hp.le.refl _) ?_)
  clear E a S; rintro a v_6 w M_5 hM_5 hv_6 S E
  replace h0 := h0.le hM_5
  replace hb_1 := hM_5.2 _ _ hb_1
  replace hv_4 := hv_4.le hM_5
  refine S_x (X_pu E S rfl rfl rfl (spec_Equal hv_4 hv_6) (Hp.le.refl _) ?_)
  clear E a S; rintro a _ w M_7 hM_7 rfl S E
  replace h0 := h0.le hM_7
  replace hb_1 := hM_7.2 _ _ hb_1
  replace hv_4 := hv_4.le hM_7
  replace hv_6 := hv_6.le hM_7
  refine S_v E rfl (R_assign E rfl) rfl ?_
  clear E a; intro a E
  refine WL_nil ?_
  refine T_n ?_
  refine WP_ret ?_
  exact F_ret1 E Try.results72 rfl ⟨_, rfl, M_7, (hM_2.trans (hM_3.trans (hM_5.trans hM_7))), (congrArg Value.bool (by (first | exact sortI_asc _ | exact (sortI_asc _).symm | (have := sortI_asc (l0.map (fun x => keyAt kk1 kn1 x 0)); simp_all; done)))), S⟩

set_option maxRecDepth 100000 in
set_option maxHeartbeats 4000000 in
theorem spec_IsSorted {M : Hp} {v0 : Value} {l0 : List Int} (h0 : RdI M v0 l0) (hr0 : (∀ x ∈ l0, -9223372036854775808 ≤ x ∧ x ≤ 9223372036854775807)) (hb : l0.length ≤ 1000000000000) :
    Pu Try.prog (.func (.func 71) #[] #[]) M [v0] (fun r M' => r = .bool (decide (SortedI l0))) := by
  refine Pu_enter Try.func71 rfl Try.ntmps71 rfl Try.call71 ?_
  intro a w M1 H hM1 S E
  replace h0 := h0.le hM1
  have b0 := h0.bound
  refine WP_seq ?_
  refine WP_region ?_
  refine S_v E rfl (R_assign E rfl) rfl ?_
  clear E a; intro a E
  refine WL_nil ?_
  refine T_n ?_
  refine WP_seq ?_
  refine WP_region ?_
  refine S_v E rfl (R_move E rfl) rfl ?_
  clear E a; intro a E
  refine S_x (X_pu E S rfl rfl rfl (spec_same ) (Hp.le.refl _) ?_)
  clear E a S; rintro a _ w M_1 hM_1 rfl S E
  replace h0 := h0.le hM_1
  refine S_x (X_pu E S rfl rfl rfl (spec_IsSortedBy h0 (by omega) (by first | assumption | exact (fun x hx => by rcases List.mem_append.1 hx with h | h; exact hr0 x h; exact hr1 x h)) (by (first | omega | (simp; omega) | (simp; done) | (simp_all; omega) | grind))) (Hp.le.refl _) ?_)
  clear E a S; rintro a _ w M_2 hM_2 rfl S E
  replace h0 := h0.le hM_2
  refine S_v E rfl (R_assign E rfl) rfl ?_
  clear E a; intro a E
  refine WL_nil ?_
  refine T_n ?_
  refine WP_ret ?_
  exact F_ret1 E Try.results71 rfl ⟨_, rfl, M_2, (hM_1.trans hM_2), (congrArg Value.bool (by (simp only [map_key5]))), S⟩

set_option maxRecDepth 100000 in
set_option maxHeartbeats 4000000 in
theorem slices_Values1 {M : Hp} {v0 : Value} {l0 : List Int} (h0 : RdI M v0 l0){bx1 : Nat} (hbx1 : M bx1 = some (.cells #[v0] 22)) :
    SeqV Try.prog (.func (.func 242) #[] #[.pointer (some ⟨bx1, 0, none⟩)]) M (RInt) l0 := by
  refine SeqV_enter Try.func242 rfl Try.ntmps242 rfl Try.call242 ?_
  intro y J X a w M1 c H hJM hM1 hY hJ S E
  replace hbx1 := hM1.2 _ _ hbx1
  replace h0 := h0.le hM1
  have b0 := h0.bound
  refine WP_seq ?_
  refine WP_region ?_
  refine S_v E rfl (R_loadM E rfl Try.isAgg22 S.imm (cellM_box hbx1)) rfl ?_
  clear E a; intro a E
  refine S_v E rfl (R_lenV E rfl T22 h0.len) rfl ?_
  clear E a; intro a E
  refine S_v E rfl (R_move E rfl) rfl ?_
  clear E a; intro a E
  refine WL_nil ?_
  refine T_n ?_
  refine WP_block ?_
  refine WP_loop (γ := Nat) (fun (k : Nat) a w => ∃ (M_1 : Hp) (cL0 : HProp), Hp.le M1 M_1 ∧ St w M_1 (mks [] :: cL0 :: H) ∧ Env a 16 (([] : List Nat).map mk) [(0, y), (5, v0), (6, .int .i64 (((l0).length : Nat) : Int)), (7, .int .i64 ((k : Nat) : Int))] ∧ (k ≤ (l0).length) ∧ J (l0.take k) M_1 cL0) (fun k => ((l0).length) - k) 0 ⟨M1, _, Hp.le.refl _, S, E.keep ⟨rfl, rfl, rfl, rfl, trivial⟩, by ((try clear S); (try clear E); first | assumption | omega | rfl | (simp; done) | (simp_all; done) | (simp [List.take_add_one, *]; done) | grind [List.take_add_one]), J_eq hJ (by ((try clear S); (try clear E); first | assumption | omega | rfl | (simp; done) | (simp_all; done) | (simp [List.take_add_one, *]; done) | grind [List.take_add_one]))⟩ ?_
  try clear E
  try clear S
  try clear a
  try clear w
  rintro k a w ⟨M_1, cL0, hM_1, S, E, hL0_0, hJ⟩
  replace hbx1 := hM_1.2 _ _ hbx1
  replace h0 := h0.le hM_1
  refine WP_seq ?_
  refine WP_region ?_
  refine S_v E rfl (R_lss E rfl rfl) rfl ?_
  clear E a; intro a E
  refine WL_nil ?_
  refine T_n ?_
  refine WP_seq ?_
  refine WP_cond E rfl (fun hc_2 => ?_) (fun hc_2 => ?_)
  · replace hc_2 := of_decide_eq_true hc_2
    refine WP_skip ?_
    refine T_n ?_
    refine WP_seq ?_
    refine WP_block ?_
    refine WP_seq ?_
    refine WP_region ?_
    obtain ⟨x_3, hx_3⟩ : ∃ x, (l0)[k]? = some x := ⟨_, List.getElem?_eq_getElem (by first | omega | (simp; done) | (simp; omega) | (simp_all; omega))⟩
    obtain ⟨p_4, hp_4, qp_4⟩ := h0.at hx_3
    refine S_v E rfl (R_idx E rfl rfl T22 hp_4 rfl) rfl ?_
    clear E a; intro a E
    refine S_v E rfl (R_loadM E rfl Try.isAgg3 S.imm qp_4) rfl ?_
    clear E a; intro a E
    refine S_v E rfl (R_assign E rfl) rfl ?_
    clear E a; intro a E
    refine WL_nil ?_
    refine T_n ?_
    refine WP_seq ?_
    refine WP_region ?_
    refine S_v E rfl (R_move E rfl) rfl ?_
    clear E a; intro a E
    refine S_v E rfl (R_move E rfl) rfl ?_
    clear E a; intro a E
    replace S := S.front1
    refine S_x (X_yield (x := x_3) E S rfl rfl rfl hY hM_1 (by (first | (simp; done) | exact List.prefix_refl _ | (rw [pre_take (by assumption)]; exact List.take_prefix _ _) | exact pre_take_lt (by assumption))) rfl hJ ?_)
    clear E a S; rintro a w M_5 c_6 go_7 hM_5 hJ S E
    replace hbx1 := hM_5.2 _ _ hbx1
    replace h0 := h0.le hM_5
    cases go_7
    · replace hJ : X (l0.take k ++ [x_3]) M_5 c_6 := hJ
      refine S_v E rfl (R_not E rfl) rfl ?_
      clear E a; intro a E
      refine WL_nil ?_
      refine T_n ?_
      refine WP_condT E rfl rfl ?_
      refine WP_ret ?_
      refine B_r ?_
      refine T_r ?_
      refine T_r ?_
      refine B_r ?_
      replace S := S.front1
      exact F_retM0 E S Try.results242 (fun w S => ⟨_, rfl, M_5, _, (hM_1.trans hM_5), .inr ⟨(l0.take k ++ [x_3]), (by first | assumption | ((first | (simp; done) | exact List.prefix_refl _ | (rw [pre_take (by assumption)]; exact List.take_prefix _ _) | exact pre_take_lt (by assumption)))), hJ⟩, S⟩)
    · replace hJ : J (l0.take k ++ [x_3]) M_5 c_6 := hJ
      refine S_v E rfl (R_not E rfl) rfl ?_
      clear E a; intro a E
      refine WL_nil ?_
      refine T_n ?_
      refine WP_condF E rfl rfl ?_
      refine WP_skip ?_
      refine B_n ?_
      refine T_n ?_
      refine WP_region ?_
      refine S_v E rfl (R_addx (m := ((k + 1 : Nat) : Int)) E rfl rfl (by omega) (by omega)) rfl ?_
      clear E a; intro a E
      refine S_v E rfl (R_move E rfl) rfl ?_
      clear E a; intro a E
      refine WL_nil ?_
      refine T_n ?_
      replace S := S.front1
      exact ⟨k + 1, ⟨M_5, _, (hM_1.trans hM_5), S, E.keep ⟨rfl, rfl, rfl, rfl, trivial⟩, by ((try clear S); (try clear E); first | assumption | omega | rfl | (simp; done) | (simp_all; done) | (simp [List.take_add_one, *]; done) | grind [List.take_add_one]), J_eq hJ (by ((try clear S); (try clear E); first | assumption | omega | rfl | (simp; done) | (simp_all; done) | (simp [List.take_add_one, *]; done) | grind [List.take_add_one]))⟩, by omega⟩
  · replace hc_2 := of_decide_eq_false hc_2
    refine WP_exit ?_
    refine T_x ?_
    refine T_x ?_
    refine B_x ?_
    refine F_nrm ?_
    replace S := S.front1
    replace S := S.front1
    have hpre : l0.take k = l0 := by ((try clear S); (try clear E); first | rfl | (simp; done) | (simp_all; done) | grind [List.take_add_one])
    rw [hpre] at hJ
    exact F_retM0 E S Try.results242 (fun w S => ⟨_, rfl, M_1, _, hM_1, .inl hJ, S⟩)

set_option maxRecDepth 100000 in
set_option maxHeartbeats 4000000 in
theorem slices_Values {M : Hp} {v0 : Value} {l0 : List Int} (h0 : RdI M v0 l0) :
    Pu Try.prog (.func (.func 142) #[] #[]) M [v0] (fun r M' => SeqV Try.prog r M' RInt l0) := by
  refine Pu_enter Try.func142 rfl Try.ntmps142 rfl Try.call142 ?_
  intro a w M1 H hM1 S E
  replace h0 := h0.le hM1
  have b0 := h0.bound
  refine WP_seq ?_
  refine WP_region ?_
  refine S_x (X_box (cs := #[v0]) E S rfl rfl (cells_one (RdS.one' h0)) ?_)
  clear E a S; rintro a w b_1 E S
  obtain ⟨M_2, hM_2, hb_1, S⟩ := S.freezeB
  replace h0 := h0.le hM_2
  refine S_v E rfl (R_assign E rfl) rfl ?_
  clear E a; intro a E
  refine WL_nil ?_
  refine T_n ?_
  refine WP_seq ?_
  refine WP_region ?_
  refine S_v E rfl (R_makeFunc E rfl rfl) rfl ?_
  clear E a; intro a E
  refine S_v E rfl (R_assign E rfl) rfl ?_
  clear E a; intro a E
  refine WL_nil ?_
  refine T_n ?_
  refine WP_ret ?_
  exact F_ret1 E Try.results142 rfl ⟨_, rfl, M_2, hM_2, (SeqV_eq (slices_Values1 h0 hb_1) (by ((try clear S); (try clear E); first | rfl | (simp; done) | (simp_all; done) | grind [List.take_add_one]))), S⟩

set_option maxRecDepth 100000 in
set_option maxHeartbeats 4000000 in
theorem it_IsSortedBy {M : Hp} {v0 : Value} {l0 : List Int} (h0 : SeqV Try.prog v0 M (RInt) l0){v1 : Value} {f1 : Int → Int} (h1 : PF1I Try.prog v1 M f1) :
    Pu Try.prog (.func (.func 189) #[] #[]) M [v0, v1] (fun r M' => r = .bool (decide (SortedI ((l0).map f1)))) := by
  refine Pu_enter Try.func189 rfl Try.ntmps189 rfl Try.call189 ?_
  intro a w M1 H hM1 S E
  replace h0 := h0.le hM1
  replace h1 := h1.le hM1
  replace S : St w M1 (mks [] :: _) := S.empty
  replace E : Env a 19 (([] : List Nat).map mk) _ := E
  refine WP_seq ?_
  refine WP_region ?_
  refine S_x (X_box (cs := #[v1]) E S rfl rfl (cells_one h1.1) ?_)
  clear E a S; rintro a w b_1 E S
  obtain ⟨M_2, hM_2, hb_1, S⟩ := S.freezeB
  replace h0 := h0.le hM_2
  replace h1 := h1.le hM_2
  refine S_x (X_alloc (cs := #[.bool false]) E S rfl Try.zeroValue4 rfl ?_)
  clear E a S; rintro a w b_3 E S
  refine WL_nil ?_
  refine T_n ?_
  refine WP_seq ?_
  refine WP_region ?_
  refine S_x (X_alloc (cs := #[.bool false]) E S rfl Try.zeroValue4 rfl ?_)
  clear E a S; rintro a w b_4 E S
  refine S_x0 (X_store E S rfl rfl (Try.sizeOf4 _) rfl ?_)
  clear E a S; rintro a w E S
  refine WL_nil ?_
  refine T_n ?_
  refine WP_seq ?_
  refine WP_region ?_
  refine S_x (X_alloc (cs := #[.int .i64 0]) E S rfl Try.zeroValue3 rfl ?_)
  clear E a S; rintro a w b_5 E S
  refine WL_nil ?_
  refine T_n ?_
  refine WP_seq ?_
  refine WP_seq ?_
  refine WP_region ?_
  refine S_v E rfl (R_move E rfl) rfl ?_
  clear E a; intro a E
  refine WL_nil ?_
  refine T_n ?_
  refine WP_block ?_
  replace S := S.front2
  replace S := S.front2
  replace S := S.front2
  replace E := E.keep (l' := [(3, .pointer (some ⟨b_1, 0, none⟩)), (4, .pointer (some ⟨b_3, 0, none⟩)), (5, .pointer (some ⟨b_4, 0, none⟩)), (6, .pointer (some ⟨b_5, 0, none⟩)), (9, v0)]) ⟨rfl, rfl, rfl, rfl, rfl, trivial⟩
  replace S := S.front2
  replace S := S.front2
  replace S := S.blk_bool (j := (([] : List Int)).isEmpty) (by (first | rfl | (simp; done) | exact isE_app (by assumption) | exact isE_app2 (by assumption) | (rw [List.map_append, List.map_singleton, getLastD_append1]; done) | (simp_all; done)))
  replace S := S.front2
  replace S := S.blk_int (j := ((([] : List Int)).map f1).getLastD 0) (by (first | rfl | (simp; done) | exact isE_app (by assumption) | exact isE_app2 (by assumption) | (rw [List.map_append, List.map_singleton, getLastD_append1]; done) | (simp_all; done)))
  have S0 := S; clear S; have S := St.pack [blk b_5 (.cells #[.int .i64 (((([] : List Int)).map f1).getLastD 0)] 3), blk b_4 (.cells #[.bool ((([] : List Int)).isEmpty)] 4), blk b_3 (.cells #[.bool false] 4)] S0; clear S0
  refine WP_range (RV := RInt) (l := l0) (fun pre M c => c = bigs [blk b_5 (.cells #[.int .i64 (((pre).map f1).getLastD 0)] 3), blk b_4 (.cells #[.bool ((pre).isEmpty)] 4), blk b_3 (.cells #[.bool false] 4)] ∧ (SortedI ((pre).map f1))) (fun cd pre M c => (cd = .ret ∧ ∃ (bb : Bool) (zz : Int), c = bigs [blk b_5 (.cells #[.int .i64 zz] 3), blk b_4 (.cells #[.bool bb] 4), blk b_3 (.cells #[.bool false] 4)] ∧ (¬ SortedI (l0.map f1)))) E S rfl h0 (Hp.le.refl _) (fun _ _ _ h => by rw [h]; rfl) (by decide) (by rintro _ M M' c hM ⟨rfl, f0⟩; exact ⟨rfl, f0⟩) ⟨rfl, (by (simp [SortedI]))⟩ ?_ ?_ ?_
  clear E S
  · rintro lb_7 rec_8 pre x _ a w M_6 _ G hM_6 hp_9 rfl ⟨rfl, f0⟩ E S
    replace E : Env a 19 [] [(10, .int .i64 x), (3, .pointer (some ⟨b_1, 0, none⟩)), (4, .pointer (some ⟨b_3, 0, none⟩)), (5, .pointer (some ⟨b_4, 0, none⟩)), (6, .pointer (some ⟨b_5, 0, none⟩)), (9, v0)] := E
    replace S := S.swap.unpack3
    have hq0 := prefix_lt hp_9
    replace h0 := h0.le hM_6
    replace h1 := h1.le hM_6
    replace hb_1 := hM_6.2 _ _ hb_1
    refine WP_region ?_
    refine S_v E rfl (R_assign E rfl) rfl ?_
    clear E a; intro a E
    refine WL_nil ?_
    refine T_n ?_
    replace S := S.front3
    refine rb S ?_
    clear S; intro w S
    refine WP_block ?_
    refine WP_seq ?_
    refine WP_region ?_
    refine S_v E rfl (R_loadM E rfl Try.isAgg118 S.imm (cellM_box hb_1)) rfl ?_
    clear E a; intro a E
    refine S_v E rfl (R_move E rfl) rfl ?_
    clear E a; intro a E
    refine S_x (X_pu E S rfl rfl rfl (h1.2 x) (Hp.le.refl _) ?_)
    clear E a S; rintro a _ w M_11 hM_11 rfl S E
    replace h0 := h0.le hM_11
    replace h1 := h1.le hM_11
    replace hb_1 := hM_11.2 _ _ hb_1
    refine S_v E rfl (R_assign E rfl) rfl ?_
    clear E a; intro a E
    refine WL_nil ?_
    refine T_n ?_
    refine WP_seq ?_
    refine WP_seq ?_
    refine WP_region ?_
    refine S_v E rfl (R_load E rfl (Try.isAgg4 _) (cell_blk (S.mem (.tail _ (.tail _ (.head _)))))) rfl ?_
    clear E a; intro a E
    refine WL_nil ?_
    refine T_n ?_
    refine WP_cond E rfl (fun hc_12 => ?_) (fun hc_12 => ?_)
    · refine WP_region ?_
      replace S := S.front2
      refine S_x0 (X_store E S rfl rfl (Try.sizeOf4 _) rfl ?_)
      clear E a S; rintro a w E S
      refine WL_nil ?_
      refine T_n ?_
      refine WP_region ?_
      refine S_v E rfl (R_move E rfl) rfl ?_
      clear E a; intro a E
      replace S := S.front2
      refine S_x0 (X_store E S rfl rfl (Try.sizeOf3 _) rfl ?_)
      clear E a S; rintro a w E S
      refine WL_nil ?_
      refine B_n ?_
      replace S := S.front3
      replace S := S.front2
      replace S := S.front2
      replace S := S.front2
      replace S := S.front2
      replace S := S.blk_bool (j := ((pre ++ [x])).isEmpty) (by (first | rfl | (simp; done) | exact isE_app (by assumption) | exact isE_app2 (by assumption) | (rw [List.map_append, List.map_singleton, getLastD_append1]; done) | (simp_all; done)))
      replace S := S.front2
      replace S := S.blk_int (j := (((pre ++ [x])).map f1).getLastD 0) (by (first | rfl | (simp; done) | exact isE_app (by assumption) | exact isE_app2 (by assumption) | (rw [List.map_append, List.map_singleton, getLastD_append1]; done) | (simp_all; done)))
      have S0 := S; clear S; have S := (St.pack [blk b_5 (.cells #[.int .i64 ((((pre ++ [x])).map f1).getLastD 0)] 3), blk b_4 (.cells #[.bool (((pre ++ [x])).isEmpty)] 4), blk b_3 (.cells #[.bool false] 4)] S0).swap; clear S0
      exact ⟨M_11, _, hM_11, ⟨rfl, (by (rw [List.map_append, List.map_singleton]; first | (refine asc_snoc f0 (.inr ?_); omega) | (refine asc_snoc f0 (.inl ?_); simp_all; done)))⟩, S⟩
    · refine WP_seq ?_
      refine WP_region ?_
      refine S_v E rfl (R_load E rfl (Try.isAgg3 _) (cell_blk (S.mem (.tail _ (.head _))))) rfl ?_
      clear E a; intro a E
      refine S_v E rfl (R_move E rfl) rfl ?_
      clear E a; intro a E
      refine S_v E rfl (R_gtr E rfl rfl) rfl ?_
      clear E a; intro a E
      refine WL_nil ?_
      refine T_n ?_
      refine WP_cond E rfl (fun hc_13 => ?_) (fun hc_13 => ?_)
      · replace hc_13 := of_decide_eq_true hc_13
        refine WP_seq ?_
        refine WP_region ?_
        replace S := S.front3
        refine S_x0 (X_store E S rfl rfl (Try.sizeOf4 _) rfl ?_)
        clear E a S; rintro a w E S
        refine WL_nil ?_
        refine T_n ?_
        refine WP_ret ?_
        refine T_r ?_
        refine B_r ?_
        replace S := S.front3
        replace S := S.front3
        replace S := S.front2
        replace S := S.front2
        replace S := S.front2
        have S0 := S; clear S; have S := (St.pack [blk b_5 (.cells #[.int .i64 (((pre).map f1).getLastD 0)] 3), blk b_4 (.cells #[.bool ((pre).isEmpty)] 4), blk b_3 (.cells #[.bool false] 4)] S0).swap; clear S0
        exact ⟨M_11, _, hM_11, ⟨rfl, _, _, rfl, (by (exact asc_bad (map_pre (by assumption)) (by simp_all) (by omega)))⟩, S⟩
      · replace hc_13 := of_decide_eq_false hc_13
        refine WP_skip ?_
        refine T_n ?_
        refine WP_region ?_
        refine S_v E rfl (R_move E rfl) rfl ?_
        clear E a; intro a E
        replace S := S.front1
        refine S_x0 (X_store E S rfl rfl (Try.sizeOf3 _) rfl ?_)
        clear E a S; rintro a w E S
        refine WL_nil ?_
        refine B_n ?_
        replace S := S.front3
        replace S := S.front3
        replace S := S.front2
        replace S := S.front2
        replace S := S.front2
        replace S := S.blk_bool (j := ((pre ++ [x])).isEmpty) (by (first | rfl | (simp; done) | exact isE_app (by assumption) | exact isE_app2 (by assumption) | (rw [List.map_append, List.map_singleton, getLastD_append1]; done) | (simp_all; done)))
        replace S := S.front2
        replace S := S.blk_int (j := (((pre ++ [x])).map f1).getLastD 0) (by (first | rfl | (simp; done) | exact isE_app (by assumption) | exact isE_app2 (by assumption) | (rw [List.map_append, List.map_singleton, getLastD_append1]; done) | (simp_all; done)))
        have S0 := S; clear S; have S := (St.pack [blk b_5 (.cells #[.int .i64 ((((pre ++ [x])).map f1).getLastD 0)] 3), blk b_4 (.cells #[.bool (((pre ++ [x])).isEmpty)] 4), blk b_3 (.cells #[.bool false] 4)] S0).swap; clear S0
        exact ⟨M_11, _, hM_11, ⟨rfl, (by (rw [List.map_append, List.map_singleton]; first | (refine asc_snoc f0 (.inr ?_); omega) | (refine asc_snoc f0 (.inl ?_); simp_all; done)))⟩, S⟩
  · rintro a w M_14 _ D_15 hM_14 ⟨rfl, f0⟩ S E
    replace S := S.unpack3
    replace h0 := h0.le hM_14
    replace h1 := h1.le hM_14
    replace hb_1 := hM_14.2 _ _ hb_1
    refine B_n ?_
    refine T_n ?_
    refine WP_seq ?_
    refine WP_region ?_
    replace S := S.front2
    refine S_x0 (X_store E S rfl rfl (Try.sizeOf4 _) rfl ?_)
    clear E a S; rintro a w E S
    refine WL_nil ?_
    refine T_n ?_
    refine WP_ret ?_
    replace S := S.front1
    replace S := S.drop
    replace S := S.front1
    replace S := S.drop
    replace S := S.front1
    exact F_retC1 E S Try.results189 rfl (fun w => Try.isAgg4 w) (fun w S => ⟨_, rfl, M_14, (hM_2.trans hM_14), (bT (by (first | exact f0 | exact (decide_eq_false f0).symm | exact (decide_eq_true f0).symm | assumption))), S.drop⟩)
  · rintro a w M_16 _ D_17 p_18 _ hM_16 hp_19 (⟨rfl, bb, zz, rfl, f0⟩) S E
    replace S := S.unpack3
    replace h0 := h0.le hM_16
    replace h1 := h1.le hM_16
    replace hb_1 := hM_16.2 _ _ hb_1
    refine WP_ret ?_
    refine B_r ?_
    refine T_r ?_
    replace S := S.drop
    replace S := S.drop
    replace S := S.front1
    exact F_retC1 E S Try.results189 rfl (fun w => Try.isAgg4 w) (fun w S => ⟨_, rfl, M_16, (hM_2.trans hM_16), (congrArg Value.bool (by (first | exact f0 | exact (decide_eq_false f0).symm | exact (decide_eq_true f0).symm | assumption))), S.drop⟩)

set_option maxRecDepth 100000 in
set_option maxHeartbeats 4000000 in
theorem it_IsSorted1 {M : Hp} {x0 : Int} :
    Pu Try.prog (.func (.func 250) #[] #[]) M [.int .i64 x0] (fun r M' => r = .int .i64 x0) := by
  refine Pu_enter Try.func250 rfl Try.ntmps250 rfl Try.call250 ?_
  intro a w M1 H hM1 S E
  refine WP_seq ?_
  refine WP_region ?_
  refine S_v E rfl (R_assign E rfl) rfl ?_
  clear E a; intro a E
  refine WL_nil ?_
  refine T_n ?_
  refine WP_seq ?_
  refine WP_region ?_
  refine S_v E rfl (R_move E rfl) rfl ?_
  clear E a; intro a E
  refine S_v E rfl (R_assign E rfl) rfl ?_
  clear E a; intro a E
  refine WL_nil ?_
  refine T_n ?_
  refine WP_ret ?_
  exact F_ret1 E Try.results250 rfl ⟨_, rfl, M1, (Hp.le.refl _), rfl, S⟩

set_option maxRecDepth 100000 in
set_option maxHeartbeats 4000000 in
theorem it_IsSorted {M : Hp} {v0 : Value} {l0 : List Int} (h0 : SeqV Try.prog v0 M (RInt) l0) :
    Pu Try.prog (.func (.func 187) #[] #[]) M [v0] (fun r M' => r = .bool (decide (SortedI l0))) := by
  refine Pu_enter Try.func187 rfl Try.ntmps187 rfl Try.call187 ?_
  intro a w M1 H hM1 S E
  replace h0 := h0.le hM1
  refine WP_seq ?_
  refine WP_region ?_
  refine S_v E rfl (R_assign E rfl) rfl ?_
  clear E a; intro a E
  refine WL_nil ?_
  refine T_n ?_
  refine WP_seq ?_
  refine WP_region ?_
  refine S_v E rfl (R_move E rfl) rfl ?_
  clear E a; intro a E
  refine S_x (X_pu E S rfl rfl rfl (it_IsSortedBy h0 ⟨rfl, fun zx0 => it_IsSorted1 (x0 := zx0) ⟩) (Hp.le.refl _) ?_)
  clear E a S; rintro a _ w M_1 hM_1 rfl S E
  replace h0 := h0.le hM_1
  refine S_v E rfl (R_assign E rfl) rfl ?_
  clear E a; intro a E
  refine WL_nil ?_
  refine T_n ?_
  refine WP_ret ?_
  exact F_ret1 E Try.results187 rfl ⟨_, rfl, M_1, hM_1, (congrArg Value.bool (by (first | rfl | (simp; done) | (rw [List.map_id', List.map_id']; done) | simp [List.map_id']))), S⟩

set_option maxRecDepth 100000 in
set_option maxHeartbeats 4000000 in
theorem impl_IsSortedSeq {M : Hp} {v0 : Value} {l0 : List Int} (h0 : RdI M v0 l0) :
    Pu Try.prog (.func (.func 73) #[] #[]) M [v0] (fun r M' => r = .bool (decide (SortedI l0))) := by
  refine Pu_enter Try.func73 rfl Try.ntmps73 rfl Try.call73 ?_
  intro a w M1 H hM1 S E
  replace h0 := h0.le hM1
  have b0 := h0.bound
  refine WP_seq ?_
  refine WP_region ?_
  refine S_v E rfl (R_assign E rfl) rfl ?_
  clear E a; intro a E
  refine WL_nil ?_
  refine T_n ?_
  refine WP_seq ?_
  refine WP_region ?_
  refine S_v E rfl (R_move E rfl) rfl ?_
  clear E a; intro a E
  refine S_x (X_pu E S rfl rfl rfl (slices_Values h0) (Hp.le.refl _) ?_)
  clear E a S; rintro a v_2 w M_1 hM_1 hv_2 S E
  replace h0 := h0.le hM_1
  refine S_x (X_pu E S rfl rfl rfl (it_IsSorted hv_2) (Hp.le.refl _) ?_)
  clear E a S; rintro a _ w M_3 hM_3 rfl S E
  replace h0 := h0.le hM_3
  replace hv_2 := hv_2.le hM_3
  refine S_v E rfl (R_assign E rfl) rfl ?_
  clear E a; intro a E
  refine WL_nil ?_
  refine T_n ?_
  refine WP_ret ?_
  exact F_ret1 E Try.results73 rfl ⟨_, rfl, M_3, (hM_1.trans hM_3), rfl, S⟩

set_option maxRecDepth 100000 in
set_option maxHeartbeats 4000000 in
theorem lo_IsSortedBy {M : Hp} {v0 : Value} {l0 : List Int} (h0 : RdI M v0 l0){v1 : Value} {f1 : Int → Int} (h1 : PF1I Try.prog v1 M f1) :
    Pu Try.prog (.func (.func 188) #[] #[]) M [v0, v1] (fun r M' => r = .bool (decide (SortedI ((l0).map f1)))) := by
  refine Pu_enter Try.func188 rfl Try.ntmps188 rfl Try.call188 ?_
  intro a w M1 H hM1 S E
  replace h0 := h0.le hM1
  replace h1 := h1.le hM1
  have b0 := h0.bound
  refine WP_seq ?_
  refine WP_region ?_
  refine S_v E rfl (R_assign E rfl) rfl ?_
  clear E a; intro a E
  refine WL_nil ?_
  refine T_n ?_
  refine WP_seq ?_
  refine WP_region ?_
  refine S_v E rfl (R_move E rfl) rfl ?_
  clear E a; intro a E
  refine S_v E rfl (R_lenV E rfl T22 h0.len) rfl ?_
  clear E a; intro a E
  refine S_v E rfl (R_assign E rfl) rfl ?_
  clear E a; intro a E
  refine WL_nil ?_
  refine T_n ?_
  refine WP_seq ?_
  refine WP_seq ?_
  refine WP_region ?_
  refine S_v E rfl (R_assign E rfl) rfl ?_
  clear E a; intro a E
  refine WL_nil ?_
  refine T_n ?_
  refine WP_block ?_
  refine WP_loop (γ := Nat) (fun (k : Nat) a w => ∃ (M_1 : Hp), Hp.le M1 M_1 ∧ St w M_1 (H) ∧ Env a 29 [] [(0, v0), (1, v1), (5, .int .i64 (((l0).length : Nat) : Int)), (6, .int .i64 ((k : Nat) : Int))] ∧ (k ≤ l0.length) ∧ (SortedI ((l0.map f1).take (k + 1)))) (fun k => l0.length - k) 0 ⟨M1, Hp.le.refl _, S, E.keep ⟨rfl, rfl, rfl, rfl, trivial⟩, (by omega), (by exact asc_one (by omega))⟩ ?_
  try clear E
  try clear S
  try clear a
  try clear w
  rintro k a w ⟨M_1, hM_1, S, E, hL0_0, hL0_1⟩
  replace h0 := h0.le hM_1
  replace h1 := h1.le hM_1
  refine WP_seq ?_
  refine WP_seq ?_
  refine WP_region ?_
  refine S_v E rfl (R_move E rfl) rfl ?_
  clear E a; intro a E
  refine S_v E rfl (R_move E rfl) rfl ?_
  clear E a; intro a E
  refine S_v E rfl (R_subx (m := (((l0).length : Nat) : Int) - 1) E rfl rfl (by omega) (by omega)) rfl ?_
  clear E a; intro a E
  refine S_v E rfl (R_lss E rfl rfl) rfl ?_
  clear E a; intro a E
  refine WL_nil ?_
  refine T_n ?_
  refine WP_cond E rfl (fun hc_2 => ?_) (fun hc_2 => ?_)
  · replace hc_2 := of_decide_eq_true hc_2
    refine WP_skip ?_
    refine T_n ?_
    refine WP_seq ?_
    refine WP_block ?_
    refine WP_seq ?_
    have h0k2 := h0
    replace S := S.mono_heap (w' := World.drew _) rfl
    refine WP_drawn (C := fun x w => agree M_1 w) (bf := (fun i => [])) [0, 1, 2, 3, 4, 6, 7, 8, 9, 10, 11, 13] [0, 1, 2, 3, 4, 6, 7, 8, 9, 10, 11, 5, 12, 13] Try.mixed (by kernel_rfl) (fun x hq => S.imm) ?_
    refine D_v E rfl rfl rfl (fun w hC => (R_move E rfl)) ?_
    clear E a; intro a E
    refine D_v E rfl rfl rfl (fun w hC => (R_move E rfl)) ?_
    clear E a; intro a E
    refine D_v E rfl rfl rfl (fun w hC => (R_move E rfl)) ?_
    clear E a; intro a E
    obtain ⟨x_3, hx_3⟩ : ∃ x, (l0)[k]? = some x := ⟨_, List.getElem?_eq_getElem (by first | omega | (simp; done) | (simp; omega) | (simp_all; omega))⟩
    obtain ⟨p_4, hp_4, qp_4⟩ := h0.at hx_3
    refine D_v E rfl rfl rfl (fun w hC => (R_idx E rfl rfl T22 hp_4 rfl)) ?_
    clear E a; intro a E
    refine D_v E rfl rfl rfl (fun w hC => (R_loadM E rfl Try.isAgg3 hC qp_4)) ?_
    clear E a; intro a E
    refine D_v E rfl rfl rfl (fun w hC => (R_move E rfl)) ?_
    clear E a; intro a E
    refine D_v E rfl rfl rfl (fun w hC => (R_move E rfl)) ?_
    clear E a; intro a E
    refine D_v E rfl rfl rfl (fun w hC => (R_move E rfl)) ?_
    clear E a; intro a E
    refine D_v E rfl rfl rfl (fun w hC => (R_addx (m := ((k + 1 : Nat) : Int)) E rfl rfl (by omega) (by omega))) ?_
    clear E a; intro a E
    obtain ⟨x_5, hx_5⟩ : ∃ x, (l0)[k + 1]? = some x := ⟨_, List.getElem?_eq_getElem (by first | omega | (simp; done) | (simp; omega) | (simp_all; omega))⟩
    obtain ⟨p_6, hp_6, qp_6⟩ := h0.at hx_5
    refine D_v E rfl rfl rfl (fun w hC => (R_idx E rfl rfl T22 hp_6 rfl)) ?_
    clear E a; intro a E
    refine D_v E rfl rfl rfl (fun w hC => (R_loadM E rfl Try.isAgg3 hC qp_6)) ?_
    clear E a; intro a E
    refine D_x rfl rfl rfl (X_pu E S rfl rfl rfl (h1.2 x_3) (Hp.le.refl _) ?_)
    clear E a S; rintro a _ w M_7 hM_7 rfl S E
    replace h0 := h0.le hM_7
    replace h1 := h1.le hM_7
    refine ⟨fun x hq hb => (agree_le hM_7 S.imm), ?_⟩
    refine D_x rfl rfl rfl (X_pu E S rfl rfl rfl (h1.2 x_5) (Hp.le.refl _) ?_)
    clear E a S; rintro a _ w M_8 hM_8 rfl S E
    replace h0 := h0.le hM_8
    replace h1 := h1.le hM_8
    refine ⟨fun x hq hb => (agree_le (hM_7.trans hM_8) S.imm), ?_⟩
    refine D_v E rfl rfl rfl (fun w hC => (R_gtr E rfl rfl)) ?_
    clear E a; intro a E
    refine D_end (NoP_n ?_)
    refine T_n ?_
    refine WP_cond E rfl (fun hc_9 => ?_) (fun hc_9 => ?_)
    · replace hc_9 := of_decide_eq_true hc_9
      refine WP_seq ?_
      refine WP_region ?_
      refine S_v E rfl (R_assign E rfl) rfl ?_
      clear E a; intro a E
      refine WL_nil ?_
      refine T_n ?_
      refine WP_ret ?_
      refine B_r ?_
      refine T_r ?_
      refine T_r ?_
      refine B_r ?_
      refine T_r ?_
      exact F_ret1 E Try.results188 rfl ⟨_, rfl, M_8, (hM_1.trans (hM_7.trans hM_8)), (bF (by (exact asc_no (k := k) (map_at (by assumption)) (map_at (by assumption)) (by omega)))), S⟩
    · replace hc_9 := of_decide_eq_false hc_9
      refine WP_skip ?_
      refine B_n ?_
      refine T_n ?_
      refine WP_region ?_
      refine S_v E rfl (R_move E rfl) rfl ?_
      clear E a; intro a E
      refine S_v E rfl (R_addx (m := ((k : Nat) : Int) + 1) E rfl rfl (by omega) (by omega)) rfl ?_
      clear E a; intro a E
      refine S_v E rfl (R_assign E rfl) rfl ?_
      clear E a; intro a E
      refine WL_nil ?_
      refine T_n ?_
      exact ⟨k + 1, ⟨M_8, (hM_1.trans (hM_7.trans hM_8)), S, E.keep ⟨rfl, rfl, rfl, rfl, trivial⟩, (by omega), (by exact asc_step (k := k) hL0_1 (map_at (by assumption)) (map_at (by assumption)) (by omega))⟩, by omega⟩
  · replace hc_2 := of_decide_eq_false hc_2
    refine WP_exit ?_
    refine T_x ?_
    refine T_x ?_
    refine B_x ?_
    refine T_n ?_
    refine WP_seq ?_
    refine WP_region ?_
    refine S_v E rfl (R_assign E rfl) rfl ?_
    clear E a; intro a E
    refine WL_nil ?_
    refine T_n ?_
    refine WP_ret ?_
    exact F_ret1 E Try.results188 rfl ⟨_, rfl, M_1, hM_1, (bT (by (exact asc_all hL0_1 (by simp; omega)))), S⟩

set_option maxRecDepth 100000 in
set_option maxHeartbeats 4000000 in
theorem impl_mod {M : Hp} {x0 x1 : Int} (hn : x1 ≠ 0) (g1 : -9223372036854775808 ≤ x1 ∧ x1 ≤ 9223372036854775807) :
    Pu Try.prog (.func (.func 252) #[] #[]) M [.int .i64 x0, .int .i64 x1] (fun r M' => r = .int .i64 (x0 % x1)) := by
  refine Pu_enter Try.func252 rfl Try.ntmps252 rfl Try.call252 ?_
  intro a w M1 H hM1 S E
  have ht := tmod_emod x0 x1 hn
  refine WP_seq ?_
  refine WP_region ?_
  refine S_v E rfl (R_assign E rfl) rfl ?_
  clear E a; intro a E
  refine WL_nil ?_
  refine T_n ?_
  refine WP_seq ?_
  refine WP_region ?_
  refine S_v E rfl (R_move E rfl) rfl ?_
  clear E a; intro a E
  refine S_v E rfl (R_move E rfl) rfl ?_
  clear E a; intro a E
  refine S_v E rfl (R_rem E rfl rfl (by first | decide | omega)) rfl ?_
  clear E a; intro a E
  refine S_v E rfl (R_assign E rfl) rfl ?_
  clear E a; intro a E
  refine WL_nil ?_
  refine T_n ?_
  refine WP_seq ?_
  refine WP_seq ?_
  refine WP_region ?_
  refine S_v E rfl (R_move E rfl) rfl ?_
  clear E a; intro a E
  refine S_v E rfl (R_lss E rfl rfl) rfl ?_
  clear E a; intro a E
  refine WL_nil ?_
  refine T_n ?_
  refine WP_cond E rfl (fun hc_1 => ?_) (fun hc_1 => ?_)
  · replace hc_1 := of_decide_eq_true hc_1
    refine WP_seq ?_
    refine WP_seq ?_
    refine WP_region ?_
    refine S_v E rfl (R_move E rfl) rfl ?_
    clear E a; intro a E
    refine S_v E rfl (R_lss E rfl rfl) rfl ?_
    clear E a; intro a E
    refine WL_nil ?_
    refine T_n ?_
    refine WP_cond E rfl (fun hc_2 => ?_) (fun hc_2 => ?_)
    · replace hc_2 := of_decide_eq_true hc_2
      refine WP_seq ?_
      refine WP_region ?_
      refine S_v E rfl (R_move E rfl) rfl ?_
      clear E a; intro a E
      refine S_v E rfl (R_move E rfl) rfl ?_
      clear E a; intro a E
      refine S_v E rfl (R_subx (m := (Int.tmod x0 x1) - x1) E rfl rfl (by omega) (by omega)) rfl ?_
      clear E a; intro a E
      refine S_v E rfl (R_assign E rfl) rfl ?_
      clear E a; intro a E
      refine WL_nil ?_
      refine T_n ?_
      refine WP_ret ?_
      refine T_r ?_
      refine T_r ?_
      exact F_ret1 E Try.results252 rfl ⟨_, rfl, M1, (Hp.le.refl _), (congrArg (Value.int .i64) (by omega)), S⟩
    · replace hc_2 := of_decide_eq_false hc_2
      refine WP_skip ?_
      refine T_n ?_
      refine WP_seq ?_
      refine WP_region ?_
      refine S_v E rfl (R_move E rfl) rfl ?_
      clear E a; intro a E
      refine S_v E rfl (R_move E rfl) rfl ?_
      clear E a; intro a E
      refine S_v E rfl (R_addx (m := (Int.tmod x0 x1) + x1) E rfl rfl (by omega) (by omega)) rfl ?_
      clear E a; intro a E
      refine S_v E rfl (R_assign E rfl) rfl ?_
      clear E a; intro a E
      refine WL_nil ?_
      refine T_n ?_
      refine WP_ret ?_
      refine T_r ?_
      exact F_ret1 E Try.results252 rfl ⟨_, rfl, M1, (Hp.le.refl _), (congrArg (Value.int .i64) (by omega)), S⟩
  · replace hc_1 := of_decide_eq_false hc_1
    refine WP_skip ?_
    refine T_n ?_
    refine WP_seq ?_
    refine WP_region ?_
    refine S_v E rfl (R_move E rfl) rfl ?_
    clear E a; intro a E
    refine S_v E rfl (R_assign E rfl) rfl ?_
    clear E a; intro a E
    refine WL_nil ?_
    refine T_n ?_
    refine WP_ret ?_
    exact F_ret1 E Try.results252 rfl ⟨_, rfl, M1, (Hp.le.refl _), (congrArg (Value.int .i64) (by omega)), S⟩

set_option maxRecDepth 100000 in
set_option maxHeartbeats 4000000 in
theorem Key_at_c {M : Hp} {kk0 kn0 : Int} (gk0 : -9223372036854775808 ≤ kn0 ∧ kn0 ≤ 9223372036854775807){x1 x2 : Int} :
    PuC Try.prog 193 M [.agg #[.int .i64 kk0, .int .i64 kn0], .int .i64 x1, .int .i64 x2] (fun r M' => r = .int .i64 (keyAt kk0 kn0 x1 x2)) := by
  refine PuC_enter Try.func193 rfl Try.ntmps193 rfl ?_
  intro a w M1 H hM1 S E
  refine WP_seq ?_
  refine WP_region ?_
  refine S_x (X_box (cs := #[.int .i64 kk0, .int .i64 kn0]) E S rfl rfl rfl ?_)
  clear E a S; rintro a w b_1 E S
  obtain ⟨M_2, hM_2, hb_1, S⟩ := S.freezeB
  refine S_v E rfl (R_assign E rfl) rfl ?_
  clear E a; intro a E
  refine WL_nil ?_
  refine T_n ?_
  refine WP_seq ?_
  refine WP_seq ?_
  refine WP_region ?_
  refine S_v E rfl (R_fieldAddr E rfl (FA24_0 _)) rfl ?_
  clear E a; intro a E
  refine S_v E rfl (R_loadM E rfl Try.isAgg3 S.imm (cellM_boxo hb_1 rfl)) rfl ?_
  clear E a; intro a E
  refine WL_nil ?_
  refine T_n ?_
  refine WP_block ?_
  refine WP_seq ?_
  refine WP_region ?_
  refine S_v E rfl (R_eql E rfl rfl) rfl ?_
  clear E a; intro a E
  refine S_v E rfl (R_assign E rfl) rfl ?_
  clear E a; intro a E
  refine WL_nil ?_
  refine T_n ?_
  refine WP_cond E rfl (fun hc_3 => ?_) (fun hc_3 => ?_)
  · replace hc_3 := of_decide_eq_true hc_3
    refine WP_seq ?_
    refine WP_region ?_
    refine S_v E rfl (R_move E rfl) rfl ?_
    clear E a; intro a E
    refine S_v E rfl (R_fieldAddr E rfl (FA24_1 _)) rfl ?_
    clear E a; intro a E
    refine S_v E rfl (R_loadM E rfl Try.isAgg3 S.imm (cellM_boxo hb_1 rfl)) rfl ?_
    clear E a; intro a E
    refine S_v E rfl (R_add E rfl rfl) rfl ?_
    clear E a; intro a E
    refine S_v E rfl (R_assign E rfl) rfl ?_
    clear E a; intro a E
    refine WL_nil ?_
    refine T_n ?_
    refine WP_ret ?_
    refine B_r ?_
    refine T_r ?_
    exact F_ret1 E Try.results193 rfl ⟨_, rfl, M_2, hM_2, (congrArg (Value.int .i64) (by (clear E S; unfold keyAt w64; first | (simp [*]; done) | (simp_all; done)))), S⟩
  · replace hc_3 := of_decide_eq_false hc_3
    refine WP_seq ?_
    refine WP_region ?_
    refine S_v E rfl (R_eql E rfl rfl) rfl ?_
    clear E a; intro a E
    refine S_v E rfl (R_assign E rfl) rfl ?_
    clear E a; intro a E
    refine WL_nil ?_
    refine T_n ?_
    refine WP_cond E rfl (fun hc_4 => ?_) (fun hc_4 => ?_)
    · replace hc_4 := of_decide_eq_true hc_4
      refine WP_seq ?_
      refine WP_region ?_
      refine S_v E rfl (R_move E rfl) rfl ?_
      clear E a; intro a E
      refine S_v E rfl (R_fieldAddr E rfl (FA24_1 _)) rfl ?_
      clear E a; intro a E
      refine S_v E rfl (R_loadM E rfl Try.isAgg3 S.imm (cellM_boxo hb_1 rfl)) rfl ?_
      clear E a; intro a E
      refine S_v E rfl (R_mul E rfl rfl) rfl ?_
      clear E a; intro a E
      refine S_v E rfl (R_assign E rfl) rfl ?_
      clear E a; intro a E
      refine WL_nil ?_
      refine T_n ?_
      refine WP_ret ?_
      refine B_r ?_
      refine T_r ?_
      exact F_ret1 E Try.results193 rfl ⟨_, rfl, M_2, hM_2, (congrArg (Value.int .i64) (by (clear E S; unfold keyAt w64; first | (simp [*]; done) | (simp_all; done)))), S⟩
    · replace hc_4 := of_decide_eq_false hc_4
      refine WP_seq ?_
      refine WP_region ?_
      refine S_v E rfl (R_eql E rfl rfl) rfl ?_
      clear E a; intro a E
      refine S_v E rfl (R_assign E rfl) rfl ?_
      clear E a; intro a E
      refine WL_nil ?_
      refine T_n ?_
      refine WP_cond E rfl (fun hc_5 => ?_) (fun hc_5 => ?_)
      · replace hc_5 := of_decide_eq_true hc_5
        refine WP_seq ?_
        refine WP_region ?_
        refine S_v E rfl (R_fieldAddr E rfl (FA24_1 _)) rfl ?_
        clear E a; intro a E
        refine S_v E rfl (R_loadM E rfl Try.isAgg3 S.imm (cellM_boxo hb_1 rfl)) rfl ?_
        clear E a; intro a E
        refine S_v E rfl (R_neq E rfl rfl) rfl ?_
        clear E a; intro a E
        refine WL_nil ?_
        refine T_n ?_
        refine WP_cond E rfl (fun hc_6 => ?_) (fun hc_6 => ?_)
        · replace hc_6 := of_decide_eq_true hc_6
          refine WP_seq ?_
          refine WP_region ?_
          refine S_v E rfl (R_move E rfl) rfl ?_
          clear E a; intro a E
          refine S_v E rfl (R_fieldAddr E rfl (FA24_1 _)) rfl ?_
          clear E a; intro a E
          refine S_v E rfl (R_loadM E rfl Try.isAgg3 S.imm (cellM_boxo hb_1 rfl)) rfl ?_
          clear E a; intro a E
          refine S_x (X_pu E S rfl rfl rfl (impl_mod (by first | omega | assumption) (by omega)) (Hp.le.refl _) ?_)
          clear E a S; rintro a _ w M_7 hM_7 rfl S E
          replace hb_1 := hM_7.2 _ _ hb_1
          refine S_v E rfl (R_assign E rfl) rfl ?_
          clear E a; intro a E
          refine WL_nil ?_
          refine T_n ?_
          refine WP_ret ?_
          refine B_r ?_
          refine T_r ?_
          exact F_ret1 E Try.results193 rfl ⟨_, rfl, M_7, (hM_2.trans hM_7), (congrArg (Value.int .i64) (by (clear E S; unfold keyAt w64; first | (simp [*]; done) | (simp_all; done)))), S⟩
        · replace hc_6 := of_decide_eq_false hc_6
          refine WP_skip ?_
          refine B_n ?_
          refine T_n ?_
          refine WP_seq ?_
          refine WP_region ?_
          refine S_v E rfl (R_move E rfl) rfl ?_
          clear E a; intro a E
          refine S_v E rfl (R_assign E rfl) rfl ?_
          clear E a; intro a E
          refine WL_nil ?_
          refine T_n ?_
          refine WP_ret ?_
          exact F_ret1 E Try.results193 rfl ⟨_, rfl, M_2, hM_2, (congrArg (Value.int .i64) (by (clear E S; unfold keyAt w64; first | (simp [*]; done) | (simp_all; done)))), S⟩
      · replace hc_5 := of_decide_eq_false hc_5
        refine WP_seq ?_
        refine WP_region ?_
        refine S_v E rfl (R_eql E rfl rfl) rfl ?_
        clear E a; intro a E
        refine S_v E rfl (R_assign E rfl) rfl ?_
        clear E a; intro a E
        refine WL_nil ?_
        refine T_n ?_
        refine WP_cond E rfl (fun hc_8 => ?_) (fun hc_8 => ?_)
        · replace hc_8 := of_decide_eq_true hc_8
          refine WP_seq ?_
          refine WP_region ?_
          refine S_v E rfl (R_fieldAddr E rfl (FA24_1 _)) rfl ?_
          clear E a; intro a E
          refine S_v E rfl (R_loadM E rfl Try.isAgg3 S.imm (cellM_boxo hb_1 rfl)) rfl ?_
          clear E a; intro a E
          refine S_v E rfl (R_assign E rfl) rfl ?_
          clear E a; intro a E
          refine WL_nil ?_
          refine T_n ?_
          refine WP_ret ?_
          refine B_r ?_
          refine T_r ?_
          exact F_ret1 E Try.results193 rfl ⟨_, rfl, M_2, hM_2, (congrArg (Value.int .i64) (by (clear E S; unfold keyAt w64; first | (simp [*]; done) | (simp_all; done)))), S⟩
        · replace hc_8 := of_decide_eq_false hc_8
          refine WP_seq ?_
          refine WP_region ?_
          refine S_v E rfl (R_eql E rfl rfl) rfl ?_
          clear E a; intro a E
          refine S_v E rfl (R_assign E rfl) rfl ?_
          clear E a; intro a E
          refine WL_nil ?_
          refine T_n ?_
          refine WP_cond E rfl (fun hc_9 => ?_) (fun hc_9 => ?_)
          · replace hc_9 := of_decide_eq_true hc_9
            refine WP_seq ?_
            refine WP_region ?_
            refine S_v E rfl (R_move E rfl) rfl ?_
            clear E a; intro a E
            refine S_v E rfl (R_assign E rfl) rfl ?_
            clear E a; intro a E
            refine WL_nil ?_
            refine T_n ?_
            refine WP_ret ?_
            refine B_r ?_
            refine T_r ?_
            exact F_ret1 E Try.results193 rfl ⟨_, rfl, M_2, hM_2, (congrArg (Value.int .i64) (by (clear E S; unfold keyAt w64; first | (simp [*]; done) | (simp_all; done)))), S⟩
          · replace hc_9 := of_decide_eq_false hc_9
            refine WP_skip ?_
            refine B_n ?_
            refine T_n ?_
            refine WP_seq ?_
            refine WP_region ?_
            refine S_v E rfl (R_move E rfl) rfl ?_
            clear E a; intro a E
            refine S_v E rfl (R_assign E rfl) rfl ?_
            clear E a; intro a E
            refine WL_nil ?_
            refine T_n ?_
            refine WP_ret ?_
            exact F_ret1 E Try.results193 rfl ⟨_, rfl, M_2, hM_2, (congrArg (Value.int .i64) (by (clear E S; unfold keyAt w64; first | (simp [*]; done) | (simp_all; done)))), S⟩
theorem Key_at {M : Hp} {kk0 kn0 : Int} (gk0 : -9223372036854775808 ≤ kn0 ∧ kn0 ≤ 9223372036854775807){x1 x2 : Int} :
    Pu Try.prog (.func (.func 193) #[.agg #[.int .i64 kk0, .int .i64 kn0]] #[]) M [.int .i64 x1, .int .i64 x2] (fun r M' => r = .int .i64 (keyAt kk0 kn0 x1 x2)) := PuC.pu Try.call193 rfl (Key_at_c gk0)
theorem Key_at_d {M : Hp} {kk0 kn0 : Int} (gk0 : -9223372036854775808 ≤ kn0 ∧ kn0 ≤ 9223372036854775807){x1 x2 : Int} :
    Pu Try.prog (.func (.func 193) #[] #[]) M [.agg #[.int .i64 kk0, .int .i64 kn0], .int .i64 x1, .int .i64 x2] (fun r M' => r = .int .i64 (keyAt kk0 kn0 x1 x2)) := PuC.pu Try.call193 rfl (Key_at_c gk0)

set_option maxRecDepth 100000 in
set_option maxHeartbeats 4000000 in
theorem Key_of_c {M : Hp} {kk0 kn0 : Int} (gk0 : -9223372036854775808 ≤ kn0 ∧ kn0 ≤ 9223372036854775807){x1 : Int} :
    PuC Try.prog 148 M [.agg #[.int .i64 kk0, .int .i64 kn0], .int .i64 x1] (fun r M' => r = .int .i64 (keyAt kk0 kn0 x1 0)) := by
  refine PuC_enter Try.func148 rfl Try.ntmps148 rfl ?_
  intro a w M1 H hM1 S E
  refine WP_seq ?_
  refine WP_region ?_
  refine S_x (X_box (cs := #[.int .i64 kk0, .int .i64 kn0]) E S rfl rfl rfl ?_)
  clear E a S; rintro a w b_1 E S
  obtain ⟨M_2, hM_2, hb_1, S⟩ := S.freezeB
  refine S_v E rfl (R_assign E rfl) rfl ?_
  clear E a; intro a E
  refine WL_nil ?_
  refine T_n ?_
  refine WP_seq ?_
  refine WP_region ?_
  refine S_v E rfl (R_loadGM E rfl (Try.isAgg24 _) (Try.sizeOf24 _) S.imm hb_1) rfl ?_
  clear E a; intro a E
  refine S_v E rfl (R_move E rfl) rfl ?_
  clear E a; intro a E
  refine S_x (X_pu E S rfl rfl rfl (Key_at_d (by omega)) (Hp.le.refl _) ?_)
  clear E a S; rintro a _ w M_3 hM_3 rfl S E
  replace hb_1 := hM_3.2 _ _ hb_1
  refine S_v E rfl (R_assign E rfl) rfl ?_
  clear E a; intro a E
  refine WL_nil ?_
  refine T_n ?_
  refine WP_ret ?_
  exact F_ret1 E Try.results148 rfl ⟨_, rfl, M_3, (hM_2.trans hM_3), rfl, S⟩
theorem Key_of {M : Hp} {kk0 kn0 : Int} (gk0 : -9223372036854775808 ≤ kn0 ∧ kn0 ≤ 9223372036854775807){x1 : Int} :
    Pu Try.prog (.func (.func 148) #[.agg #[.int .i64 kk0, .int .i64 kn0]] #[]) M [.int .i64 x1] (fun r M' => r = .int .i64 (keyAt kk0 kn0 x1 0)) := PuC.pu Try.call148 rfl (Key_of_c gk0)
theorem Key_of_d {M : Hp} {kk0 kn0 : Int} (gk0 : -9223372036854775808 ≤ kn0 ∧ kn0 ≤ 9223372036854775807){x1 : Int} :
    Pu Try.prog (.func (.func 148) #[] #[]) M [.agg #[.int .i64 kk0, .int .i64 kn0], .int .i64 x1] (fun r M' => r = .int .i64 (keyAt kk0 kn0 x1 0)) := PuC.pu Try.call148 rfl (Key_of_c gk0)

set_option maxRecDepth 100000 in
set_option maxHeartbeats 4000000 in
theorem impl_IsSortedBy {M : Hp} {v0 : Value} {l0 : List Int} (h0 : RdI M v0 l0){kk1 kn1 : Int} (gk1 : -9223372036854775808 ≤ kn1 ∧ kn1 ≤ 9223372036854775807) :
    Pu Try.prog (.func (.func 74) #[] #[]) M [v0, .agg #[.int .i64 kk1, .int .i64 kn1]] (fun r M' => r = .bool (decide (SortedI ((l0).map (fun x => keyAt kk1 kn1 x 0))))) := by
  refine Pu_enter Try.func74 rfl Try.ntmps74 rfl Try.call74 ?_
  intro a w M1 H hM1 S E
  replace h0 := h0.le hM1
  have b0 := h0.bound
  refine WP_seq ?_
  refine WP_region ?_
  refine S_x (X_box (cs := #[.int .i64 kk1, .int .i64 kn1]) E S rfl rfl rfl ?_)
  clear E a S; rintro a w b_1 E S
  obtain ⟨M_2, hM_2, hb_1, S⟩ := S.freezeB
  replace h0 := h0.le hM_2
  refine S_v E rfl (R_assign E rfl) rfl ?_
  clear E a; intro a E
  refine WL_nil ?_
  refine T_n ?_
  refine WP_seq ?_
  refine WP_region ?_
  refine S_v E rfl (R_move E rfl) rfl ?_
  clear E a; intro a E
  refine S_v E rfl (R_loadGM E rfl (Try.isAgg24 _) (Try.sizeOf24 _) S.imm hb_1) rfl ?_
  clear E a; intro a E
  refine S_v E rfl (R_makeFunc E rfl rfl) rfl ?_
  clear E a; intro a E
  refine S_x (X_pu E S rfl rfl rfl (lo_IsSortedBy h0 ⟨rfl, fun zx1 => Key_of (x1 := zx1) (by omega)⟩) (Hp.le.refl _) ?_)
  clear E a S; rintro a _ w M_3 hM_3 rfl S E
  replace h0 := h0.le hM_3
  replace hb_1 := hM_3.2 _ _ hb_1
  refine S_v E rfl (R_assign E rfl) rfl ?_
  clear E a; intro a E
  refine WL_nil ?_
  refine T_n ?_
  refine WP_ret ?_
  exact F_ret1 E Try.results74 rfl ⟨_, rfl, M_3, (hM_2.trans hM_3), rfl, S⟩

set_option maxRecDepth 100000 in
set_option maxHeartbeats 4000000 in
theorem impl_IsSortedBySeq {M : Hp} {v0 : Value} {l0 : List Int} (h0 : RdI M v0 l0){kk1 kn1 : Int} (gk1 : -9223372036854775808 ≤ kn1 ∧ kn1 ≤ 9223372036854775807) :
    Pu Try.prog (.func (.func 75) #[] #[]) M [v0, .agg #[.int .i64 kk1, .int .i64 kn1]] (fun r M' => r = .bool (decide (SortedI ((l0).map (fun x => keyAt kk1 kn1 x 0))))) := by
  refine Pu_enter Try.func75 rfl Try.ntmps75 rfl Try.call75 ?_
  intro a w M1 H hM1 S E
  replace h0 := h0.le hM1
  have b0 := h0.bound
  refine WP_seq ?_
  refine WP_region ?_
  refine S_x (X_box (cs := #[.int .i64 kk1, .int .i64 kn1]) E S rfl rfl rfl ?_)
  clear E a S; rintro a w b_1 E S
  obtain ⟨M_2, hM_2, hb_1, S⟩ := S.freezeB
  replace h0 := h0.le hM_2
  refine S_v E rfl (R_assign E rfl) rfl ?_
  clear E a; intro a E
  refine WL_nil ?_
  refine T_n ?_
  refine WP_seq ?_
  have hb_1k2 := hb_1
  replace S := S.mono_heap (w' := World.drew _) rfl
  refine WP_drawn (C := fun x w => agree M_2 w) (bf := (fun i => [])) [0, 2, 3, 5] [0, 2, 3, 1, 4, 5] Try.mixed (by kernel_rfl) (fun x hq => S.imm) ?_
  refine D_v E rfl rfl rfl (fun w hC => (R_move E rfl)) ?_
  clear E a; intro a E
  refine D_v E rfl rfl rfl (fun w hC => (R_loadGM E rfl (Try.isAgg24 _) (Try.sizeOf24 _) hC hb_1k2)) ?_
  clear E a; intro a E
  refine D_v E rfl rfl rfl (fun w hC => (R_makeFunc E rfl rfl)) ?_
  clear E a; intro a E
  refine D_x rfl rfl rfl (X_pu E S rfl rfl rfl (slices_Values h0) (Hp.le.refl _) ?_)
  clear E a S; rintro a v_4 w M_3 hM_3 hv_4 S E
  replace h0 := h0.le hM_3
  replace hb_1 := hM_3.2 _ _ hb_1
  refine ⟨fun x hq hb => (agree_le hM_3 S.imm), ?_⟩
  refine D_x rfl rfl rfl (X_pu E S rfl rfl rfl (it_IsSortedBy hv_4 ⟨rfl, fun zx1 => Key_of (x1 := zx1) (by omega)⟩) (Hp.le.refl _) ?_)
  clear E a S; rintro a _ w M_5 hM_5 rfl S E
  replace h0 := h0.le hM_5
  replace hb_1 := hM_5.2 _ _ hb_1
  replace hv_4 := hv_4.le hM_5
  refine ⟨fun x hq hb => (agree_le (hM_3.trans hM_5) S.imm), ?_⟩
  refine D_v E rfl rfl rfl (fun w hC => (R_assign E rfl)) ?_
  clear E a; intro a E
  refine D_end (NoP_n ?_)
  refine T_n ?_
  refine WP_ret ?_
  exact F_ret1 E Try.results75 rfl ⟨_, rfl, M_5, (hM_2.trans (hM_3.trans hM_5)), rfl, S⟩

set_option maxRecDepth 100000 in
set_option maxHeartbeats 4000000 in
theorem lo_Keyify {M : Hp} {v0 : Value} {l0 : List Int} (h0 : RdI M v0 l0) :
    Sp Try.prog (.func (.func 191) #[] #[]) M [v0] [] (fun r M' C' => ∃ b, r = .map (some b) ∧ C' = [OwnS b (keyL l0)]) := by
  refine Sp_enter Try.func191 rfl Try.ntmps191 rfl Try.call191 ?_
  intro a w M1 H hM1 S E
  replace h0 := h0.le hM1
  have b0 := h0.bound
  refine WP_seq ?_
  refine WP_region ?_
  refine S_v E rfl (R_assign E rfl) rfl ?_
  clear E a; intro a E
  refine WL_nil ?_
  refine T_n ?_
  refine WP_seq ?_
  refine WP_region ?_
  refine S_v E rfl (R_move E rfl) rfl ?_
  clear E a; intro a E
  refine S_v E rfl (R_lenV E rfl T22 h0.len) rfl ?_
  clear E a; intro a E
  refine S_x (X_makeMapR E S rfl MT136 rfl ?_)
  clear E a S; rintro a w b_1 E S
  replace S : St w M1 (OwnS b_1 ([] : List Int) :: _) := S
  refine S_v E rfl (R_assign E rfl) rfl ?_
  clear E a; intro a E
  refine WL_nil ?_
  refine T_n ?_
  refine WP_seq ?_
  refine WP_seq ?_
  refine WP_region ?_
  refine S_v E rfl (R_move E rfl) rfl ?_
  clear E a; intro a E
  refine S_v E rfl (R_lenV E rfl T22 h0.len) rfl ?_
  clear E a; intro a E
  refine S_v E rfl (R_move E rfl) rfl ?_
  clear E a; intro a E
  refine WL_nil ?_
  refine T_n ?_
  refine WP_block ?_
  replace S := S.reM (L' := (Sl.encS (keyL (l0.take 0)))) (congrArg Sl.encS (show ([] : List Int) = keyL (l0.take 0) by first | (simp [keyL]; done) | exact (keyL_succ (by assumption)).symm))
  refine WP_loop (γ := Nat) (fun (k : Nat) a w => ∃ (M_2 : Hp), Hp.le M1 M_2 ∧ St w M_2 (OwnS b_1 (keyL (l0.take k)) :: H) ∧ Env a 21 [] [(0, v0), (3, .map (some b_1)), (9, .int .i64 (((l0).length : Nat) : Int)), (10, .int .i64 ((k : Nat) : Int))] ∧ (k ≤ (l0).length)) (fun k => ((l0).length) - k) 0 ⟨M1, Hp.le.refl _, S, E.keep ⟨rfl, rfl, rfl, rfl, trivial⟩, by ((try clear S); (try clear E); first | assumption | omega | rfl | (simp; done) | (simp_all; done) | (simp [List.take_add_one, *]; done) | grind [List.take_add_one])⟩ ?_
  try clear E
  try clear S
  try clear a
  try clear w
  rintro k a w ⟨M_2, hM_2, S, E, hL0_0⟩
  replace h0 := h0.le hM_2
  refine WP_seq ?_
  refine WP_region ?_
  refine S_v E rfl (R_lss E rfl rfl) rfl ?_
  clear E a; intro a E
  refine WL_nil ?_
  refine T_n ?_
  refine WP_seq ?_
  refine WP_cond E rfl (fun hc_3 => ?_) (fun hc_3 => ?_)
  · replace hc_3 := of_decide_eq_true hc_3
    refine WP_skip ?_
    refine T_n ?_
    refine WP_seq ?_
    refine WP_block ?_
    refine WP_seq ?_
    refine WP_region ?_
    refine S_v E rfl (R_move E rfl) rfl ?_
    clear E a; intro a E
    refine S_v E rfl (R_assign E rfl) rfl ?_
    clear E a; intro a E
    refine WL_nil ?_
    refine T_n ?_
    refine WP_region ?_
    refine S_v E rfl (R_move E rfl) rfl ?_
    clear E a; intro a E
    refine S_v E rfl (R_move E rfl) rfl ?_
    clear E a; intro a E
    refine S_v E rfl (R_move E rfl) rfl ?_
    clear E a; intro a E
    obtain ⟨x_4, hx_4⟩ : ∃ x, (l0)[k]? = some x := ⟨_, List.getElem?_eq_getElem (by first | omega | (simp; done) | (simp; omega) | (simp_all; omega))⟩
    obtain ⟨p_5, hp_5, qp_5⟩ := h0.at hx_4
    refine S_v E rfl (R_idx E rfl rfl T22 hp_5 rfl) rfl ?_
    clear E a; intro a E
    refine S_v E rfl (R_loadM E rfl Try.isAgg3 S.imm qp_5) rfl ?_
    clear E a; intro a E
    refine S_v E rfl (R_build (u := .agg #[]) (vs := []) E rfl (fun w => FB176__  w)) rfl ?_
    clear E a; intro a E
    refine S_x0 (X_updateS E S MT136 rfl rfl rfl ?_)
    clear E a S; rintro a w E S
    refine WL_nil ?_
    refine B_n ?_
    refine T_n ?_
    refine WP_region ?_
    refine S_v E rfl (R_addx (m := ((k + 1 : Nat) : Int)) E rfl rfl (by omega) (by omega)) rfl ?_
    clear E a; intro a E
    refine S_v E rfl (R_move E rfl) rfl ?_
    clear E a; intro a E
    refine WL_nil ?_
    refine T_n ?_
    replace S := S.reM (L' := (Sl.encS (keyL (l0.take (k + 1))))) (congrArg Sl.encS (show addS (keyL (l0.take k)) x_4 = keyL (l0.take (k + 1)) by first | (simp [keyL]; done) | exact (keyL_succ (by assumption)).symm))
    exact ⟨k + 1, ⟨M_2, hM_2, S, E.keep ⟨rfl, rfl, rfl, rfl, trivial⟩, by ((try clear S); (try clear E); first | assumption | omega | rfl | (simp; done) | (simp_all; done) | (simp [List.take_add_one, *]; done) | grind [List.take_add_one])⟩, by omega⟩
  · replace hc_3 := of_decide_eq_false hc_3
    refine WP_exit ?_
    refine T_x ?_
    refine T_x ?_
    refine B_x ?_
    refine T_n ?_
    refine WP_seq ?_
    refine WP_region ?_
    refine S_v E rfl (R_move E rfl) rfl ?_
    clear E a; intro a E
    refine S_v E rfl (R_assign E rfl) rfl ?_
    clear E a; intro a E
    refine WL_nil ?_
    refine T_n ?_
    refine WP_ret ?_
    replace S := S.reM (L' := (Sl.encS (keyL l0))) (congrArg Sl.encS (show keyL (l0.take k) = keyL l0 by (rw [List.take_of_length_le (by omega)])))
    exact F_ret1 E Try.results191 rfl ⟨_, rfl, M_2, _, hM_2, ⟨_, rfl, rfl⟩, S⟩

set_option maxRecDepth 100000 in
set_option maxHeartbeats 4000000 in
shelf_lay_g SlLaysM.n5 Slgm 5 at Try 273 as Try.lsort
theorem slices_Sort {M : Hp} {v0 : Value} {l0 : List Int} (b0 : l0.length ≤ 1000000000000) :
    Sp Try.prog (.func (.func 273) #[] #[]) M [v0] [OwnI 3 v0 l0] (fun r M' C' => C' = [OwnI 3 v0 (srtM l0)]) :=
  sort_sp Try.call273 (fun blk off cap zs w a b c => AnyM.slices_Sort_int Try.lsort blk off cap zs w a b c) (fun p cap w => AnyM.slices_Sort_int_none Try.lsort p cap w) b0

set_option maxRecDepth 100000 in
set_option maxHeartbeats 4000000 in
theorem sort_Ints {M : Hp} {v0 : Value} {l0 : List Int} (b0 : l0.length ≤ 1000000000000) :
    Sp Try.prog (.func (.func 251) #[] #[]) M [v0] [OwnI 3 v0 l0] (fun r M' C' => C' = [OwnI 3 v0 (srtM l0)]) := by
  refine Sp_enter Try.func251 rfl Try.ntmps251 rfl Try.call251 ?_
  intro a w M1 H hM1 S E
  replace S : St w M1 (OwnI 3 v0 l0 :: _) := S
  refine WP_region ?_
  refine S_v E rfl (R_move E rfl) rfl ?_
  clear E a; intro a E
  refine S_x (X_sp (p := [OwnI 3 v0 l0]) E S rfl rfl rfl (slices_Sort (by (first | omega | (simp; omega) | (simp; done) | (simp_all; omega) | grind))) (Hp.le.refl _) ?_)
  clear E a S; rintro a v_2 w M_1 _ hM_1 rfl S E
  replace S : St w M_1 (OwnI 3 v0 (srtM l0) :: _) := S
  refine WL_nil ?_
  refine F_nrm ?_
  exact F_ret0 E Try.results251 ⟨_, rfl, M_1, _, hM_1, rfl, S⟩

set_option maxRecDepth 100000 in
set_option maxHeartbeats 4000000 in
theorem impl_keys {M : Hp} {m0 : Value} {q0 : List Int} (hm0 : RdM M m0 (Sl.encS q0)) (hb : q0.length ≤ 1000000000000) :
    Pu Try.prog (.func (.func 190) #[] #[]) M [m0] (fun r M' => RdI M' r (srtM q0)) := by
  refine Pu_enter Try.func190 rfl Try.ntmps190 rfl Try.call190 ?_
  intro a w M1 H hM1 S E
  replace hm0 := hm0.le hM1
  refine WP_seq ?_
  refine WP_region ?_
  refine S_v E rfl (R_assign E rfl) rfl ?_
  clear E a; intro a E
  refine WL_nil ?_
  refine T_n ?_
  refine WP_seq ?_
  refine WP_region ?_
  refine S_v E rfl (R_assign E rfl) rfl ?_
  clear E a; intro a E
  refine WL_nil ?_
  refine T_n ?_
  refine WP_seq ?_
  refine WP_seq ?_
  refine WP_region ?_
  refine S_v E rfl (R_move E rfl) rfl ?_
  clear E a; intro a E
  refine S_x (X_range E S rfl MT136 hm0 rfl ?_)
  clear E a S; rintro a w i_1 es_2 ck_3 E hf_4 S
  replace S : St w M1 (ItO m0 es_2 ck_3 i_1 (Sl.encS ([] : List Int)) :: _) := S
  refine WL_nil ?_
  refine T_n ?_
  refine WP_block ?_
  replace S := (S.ownNil (e := 3) (sz := 1)).made0
  replace S := S.front1
  replace S := S.front1
  replace S := S.re1 (l' := []) (by first | rfl | (simp; done))
  replace S := S.front1
  replace S := S.reIt (p' := (Sl.encS [])) (congrArg Sl.encS (show ([] : List Int) = [] by first | rfl | (simp; done)))
  refine WP_loop (γ := List Int) (fun (p : List Int) a w => ∃ (M_6 : Hp) (u3 : Value), Hp.le M1 M_6 ∧ St w M_6 (ItO m0 es_2 ck_3 i_1 (Sl.encS p) :: OwnI 3 u3 p :: H) ∧ Env a 18 [] [(3, u3), (6, .pointer (some ⟨i_1, 0, none⟩))] ∧ (p.Nodup) ∧ (∀ z ∈ p, z ∈ q0) ∧ (p.length ≤ q0.length)) (fun p => q0.length - p.length) [] ⟨M1, _, Hp.le.refl _, S, E.keep ⟨rfl, rfl, trivial⟩, (by simp), (by simp), (by simp)⟩ ?_
  try clear E
  try clear S
  try clear a
  try clear w
  rintro p a w ⟨M_6, u3, hM_6, S, E, hL0_0, hL0_1, hL0_2⟩
  replace hm0 := hm0.le hM_6
  replace hf_4 := hf_4.le hM_6
  refine WP_seq ?_
  refine WP_region ?_
  refine S_x (X_nextS E S rfl hf_4 rfl (by assumption) (by assumption) ?_ ?_)
  · clear E a S; rintro a E hpm_7 S
    refine S_v E rfl (R_extract E rfl rfl) rfl ?_
    clear E a; intro a E
    refine WL_nil ?_
    refine T_n ?_
    refine WP_seq ?_
    refine WP_condF E rfl rfl ?_
    refine WP_exit ?_
    refine T_x ?_
    refine T_x ?_
    refine B_x ?_
    refine T_n ?_
    refine WP_seq ?_
    refine WP_region ?_
    refine S_v E rfl (R_move E rfl) rfl ?_
    clear E a; intro a E
    replace S := S.front1
    refine S_x (X_sp (p := [OwnI 3 u3 p]) E S rfl rfl rfl (sort_Ints (by (first | omega | (simp; omega) | (simp; done) | (simp_all; omega) | grind))) (Hp.le.refl _) ?_)
    clear E a S; rintro a v_9 w M_8 _ hM_8 rfl S E
    replace S : St w M_8 (OwnI 3 u3 (srtM p) :: _) := S
    replace hm0 := hm0.le hM_8
    replace hf_4 := hf_4.le hM_8
    refine WL_nil ?_
    refine T_n ?_
    refine WP_seq ?_
    refine WP_region ?_
    refine S_v E rfl (R_move E rfl) rfl ?_
    clear E a; intro a E
    refine S_v E rfl (R_assign E rfl) rfl ?_
    clear E a; intro a E
    refine WL_nil ?_
    refine T_n ?_
    refine WP_ret ?_
    have S0 := S; clear S
    obtain ⟨M_10, hM_10, hz_11, S⟩ := S0.freezeI (by (first | (rw [srtM_len]; omega) | omega | (simp; omega)))
    clear S0
    replace hm0 := hm0.le hM_10
    replace hf_4 := hf_4.le hM_10
    exact F_ret1 E Try.results190 rfl ⟨_, rfl, M_10, (hM_6.trans (hM_8.trans hM_10)), (by rw [show (srtM q0) = (srtM p) from by (first | exact srtM_perm_eq (by assumption) | exact (srtM_perm_eq (by assumption)).symm)]; exact hz_11), S.drop⟩
  · clear E a S w; rintro a w k_12 E hk_13 hk_13n hk_13l S
    refine S_v E rfl (R_extract E rfl rfl) rfl ?_
    clear E a; intro a E
    refine WL_nil ?_
    refine T_n ?_
    refine WP_seq ?_
    refine WP_condT E rfl rfl ?_
    refine WP_skip ?_
    refine T_n ?_
    refine WP_block ?_
    refine WP_seq ?_
    refine WP_region ?_
    refine S_v E rfl (R_entry (k := k_12) (v := .agg #[]) E (by have S1 := S; simp only [Sl.encS, List.map_append, List.map_cons, List.map_nil] at S1; exact S1) hf_4 rfl) rfl ?_
    clear E a; intro a E
    refine S_v E rfl (R_extract E rfl rfl) rfl ?_
    clear E a; intro a E
    refine S_v E rfl (R_assign E rfl) rfl ?_
    clear E a; intro a E
    refine WL_nil ?_
    refine T_n ?_
    refine WP_region ?_
    refine S_v E rfl (R_move E rfl) rfl ?_
    clear E a; intro a E
    refine S_v E rfl (R_move E rfl) rfl ?_
    clear E a; intro a E
    refine S_x (X_buildI (ys := [k_12]) E S rfl T22 rfl rfl rfl ?_)
    clear E a S; rintro a w v_14 E S
    replace S := S.front2
    replace S := S.front1
    refine S_x (X_appendB (xs := p) (ys := [k_12]) E S rfl rfl rfl T22 (by first | omega | (simp; done) | (simp; omega) | (simp_all; omega)) ?_)
    clear E a S; rintro a w v_15 E S
    refine S_v E rfl (R_assign E rfl) rfl ?_
    clear E a; intro a E
    refine WL_nil ?_
    refine B_n ?_
    refine T_n ?_
    replace S := S.front1
    replace S := S.front1
    replace S := S.re1 (l' := (p ++ [k_12])) (by first | rfl | (simp; done))
    replace S := S.front1
    replace S := S.reIt (p' := (Sl.encS (p ++ [k_12]))) (congrArg Sl.encS (show p ++ [k_12] = (p ++ [k_12]) by first | rfl | (simp; done)))
    exact ⟨(p ++ [k_12]), ⟨M_6, _, hM_6, S, E.keep ⟨rfl, rfl, trivial⟩, (by exact snocN (by assumption) (by assumption)), (by exact snocS (by assumption) (by assumption)), (by simp; omega)⟩, (by simp; omega)⟩

set_option maxRecDepth 100000 in
set_option maxHeartbeats 4000000 in
theorem impl_Keyify {M : Hp} {v0 : Value} {l0 : List Int} (h0 : RdI M v0 l0) (hb : l0.length ≤ 1000000000000) :
    Pu Try.prog (.func (.func 76) #[] #[]) M [v0] (fun r M' => RdI M' r (srtM (keyL l0))) := by
  refine Pu_enter Try.func76 rfl Try.ntmps76 rfl Try.call76 ?_
  intro a w M1 H hM1 S E
  replace h0 := h0.le hM1
  have b0 := h0.bound
  have hkl := keyL_le' l0
  refine WP_seq ?_
  refine WP_region ?_
  refine S_v E rfl (R_assign E rfl) rfl ?_
  clear E a; intro a E
  refine WL_nil ?_
  refine T_n ?_
  refine WP_seq ?_
  refine WP_region ?_
  refine S_v E rfl (R_move E rfl) rfl ?_
  clear E a; intro a E
  refine S_x (X_sp (p := []) E S rfl rfl rfl (lo_Keyify h0) (Hp.le.refl _) ?_)
  clear E a S; rintro a _ w M_1 _ hM_1 ⟨v_2, rfl, rfl⟩ S E
  replace S : St w M_1 (OwnS v_2 (keyL l0) :: _) := S
  replace h0 := h0.le hM_1
  have S0 := S; clear S
  obtain ⟨M_3, hM_3, hm_4, S⟩ := S0.freezeM
  clear S0
  replace h0 := h0.le hM_3
  refine S_x (X_pu E S rfl rfl rfl (impl_keys hm_4 (by (first | omega | (simp; omega) | (simp; done) | (simp_all; omega) | grind))) (Hp.le.refl _) ?_)
  clear E a S; rintro a v_6 w M_5 hM_5 hv_6 S E
  replace h0 := h0.le hM_5
  replace hm_4 := hm_4.le hM_5
  refine S_v E rfl (R_assign E rfl) rfl ?_
  clear E a; intro a E
  refine WL_nil ?_
  refine T_n ?_
  refine WP_ret ?_
  exact F_ret1 E Try.results76 rfl ⟨_, rfl, M_5, (hM_1.trans (hM_3.trans hM_5)), hv_6, S⟩

set_option maxRecDepth 100000 in
set_option maxHeartbeats 4000000 in
theorem lo_Map {M : Hp} {v0 : Value} {l0 : List Int} (h0 : RdI M v0 l0){v1 : Value} {f1 : Int → Int → Int} (h1 : PF2I Try.prog v1 M f1) (hb : l0.length ≤ 1000000000000) :
    Pu Try.prog (.func (.func 192) #[] #[]) M [v0, v1] (fun r M' => RdI M' r (mapI f1 0 l0)) := by
  refine Pu_enter Try.func192 rfl Try.ntmps192 rfl Try.call192 ?_
  intro a w M1 H hM1 S E
  replace h0 := h0.le hM1
  replace h1 := h1.le hM1
  have b0 := h0.bound
  refine WP_seq ?_
  refine WP_region ?_
  refine S_v E rfl (R_assign E rfl) rfl ?_
  clear E a; intro a E
  refine WL_nil ?_
  refine T_n ?_
  refine WP_seq ?_
  refine WP_region ?_
  refine S_v E rfl (R_move E rfl) rfl ?_
  clear E a; intro a E
  refine S_v E rfl (R_lenV E rfl T22 h0.len) rfl ?_
  clear E a; intro a E
  refine S_x (X_makeN (k := (l0).length) E S rfl rfl rfl T22 (by omega) (by omega) (by omega) (by omega) ?_)
  clear E a S; rintro a w v_1 E S
  replace S := S.madeI
  refine S_v E rfl (R_assign E rfl) rfl ?_
  clear E a; intro a E
  refine WL_nil ?_
  refine T_n ?_
  refine WP_seq ?_
  refine WP_seq ?_
  refine WP_region ?_
  refine S_v E rfl (R_move E rfl) rfl ?_
  clear E a; intro a E
  refine S_v E rfl (R_lenV E rfl T22 h0.len) rfl ?_
  clear E a; intro a E
  refine S_v E rfl (R_move E rfl) rfl ?_
  clear E a; intro a E
  refine WL_nil ?_
  refine T_n ?_
  refine WP_block ?_
  replace S := S.re1 (l' := mapI f1 0 (l0.take 0) ++ List.replicate (l0.length - (mapI f1 0 (l0.take 0)).length) 0) (by first | (simp [mapI]; done) | (rw [show k = (mapI f1 0 (l0.take k)).length from hml2.symm]; rw [set_fill (by omega) (mapI_succ (by assumption))]; done) | (have e := set_fill (p := mapI f1 0 (l0.take k)) (n := l0.length) (by omega) (mapI_succ (f := f1) (by assumption)); rw [hml2] at e; rw [hml2]; exact e))
  refine WP_loop (γ := Nat) (fun (k : Nat) a w => ∃ (M_2 : Hp), Hp.le M1 M_2 ∧ St w M_2 (OwnI 3 v_1 (mapI f1 0 (l0.take k) ++ List.replicate (l0.length - (mapI f1 0 (l0.take k)).length) 0) :: H) ∧ Env a 27 [] [(0, v0), (1, v1), (5, v_1), (11, .int .i64 (((l0).length : Nat) : Int)), (12, .int .i64 ((k : Nat) : Int))] ∧ (k ≤ (l0).length)) (fun k => ((l0).length) - k) 0 ⟨M1, Hp.le.refl _, S, E.keep ⟨rfl, rfl, rfl, rfl, rfl, trivial⟩, by ((try clear S); (try clear E); first | assumption | omega | rfl | (simp; done) | (simp_all; done) | (simp [List.take_add_one, *]; done) | grind [List.take_add_one])⟩ ?_
  try clear E
  try clear S
  try clear a
  try clear w
  rintro k a w ⟨M_2, hM_2, S, E, hL0_0⟩
  replace h0 := h0.le hM_2
  replace h1 := h1.le hM_2
  have hml := mapI_len f1 (l0.take k) 0; simp only [List.length_take] at hml; have hml2 : (mapI f1 0 (l0.take k)).length = k := by omega
  refine WP_seq ?_
  refine WP_region ?_
  refine S_v E rfl (R_lss E rfl rfl) rfl ?_
  clear E a; intro a E
  refine WL_nil ?_
  refine T_n ?_
  refine WP_seq ?_
  refine WP_cond E rfl (fun hc_3 => ?_) (fun hc_3 => ?_)
  · replace hc_3 := of_decide_eq_true hc_3
    refine WP_skip ?_
    refine T_n ?_
    refine WP_seq ?_
    refine WP_block ?_
    refine WP_seq ?_
    refine WP_region ?_
    refine S_v E rfl (R_move E rfl) rfl ?_
    clear E a; intro a E
    refine S_v E rfl (R_assign E rfl) rfl ?_
    clear E a; intro a E
    refine WL_nil ?_
    refine T_n ?_
    refine WP_region ?_
    refine S_v E rfl (R_move E rfl) rfl ?_
    clear E a; intro a E
    refine S_v E rfl (R_move E rfl) rfl ?_
    clear E a; intro a E
    refine S_v E rfl (R_move E rfl) rfl ?_
    clear E a; intro a E
    refine S_v E rfl (R_move E rfl) rfl ?_
    clear E a; intro a E
    refine S_v E rfl (R_move E rfl) rfl ?_
    clear E a; intro a E
    obtain ⟨x_4, hx_4⟩ : ∃ x, (l0)[k]? = some x := ⟨_, List.getElem?_eq_getElem (by first | omega | (simp; done) | (simp; omega) | (simp_all; omega))⟩
    obtain ⟨p_5, hp_5, qp_5⟩ := h0.at hx_4
    refine S_v E rfl (R_idx E rfl rfl T22 hp_5 rfl) rfl ?_
    clear E a; intro a E
    refine S_v E rfl (R_loadM E rfl Try.isAgg3 S.imm qp_5) rfl ?_
    clear E a; intro a E
    refine S_v E rfl (R_move E rfl) rfl ?_
    clear E a; intro a E
    refine S_x (X_pu E S rfl rfl rfl (h1.2 x_4 ((k : Nat) : Int)) (Hp.le.refl _) ?_)
    clear E a S; rintro a _ w M_6 hM_6 rfl S E
    replace h0 := h0.le hM_6
    replace h1 := h1.le hM_6
    obtain ⟨p_7, hp_7⟩ := S.ptrC (k := k) (by first | omega | (simp; done) | (simp; omega) | (simp_all; omega))
    refine S_v E rfl (R_idx E rfl rfl T22 hp_7 rfl) rfl ?_
    clear E a; intro a E
    refine S_x0 (X_storeI E S rfl rfl (Try.sizeOf3 _) hp_7 ?_)
    clear E a S; rintro a w E S
    refine WL_nil ?_
    refine B_n ?_
    refine T_n ?_
    refine WP_region ?_
    refine S_v E rfl (R_addx (m := ((k + 1 : Nat) : Int)) E rfl rfl (by omega) (by omega)) rfl ?_
    clear E a; intro a E
    refine S_v E rfl (R_move E rfl) rfl ?_
    clear E a; intro a E
    refine WL_nil ?_
    refine T_n ?_
    replace S := S.re1 (l' := mapI f1 0 (l0.take (k + 1)) ++ List.replicate (l0.length - (mapI f1 0 (l0.take (k + 1))).length) 0) (by first | (simp [mapI]; done) | (rw [show k = (mapI f1 0 (l0.take k)).length from hml2.symm]; rw [set_fill (by omega) (mapI_succ (by assumption))]; done) | (have e := set_fill (p := mapI f1 0 (l0.take k)) (n := l0.length) (by omega) (mapI_succ (f := f1) (by assumption)); rw [hml2] at e; rw [hml2]; exact e))
    exact ⟨k + 1, ⟨M_6, (hM_2.trans hM_6), S, E.keep ⟨rfl, rfl, rfl, rfl, rfl, trivial⟩, by ((try clear S); (try clear E); first | assumption | omega | rfl | (simp; done) | (simp_all; done) | (simp [List.take_add_one, *]; done) | grind [List.take_add_one])⟩, by omega⟩
  · replace hc_3 := of_decide_eq_false hc_3
    refine WP_exit ?_
    refine T_x ?_
    refine T_x ?_
    refine B_x ?_
    refine T_n ?_
    refine WP_seq ?_
    refine WP_region ?_
    refine S_v E rfl (R_move E rfl) rfl ?_
    clear E a; intro a E
    refine S_v E rfl (R_assign E rfl) rfl ?_
    clear E a; intro a E
    refine WL_nil ?_
    refine T_n ?_
    refine WP_ret ?_
    have S0 := S; clear S
    obtain ⟨M_8, hM_8, hz_9, S⟩ := S0.freezeI (by (have hml := mapI_len f1 (l0.take k) 0; simp only [List.length_take] at hml; simp; omega))
    clear S0
    replace h0 := h0.le hM_8
    replace h1 := h1.le hM_8
    exact F_ret1 E Try.results192 rfl ⟨_, rfl, M_8, (hM_2.trans hM_8), (by rw [show (mapI f1 0 l0) = (mapI f1 0 (l0.take k) ++ List.replicate (l0.length - (mapI f1 0 (l0.take k)).length) 0) from by (have hml := mapI_len f1 (l0.take k) 0; simp only [List.length_take] at hml; rw [show l0.length - (mapI f1 0 (l0.take k)).length = 0 by omega, List.take_of_length_le (by omega)]; simp)]; exact hz_9), S⟩

set_option maxRecDepth 100000 in
set_option maxHeartbeats 4000000 in
theorem impl_Map {M : Hp} {v0 : Value} {l0 : List Int} (h0 : RdI M v0 l0){kk1 kn1 : Int} (gk1 : -9223372036854775808 ≤ kn1 ∧ kn1 ≤ 9223372036854775807) (hb : l0.length ≤ 1000000000000) :
    Pu Try.prog (.func (.func 77) #[] #[]) M [v0, .agg #[.int .i64 kk1, .int .i64 kn1]] (fun r M' => RdI M' r (mapI (keyAt kk1 kn1) 0 l0)) := by
  refine Pu_enter Try.func77 rfl Try.ntmps77 rfl Try.call77 ?_
  intro a w M1 H hM1 S E
  replace h0 := h0.le hM1
  have b0 := h0.bound
  refine WP_seq ?_
  refine WP_region ?_
  refine S_x (X_box (cs := #[.int .i64 kk1, .int .i64 kn1]) E S rfl rfl rfl ?_)
  clear E a S; rintro a w b_1 E S
  obtain ⟨M_2, hM_2, hb_1, S⟩ := S.freezeB
  replace h0 := h0.le hM_2
  refine S_v E rfl (R_assign E rfl) rfl ?_
  clear E a; intro a E
  refine WL_nil ?_
  refine T_n ?_
  refine WP_seq ?_
  refine WP_region ?_
  refine S_v E rfl (R_move E rfl) rfl ?_
  clear E a; intro a E
  refine S_v E rfl (R_loadGM E rfl (Try.isAgg24 _) (Try.sizeOf24 _) S.imm hb_1) rfl ?_
  clear E a; intro a E
  refine S_v E rfl (R_makeFunc E rfl rfl) rfl ?_
  clear E a; intro a E
  refine S_x (X_pu E S rfl rfl rfl (lo_Map h0 ⟨rfl, fun zx1 zx2 => Key_at (x1 := zx1) (x2 := zx2) (by omega)⟩ (by (first | omega | (simp; omega) | (simp; done) | (simp_all; omega) | grind))) (Hp.le.refl _) ?_)
  clear E a S; rintro a v_4 w M_3 hM_3 hv_4 S E
  replace h0 := h0.le hM_3
  replace hb_1 := hM_3.2 _ _ hb_1
  refine S_v E rfl (R_assign E rfl) rfl ?_
  clear E a; intro a E
  refine WL_nil ?_
  refine T_n ?_
  refine WP_ret ?_
  exact F_ret1 E Try.results77 rfl ⟨_, rfl, M_3, (hM_2.trans hM_3), hv_4, S⟩

set_option maxRecDepth 100000 in
set_option maxHeartbeats 4000000 in
theorem laws_FnSortedness {M : Hp} {v0 : Value} {l0 : List Int} (h0 : RdI M v0 l0){kk1 kn1 : Int} (gk1 : -9223372036854775808 ≤ kn1 ∧ kn1 ≤ 9223372036854775807) (hr0 : (∀ x ∈ l0, -9223372036854775808 ≤ x ∧ x ≤ 9223372036854775807)) :
    PuC Try.prog 6 M [v0, .agg #[.int .i64 kk1, .int .i64 kn1]] (fun r M' => r = .bool true) := by
  refine PuC_enter Try.func6 rfl Try.ntmps6 rfl ?_
  intro a w M1 H hM1 S E
  replace h0 := h0.le hM1
  have b0 := h0.bound
  refine WP_seq ?_
  refine WP_region ?_
  refine S_x (X_box (cs := #[.int .i64 kk1, .int .i64 kn1]) E S rfl rfl rfl ?_)
  clear E a S; rintro a w b_1 E S
  obtain ⟨M_2, hM_2, hb_1, S⟩ := S.freezeB
  replace h0 := h0.le hM_2
  refine S_v E rfl (R_assign E rfl) rfl ?_
  clear E a; intro a E
  refine WL_nil ?_
  refine T_n ?_
  refine WP_seq ?_
  refine WP_seq ?_
  refine WP_region ?_
  refine S_v E rfl (R_move E rfl) rfl ?_
  clear E a; intro a E
  refine S_v E rfl (R_lenV E rfl T22 h0.len) rfl ?_
  clear E a; intro a E
  refine S_v E rfl (R_gtr E rfl rfl) rfl ?_
  clear E a; intro a E
  refine WL_nil ?_
  refine T_n ?_
  refine WP_cond E rfl (fun hc_3 => ?_) (fun hc_3 => ?_)
  · replace hc_3 := of_decide_eq_true hc_3
    refine WP_seq ?_
    refine WP_region ?_
    refine S_v E rfl (R_assign E rfl) rfl ?_
    clear E a; intro a E
    refine WL_nil ?_
    refine T_n ?_
    refine WP_ret ?_
    refine T_r ?_
    exact F_ret1 E Try.results6 rfl ⟨_, rfl, M_2, hM_2, rfl, S⟩
  · replace hc_3 := of_decide_eq_false hc_3
    refine WP_skip ?_
    refine T_n ?_
    refine WP_seq ?_
    refine WP_seq ?_
    refine WP_region ?_
    refine S_x (X_pu E S rfl rfl rfl (impl_IsSorted (RdS.nil _)) (Hp.le.refl _) ?_)
    clear E a S; rintro a _ w M_4 hM_4 rfl S E
    replace h0 := h0.le hM_4
    replace hb_1 := hM_4.2 _ _ hb_1
    refine S_v E rfl (R_not E rfl) rfl ?_
    clear E a; intro a E
    refine WL_nil ?_
    refine T_n ?_
    have hc_5 : (!(decide (SortedI ([] : List Int)))) = false := by (clear E S; first | (simp; done) | decide | (simp only [etk, etm]; simp; done) | (simp [SortedI]; done) | (rw [key0_map hr0, etk]; simp; done) | (rw [mapI_map (keyAt_free hk4), etm]; simp; done) | exact decide_eq_true (srtM_sorted _) | (simp [srtM_sorted]; done))
    refine WP_condF E rfl hc_5 ?_
    refine WP_skip ?_
    refine T_n ?_
    refine WP_seq ?_
    refine WP_seq ?_
    refine WP_region ?_
    refine S_v E rfl (R_move E rfl) rfl ?_
    clear E a; intro a E
    refine S_x (X_buildM (R := RSl 1 RInt) (vs := [v0]) (xs := [l0]) (RSl_mono RInt_mono) E S rfl T98 rfl rfl rfl (by intro u hu; simp only [List.mem_cons, List.not_mem_nil, or_false] at hu; rcases hu with rfl <;> first | exact RdI.one h0 | rfl) rfl (rowsC (R := RSl 1 RInt) (RdI.row h0) rowsN) ?_)
    clear E a S; rintro a v_6 w M_7 hM_7 hv_6 S E
    replace hv_6 : RdII M_7 v_6 [l0] := hv_6
    replace h0 := h0.le hM_7
    replace hb_1 := hM_7.2 _ _ hb_1
    refine S_x (X_pu E S rfl rfl rfl (laws_few hv_6) (Hp.le.refl _) ?_)
    clear E a S; rintro a _ w M_8 hM_8 rfl S E
    replace h0 := h0.le hM_8
    replace hb_1 := hM_8.2 _ _ hb_1
    replace hv_6 := hv_6.le hM_8
    refine S_v E rfl (R_not E rfl) rfl ?_
    clear E a; intro a E
    refine S_v E rfl (R_move E rfl) rfl ?_
    clear E a; intro a E
    refine split_bool (!(decide (∀ x ∈ [l0], x.length ≤ 300))) (fun hc_9 => ?_) (fun hc_9 => ?_)
    · replace E := E.val (t := 16) rfl hc_9
      replace E := E.val (t := 17) rfl hc_9
      refine WL_guard_no E rfl rfl rfl rfl fun a E => ?_
      refine WL_guard_no E rfl rfl rfl rfl fun a E => ?_
      refine WL_guard_no E rfl rfl rfl rfl fun a E => ?_
      refine S_v E rfl (R_pickT E rfl rfl) rfl ?_
      clear E a; intro a E
      refine S_v E rfl (R_move E rfl) rfl ?_
      clear E a; intro a E
      refine WL_guard_no E rfl rfl rfl rfl fun a E => ?_
      refine WL_guard_no E rfl rfl rfl rfl fun a E => ?_
      refine WL_guard_no E rfl rfl rfl rfl fun a E => ?_
      refine S_v E rfl (R_pickT E rfl rfl) rfl ?_
      clear E a; intro a E
      refine WL_nil ?_
      refine T_n ?_
      refine WP_condT E rfl rfl ?_
      refine WP_seq ?_
      refine WP_region ?_
      refine S_v E rfl (R_assign E rfl) rfl ?_
      clear E a; intro a E
      refine WL_nil ?_
      refine T_n ?_
      refine WP_ret ?_
      refine T_r ?_
      exact F_ret1 E Try.results6 rfl ⟨_, rfl, M_8, (hM_2.trans (hM_4.trans (hM_7.trans hM_8))), rfl, S⟩
    · replace E := E.val (t := 16) rfl hc_9
      replace E := E.val (t := 17) rfl hc_9
      refine WL_guard_yes E rfl rfl ?_
      refine S_v E rfl (R_loadGM E rfl (Try.isAgg24 _) (Try.sizeOf24 _) S.imm hb_1) rfl ?_
      clear E a; intro a E
      refine WL_guard_yes E rfl rfl ?_
      refine S_x (X_pu E S rfl rfl rfl (laws_just (by omega)) (Hp.le.refl _) ?_)
      clear E a S; rintro a _ w M_10 hM_10 rfl S E
      replace h0 := h0.le hM_10
      replace hb_1 := hM_10.2 _ _ hb_1
      replace hv_6 := hv_6.le hM_10
      refine WL_guard_yes E rfl rfl ?_
      refine S_v E rfl (R_not E rfl) rfl ?_
      clear E a; intro a E
      refine S_v E rfl (R_pickF E rfl rfl) rfl ?_
      clear E a; intro a E
      refine S_v E rfl (R_move E rfl) rfl ?_
      clear E a; intro a E
      refine split_bool (!(decide (-1099511627776 < kn1 ∧ kn1 < 1099511627776))) (fun hc_11 => ?_) (fun hc_11 => ?_)
      · replace E := E.val (t := 20) rfl hc_11
        replace E := E.val (t := 21) rfl hc_11
        replace E := E.val (t := 22) rfl hc_11
        refine WL_guard_no E rfl rfl rfl rfl fun a E => ?_
        refine WL_guard_no E rfl rfl rfl rfl fun a E => ?_
        refine WL_guard_no E rfl rfl rfl rfl fun a E => ?_
        refine S_v E rfl (R_pickT E rfl rfl) rfl ?_
        clear E a; intro a E
        refine WL_nil ?_
        refine T_n ?_
        refine WP_condT E rfl rfl ?_
        refine WP_seq ?_
        refine WP_region ?_
        refine S_v E rfl (R_assign E rfl) rfl ?_
        clear E a; intro a E
        refine WL_nil ?_
        refine T_n ?_
        refine WP_ret ?_
        refine T_r ?_
        exact F_ret1 E Try.results6 rfl ⟨_, rfl, M_10, (hM_2.trans (hM_4.trans (hM_7.trans (hM_8.trans hM_10)))), rfl, S⟩
      · replace E := E.val (t := 20) rfl hc_11
        replace E := E.val (t := 21) rfl hc_11
        replace E := E.val (t := 22) rfl hc_11
        refine WL_guard_yes E rfl rfl ?_
        refine S_v E rfl (R_fieldAddr E rfl (FA24_0 _)) rfl ?_
        clear E a; intro a E
        refine WL_guard_yes E rfl rfl ?_
        refine S_v E rfl (R_loadM E rfl Try.isAgg3 S.imm (cellM_boxo hb_1 rfl)) rfl ?_
        clear E a; intro a E
        refine WL_guard_yes E rfl rfl ?_
        refine S_v E rfl (R_eql E rfl rfl) rfl ?_
        clear E a; intro a E
        refine S_v E rfl (R_pickF E rfl rfl) rfl ?_
        clear E a; intro a E
        refine WL_nil ?_
        refine T_n ?_
        refine WP_cond E rfl (fun hc_12 => ?_) (fun hc_12 => ?_)
        · replace hc_12 := of_decide_eq_true hc_12
          refine WP_seq ?_
          refine WP_region ?_
          refine S_v E rfl (R_assign E rfl) rfl ?_
          clear E a; intro a E
          refine WL_nil ?_
          refine T_n ?_
          refine WP_ret ?_
          refine T_r ?_
          exact F_ret1 E Try.results6 rfl ⟨_, rfl, M_10, (hM_2.trans (hM_4.trans (hM_7.trans (hM_8.trans hM_10)))), rfl, S⟩
        · replace hc_12 := of_decide_eq_false hc_12
          have hkj : -1099511627776 < kn1 ∧ kn1 < 1099511627776 := (by simp_all)
          have hln : l0.length ≤ 300 := (by simp_all)
          have hk4 : ¬ kk1 = 4 := (by assumption)
          refine WP_skip ?_
          refine T_n ?_
          refine WP_seq ?_
          refine WP_region ?_
          refine S_v E rfl (R_assign E rfl) rfl ?_
          clear E a; intro a E
          refine S_v E rfl (R_assign E rfl) rfl ?_
          clear E a; intro a E
          refine WL_nil ?_
          refine T_n ?_
          refine WP_seq ?_
          refine WP_seq ?_
          refine WP_region ?_
          refine S_v E rfl (R_assign E rfl) rfl ?_
          clear E a; intro a E
          refine WL_nil ?_
          refine T_n ?_
          refine WP_block ?_
          refine WP_loop (γ := Nat) (fun (k : Nat) a w => ∃ (M_13 : Hp), Hp.le M_10 M_13 ∧ St w M_13 (H) ∧ Env a 120 [] [(0, v0), (3, .pointer (some ⟨b_1, 0, none⟩)), (5, .bool (decide (SortedI (l0.take (k + 1))))), (6, .bool (decide (SortedI ((l0.map (fun x => keyAt kk1 kn1 x 0)).take (k + 1))))), (7, .int .i64 ((k + 1 : Nat) : Int))] ∧ (k ≤ l0.length)) (fun k => l0.length - k) 0 ⟨M_10, Hp.le.refl _, S, E.keep ⟨rfl, rfl, look_bool (i := true) rfl (by (exact (decide_eq_true (asc_one (by omega))).symm)), look_bool (i := true) rfl (by (exact (decide_eq_true (asc_one (by omega))).symm)), look_nat (i := 1) rfl (by (rfl)), trivial⟩, (by omega)⟩ ?_
          try clear E
          try clear S
          try clear a
          try clear w
          rintro k a w ⟨M_13, hM_13, S, E, hL0_0⟩
          replace h0 := h0.le hM_13
          replace hb_1 := hM_13.2 _ _ hb_1
          replace hv_6 := hv_6.le hM_13
          refine WP_seq ?_
          refine WP_seq ?_
          refine WP_region ?_
          refine S_v E rfl (R_move E rfl) rfl ?_
          clear E a; intro a E
          refine S_v E rfl (R_move E rfl) rfl ?_
          clear E a; intro a E
          refine S_v E rfl (R_lenV E rfl T22 h0.len) rfl ?_
          clear E a; intro a E
          refine S_v E rfl (R_lss E rfl rfl) rfl ?_
          clear E a; intro a E
          refine WL_nil ?_
          refine T_n ?_
          refine WP_cond E rfl (fun hc_14 => ?_) (fun hc_14 => ?_)
          · replace hc_14 := of_decide_eq_true hc_14
            refine WP_skip ?_
            refine T_n ?_
            refine WP_seq ?_
            refine WP_block ?_
            refine WP_seq ?_
            have hb_1k14 := hb_1
            replace S := S.mono_heap (w' := World.drew _) rfl
            refine WP_drawn (C := fun x w => agree M_13 w) (bf := (fun i => [])) [0, 1, 2, 3, 4, 5, 6, 7, 8, 9, 10, 11, 12, 13] [0, 1, 2, 3, 4, 5, 6, 7, 8, 9, 10, 11, 12, 13] Try.mixed (by kernel_rfl) (fun x hq => S.imm) ?_
            refine D_v E rfl rfl rfl (fun w hC => (R_move E rfl)) ?_
            clear E a; intro a E
            refine D_v E rfl rfl rfl (fun w hC => (R_move E rfl)) ?_
            clear E a; intro a E
            refine split_bool (decide (SortedI (l0.take (k + 1)))) (fun hc_15 => ?_) (fun hc_15 => ?_)
            · replace E := E.val (t := 5) rfl hc_15
              replace E := E.val (t := 33) rfl hc_15
              replace E := E.val (t := 34) rfl hc_15
              replace hc_15 := of_decide_eq_true hc_15
              refine D_vyes E rfl rfl rfl rfl rfl (fun w hC => (R_move E rfl)) ?_
              clear E a; intro a E
              refine D_vyes E rfl rfl rfl rfl rfl (fun w hC => (R_move E rfl)) ?_
              clear E a; intro a E
              refine D_vyes E rfl rfl rfl rfl rfl (fun w hC => (R_subx (m := ((k + 1 - 1 : Nat) : Int)) E rfl rfl (by omega) (by omega))) ?_
              clear E a; intro a E
              obtain ⟨x_16, hx_16⟩ : ∃ x, (l0)[k + 1 - 1]? = some x := ⟨_, List.getElem?_eq_getElem (by first | omega | (simp; done) | (simp; omega) | (simp_all; omega))⟩
              obtain ⟨p_17, hp_17, qp_17⟩ := h0.at hx_16
              refine D_vyes E rfl rfl rfl rfl rfl (fun w hC => (R_idx E rfl rfl T22 hp_17 rfl)) ?_
              clear E a; intro a E
              refine D_vyes E rfl rfl rfl rfl rfl (fun w hC => (R_loadM E rfl Try.isAgg3 hC qp_17)) ?_
              clear E a; intro a E
              refine D_vyes E rfl rfl rfl rfl rfl (fun w hC => (R_move E rfl)) ?_
              clear E a; intro a E
              refine D_vyes E rfl rfl rfl rfl rfl (fun w hC => (R_move E rfl)) ?_
              clear E a; intro a E
              obtain ⟨x_18, hx_18⟩ : ∃ x, (l0)[k + 1]? = some x := ⟨_, List.getElem?_eq_getElem (by first | omega | (simp; done) | (simp; omega) | (simp_all; omega))⟩
              obtain ⟨p_19, hp_19, qp_19⟩ := h0.at hx_18
              refine D_vyes E rfl rfl rfl rfl rfl (fun w hC => (R_idx E rfl rfl T22 hp_19 rfl)) ?_
              clear E a; intro a E
              refine D_vyes E rfl rfl rfl rfl rfl (fun w hC => (R_loadM E rfl Try.isAgg3 hC qp_19)) ?_
              clear E a; intro a E
              refine D_vyes E rfl rfl rfl rfl rfl (fun w hC => (R_leq E rfl rfl)) ?_
              clear E a; intro a E
              refine D_v E rfl rfl rfl (fun w hC => (R_pickT E rfl rfl)) ?_
              clear E a; intro a E
              refine D_v E rfl rfl rfl (fun w hC => (R_assign E rfl)) ?_
              clear E a; intro a E
              refine D_end (NoP_n ?_)
              refine T_n ?_
              have hb_1k19 := hb_1
              have qp_17k19 := qp_17
              have qp_19k19 := qp_19
              have h0k19 := h0
              replace S := S.mono_heap (w' := World.drew _) rfl
              refine WP_drawn (C := fun x w => agree M_13 w) (bf := (fun i => [])) [0, 1, 2, 3, 4, 5, 6, 7, 9, 10, 11, 12, 13, 15, 16, 17] [0, 1, 2, 3, 4, 5, 6, 7, 9, 10, 11, 12, 13, 8, 14, 15, 16, 17] Try.mixed (by kernel_rfl) (fun x hq => S.imm) ?_
              refine D_v E rfl rfl rfl (fun w hC => (R_move E rfl)) ?_
              clear E a; intro a E
              refine D_v E rfl rfl rfl (fun w hC => (R_move E rfl)) ?_
              clear E a; intro a E
              refine split_bool (decide (SortedI ((l0.map (fun x => keyAt kk1 kn1 x 0)).take (k + 1)))) (fun hc_20 => ?_) (fun hc_20 => ?_)
              · replace E := E.val (t := 6) rfl hc_20
                replace E := E.val (t := 46) rfl hc_20
                replace E := E.val (t := 47) rfl hc_20
                replace hc_20 := of_decide_eq_true hc_20
                refine D_vyes E rfl rfl rfl rfl rfl (fun w hC => (R_loadGM E rfl (Try.isAgg24 _) (Try.sizeOf24 _) hC hb_1k19)) ?_
                clear E a; intro a E
                refine D_vyes E rfl rfl rfl rfl rfl (fun w hC => (R_move E rfl)) ?_
                clear E a; intro a E
                refine D_vyes E rfl rfl rfl rfl rfl (fun w hC => (R_move E rfl)) ?_
                clear E a; intro a E
                refine D_vyes E rfl rfl rfl rfl rfl (fun w hC => (R_subx (m := ((k + 1 - 1 : Nat) : Int)) E rfl rfl (by omega) (by omega))) ?_
                clear E a; intro a E
                obtain ⟨p_21, hp_21, qp_21⟩ := h0.at hx_16
                refine D_vyes E rfl rfl rfl rfl rfl (fun w hC => (R_idx E rfl rfl T22 hp_21 rfl)) ?_
                clear E a; intro a E
                refine D_vyes E rfl rfl rfl rfl rfl (fun w hC => (R_loadM E rfl Try.isAgg3 hC qp_21)) ?_
                clear E a; intro a E
                refine D_vyes E rfl rfl rfl rfl rfl (fun w hC => (R_loadGM E rfl (Try.isAgg24 _) (Try.sizeOf24 _) hC hb_1k19)) ?_
                clear E a; intro a E
                refine D_vyes E rfl rfl rfl rfl rfl (fun w hC => (R_move E rfl)) ?_
                clear E a; intro a E
                refine D_vyes E rfl rfl rfl rfl rfl (fun w hC => (R_move E rfl)) ?_
                clear E a; intro a E
                obtain ⟨p_22, hp_22, qp_22⟩ := h0.at hx_18
                refine D_vyes E rfl rfl rfl rfl rfl (fun w hC => (R_idx E rfl rfl T22 hp_22 rfl)) ?_
                clear E a; intro a E
                refine D_vyes E rfl rfl rfl rfl rfl (fun w hC => (R_loadM E rfl Try.isAgg3 hC qp_22)) ?_
                clear E a; intro a E
                refine D_yes E rfl rfl rfl rfl (X_pu E S rfl rfl rfl (laws_stands (by omega)) (Hp.le.refl _) ?_)
                clear E a S; rintro a _ w M_23 hM_23 rfl S E
                replace h0 := h0.le hM_23
                replace hb_1 := hM_23.2 _ _ hb_1
                replace hv_6 := hv_6.le hM_23
                refine ⟨fun x hq hb => (agree_le hM_23 S.imm), ?_⟩
                refine D_yes E rfl rfl rfl rfl (X_pu E S rfl rfl rfl (laws_stands (by omega)) (Hp.le.refl _) ?_)
                clear E a S; rintro a _ w M_24 hM_24 rfl S E
                replace h0 := h0.le hM_24
                replace hb_1 := hM_24.2 _ _ hb_1
                replace hv_6 := hv_6.le hM_24
                refine ⟨fun x hq hb => (agree_le (hM_23.trans hM_24) S.imm), ?_⟩
                refine D_vyes E rfl rfl rfl rfl rfl (fun w hC => (R_leq E rfl rfl)) ?_
                clear E a; intro a E
                refine D_v E rfl rfl rfl (fun w hC => (R_pickT E rfl rfl)) ?_
                clear E a; intro a E
                refine D_v E rfl rfl rfl (fun w hC => (R_assign E rfl)) ?_
                clear E a; intro a E
                refine D_end (NoP_n ?_)
                refine B_n ?_
                refine T_n ?_
                refine WP_region ?_
                refine S_v E rfl (R_move E rfl) rfl ?_
                clear E a; intro a E
                refine S_v E rfl (R_addx (m := ((k + 1 + 1 : Nat) : Int)) E rfl rfl (by omega) (by omega)) rfl ?_
                clear E a; intro a E
                refine S_v E rfl (R_assign E rfl) rfl ?_
                clear E a; intro a E
                refine WL_nil ?_
                refine T_n ?_
                exact ⟨k + 1, ⟨M_24, (hM_13.trans (hM_23.trans hM_24)), S, E.keep ⟨rfl, rfl, look_bool (i := decide (x_16 ≤ x_18)) rfl (by (first | exact asc_iff (k := k) (l := l0) (by first | assumption | (simpa using (by assumption))) (by first | assumption | exact map_at (by assumption)) (by first | assumption | exact map_at (by assumption)) | exact asc_stay (b := 0) (k := k) (l := l0) (by first | assumption | (simpa using (by assumption))) (by first | omega | (simp; omega)))), look_bool (i := decide (keyAt kk1 kn1 x_16 0 ≤ keyAt kk1 kn1 x_18 0)) rfl (by (first | exact asc_iff (k := k) (l := l0.map (fun x => keyAt kk1 kn1 x 0)) (by first | assumption | (simpa using (by assumption))) (by first | assumption | exact map_at (by assumption)) (by first | assumption | exact map_at (by assumption)) | exact asc_stay (b := 0) (k := k) (l := l0.map (fun x => keyAt kk1 kn1 x 0)) (by first | assumption | (simpa using (by assumption))) (by first | omega | (simp; omega)))), look_nat (i := k + 1 + 1) rfl (by (rfl)), trivial⟩, (by omega)⟩, by omega⟩
              · replace E := E.val (t := 6) rfl hc_20
                replace E := E.val (t := 46) rfl hc_20
                replace E := E.val (t := 47) rfl hc_20
                replace hc_20 := of_decide_eq_false hc_20
                refine D_no E rfl rfl rfl rfl rfl fun a E => ?_
                refine D_no E rfl rfl rfl rfl rfl fun a E => ?_
                refine D_no E rfl rfl rfl rfl rfl fun a E => ?_
                refine D_no E rfl rfl rfl rfl rfl fun a E => ?_
                refine D_no E rfl rfl rfl rfl rfl fun a E => ?_
                refine D_no E rfl rfl rfl rfl rfl fun a E => ?_
                refine D_no E rfl rfl rfl rfl rfl fun a E => ?_
                refine D_no E rfl rfl rfl rfl rfl fun a E => ?_
                refine D_no E rfl rfl rfl rfl rfl fun a E => ?_
                refine D_no E rfl rfl rfl rfl rfl fun a E => ?_
                refine D_no E rfl rfl rfl rfl rfl fun a E => ?_
                refine D_no E rfl rfl rfl rfl rfl fun a E => ?_
                refine D_no E rfl rfl rfl rfl rfl fun a E => ?_
                refine D_no E rfl rfl rfl rfl rfl fun a E => ?_
                refine D_v E rfl rfl rfl (fun w hC => (R_pickF E rfl rfl)) ?_
                clear E a; intro a E
                refine D_v E rfl rfl rfl (fun w hC => (R_assign E rfl)) ?_
                clear E a; intro a E
                refine D_end (NoP_n ?_)
                refine B_n ?_
                refine T_n ?_
                refine WP_region ?_
                refine S_v E rfl (R_move E rfl) rfl ?_
                clear E a; intro a E
                refine S_v E rfl (R_addx (m := ((k + 1 + 1 : Nat) : Int)) E rfl rfl (by omega) (by omega)) rfl ?_
                clear E a; intro a E
                refine S_v E rfl (R_assign E rfl) rfl ?_
                clear E a; intro a E
                refine WL_nil ?_
                refine T_n ?_
                exact ⟨k + 1, ⟨M_13, hM_13, S, E.keep ⟨rfl, rfl, look_bool (i := decide (x_16 ≤ x_18)) rfl (by (first | exact asc_iff (k := k) (l := l0) (by first | assumption | (simpa using (by assumption))) (by first | assumption | exact map_at (by assumption)) (by first | assumption | exact map_at (by assumption)) | exact asc_stay (b := 0) (k := k) (l := l0) (by first | assumption | (simpa using (by assumption))) (by first | omega | (simp; omega)))), look_bool (i := false) rfl (by (first | exact asc_iff (k := k) (l := l0.map (fun x => keyAt kk1 kn1 x 0)) (by first | assumption | (simpa using (by assumption))) (by first | assumption | exact map_at (by assumption)) (by first | assumption | exact map_at (by assumption)) | exact asc_stay (b := 0) (k := k) (l := l0.map (fun x => keyAt kk1 kn1 x 0)) (by first | assumption | (simpa using (by assumption))) (by first | omega | (simp; omega)))), look_nat (i := k + 1 + 1) rfl (by (rfl)), trivial⟩, (by omega)⟩, by omega⟩
            · replace E := E.val (t := 5) rfl hc_15
              replace E := E.val (t := 33) rfl hc_15
              replace E := E.val (t := 34) rfl hc_15
              replace hc_15 := of_decide_eq_false hc_15
              refine D_no E rfl rfl rfl rfl rfl fun a E => ?_
              refine D_no E rfl rfl rfl rfl rfl fun a E => ?_
              refine D_no E rfl rfl rfl rfl rfl fun a E => ?_
              refine D_no E rfl rfl rfl rfl rfl fun a E => ?_
              refine D_no E rfl rfl rfl rfl rfl fun a E => ?_
              refine D_no E rfl rfl rfl rfl rfl fun a E => ?_
              refine D_no E rfl rfl rfl rfl rfl fun a E => ?_
              refine D_no E rfl rfl rfl rfl rfl fun a E => ?_
              refine D_no E rfl rfl rfl rfl rfl fun a E => ?_
              refine D_no E rfl rfl rfl rfl rfl fun a E => ?_
              refine D_v E rfl rfl rfl (fun w hC => (R_pickF E rfl rfl)) ?_
              clear E a; intro a E
              refine D_v E rfl rfl rfl (fun w hC => (R_assign E rfl)) ?_
              clear E a; intro a E
              refine D_end (NoP_n ?_)
              refine T_n ?_
              have hb_1k24 := hb_1
              have h0k24 := h0
              replace S := S.mono_heap (w' := World.drew _) rfl
              refine WP_drawn (C := fun x w => agree M_13 w) (bf := (fun i => [])) [0, 1, 2, 3, 4, 5, 6, 7, 9, 10, 11, 12, 13, 15, 16, 17] [0, 1, 2, 3, 4, 5, 6, 7, 9, 10, 11, 12, 13, 8, 14, 15, 16, 17] Try.mixed (by kernel_rfl) (fun x hq => S.imm) ?_
              refine D_v E rfl rfl rfl (fun w hC => (R_move E rfl)) ?_
              clear E a; intro a E
              refine D_v E rfl rfl rfl (fun w hC => (R_move E rfl)) ?_
              clear E a; intro a E
              refine split_bool (decide (SortedI ((l0.map (fun x => keyAt kk1 kn1 x 0)).take (k + 1)))) (fun hc_25 => ?_) (fun hc_25 => ?_)
              · replace E := E.val (t := 6) rfl hc_25
                replace E := E.val (t := 46) rfl hc_25
                replace E := E.val (t := 47) rfl hc_25
                replace hc_25 := of_decide_eq_true hc_25
                refine D_vyes E rfl rfl rfl rfl rfl (fun w hC => (R_loadGM E rfl (Try.isAgg24 _) (Try.sizeOf24 _) hC hb_1k24)) ?_
                clear E a; intro a E
                refine D_vyes E rfl rfl rfl rfl rfl (fun w hC => (R_move E rfl)) ?_
                clear E a; intro a E
                refine D_vyes E rfl rfl rfl rfl rfl (fun w hC => (R_move E rfl)) ?_
                clear E a; intro a E
                refine D_vyes E rfl rfl rfl rfl rfl (fun w hC => (R_subx (m := ((k + 1 - 1 : Nat) : Int)) E rfl rfl (by omega) (by omega))) ?_
                clear E a; intro a E
                obtain ⟨x_26, hx_26⟩ : ∃ x, (l0)[k + 1 - 1]? = some x := ⟨_, List.getElem?_eq_getElem (by first | omega | (simp; done) | (simp; omega) | (simp_all; omega))⟩
                obtain ⟨p_27, hp_27, qp_27⟩ := h0.at hx_26
                refine D_vyes E rfl rfl rfl rfl rfl (fun w hC => (R_idx E rfl rfl T22 hp_27 rfl)) ?_
                clear E a; intro a E
                refine D_vyes E rfl rfl rfl rfl rfl (fun w hC => (R_loadM E rfl Try.isAgg3 hC qp_27)) ?_
                clear E a; intro a E
                refine D_vyes E rfl rfl rfl rfl rfl (fun w hC => (R_loadGM E rfl (Try.isAgg24 _) (Try.sizeOf24 _) hC hb_1k24)) ?_
                clear E a; intro a E
                refine D_vyes E rfl rfl rfl rfl rfl (fun w hC => (R_move E rfl)) ?_
                clear E a; intro a E
                refine D_vyes E rfl rfl rfl rfl rfl (fun w hC => (R_move E rfl)) ?_
                clear E a; intro a E
                obtain ⟨x_28, hx_28⟩ : ∃ x, (l0)[k + 1]? = some x := ⟨_, List.getElem?_eq_getElem (by first | omega | (simp; done) | (simp; omega) | (simp_all; omega))⟩
                obtain ⟨p_29, hp_29, qp_29⟩ := h0.at hx_28
                refine D_vyes E rfl rfl rfl rfl rfl (fun w hC => (R_idx E rfl rfl T22 hp_29 rfl)) ?_
                clear E a; intro a E
                refine D_vyes E rfl rfl rfl rfl rfl (fun w hC => (R_loadM E rfl Try.isAgg3 hC qp_29)) ?_
                clear E a; intro a E
                refine D_yes E rfl rfl rfl rfl (X_pu E S rfl rfl rfl (laws_stands (by omega)) (Hp.le.refl _) ?_)
                clear E a S; rintro a _ w M_30 hM_30 rfl S E
                replace h0 := h0.le hM_30
                replace hb_1 := hM_30.2 _ _ hb_1
                replace hv_6 := hv_6.le hM_30
                refine ⟨fun x hq hb => (agree_le hM_30 S.imm), ?_⟩
                refine D_yes E rfl rfl rfl rfl (X_pu E S rfl rfl rfl (laws_stands (by omega)) (Hp.le.refl _) ?_)
                clear E a S; rintro a _ w M_31 hM_31 rfl S E
                replace h0 := h0.le hM_31
                replace hb_1 := hM_31.2 _ _ hb_1
                replace hv_6 := hv_6.le hM_31
                refine ⟨fun x hq hb => (agree_le (hM_30.trans hM_31) S.imm), ?_⟩
                refine D_vyes E rfl rfl rfl rfl rfl (fun w hC => (R_leq E rfl rfl)) ?_
                clear E a; intro a E
                refine D_v E rfl rfl rfl (fun w hC => (R_pickT E rfl rfl)) ?_
                clear E a; intro a E
                refine D_v E rfl rfl rfl (fun w hC => (R_assign E rfl)) ?_
                clear E a; intro a E
                refine D_end (NoP_n ?_)
                refine B_n ?_
                refine T_n ?_
                refine WP_region ?_
                refine S_v E rfl (R_move E rfl) rfl ?_
                clear E a; intro a E
                refine S_v E rfl (R_addx (m := ((k + 1 + 1 : Nat) : Int)) E rfl rfl (by omega) (by omega)) rfl ?_
                clear E a; intro a E
                refine S_v E rfl (R_assign E rfl) rfl ?_
                clear E a; intro a E
                refine WL_nil ?_
                refine T_n ?_
                exact ⟨k + 1, ⟨M_31, (hM_13.trans (hM_30.trans hM_31)), S, E.keep ⟨rfl, rfl, look_bool (i := false) rfl (by (first | exact asc_iff (k := k) (l := l0) (by first | assumption | (simpa using (by assumption))) (by first | assumption | exact map_at (by assumption)) (by first | assumption | exact map_at (by assumption)) | exact asc_stay (b := 0) (k := k) (l := l0) (by first | assumption | (simpa using (by assumption))) (by first | omega | (simp; omega)))), look_bool (i := decide (keyAt kk1 kn1 x_26 0 ≤ keyAt kk1 kn1 x_28 0)) rfl (by (first | exact asc_iff (k := k) (l := l0.map (fun x => keyAt kk1 kn1 x 0)) (by first | assumption | (simpa using (by assumption))) (by first | assumption | exact map_at (by assumption)) (by first | assumption | exact map_at (by assumption)) | exact asc_stay (b := 0) (k := k) (l := l0.map (fun x => keyAt kk1 kn1 x 0)) (by first | assumption | (simpa using (by assumption))) (by first | omega | (simp; omega)))), look_nat (i := k + 1 + 1) rfl (by (rfl)), trivial⟩, (by omega)⟩, by omega⟩
              · replace E := E.val (t := 6) rfl hc_25
                replace E := E.val (t := 46) rfl hc_25
                replace E := E.val (t := 47) rfl hc_25
                replace hc_25 := of_decide_eq_false hc_25
                refine D_no E rfl rfl rfl rfl rfl fun a E => ?_
                refine D_no E rfl rfl rfl rfl rfl fun a E => ?_
                refine D_no E rfl rfl rfl rfl rfl fun a E => ?_
                refine D_no E rfl rfl rfl rfl rfl fun a E => ?_
                refine D_no E rfl rfl rfl rfl rfl fun a E => ?_
                refine D_no E rfl rfl rfl rfl rfl fun a E => ?_
                refine D_no E rfl rfl rfl rfl rfl fun a E => ?_
                refine D_no E rfl rfl rfl rfl rfl fun a E => ?_
                refine D_no E rfl rfl rfl rfl rfl fun a E => ?_
                refine D_no E rfl rfl rfl rfl rfl fun a E => ?_
                refine D_no E rfl rfl rfl rfl rfl fun a E => ?_
                refine D_no E rfl rfl rfl rfl rfl fun a E => ?_
                refine D_no E rfl rfl rfl rfl rfl fun a E => ?_
                refine D_no E rfl rfl rfl rfl rfl fun a E => ?_
                refine D_v E rfl rfl rfl (fun w hC => (R_pickF E rfl rfl)) ?_
                clear E a; intro a E
                refine D_v E rfl rfl rfl (fun w hC => (R_assign E rfl)) ?_
                clear E a; intro a E
                refine D_end (NoP_n ?_)
                refine B_n ?_
                refine T_n ?_
                refine WP_region ?_
                refine S_v E rfl (R_move E rfl) rfl ?_
                clear E a; intro a E
                refine S_v E rfl (R_addx (m := ((k + 1 + 1 : Nat) : Int)) E rfl rfl (by omega) (by omega)) rfl ?_
                clear E a; intro a E
                refine S_v E rfl (R_assign E rfl) rfl ?_
                clear E a; intro a E
                refine WL_nil ?_
                refine T_n ?_
                exact ⟨k + 1, ⟨M_13, hM_13, S, E.keep ⟨rfl, rfl, look_bool (i := false) rfl (by (first | exact asc_iff (k := k) (l := l0) (by first | assumption | (simpa using (by assumption))) (by first | assumption | exact map_at (by assumption)) (by first | assumption | exact map_at (by assumption)) | exact asc_stay (b := 0) (k := k) (l := l0) (by first | assumption | (simpa using (by assumption))) (by first | omega | (simp; omega)))), look_bool (i := false) rfl (by (first | exact asc_iff (k := k) (l := l0.map (fun x => keyAt kk1 kn1 x 0)) (by first | assumption | (simpa using (by assumption))) (by first | assumption | exact map_at (by assumption)) (by first | assumption | exact map_at (by assumption)) | exact asc_stay (b := 0) (k := k) (l := l0.map (fun x => keyAt kk1 kn1 x 0)) (by first | assumption | (simpa using (by assumption))) (by first | omega | (simp; omega)))), look_nat (i := k + 1 + 1) rfl (by (rfl)), trivial⟩, (by omega)⟩, by omega⟩
          · replace hc_14 := of_decide_eq_false hc_14
            have etk : l0.take (k + 1) = l0 := List.take_of_length_le (by omega)
            have etm : (l0.map (fun x => keyAt kk1 kn1 x 0)).take (k + 1) = l0.map (fun x => keyAt kk1 kn1 x 0) := List.take_of_length_le (by simp; omega)
            have hml := mapI_len (keyAt kk1 kn1) l0 0
            refine WP_exit ?_
            refine T_x ?_
            refine T_x ?_
            refine B_x ?_
            refine T_n ?_
            refine WP_seq ?_
            refine WP_region ?_
            refine S_v E rfl (R_move E rfl) rfl ?_
            clear E a; intro a E
            refine S_x (X_pu E S rfl rfl rfl (spec_IsSorted h0 (by first | assumption | exact (fun x hx => by rcases List.mem_append.1 hx with h | h; exact hr0 x h; exact hr1 x h)) (by (first | omega | (simp; omega) | (simp; done) | (simp_all; omega) | grind))) (Hp.le.refl _) ?_)
            clear E a S; rintro a _ w M_32 hM_32 rfl S E
            replace h0 := h0.le hM_32
            replace hb_1 := hM_32.2 _ _ hb_1
            replace hv_6 := hv_6.le hM_32
            refine S_v E rfl (R_move E rfl) rfl ?_
            clear E a; intro a E
            refine S_v E rfl (R_eqlB E rfl rfl Try.underlying4) rfl ?_
            clear E a; intro a E
            refine S_v E rfl (R_move E rfl) rfl ?_
            clear E a; intro a E
            have hc_33 : ((decide (SortedI l0)) == (decide (SortedI (l0.take (k + 1))))) = true := by (clear E S; first | (simp; done) | decide | (simp only [etk, etm]; simp; done) | (simp [SortedI]; done) | (rw [key0_map hr0, etk]; simp; done) | (rw [mapI_map (keyAt_free hk4), etm]; simp; done) | exact decide_eq_true (srtM_sorted _) | (simp [srtM_sorted]; done))
            replace E := E.val (t := 66) rfl hc_33
            replace E := E.val (t := 67) rfl hc_33
            refine WL_guard_yes E rfl rfl ?_
            refine S_v E rfl (R_move E rfl) rfl ?_
            clear E a; intro a E
            refine WL_guard_yes E rfl rfl ?_
            refine S_v E rfl (R_loadGM E rfl (Try.isAgg24 _) (Try.sizeOf24 _) S.imm hb_1) rfl ?_
            clear E a; intro a E
            refine WL_guard_yes E rfl rfl ?_
            refine S_x (X_pu E S rfl rfl rfl (spec_IsSortedBy h0 (by omega) (by first | assumption | exact (fun x hx => by rcases List.mem_append.1 hx with h | h; exact hr0 x h; exact hr1 x h)) (by (first | omega | (simp; omega) | (simp; done) | (simp_all; omega) | grind))) (Hp.le.refl _) ?_)
            clear E a S; rintro a _ w M_34 hM_34 rfl S E
            replace h0 := h0.le hM_34
            replace hb_1 := hM_34.2 _ _ hb_1
            replace hv_6 := hv_6.le hM_34
            refine WL_guard_yes E rfl rfl ?_
            refine S_v E rfl (R_move E rfl) rfl ?_
            clear E a; intro a E
            refine WL_guard_yes E rfl rfl ?_
            refine S_v E rfl (R_eqlB E rfl rfl Try.underlying4) rfl ?_
            clear E a; intro a E
            refine S_v E rfl (R_pickT E rfl rfl) rfl ?_
            clear E a; intro a E
            refine S_v E rfl (R_move E rfl) rfl ?_
            clear E a; intro a E
            have hc_35 : ((decide (SortedI ((l0).map (fun x => keyAt kk1 kn1 x 0)))) == (decide (SortedI ((l0.map (fun x => keyAt kk1 kn1 x 0)).take (k + 1))))) = true := by (clear E S; first | (simp; done) | decide | (simp only [etk, etm]; simp; done) | (simp [SortedI]; done) | (rw [key0_map hr0, etk]; simp; done) | (rw [mapI_map (keyAt_free hk4), etm]; simp; done) | exact decide_eq_true (srtM_sorted _) | (simp [srtM_sorted]; done))
            replace E := E.val (t := 72) rfl hc_35
            replace E := E.val (t := 73) rfl hc_35
            replace E := E.val (t := 74) rfl hc_35
            refine WL_guard_yes E rfl rfl ?_
            refine S_v E rfl (R_move E rfl) rfl ?_
            clear E a; intro a E
            refine WL_guard_yes E rfl rfl ?_
            refine S_x (X_pu E S rfl rfl rfl (impl_IsSorted h0) (Hp.le.refl _) ?_)
            clear E a S; rintro a _ w M_36 hM_36 rfl S E
            replace h0 := h0.le hM_36
            replace hb_1 := hM_36.2 _ _ hb_1
            replace hv_6 := hv_6.le hM_36
            refine WL_guard_yes E rfl rfl ?_
            refine S_v E rfl (R_move E rfl) rfl ?_
            clear E a; intro a E
            refine WL_guard_yes E rfl rfl ?_
            refine S_v E rfl (R_eqlB E rfl rfl Try.underlying4) rfl ?_
            clear E a; intro a E
            refine S_v E rfl (R_pickT E rfl rfl) rfl ?_
            clear E a; intro a E
            refine S_v E rfl (R_move E rfl) rfl ?_
            clear E a; intro a E
            have hc_37 : ((decide (SortedI l0)) == (decide (SortedI (l0.take (k + 1))))) = true := by (clear E S; first | (simp; done) | decide | (simp only [etk, etm]; simp; done) | (simp [SortedI]; done) | (rw [key0_map hr0, etk]; simp; done) | (rw [mapI_map (keyAt_free hk4), etm]; simp; done) | exact decide_eq_true (srtM_sorted _) | (simp [srtM_sorted]; done))
            replace E := E.val (t := 78) rfl hc_37
            replace E := E.val (t := 79) rfl hc_37
            replace E := E.val (t := 80) rfl hc_37
            refine WL_guard_yes E rfl rfl ?_
            refine S_v E rfl (R_move E rfl) rfl ?_
            clear E a; intro a E
            refine WL_guard_yes E rfl rfl ?_
            refine S_x (X_pu E S rfl rfl rfl (impl_IsSortedSeq h0) (Hp.le.refl _) ?_)
            clear E a S; rintro a _ w M_38 hM_38 rfl S E
            replace h0 := h0.le hM_38
            replace hb_1 := hM_38.2 _ _ hb_1
            replace hv_6 := hv_6.le hM_38
            refine WL_guard_yes E rfl rfl ?_
            refine S_v E rfl (R_move E rfl) rfl ?_
            clear E a; intro a E
            refine WL_guard_yes E rfl rfl ?_
            refine S_v E rfl (R_eqlB E rfl rfl Try.underlying4) rfl ?_
            clear E a; intro a E
            refine S_v E rfl (R_pickT E rfl rfl) rfl ?_
            clear E a; intro a E
            refine S_v E rfl (R_move E rfl) rfl ?_
            clear E a; intro a E
            have hc_39 : ((decide (SortedI l0)) == (decide (SortedI (l0.take (k + 1))))) = true := by (clear E S; first | (simp; done) | decide | (simp only [etk, etm]; simp; done) | (simp [SortedI]; done) | (rw [key0_map hr0, etk]; simp; done) | (rw [mapI_map (keyAt_free hk4), etm]; simp; done) | exact decide_eq_true (srtM_sorted _) | (simp [srtM_sorted]; done))
            replace E := E.val (t := 84) rfl hc_39
            replace E := E.val (t := 85) rfl hc_39
            replace E := E.val (t := 86) rfl hc_39
            refine WL_guard_yes E rfl rfl ?_
            refine S_v E rfl (R_move E rfl) rfl ?_
            clear E a; intro a E
            refine WL_guard_yes E rfl rfl ?_
            refine S_v E rfl (R_loadGM E rfl (Try.isAgg24 _) (Try.sizeOf24 _) S.imm hb_1) rfl ?_
            clear E a; intro a E
            refine WL_guard_yes E rfl rfl ?_
            refine S_x (X_pu E S rfl rfl rfl (impl_IsSortedBy h0 (by omega)) (Hp.le.refl _) ?_)
            clear E a S; rintro a _ w M_40 hM_40 rfl S E
            replace h0 := h0.le hM_40
            replace hb_1 := hM_40.2 _ _ hb_1
            replace hv_6 := hv_6.le hM_40
            refine WL_guard_yes E rfl rfl ?_
            refine S_v E rfl (R_move E rfl) rfl ?_
            clear E a; intro a E
            refine WL_guard_yes E rfl rfl ?_
            refine S_v E rfl (R_eqlB E rfl rfl Try.underlying4) rfl ?_
            clear E a; intro a E
            refine S_v E rfl (R_pickT E rfl rfl) rfl ?_
            clear E a; intro a E
            refine S_v E rfl (R_move E rfl) rfl ?_
            clear E a; intro a E
            have hc_41 : ((decide (SortedI ((l0).map (fun x => keyAt kk1 kn1 x 0)))) == (decide (SortedI ((l0.map (fun x => keyAt kk1 kn1 x 0)).take (k + 1))))) = true := by (clear E S; first | (simp; done) | decide | (simp only [etk, etm]; simp; done) | (simp [SortedI]; done) | (rw [key0_map hr0, etk]; simp; done) | (rw [mapI_map (keyAt_free hk4), etm]; simp; done) | exact decide_eq_true (srtM_sorted _) | (simp [srtM_sorted]; done))
            replace E := E.val (t := 91) rfl hc_41
            replace E := E.val (t := 92) rfl hc_41
            replace E := E.val (t := 93) rfl hc_41
            refine WL_guard_yes E rfl rfl ?_
            refine S_v E rfl (R_move E rfl) rfl ?_
            clear E a; intro a E
            refine WL_guard_yes E rfl rfl ?_
            refine S_v E rfl (R_loadGM E rfl (Try.isAgg24 _) (Try.sizeOf24 _) S.imm hb_1) rfl ?_
            clear E a; intro a E
            refine WL_guard_yes E rfl rfl ?_
            refine S_x (X_pu E S rfl rfl rfl (impl_IsSortedBySeq h0 (by omega)) (Hp.le.refl _) ?_)
            clear E a S; rintro a _ w M_42 hM_42 rfl S E
            replace h0 := h0.le hM_42
            replace hb_1 := hM_42.2 _ _ hb_1
            replace hv_6 := hv_6.le hM_42
            refine WL_guard_yes E rfl rfl ?_
            refine S_v E rfl (R_move E rfl) rfl ?_
            clear E a; intro a E
            refine WL_guard_yes E rfl rfl ?_
            refine S_v E rfl (R_eqlB E rfl rfl Try.underlying4) rfl ?_
            clear E a; intro a E
            refine S_v E rfl (R_pickT E rfl rfl) rfl ?_
            clear E a; intro a E
            refine S_v E rfl (R_move E rfl) rfl ?_
            clear E a; intro a E
            have hc_43 : ((decide (SortedI ((l0).map (fun x => keyAt kk1 kn1 x 0)))) == (decide (SortedI ((l0.map (fun x => keyAt kk1 kn1 x 0)).take (k + 1))))) = true := by (clear E S; first | (simp; done) | decide | (simp only [etk, etm]; simp; done) | (simp [SortedI]; done) | (rw [key0_map hr0, etk]; simp; done) | (rw [mapI_map (keyAt_free hk4), etm]; simp; done) | exact decide_eq_true (srtM_sorted _) | (simp [srtM_sorted]; done))
            replace E := E.val (t := 98) rfl hc_43
            replace E := E.val (t := 99) rfl hc_43
            replace E := E.val (t := 100) rfl hc_43
            refine WL_guard_yes E rfl rfl ?_
            refine S_v E rfl (R_move E rfl) rfl ?_
            clear E a; intro a E
            refine WL_guard_yes E rfl rfl ?_
            refine S_v E rfl (R_build (u := .agg #[.int .i64 0, .int .i64 0]) (vs := []) E rfl (fun w => FB24__  w)) rfl ?_
            clear E a; intro a E
            refine WL_guard_yes E rfl rfl ?_
            refine S_x (X_pu E S rfl rfl rfl (impl_IsSortedBy h0 (by omega)) (Hp.le.refl _) ?_)
            clear E a S; rintro a _ w M_44 hM_44 rfl S E
            replace h0 := h0.le hM_44
            replace hb_1 := hM_44.2 _ _ hb_1
            replace hv_6 := hv_6.le hM_44
            refine WL_guard_yes E rfl rfl ?_
            refine S_v E rfl (R_move E rfl) rfl ?_
            clear E a; intro a E
            refine WL_guard_yes E rfl rfl ?_
            refine S_v E rfl (R_eqlB E rfl rfl Try.underlying4) rfl ?_
            clear E a; intro a E
            refine S_v E rfl (R_pickT E rfl rfl) rfl ?_
            clear E a; intro a E
            refine S_v E rfl (R_move E rfl) rfl ?_
            clear E a; intro a E
            have hc_45 : ((decide (SortedI ((l0).map (fun x => keyAt 0 0 x 0)))) == (decide (SortedI (l0.take (k + 1))))) = true := by (clear E S; first | (simp; done) | decide | (simp only [etk, etm]; simp; done) | (simp [SortedI]; done) | (rw [key0_map hr0, etk]; simp; done) | (rw [mapI_map (keyAt_free hk4), etm]; simp; done) | exact decide_eq_true (srtM_sorted _) | (simp [srtM_sorted]; done))
            replace E := E.val (t := 105) rfl hc_45
            replace E := E.val (t := 106) rfl hc_45
            replace E := E.val (t := 107) rfl hc_45
            refine WL_guard_yes E rfl rfl ?_
            refine S_v E rfl (R_move E rfl) rfl ?_
            clear E a; intro a E
            refine WL_guard_yes E rfl rfl ?_
            refine S_x (X_pu E S rfl rfl rfl (impl_Keyify h0 (by (first | omega | (simp; omega) | (simp; done) | (simp_all; omega) | grind))) (Hp.le.refl _) ?_)
            clear E a S; rintro a v_47 w M_46 hM_46 hv_47 S E
            replace h0 := h0.le hM_46
            replace hb_1 := hM_46.2 _ _ hb_1
            replace hv_6 := hv_6.le hM_46
            refine WL_guard_yes E rfl rfl ?_
            refine S_x (X_pu E S rfl rfl rfl (impl_IsSorted hv_47) (Hp.le.refl _) ?_)
            clear E a S; rintro a _ w M_48 hM_48 rfl S E
            replace h0 := h0.le hM_48
            replace hb_1 := hM_48.2 _ _ hb_1
            replace hv_6 := hv_6.le hM_48
            replace hv_47 := hv_47.le hM_48
            refine S_v E rfl (R_pickT E rfl rfl) rfl ?_
            clear E a; intro a E
            refine S_v E rfl (R_move E rfl) rfl ?_
            clear E a; intro a E
            have hc_49 : (decide (SortedI (srtM (keyL l0)))) = true := by (clear E S; first | (simp; done) | decide | (simp only [etk, etm]; simp; done) | (simp [SortedI]; done) | (rw [key0_map hr0, etk]; simp; done) | (rw [mapI_map (keyAt_free hk4), etm]; simp; done) | exact decide_eq_true (srtM_sorted _) | (simp [srtM_sorted]; done))
            replace E := E.val (t := 110) rfl hc_49
            replace E := E.val (t := 111) rfl hc_49
            replace E := E.val (t := 112) rfl hc_49
            refine WL_guard_yes E rfl rfl ?_
            refine S_v E rfl (R_move E rfl) rfl ?_
            clear E a; intro a E
            refine WL_guard_yes E rfl rfl ?_
            refine S_v E rfl (R_loadGM E rfl (Try.isAgg24 _) (Try.sizeOf24 _) S.imm hb_1) rfl ?_
            clear E a; intro a E
            refine WL_guard_yes E rfl rfl ?_
            refine S_x (X_pu E S rfl rfl rfl (impl_Map h0 (by omega) (by (first | omega | (simp; omega) | (simp; done) | (simp_all; omega) | grind))) (Hp.le.refl _) ?_)
            clear E a S; rintro a v_51 w M_50 hM_50 hv_51 S E
            replace h0 := h0.le hM_50
            replace hb_1 := hM_50.2 _ _ hb_1
            replace hv_6 := hv_6.le hM_50
            replace hv_47 := hv_47.le hM_50
            refine WL_guard_yes E rfl rfl ?_
            refine S_x (X_pu E S rfl rfl rfl (impl_IsSorted hv_51) (Hp.le.refl _) ?_)
            clear E a S; rintro a _ w M_52 hM_52 rfl S E
            replace h0 := h0.le hM_52
            replace hb_1 := hM_52.2 _ _ hb_1
            replace hv_6 := hv_6.le hM_52
            replace hv_47 := hv_47.le hM_52
            replace hv_51 := hv_51.le hM_52
            refine WL_guard_yes E rfl rfl ?_
            refine S_v E rfl (R_move E rfl) rfl ?_
            clear E a; intro a E
            refine WL_guard_yes E rfl rfl ?_
            refine S_v E rfl (R_eqlB E rfl rfl Try.underlying4) rfl ?_
            clear E a; intro a E
            refine S_v E rfl (R_pickT E rfl rfl) rfl ?_
            clear E a; intro a E
            refine S_v E rfl (R_assign E rfl) rfl ?_
            clear E a; intro a E
            refine WL_nil ?_
            refine T_n ?_
            refine WP_ret ?_
            exact F_ret1 E Try.results6 rfl ⟨_, rfl, M_52, (hM_2.trans (hM_4.trans (hM_7.trans (hM_8.trans (hM_10.trans (hM_13.trans (hM_32.trans (hM_34.trans (hM_36.trans (hM_38.trans (hM_40.trans (hM_42.trans (hM_44.trans (hM_46.trans (hM_48.trans (hM_50.trans hM_52)))))))))))))))), (congrArg Value.bool (by (clear E S; first | (simp; done) | decide | (simp only [etk, etm]; simp; done) | (simp [SortedI]; done) | (rw [key0_map hr0, etk]; simp; done) | (rw [mapI_map (keyAt_free hk4), etm]; simp; done) | exact decide_eq_true (srtM_sorted _) | (simp [srtM_sorted]; done)))), S⟩

end Go.Proofs.Ytgljcnmakpnamaa.wFnSortedness
