/- Walks through the functions that laws.FnUniques reaches: what each computes; no conditions beyond what each theorem states. -/
import Derived.Test.YtahbobhbookehaaGreatWFnUniquesc
set_option linter.unusedVariables false
set_option linter.unusedSimpArgs false
namespace Go.Proofs.YtahbobhbookehaaGreat.wFnUniques
open Go Go.Sl
set_option maxRecDepth 100000 in
set_option maxHeartbeats 4000000 in
theorem it_FindUniquesBy {M : Hp} {v0 : Value} {l0 : List Int} (h0 : SeqV Tryz.prog v0 M (RInt) l0) {v1 : Value} {f1 : Int → Int} (h1 : PF1I Tryz.prog v1 M f1) :
    Pu Tryz.prog (.func (.func 84) #[] #[]) M [v0, v1] (fun r M' => SeqV Tryz.prog r M' RInt ((l0).filter (fun x => !getK false (dupM f1 l0) (f1 x)))) := by
  refine Pu_enter Tryz.func84 rfl Tryz.ntmps84 rfl Tryz.call84 ?_
  intro a w M1 H hM1 S E
  replace h0 := h0.le hM1
  replace h1 := h1.le hM1
  refine WP_seq ?_
  refine WP_region ?_
  refine S_x (X_box (cs := #[v0]) E S rfl rfl (cells_one h0.1) ?_)
  clear E a S; rintro a w b_1 E S
  obtain ⟨M_2, hM_2, hb_1, S⟩ := S.freezeB
  replace h0 := h0.le hM_2
  replace h1 := h1.le hM_2
  refine S_x (X_box (cs := #[v1]) E S rfl rfl (cells_one h1.1) ?_)
  clear E a S; rintro a w b_3 E S
  obtain ⟨M_4, hM_4, hb_3, S⟩ := S.freezeB
  replace h0 := h0.le hM_4
  replace h1 := h1.le hM_4
  replace hb_1 := hM_4.2 _ _ hb_1
  refine S_v E rfl (R_assign E rfl) rfl ?_
  clear E a; intro a E
  refine WL_nil ?_
  refine T_n ?_
  refine WP_seq ?_
  refine WP_region ?_
  refine S_v E rfl (R_makeFunc E rfl rfl) rfl ?_
  clear E a; intro a E
  refine S_v E rfl (R_assign E rfl) rfl ?_
  clear E a; intro a E
  refine WL_nil ?_
  refine T_n ?_
  refine WP_ret ?_
  exact F_ret1 E Tryz.results84 rfl ⟨_, rfl, M_4, (hM_2.trans hM_4), (SeqV_eq (it_FindUniquesBy1 (f1 := f1) h0 h1 hb_1 hb_3) (by ((try clear S); (try clear E); first | rfl | (simp; done) | (simp_all; done) | grind [List.take_add_one]))), S⟩

set_option maxRecDepth 100000 in
set_option maxHeartbeats 4000000 in
theorem it_FindUniques1_ {M : Hp} {x0 : Int} :
    Pu Tryz.prog (.func (.func 85) #[] #[]) M [.int .i64 x0] (fun r M' => r = .int .i64 x0) := by
  refine Pu_enter Tryz.func85 rfl Tryz.ntmps85 rfl Tryz.call85 ?_
  intro a w M1 H hM1 S E
  refine WP_seq ?_
  refine WP_region ?_
  refine S_v E rfl (R_assign E rfl) rfl ?_
  clear E a; intro a E
  refine WL_nil ?_
  refine T_n ?_
  refine WP_seq ?_
  refine WP_region ?_
  refine S_v E rfl (R_move E rfl) rfl ?_
  clear E a; intro a E
  refine S_v E rfl (R_assign E rfl) rfl ?_
  clear E a; intro a E
  refine WL_nil ?_
  refine T_n ?_
  refine WP_ret ?_
  exact F_ret1 E Tryz.results85 rfl ⟨_, rfl, M1, (Hp.le.refl _), rfl, S⟩

set_option maxRecDepth 100000 in
set_option maxHeartbeats 4000000 in
theorem it_FindUniques_ {M : Hp} {v0 : Value} {l0 : List Int} (h0 : SeqV Tryz.prog v0 M (RInt) l0) :
    Pu Tryz.prog (.func (.func 56) #[] #[]) M [v0] (fun r M' => SeqV Tryz.prog r M' RInt ((l0).filter (fun x => !getK false (dupM (fun x => x) l0) ((fun x => x) x)))) := by
  refine Pu_enter Tryz.func56 rfl Tryz.ntmps56 rfl Tryz.call56 ?_
  intro a w M1 H hM1 S E
  replace h0 := h0.le hM1
  refine WP_seq ?_
  refine WP_region ?_
  refine S_v E rfl (R_assign E rfl) rfl ?_
  clear E a; intro a E
  refine WL_nil ?_
  refine T_n ?_
  refine WP_seq ?_
  refine WP_region ?_
  refine S_v E rfl (R_move E rfl) rfl ?_
  clear E a; intro a E
  refine S_x (X_pu E S rfl rfl rfl (it_FindUniquesBy h0 ⟨rfl, fun zx0 => it_FindUniques1_ (x0 := zx0) ⟩) (Hp.le.refl _) ?_)
  clear E a S; rintro a v_2 w M_1 hM_1 hv_2 S E
  replace h0 := h0.le hM_1
  refine S_v E rfl (R_assign E rfl) rfl ?_
  clear E a; intro a E
  refine WL_nil ?_
  refine T_n ?_
  refine WP_ret ?_
  exact F_ret1 E Tryz.results56 rfl ⟨_, rfl, M_1, hM_1, hv_2, S⟩

set_option maxRecDepth 100000 in
set_option maxHeartbeats 4000000 in
theorem impl_FindUniquesSeq {M : Hp} {v0 : Value} {l0 : List Int} (h0 : RdI M v0 l0) (hb : l0.length ≤ 1000000000000) :
    Pu Tryz.prog (.func (.func 21) #[] #[]) M [v0] (fun r M' => RdI M' r ((l0).filter (fun x => !getK false (dupM (fun x => x) l0) ((fun x => x) x)))) := by
  refine Pu_enter Tryz.func21 rfl Tryz.ntmps21 rfl Tryz.call21 ?_
  intro a w M1 H hM1 S E
  replace h0 := h0.le hM1
  have b0 := h0.bound
  have hfl := List.length_filter_le (fun x => !getK false (dupM (fun x => x) l0) ((fun x => x) x)) l0
  refine WP_seq ?_
  refine WP_region ?_
  refine S_v E rfl (R_assign E rfl) rfl ?_
  clear E a; intro a E
  refine WL_nil ?_
  refine T_n ?_
  refine WP_seq ?_
  refine WP_region ?_
  refine S_v E rfl (R_move E rfl) rfl ?_
  clear E a; intro a E
  refine S_x (X_pu E S rfl rfl rfl (slices_Values h0) (Hp.le.refl _) ?_)
  clear E a S; rintro a v_2 w M_1 hM_1 hv_2 S E
  replace h0 := h0.le hM_1
  refine S_x (X_pu E S rfl rfl rfl (it_FindUniques_ hv_2) (Hp.le.refl _) ?_)
  clear E a S; rintro a v_4 w M_3 hM_3 hv_4 S E
  replace h0 := h0.le hM_3
  replace hv_2 := hv_2.le hM_3
  refine S_x (X_pu E S rfl rfl rfl (slices_Collect hv_4 (by (first | omega | (simp; omega) | (simp; done) | (simp_all; omega) | grind))) (Hp.le.refl _) ?_)
  clear E a S; rintro a v_6 w M_5 hM_5 hv_6 S E
  replace h0 := h0.le hM_5
  replace hv_2 := hv_2.le hM_5
  replace hv_4 := hv_4.le hM_5
  refine S_v E rfl (R_assign E rfl) rfl ?_
  clear E a; intro a E
  refine WL_nil ?_
  refine T_n ?_
  refine WP_ret ?_
  exact F_ret1 E Tryz.results21 rfl ⟨_, rfl, M_5, (hM_1.trans (hM_3.trans hM_5)), hv_6, S⟩

set_option maxRecDepth 100000 in
set_option maxHeartbeats 4000000 in
theorem laws_same {M : Hp} {v0 v1 : Value} {l0 l1 : List Int} (h0 : RdI M v0 l0) (h1 : RdI M v1 l1) :
    Pu Tryz.prog (.func (.func 20) #[] #[]) M [v0, v1] (fun r M' => r = .bool (decide (l0.length = l1.length ∧ ∀ x ∈ l0, l0.count x = l1.count x))) := by
  refine Pu_enter Tryz.func20 rfl Tryz.ntmps20 rfl Tryz.call20 ?_
  intro a w M1 H hM1 S E
  replace h0 := h0.le hM1
  replace h1 := h1.le hM1
  have b0 := h0.bound
  have b1 := h1.bound
  refine WP_seq ?_
  refine WP_region ?_
  refine S_v E rfl (R_assign E rfl) rfl ?_
  clear E a; intro a E
  refine WL_nil ?_
  refine T_n ?_
  refine WP_seq ?_
  refine WP_seq ?_
  refine WP_region ?_
  refine S_v E rfl (R_move E rfl) rfl ?_
  clear E a; intro a E
  refine S_v E rfl (R_lenV E rfl T22 h0.len) rfl ?_
  clear E a; intro a E
  refine S_v E rfl (R_move E rfl) rfl ?_
  clear E a; intro a E
  refine S_v E rfl (R_lenV E rfl T22 h1.len) rfl ?_
  clear E a; intro a E
  refine S_v E rfl (R_neq E rfl rfl) rfl ?_
  clear E a; intro a E
  refine WL_nil ?_
  refine T_n ?_
  refine WP_cond E rfl (fun hc_1 => ?_) (fun hc_1 => ?_)
  · replace hc_1 := of_decide_eq_true hc_1
    refine WP_seq ?_
    refine WP_region ?_
    refine S_v E rfl (R_assign E rfl) rfl ?_
    clear E a; intro a E
    refine WL_nil ?_
    refine T_n ?_
    refine WP_ret ?_
    refine T_r ?_
    exact F_ret1 E Tryz.results20 rfl ⟨_, rfl, M1, (Hp.le.refl _), (bF (by ((try clear S); (try clear E); first | assumption | omega | rfl | (simp; done) | (simp_all; done) | (simp [List.take_add_one, *]; done) | grind [List.take_add_one]))), S⟩
  · replace hc_1 := of_decide_eq_false hc_1
    refine WP_skip ?_
    refine T_n ?_
    refine WP_seq ?_
    refine WP_seq ?_
    refine WP_region ?_
    refine S_v E rfl (R_move E rfl) rfl ?_
    clear E a; intro a E
    refine S_v E rfl (R_lenV E rfl T22 h0.len) rfl ?_
    clear E a; intro a E
    refine S_v E rfl (R_move E rfl) rfl ?_
    clear E a; intro a E
    refine WL_nil ?_
    refine T_n ?_
    refine WP_block ?_
    refine WP_loop (γ := Nat) (fun (k : Nat) a w => ∃ (M_2 : Hp), Hp.le M1 M_2 ∧ St w M_2 (H) ∧ Env a 26 [] [(0, v0), (1, v1), (12, v0), (13, .int .i64 (((l0).length : Nat) : Int)), (14, .int .i64 ((k : Nat) : Int))] ∧ (k ≤ (l0).length) ∧ (l0.length = l1.length) ∧ (∀ x ∈ l0.take k, l0.count x = l1.count x)) (fun k => ((l0).length) - k) 0 ⟨M1, Hp.le.refl _, S, E.keep ⟨rfl, rfl, rfl, rfl, rfl, trivial⟩, by ((try clear S); (try clear E); first | assumption | omega | rfl | (simp; done) | (simp_all; done) | (simp [List.take_add_one, *]; done) | grind [List.take_add_one]), by ((try clear S); (try clear E); first | assumption | omega | rfl | (simp; done) | (simp_all; done) | (simp [List.take_add_one, *]; done) | grind [List.take_add_one]), by ((try clear S); (try clear E); first | assumption | omega | rfl | (simp; done) | (simp_all; done) | (simp [List.take_add_one, *]; done) | grind [List.take_add_one])⟩ ?_
    try clear E
    try clear S
    try clear a
    try clear w
    rintro k a w ⟨M_2, hM_2, S, E, hL0_0, hL0_1, hL0_2⟩
    replace h0 := h0.le hM_2
    replace h1 := h1.le hM_2
    refine WP_seq ?_
    refine WP_region ?_
    refine S_v E rfl (R_lss E rfl rfl) rfl ?_
    clear E a; intro a E
    refine WL_nil ?_
    refine T_n ?_
    refine WP_seq ?_
    refine WP_cond E rfl (fun hc_3 => ?_) (fun hc_3 => ?_)
    · replace hc_3 := of_decide_eq_true hc_3
      refine WP_skip ?_
      refine T_n ?_
      refine WP_seq ?_
      refine WP_block ?_
      refine WP_seq ?_
      refine WP_region ?_
      obtain ⟨x_4, hx_4⟩ : ∃ x, (l0)[k]? = some x := ⟨_, List.getElem?_eq_getElem (by first | omega | (simp; done) | (simp; omega) | (simp_all; omega))⟩
      obtain ⟨p_5, hp_5, qp_5⟩ := h0.at hx_4
      refine S_v E rfl (R_idx E rfl rfl T22 hp_5 rfl) rfl ?_
      clear E a; intro a E
      refine S_v E rfl (R_loadM E rfl Tryz.isAgg3 S.imm qp_5) rfl ?_
      clear E a; intro a E
      refine S_v E rfl (R_assign E rfl) rfl ?_
      clear E a; intro a E
      refine WL_nil ?_
      refine T_n ?_
      refine WP_seq ?_
      refine WP_region ?_
      refine S_v E rfl (R_move E rfl) rfl ?_
      clear E a; intro a E
      refine S_v E rfl (R_move E rfl) rfl ?_
      clear E a; intro a E
      refine S_x (X_pu E S rfl rfl rfl (laws_count h0) (Hp.le.refl _) ?_)
      clear E a S; rintro a _ w M_6 hM_6 rfl S E
      replace h0 := h0.le hM_6
      replace h1 := h1.le hM_6
      refine S_v E rfl (R_move E rfl) rfl ?_
      clear E a; intro a E
      refine S_v E rfl (R_move E rfl) rfl ?_
      clear E a; intro a E
      refine S_x (X_pu E S rfl rfl rfl (laws_count h1) (Hp.le.refl _) ?_)
      clear E a S; rintro a _ w M_7 hM_7 rfl S E
      replace h0 := h0.le hM_7
      replace h1 := h1.le hM_7
      refine S_v E rfl (R_neq E rfl rfl) rfl ?_
      clear E a; intro a E
      refine WL_nil ?_
      refine T_n ?_
      refine WP_cond E rfl (fun hc_8 => ?_) (fun hc_8 => ?_)
      · replace hc_8 := of_decide_eq_true hc_8
        refine WP_seq ?_
        refine WP_region ?_
        refine S_v E rfl (R_assign E rfl) rfl ?_
        clear E a; intro a E
        refine WL_nil ?_
        refine T_n ?_
        refine WP_ret ?_
        refine B_r ?_
        refine T_r ?_
        refine T_r ?_
        refine B_r ?_
        refine T_r ?_
        exact F_ret1 E Tryz.results20 rfl ⟨_, rfl, M_7, (hM_2.trans (hM_6.trans hM_7)), (bF (by ((try clear S); (try clear E); first | assumption | omega | rfl | (simp; done) | (simp_all; done) | (simp [List.take_add_one, *]; done) | grind [List.take_add_one]))), S⟩
      · replace hc_8 := of_decide_eq_false hc_8
        refine WP_skip ?_
        refine B_n ?_
        refine T_n ?_
        refine WP_region ?_
        refine S_v E rfl (R_addx (m := ((k + 1 : Nat) : Int)) E rfl rfl (by omega) (by omega)) rfl ?_
        clear E a; intro a E
        refine S_v E rfl (R_move E rfl) rfl ?_
        clear E a; intro a E
        refine WL_nil ?_
        refine T_n ?_
        exact ⟨k + 1, ⟨M_7, (hM_2.trans (hM_6.trans hM_7)), S, E.keep ⟨rfl, rfl, rfl, rfl, rfl, trivial⟩, by ((try clear S); (try clear E); first | assumption | omega | rfl | (simp; done) | (simp_all; done) | (simp [List.take_add_one, *]; done) | grind [List.take_add_one]), by ((try clear S); (try clear E); first | assumption | omega | rfl | (simp; done) | (simp_all; done) | (simp [List.take_add_one, *]; done) | grind [List.take_add_one]), by ((try clear S); (try clear E); first | assumption | omega | rfl | (simp; done) | (simp_all; done) | (simp [List.take_add_one, *]; done) | grind [List.take_add_one])⟩, by omega⟩
    · replace hc_3 := of_decide_eq_false hc_3
      refine WP_exit ?_
      refine T_x ?_
      refine T_x ?_
      refine B_x ?_
      refine T_n ?_
      refine WP_seq ?_
      refine WP_region ?_
      refine S_v E rfl (R_assign E rfl) rfl ?_
      clear E a; intro a E
      refine WL_nil ?_
      refine T_n ?_
      refine WP_ret ?_
      exact F_ret1 E Tryz.results20 rfl ⟨_, rfl, M_2, hM_2, (bT (by ((try clear S); (try clear E); first | assumption | omega | rfl | (simp; done) | (simp_all; done) | (simp [List.take_add_one, *]; done) | grind [List.take_add_one]))), S⟩

set_option maxRecDepth 100000 in
set_option maxHeartbeats 4000000 in
theorem it_FindDuplicatesBy1 {M : Hp} {v0 : Value} {l0 : List Int} (h0 : SeqV Tryz.prog v0 M (RInt) l0) {v1 : Value} {f1 : Int → Int} (h1 : PF1I Tryz.prog v1 M f1) {bx1 : Nat} (hbx1 : M bx1 = some (.cells #[v0] 59)) {bx2 : Nat} (hbx2 : M bx2 = some (.cells #[v1] 84)) :
    SeqV Tryz.prog (.func (.func 99) #[] #[.pointer (some ⟨bx1, 0, none⟩), .pointer (some ⟨bx2, 0, none⟩)]) M (RInt) ((tdS f1 l0).2) := by
  refine SeqV_enter Tryz.func99 rfl Tryz.ntmps99 rfl Tryz.call99 ?_
  intro y J X a w M1 c H hJM hM1 hY hJ S E
  replace h0 := h0.le hM1
  replace h1 := h1.le hM1
  replace hbx1 := hM1.2 _ _ hbx1
  replace hbx2 := hM1.2 _ _ hbx2
  refine WP_seq ?_
  refine WP_region ?_
  refine S_x (X_box (cs := #[y]) E S rfl rfl (cells_one hY.1) ?_)
  clear E a S; rintro a w b_1 E S
  obtain ⟨M_2, hM_2, hb_1, S⟩ := S.freezeB
  replace h0 := h0.le hM_2
  replace h1 := h1.le hM_2
  replace hbx1 := hM_2.2 _ _ hbx1
  replace hbx2 := hM_2.2 _ _ hbx2
  replace hJ := hJM _ _ _ _ hM_2 hJ
  refine WL_nil ?_
  refine T_n ?_
  refine WP_seq ?_
  refine WP_region ?_
  refine S_x (X_makeMap E S rfl ?_)
  clear E a S; rintro a w b_3 E S
  replace S : St w M_2 (OwnE (fun t : Int × Bool => Value.agg #[.int .i64 t.1, .bool t.2]) b_3 ([] : List (Int × (Int × Bool))) :: _) := S
  refine S_x (X_alloc (cs := #[.map none]) E S rfl Tryz.zeroValue94 rfl ?_)
  clear E a S; rintro a w b_4 E S
  refine S_x0 (X_store E S rfl rfl (Tryz.sizeOf94 _) rfl ?_)
  clear E a S; rintro a w E S
  refine WL_nil ?_
  refine T_n ?_
  refine WP_seq ?_
  refine WP_region ?_
  refine S_v E rfl (R_loadM E rfl Tryz.isAgg59 S.imm (cellM_box hbx1)) rfl ?_
  clear E a; intro a E
  refine WL_nil ?_
  refine T_n ?_
  refine WP_block ?_
  replace S := S.front3
  replace S := S.front2
  replace S := S.front2
  replace E := E.keep (l' := [(2, .pointer (some ⟨bx2, 0, none⟩)), (3, .pointer (some ⟨b_1, 0, none⟩)), (4, .pointer (some ⟨b_4, 0, none⟩)), (10, v0)]) ⟨rfl, rfl, rfl, rfl, trivial⟩
  replace S := S.front2
  replace S := S.front2
  replace S := S.reM (L' := (encE (fun t : Int × Bool => Value.agg #[.int .i64 t.1, .bool t.2]) ((tdS f1 (([] : List Int))).1))) (congrArg (encE (fun t : Int × Bool => Value.agg #[.int .i64 t.1, .bool t.2])) (show ([] : List (Int × (Int × Bool))) = (tdS f1 (([] : List Int))).1 by first | (simp [tdS]; done) | exact tda_two (by assumption) (by assumption) | exact tda_new (by assumption) | exact tda_more (by assumption) (by assumption)))
  replace S := S.front2
  have S0 := S; clear S; have S := St.pack [blk b_4 (.cells #[.map (some b_3)] 94), OwnE (fun t : Int × Bool => Value.agg #[.int .i64 t.1, .bool t.2]) b_3 ((tdS f1 (([] : List Int))).1), c] S0; clear S0
  refine WP_range (RV := RInt) (l := l0) (fun pre M c => ∃ (c0 : HProp), c = bigs [blk b_4 (.cells #[.map (some b_3)] 94), OwnE (fun t : Int × Bool => Value.agg #[.int .i64 t.1, .bool t.2]) b_3 ((tdS f1 (pre)).1), c0] ∧ (J ((tdS f1 (pre)).2) M c0)) (fun cd pre M c => cd = .ret ∧ ∃ z, z <+: ((tdS f1 l0).2) ∧ X z M c) E S rfl h0 (Hp.le.refl _) (fun _ _ _ h => by rw [h]; rfl) (by decide) (by rintro _ M M' c hM ⟨c0, rfl, f0⟩; exact ⟨_, rfl, hJM _ _ _ _ hM f0⟩) ⟨_, rfl, J_eq hJ (by (simp [tdS]))⟩ ?_ ?_ ?_
  clear E S
  · rintro lb_6 rec_7 pre x _ a w M_5 _ G hM_5 hp_8 rfl ⟨c0, rfl, f0⟩ E S
    replace E : Env a 39 [] [(11, .int .i64 x), (2, .pointer (some ⟨bx2, 0, none⟩)), (3, .pointer (some ⟨b_1, 0, none⟩)), (4, .pointer (some ⟨b_4, 0, none⟩)), (10, v0)] := E
    replace S := S.swap.unpack3
    have hq0 := prefix_lt hp_8
    replace h0 := h0.le hM_5
    replace h1 := h1.le hM_5
    replace hbx1 := hM_5.2 _ _ hbx1
    replace hbx2 := hM_5.2 _ _ hbx2
    replace hb_1 := hM_5.2 _ _ hb_1
    refine WP_region ?_
    refine S_v E rfl (R_assign E rfl) rfl ?_
    clear E a; intro a E
    refine WL_nil ?_
    refine T_n ?_
    replace S := S.front3
    refine rb S ?_
    clear S; intro w S
    refine WP_block ?_
    refine WP_seq ?_
    refine WP_region ?_
    refine S_v E rfl (R_loadM E rfl Tryz.isAgg84 S.imm (cellM_box hbx2)) rfl ?_
    clear E a; intro a E
    refine S_v E rfl (R_move E rfl) rfl ?_
    clear E a; intro a E
    refine S_x (X_pu E S rfl rfl rfl (h1.2 x) (Hp.le.refl _) ?_)
    clear E a S; rintro a _ w M_10 hM_10 rfl S E
    replace h0 := h0.le hM_10
    replace h1 := h1.le hM_10
    replace hbx1 := hM_10.2 _ _ hbx1
    replace hbx2 := hM_10.2 _ _ hbx2
    replace hb_1 := hM_10.2 _ _ hb_1
    replace f0 := hJM _ _ _ _ hM_10 f0
    refine S_v E rfl (R_assign E rfl) rfl ?_
    clear E a; intro a E
    refine WL_nil ?_
    refine T_n ?_
    refine WP_seq ?_
    refine WP_region ?_
    refine S_v E rfl (R_load E rfl (Tryz.isAgg94 _) (cell_blk (S.mem (.tail _ (.head _))))) rfl ?_
    clear E a; intro a E
    refine S_v E rfl (R_move E rfl) rfl ?_
    clear E a; intro a E
    replace S := S.front2
    refine S_x (X_lookupE (vf := (fun t : Int × Bool => Value.agg #[.int .i64 t.1, .bool t.2])) (zb := ((0, false) : Int × Bool)) E S rfl MT94 rfl rfl ?_)
    clear E a S; rintro a w E S
    replace S : St w M_10 (OwnE (fun t : Int × Bool => Value.agg #[.int .i64 t.1, .bool t.2]) b_3 ((tdS f1 (pre)).1) :: _) := S
    refine S_v E rfl (R_move E rfl) rfl ?_
    clear E a; intro a E
    refine S_v E rfl (R_extract E rfl rfl) rfl ?_
    clear E a; intro a E
    refine S_v E rfl (R_extract E rfl rfl) rfl ?_
    clear E a; intro a E
    refine S_x (X_alloc (cs := #[.int .i64 0, .bool false]) E S rfl Tryz.zeroValue96 rfl ?_)
    clear E a S; rintro a w b_11 E S
    refine S_x0 (X_storeG (us := [.int .i64 ((getK ((0, false) : Int × Bool) ((tdS f1 (pre)).1) (f1 x)).1), .bool ((getK ((0, false) : Int × Bool) ((tdS f1 (pre)).1) (f1 x)).2)]) E S rfl rfl (Tryz.sizeOf96 _) rfl (by intro u hu; simp only [List.mem_cons, List.not_mem_nil, or_false] at hu; rcases hu with rfl | rfl <;> first | exact rfl | exact rfl) ?_)
    clear E a S; rintro a w E S
    replace S : St w M_10 (blk b_11 (.cells #[.int .i64 ((getK ((0, false) : Int × Bool) ((tdS f1 (pre)).1) (f1 x)).1), .bool ((getK ((0, false) : Int × Bool) ((tdS f1 (pre)).1) (f1 x)).2)] 96) :: _) := S
    have S0 := S; clear S
    obtain ⟨M_12, hM_12, hb_13, S⟩ := S0.freezeB
    clear S0
    replace h0 := h0.le hM_12
    replace h1 := h1.le hM_12
    replace hbx1 := hM_12.2 _ _ hbx1
    replace hbx2 := hM_12.2 _ _ hbx2
    replace hb_1 := hM_12.2 _ _ hb_1
    replace f0 := hJM _ _ _ _ hM_12 f0
    refine S_v E rfl (R_assign E rfl) rfl ?_
    clear E a; intro a E
    refine WL_nil ?_
    refine T_n ?_
    refine WP_seq ?_
    refine WP_region ?_
    refine S_v E rfl (R_move E rfl) rfl ?_
    clear E a; intro a E
    refine S_v E rfl (R_not E rfl) rfl ?_
    clear E a; intro a E
    refine WL_nil ?_
    refine T_n ?_
    refine WP_cond E rfl (fun hc_14 => ?_) (fun hc_14 => ?_)
    · refine WP_region ?_
      refine S_v E rfl (R_load E rfl (Tryz.isAgg94 _) (cell_blk (S.mem (.tail _ (.tail _ (.head _)))))) rfl ?_
      clear E a; intro a E
      refine S_v E rfl (R_move E rfl) rfl ?_
      clear E a; intro a E
      refine S_v E rfl (R_move E rfl) rfl ?_
      clear E a; intro a E
      refine S_v E rfl (R_build (u := .agg #[.int .i64 x, .bool false]) (vs := [.int .i64 x]) E rfl (fun w => FB96_0_i x w)) rfl ?_
      clear E a; intro a E
      refine S_x0 (X_updateE (vf := (fun t : Int × Bool => Value.agg #[.int .i64 t.1, .bool t.2])) (u := (x, false)) E S MT94 rfl rfl rfl ?_)
      clear E a S; rintro a w E S
      refine WL_nil ?_
      refine B_n ?_
      replace S := S.front3
      replace S := S.front1
      replace S := S.front3
      replace S := S.front2
      replace S := S.front2
      replace S := S.reM (L' := (encE (fun t : Int × Bool => Value.agg #[.int .i64 t.1, .bool t.2]) ((tdS f1 ((pre ++ [x]))).1))) (congrArg (encE (fun t : Int × Bool => Value.agg #[.int .i64 t.1, .bool t.2])) (show putK ((tdS f1 (pre)).1) (f1 x) (x, false) = (tdS f1 ((pre ++ [x]))).1 by first | (simp [tdS]; done) | exact tda_two (by assumption) (by assumption) | exact tda_new (by assumption) | exact tda_more (by assumption) (by assumption)))
      replace S := S.front2
      have S0 := S; clear S; have S := (St.pack [blk b_4 (.cells #[.map (some b_3)] 94), OwnE (fun t : Int × Bool => Value.agg #[.int .i64 t.1, .bool t.2]) b_3 ((tdS f1 ((pre ++ [x]))).1), c0] S0).swap; clear S0
      exact ⟨M_12, _, (hM_10.trans hM_12), ⟨_, rfl, J_eq f0 (by (first | exact tdb_two (by assumption) (by assumption) | exact tdb_new (by assumption) | exact tdb_more (by assumption) (by assumption)))⟩, S⟩
    · refine WP_seq ?_
      refine WP_region ?_
      refine S_v E rfl (R_fieldAddr E rfl (FA96_1 _)) rfl ?_
      clear E a; intro a E
      refine S_v E rfl (R_loadM E rfl Tryz.isAgg4 S.imm (cellM_boxo hb_13 rfl)) rfl ?_
      clear E a; intro a E
      refine S_v E rfl (R_not E rfl) rfl ?_
      clear E a; intro a E
      refine WL_nil ?_
      refine T_n ?_
      refine WP_cond E rfl (fun hc_15 => ?_) (fun hc_15 => ?_)
      · refine WP_seq ?_
        refine WP_seq ?_
        refine WP_region ?_
        refine S_v E rfl (R_loadM E rfl Tryz.isAgg85 S.imm (cellM_box hb_1)) rfl ?_
        clear E a; intro a E
        refine S_v E rfl (R_fieldAddr E rfl (FA96_0 _)) rfl ?_
        clear E a; intro a E
        refine S_v E rfl (R_loadM E rfl Tryz.isAgg3 S.imm (cellM_boxo hb_13 rfl)) rfl ?_
        clear E a; intro a E
        replace S := S.front3
        refine S_x (X_yield (x := (getK ((0, false) : Int × Bool) ((tdS f1 (pre)).1) (f1 x)).1) E S rfl rfl rfl hY (hM_2.trans (hM_5.trans (hM_10.trans hM_12))) (by exact tdp (by assumption) (by assumption) (by assumption)) rfl f0 ?_)
        clear E a S; rintro a w M_16 c_17 go_18 hM_16 f0 S E
        replace h0 := h0.le hM_16
        replace h1 := h1.le hM_16
        replace hbx1 := hM_16.2 _ _ hbx1
        replace hbx2 := hM_16.2 _ _ hbx2
        replace hb_1 := hM_16.2 _ _ hb_1
        replace hb_13 := hM_16.2 _ _ hb_13
        cases go_18
        · replace f0 : X ((tdS f1 (pre)).2 ++ [(getK ((0, false) : Int × Bool) ((tdS f1 (pre)).1) (f1 x)).1]) M_16 c_17 := f0
          refine S_v E rfl (R_not E rfl) rfl ?_
          clear E a; intro a E
          refine WL_nil ?_
          refine T_n ?_
          refine WP_condT E rfl rfl ?_
          refine WP_ret ?_
          refine T_r ?_
          refine B_r ?_
          replace S := S.front1
          replace S := S.drop
          replace S := S.front2
          replace S := S.drop
          replace S := S.front1
          exact ⟨M_16, _, (hM_10.trans (hM_12.trans hM_16)), ⟨rfl, _, (by first | assumption | (exact tdp (by assumption) (by assumption) (by assumption)) | ((first | (simp; done) | exact List.prefix_refl _ | (rw [pre_take (by assumption)]; exact List.take_prefix _ _) | exact pre_take_lt (by assumption)))), f0⟩, S⟩
        · replace f0 : J ((tdS f1 (pre)).2 ++ [(getK ((0, false) : Int × Bool) ((tdS f1 (pre)).1) (f1 x)).1]) M_16 c_17 := f0
          refine S_v E rfl (R_not E rfl) rfl ?_
          clear E a; intro a E
          refine WL_nil ?_
          refine T_n ?_
          refine WP_condF E rfl rfl ?_
          refine WP_skip ?_
          refine T_n ?_
          refine WP_region ?_
          refine S_v E rfl (R_load E rfl (Tryz.isAgg94 _) (cell_blk (S.mem (.tail _ (.tail _ (.tail _ (.head _))))))) rfl ?_
          clear E a; intro a E
          refine S_v E rfl (R_move E rfl) rfl ?_
          clear E a; intro a E
          refine S_v E rfl (R_move E rfl) rfl ?_
          clear E a; intro a E
          refine S_v E rfl (R_build (u := .agg #[.int .i64 x, .bool true]) (vs := [.int .i64 x, .bool true]) E rfl (fun w => FB96_0_1_ib x true w)) rfl ?_
          clear E a; intro a E
          replace S := S.front1
          refine S_x0 (X_updateE (vf := (fun t : Int × Bool => Value.agg #[.int .i64 t.1, .bool t.2])) (u := (x, true)) E S MT94 rfl rfl rfl ?_)
          clear E a S; rintro a w E S
          refine WL_nil ?_
          refine B_n ?_
          replace S := S.front1
          replace S := S.front1
          replace S := S.front3
          replace S := S.front2
          replace S := S.front2
          replace S := S.reM (L' := (encE (fun t : Int × Bool => Value.agg #[.int .i64 t.1, .bool t.2]) ((tdS f1 ((pre ++ [x]))).1))) (congrArg (encE (fun t : Int × Bool => Value.agg #[.int .i64 t.1, .bool t.2])) (show putK ((tdS f1 (pre)).1) (f1 x) (x, true) = (tdS f1 ((pre ++ [x]))).1 by first | (simp [tdS]; done) | exact tda_two (by assumption) (by assumption) | exact tda_new (by assumption) | exact tda_more (by assumption) (by assumption)))
          replace S := S.front2
          have S0 := S; clear S; have S := (St.pack [blk b_4 (.cells #[.map (some b_3)] 94), OwnE (fun t : Int × Bool => Value.agg #[.int .i64 t.1, .bool t.2]) b_3 ((tdS f1 ((pre ++ [x]))).1), c_17] S0).swap; clear S0
          exact ⟨M_16, _, (hM_10.trans (hM_12.trans hM_16)), ⟨_, rfl, J_eq f0 (by (first | exact tdb_two (by assumption) (by assumption) | exact tdb_new (by assumption) | exact tdb_more (by assumption) (by assumption)))⟩, S⟩
      · refine WP_skip ?_
        refine B_n ?_
        replace S := S.front3
        replace S := S.front1
        replace S := S.front3
        replace S := S.front2
        replace S := S.front2
        replace S := S.reM (L' := (encE (fun t : Int × Bool => Value.agg #[.int .i64 t.1, .bool t.2]) ((tdS f1 ((pre ++ [x]))).1))) (congrArg (encE (fun t : Int × Bool => Value.agg #[.int .i64 t.1, .bool t.2])) (show (tdS f1 (pre)).1 = (tdS f1 ((pre ++ [x]))).1 by first | (simp [tdS]; done) | exact tda_two (by assumption) (by assumption) | exact tda_new (by assumption) | exact tda_more (by assumption) (by assumption)))
        replace S := S.front2
        have S0 := S; clear S; have S := (St.pack [blk b_4 (.cells #[.map (some b_3)] 94), OwnE (fun t : Int × Bool => Value.agg #[.int .i64 t.1, .bool t.2]) b_3 ((tdS f1 ((pre ++ [x]))).1), c0] S0).swap; clear S0
        exact ⟨M_12, _, (hM_10.trans hM_12), ⟨_, rfl, J_eq f0 (by (first | exact tdb_two (by assumption) (by assumption) | exact tdb_new (by assumption) | exact tdb_more (by assumption) (by assumption)))⟩, S⟩
  · rintro a w M_19 _ D_20 hM_19 ⟨c0, rfl, f0⟩ S E
    replace S := S.unpack3
    replace h0 := h0.le hM_19
    replace h1 := h1.le hM_19
    replace hbx1 := hM_19.2 _ _ hbx1
    replace hbx2 := hM_19.2 _ _ hbx2
    replace hb_1 := hM_19.2 _ _ hb_1
    refine B_n ?_
    refine F_nrm ?_
    replace S := S.drop
    replace S := S.drop
    replace S := S.front1
    have hpre : (tdS f1 (l0)).2 = (tdS f1 l0).2 := by ((try clear S); (try clear E); first | rfl | (simp; done) | (simp_all; done) | grind [List.take_add_one])
    rw [hpre] at f0
    exact F_retM0 E S Tryz.results99 (fun w S => ⟨_, rfl, M_19, _, (hM_2.trans hM_19), .inl f0, S⟩)
  · rintro a w M_21 c_ D_22 p_23 _ hM_21 hp_24 ⟨rfl, z_, hz_, f0⟩ S E
    replace h0 := h0.le hM_21
    replace h1 := h1.le hM_21
    replace hbx1 := hM_21.2 _ _ hbx1
    replace hbx2 := hM_21.2 _ _ hbx2
    replace hb_1 := hM_21.2 _ _ hb_1
    refine WP_ret ?_
    refine B_r ?_
    replace S := S.front1
    exact F_retM0 E S Tryz.results99 (fun w S => ⟨_, rfl, M_21, _, (hM_2.trans hM_21), .inr ⟨z_, (by first | assumption | ((first | (simp; done) | exact List.prefix_refl _ | (rw [pre_take (by assumption)]; exact List.take_prefix _ _) | exact pre_take_lt (by assumption)))), f0⟩, S⟩)

set_option maxRecDepth 100000 in
set_option maxHeartbeats 4000000 in
theorem it_FindDuplicatesBy {M : Hp} {v0 : Value} {l0 : List Int} (h0 : SeqV Tryz.prog v0 M (RInt) l0) {v1 : Value} {f1 : Int → Int} (h1 : PF1I Tryz.prog v1 M f1) :
    Pu Tryz.prog (.func (.func 86) #[] #[]) M [v0, v1] (fun r M' => SeqV Tryz.prog r M' RInt ((tdS f1 l0).2)) := by
  refine Pu_enter Tryz.func86 rfl Tryz.ntmps86 rfl Tryz.call86 ?_
  intro a w M1 H hM1 S E
  replace h0 := h0.le hM1
  replace h1 := h1.le hM1
  refine WP_seq ?_
  refine WP_region ?_
  refine S_x (X_box (cs := #[v0]) E S rfl rfl (cells_one h0.1) ?_)
  clear E a S; rintro a w b_1 E S
  obtain ⟨M_2, hM_2, hb_1, S⟩ := S.freezeB
  replace h0 := h0.le hM_2
  replace h1 := h1.le hM_2
  refine S_x (X_box (cs := #[v1]) E S rfl rfl (cells_one h1.1) ?_)
  clear E a S; rintro a w b_3 E S
  obtain ⟨M_4, hM_4, hb_3, S⟩ := S.freezeB
  replace h0 := h0.le hM_4
  replace h1 := h1.le hM_4
  replace hb_1 := hM_4.2 _ _ hb_1
  refine S_v E rfl (R_assign E rfl) rfl ?_
  clear E a; intro a E
  refine WL_nil ?_
  refine T_n ?_
  refine WP_seq ?_
  refine WP_region ?_
  refine S_v E rfl (R_makeFunc E rfl rfl) rfl ?_
  clear E a; intro a E
  refine S_v E rfl (R_assign E rfl) rfl ?_
  clear E a; intro a E
  refine WL_nil ?_
  refine T_n ?_
  refine WP_ret ?_
  exact F_ret1 E Tryz.results86 rfl ⟨_, rfl, M_4, (hM_2.trans hM_4), (SeqV_eq (it_FindDuplicatesBy1 (f1 := f1) h0 h1 hb_1 hb_3) (by ((try clear S); (try clear E); first | rfl | (simp; done) | (simp_all; done) | grind [List.take_add_one]))), S⟩

set_option maxRecDepth 100000 in
set_option maxHeartbeats 4000000 in
theorem it_FindDuplicates1_ {M : Hp} {x0 : Int} :
    Pu Tryz.prog (.func (.func 87) #[] #[]) M [.int .i64 x0] (fun r M' => r = .int .i64 x0) := by
  refine Pu_enter Tryz.func87 rfl Tryz.ntmps87 rfl Tryz.call87 ?_
  intro a w M1 H hM1 S E
  refine WP_seq ?_
  refine WP_region ?_
  refine S_v E rfl (R_assign E rfl) rfl ?_
  clear E a; intro a E
  refine WL_nil ?_
  refine T_n ?_
  refine WP_seq ?_
  refine WP_region ?_
  refine S_v E rfl (R_move E rfl) rfl ?_
  clear E a; intro a E
  refine S_v E rfl (R_assign E rfl) rfl ?_
  clear E a; intro a E
  refine WL_nil ?_
  refine T_n ?_
  refine WP_ret ?_
  exact F_ret1 E Tryz.results87 rfl ⟨_, rfl, M1, (Hp.le.refl _), rfl, S⟩

set_option maxRecDepth 100000 in
set_option maxHeartbeats 4000000 in
theorem it_FindDuplicates_ {M : Hp} {v0 : Value} {l0 : List Int} (h0 : SeqV Tryz.prog v0 M (RInt) l0) :
    Pu Tryz.prog (.func (.func 57) #[] #[]) M [v0] (fun r M' => SeqV Tryz.prog r M' RInt ((tdS (fun x => x) l0).2)) := by
  refine Pu_enter Tryz.func57 rfl Tryz.ntmps57 rfl Tryz.call57 ?_
  intro a w M1 H hM1 S E
  replace h0 := h0.le hM1
  refine WP_seq ?_
  refine WP_region ?_
  refine S_v E rfl (R_assign E rfl) rfl ?_
  clear E a; intro a E
  refine WL_nil ?_
  refine T_n ?_
  refine WP_seq ?_
  refine WP_region ?_
  refine S_v E rfl (R_move E rfl) rfl ?_
  clear E a; intro a E
  refine S_x (X_pu E S rfl rfl rfl (it_FindDuplicatesBy h0 ⟨rfl, fun zx0 => it_FindDuplicates1_ (x0 := zx0) ⟩) (Hp.le.refl _) ?_)
  clear E a S; rintro a v_2 w M_1 hM_1 hv_2 S E
  replace h0 := h0.le hM_1
  refine S_v E rfl (R_assign E rfl) rfl ?_
  clear E a; intro a E
  refine WL_nil ?_
  refine T_n ?_
  refine WP_ret ?_
  exact F_ret1 E Tryz.results57 rfl ⟨_, rfl, M_1, hM_1, hv_2, S⟩

set_option maxRecDepth 100000 in
set_option maxHeartbeats 4000000 in
theorem impl_FindDuplicatesSeq {M : Hp} {v0 : Value} {l0 : List Int} (h0 : RdI M v0 l0) (hb : l0.length ≤ 1000000000000) :
    Pu Tryz.prog (.func (.func 22) #[] #[]) M [v0] (fun r M' => RdI M' r ((tdS (fun x => x) l0).2)) := by
  refine Pu_enter Tryz.func22 rfl Tryz.ntmps22 rfl Tryz.call22 ?_
  intro a w M1 H hM1 S E
  replace h0 := h0.le hM1
  have b0 := h0.bound
  have htl := td_len (fun x => x) l0
  refine WP_seq ?_
  refine WP_region ?_
  refine S_v E rfl (R_assign E rfl) rfl ?_
  clear E a; intro a E
  refine WL_nil ?_
  refine T_n ?_
  refine WP_seq ?_
  refine WP_region ?_
  refine S_v E rfl (R_move E rfl) rfl ?_
  clear E a; intro a E
  refine S_x (X_pu E S rfl rfl rfl (slices_Values h0) (Hp.le.refl _) ?_)
  clear E a S; rintro a v_2 w M_1 hM_1 hv_2 S E
  replace h0 := h0.le hM_1
  refine S_x (X_pu E S rfl rfl rfl (it_FindDuplicates_ hv_2) (Hp.le.refl _) ?_)
  clear E a S; rintro a v_4 w M_3 hM_3 hv_4 S E
  replace h0 := h0.le hM_3
  replace hv_2 := hv_2.le hM_3
  refine S_x (X_pu E S rfl rfl rfl (slices_Collect hv_4 (by (first | omega | (simp; omega) | (simp; done) | (simp_all; omega) | grind))) (Hp.le.refl _) ?_)
  clear E a S; rintro a v_6 w M_5 hM_5 hv_6 S E
  replace h0 := h0.le hM_5
  replace hv_2 := hv_2.le hM_5
  replace hv_4 := hv_4.le hM_5
  refine S_v E rfl (R_assign E rfl) rfl ?_
  clear E a; intro a E
  refine WL_nil ?_
  refine T_n ?_
  refine WP_ret ?_
  exact F_ret1 E Tryz.results22 rfl ⟨_, rfl, M_5, (hM_1.trans (hM_3.trans hM_5)), hv_6, S⟩

set_option maxRecDepth 100000 in
set_option maxHeartbeats 4000000 in
theorem lo_CountValues {M : Hp} {v0 : Value} {l0 : List Int} (h0 : RdI M v0 l0) :
    Pu Tryz.prog (.func (.func 59) #[] #[]) M [v0] (fun r M' => RdM M' r (encE (Value.int .i64) (upM (fun x => x) [] l0))) := by
  refine Pu_enter Tryz.func59 rfl Tryz.ntmps59 rfl Tryz.call59 ?_
  intro a w M1 H hM1 S E
  replace h0 := h0.le hM1
  have b0 := h0.bound
  refine WP_seq ?_
  refine WP_region ?_
  refine S_v E rfl (R_assign E rfl) rfl ?_
  clear E a; intro a E
  refine WL_nil ?_
  refine T_n ?_
  refine WP_seq ?_
  refine WP_region ?_
  refine S_x (X_makeMap E S rfl ?_)
  clear E a S; rintro a w b_1 E S
  replace S : St w M1 (OwnE (Value.int .i64) b_1 ([] : List (Int × Int)) :: _) := S
  refine S_v E rfl (R_assign E rfl) rfl ?_
  clear E a; intro a E
  refine WL_nil ?_
  refine T_n ?_
  refine WP_seq ?_
  refine WP_seq ?_
  refine WP_region ?_
  refine S_v E rfl (R_move E rfl) rfl ?_
  clear E a; intro a E
  refine S_v E rfl (R_lenV E rfl T22 h0.len) rfl ?_
  clear E a; intro a E
  refine S_v E rfl (R_move E rfl) rfl ?_
  clear E a; intro a E
  refine WL_nil ?_
  refine T_n ?_
  refine WP_block ?_
  replace S := S.reM (L' := (encE (Value.int .i64) (upM (fun x => x) [] (l0.take 0)))) (congrArg (encE (Value.int .i64)) (show ([] : List (Int × Int)) = upM (fun x => x) [] (l0.take 0) by first | (simp [upM]; done) | (rw [upM_take (by assumption)])))
  refine WP_loop (γ := Nat) (fun (k : Nat) a w => ∃ (M_2 : Hp), Hp.le M1 M_2 ∧ St w M_2 (OwnE (Value.int .i64) b_1 (upM (fun x => x) [] (l0.take k)) :: H) ∧ Env a 20 [] [(0, v0), (3, .map (some b_1)), (7, .int .i64 (((l0).length : Nat) : Int)), (8, .int .i64 ((k : Nat) : Int))] ∧ (k ≤ (l0).length)) (fun k => ((l0).length) - k) 0 ⟨M1, Hp.le.refl _, S, E.keep ⟨rfl, rfl, rfl, rfl, trivial⟩, by ((try clear S); (try clear E); first | assumption | omega | rfl | (simp; done) | (simp_all; done) | (simp [List.take_add_one, *]; done) | grind [List.take_add_one])⟩ ?_
  try clear E
  try clear S
  try clear a
  try clear w
  rintro k a w ⟨M_2, hM_2, S, E, hL0_0⟩
  replace h0 := h0.le hM_2
  have hbd := upM_bnd (fun x => x) (l := l0.take k) (by simp; omega)
  refine WP_seq ?_
  refine WP_region ?_
  refine S_v E rfl (R_lss E rfl rfl) rfl ?_
  clear E a; intro a E
  refine WL_nil ?_
  refine T_n ?_
  refine WP_seq ?_
  refine WP_cond E rfl (fun hc_3 => ?_) (fun hc_3 => ?_)
  · replace hc_3 := of_decide_eq_true hc_3
    refine WP_skip ?_
    refine T_n ?_
    refine WP_seq ?_
    refine WP_block ?_
    refine WP_seq ?_
    refine WP_region ?_
    refine S_v E rfl (R_move E rfl) rfl ?_
    clear E a; intro a E
    refine S_v E rfl (R_assign E rfl) rfl ?_
    clear E a; intro a E
    refine WL_nil ?_
    refine T_n ?_
    refine WP_region ?_
    refine S_v E rfl (R_move E rfl) rfl ?_
    clear E a; intro a E
    refine S_v E rfl (R_move E rfl) rfl ?_
    clear E a; intro a E
    refine S_v E rfl (R_move E rfl) rfl ?_
    clear E a; intro a E
    obtain ⟨x_4, hx_4⟩ : ∃ x, (l0)[k]? = some x := ⟨_, List.getElem?_eq_getElem (by first | omega | (simp; done) | (simp; omega) | (simp_all; omega))⟩
    obtain ⟨p_5, hp_5, qp_5⟩ := h0.at hx_4
    refine S_v E rfl (R_idx E rfl rfl T22 hp_5 rfl) rfl ?_
    clear E a; intro a E
    refine S_v E rfl (R_loadM E rfl Tryz.isAgg3 S.imm qp_5) rfl ?_
    clear E a; intro a E
    refine S_x (X_lookupE1 (vf := (Value.int .i64)) (zb := (0 : Int)) E S rfl MT63 rfl rfl ?_)
    clear E a S; rintro a w E S
    replace S : St w M_2 (OwnE (Value.int .i64) b_1 (upM (fun x => x) [] (l0.take k)) :: _) := S
    refine S_v E rfl (R_addx (m := (getK (0 : Int) (upM (fun x => x) [] (l0.take k)) x_4) + 1) E rfl rfl (by first | rfl | exact add1_in (hbd _)) (by first | rfl | exact add1_in (hbd _))) rfl ?_
    clear E a; intro a E
    refine S_x0 (X_updateE (vf := (Value.int .i64)) (u := (getK (0 : Int) (upM (fun x => x) [] (l0.take k)) x_4) + 1) E S MT63 rfl rfl rfl ?_)
    clear E a S; rintro a w E S
    refine WL_nil ?_
    refine B_n ?_
    refine T_n ?_
    refine WP_region ?_
    refine S_v E rfl (R_addx (m := ((k + 1 : Nat) : Int)) E rfl rfl (by omega) (by omega)) rfl ?_
    clear E a; intro a E
    refine S_v E rfl (R_move E rfl) rfl ?_
    clear E a; intro a E
    refine WL_nil ?_
    refine T_n ?_
    replace S := S.reM (L' := (encE (Value.int .i64) (upM (fun x => x) [] (l0.take (k + 1))))) (congrArg (encE (Value.int .i64)) (show putK (upM (fun x => x) [] (l0.take k)) x_4 ((getK (0 : Int) (upM (fun x => x) [] (l0.take k)) x_4) + 1) = upM (fun x => x) [] (l0.take (k + 1)) by first | (simp [upM]; done) | (rw [upM_take (by assumption)])))
    exact ⟨k + 1, ⟨M_2, hM_2, S, E.keep ⟨rfl, rfl, rfl, rfl, trivial⟩, by ((try clear S); (try clear E); first | assumption | omega | rfl | (simp; done) | (simp_all; done) | (simp [List.take_add_one, *]; done) | grind [List.take_add_one])⟩, by omega⟩
  · replace hc_3 := of_decide_eq_false hc_3
    refine WP_exit ?_
    refine T_x ?_
    refine T_x ?_
    refine B_x ?_
    refine T_n ?_
    refine WP_seq ?_
    refine WP_region ?_
    refine S_v E rfl (R_move E rfl) rfl ?_
    clear E a; intro a E
    refine S_v E rfl (R_assign E rfl) rfl ?_
    clear E a; intro a E
    refine WL_nil ?_
    refine T_n ?_
    refine WP_ret ?_
    have S0 := S; clear S
    obtain ⟨M_6, hM_6, hm_7, S⟩ := S0.freezeM
    clear S0
    replace h0 := h0.le hM_6
    exact F_ret1 E Tryz.results59 rfl ⟨_, rfl, M_6, (hM_2.trans hM_6), (by rw [show (upM (fun x => x) [] l0) = (upM (fun x => x) [] (l0.take k)) from by (rw [List.take_of_length_le (by omega)])]; exact hm_7), S⟩

set_option maxRecDepth 100000 in
set_option maxHeartbeats 4000000 in
def Tryz.gsv6_ren : Go.Shelf.Ren := ⟨fun | 6 => 88 | 10 => 100 | 11 => 101 | 12 => 102 | 13 => 103 | 14 => 104 | 24 => 117 | 25 => 118 | 26 => 119 | 27 => 120 | 28 => 121 | 29 => 122 | 30 => 123 | 31 => 124 | 32 => 125 | 33 => 126 | 34 => 128 | 35 => 129 | 36 => 130 | 37 => 131 | 38 => 132 | 39 => 142 | n => n, fun | 20 => 20 | 26 => 77 | 35 => 101 | 0 => 0 | 37 => 103 | 3 => 3 | 41 => 107 | 44 => 110 | 49 => 115 | 51 => 117 | 4 => 4 | 54 => 120 | 53 => 119 | 58 => 124 | 5 => 5 | 9 => 9 | 60 => 127 | 64 => 131 | 66 => 140 | 67 => 141 | 17 => 17 | 32 => 98 | 33 => 99 | 82 => 161 | 12 => 12 | 75 => 154 | 76 => 155 | 77 => 156 | 78 => 157 | 79 => 158 | 80 => 159 | n => n, fun | n => n⟩
set_option maxRecDepth 100000 in
set_option maxHeartbeats 4000000 in
theorem Tryz.gsv6 : Go.Proofs.LaysGg.n6 Tryz.prog Tryz.gsv6_ren := {
  mixed := by kernel_rfl,
  f6 := Tryz.func88.trans (congrArg some (by kernel_rfl)),
  f10 := Tryz.func100.trans (congrArg some (by kernel_rfl)),
  f11 := Tryz.func101.trans (congrArg some (by kernel_rfl)),
  f12 := Tryz.func102.trans (congrArg some (by kernel_rfl)),
  f13 := Tryz.func103.trans (congrArg some (by kernel_rfl)),
  f14 := Tryz.func104.trans (congrArg some (by kernel_rfl)),
  f24 := Tryz.func117.trans (congrArg some (by kernel_rfl)),
  f25 := Tryz.func118.trans (congrArg some (by kernel_rfl)),
  f26 := Tryz.func119.trans (congrArg some (by kernel_rfl)),
  f27 := Tryz.func120.trans (congrArg some (by kernel_rfl)),
  f28 := Tryz.func121.trans (congrArg some (by kernel_rfl)),
  f29 := Tryz.func122.trans (congrArg some (by kernel_rfl)),
  f30 := Tryz.func123.trans (congrArg some (by kernel_rfl)),
  f31 := Tryz.func124.trans (congrArg some (by kernel_rfl)),
  f32 := Tryz.func125.trans (congrArg some (by kernel_rfl)),
  f33 := Tryz.func126.trans (congrArg some (by kernel_rfl)),
  f34 := Tryz.func128.trans (congrArg some (by kernel_rfl)),
  f35 := Tryz.func129.trans (congrArg some (by kernel_rfl)),
  f36 := Tryz.func130.trans (congrArg some (by kernel_rfl)),
  f37 := Tryz.func131.trans (congrArg some (by kernel_rfl)),
  f38 := Tryz.func132.trans (congrArg some (by kernel_rfl)),
  f39 := Tryz.func142.trans (congrArg some (by kernel_rfl)),
  t0 := Tryz.underlying0,
  a0 := Tryz.isAgg0,
  z0 := Tryz.sizeOf0,
  v0 := Tryz.zeroValue0,
  i0 := by kernel_rfl,
  t3 := Tryz.underlying3,
  a3 := Tryz.isAgg3,
  z3 := Tryz.sizeOf3,
  v3 := Tryz.zeroValue3,
  i3 := by kernel_rfl,
  t4 := Tryz.underlying4,
  a4 := Tryz.isAgg4,
  z4 := Tryz.sizeOf4,
  v4 := Tryz.zeroValue4,
  i4 := by kernel_rfl,
  t5 := Tryz.underlying5,
  a5 := Tryz.isAgg5,
  z5 := Tryz.sizeOf5,
  v5 := Tryz.zeroValue5,
  i5 := by kernel_rfl,
  t9 := Tryz.underlying9,
  a9 := Tryz.isAgg9,
  z9 := Tryz.sizeOf9,
  v9 := Tryz.zeroValue9,
  i9 := by kernel_rfl,
  t12 := Tryz.underlying12,
  a12 := Tryz.isAgg12,
  z12 := Tryz.sizeOf12,
  v12 := Tryz.zeroValue12,
  i12 := by kernel_rfl,
  t17 := Tryz.underlying17,
  a17 := Tryz.isAgg17,
  z17 := Tryz.sizeOf17,
  v17 := Tryz.zeroValue17,
  i17 := by kernel_rfl,
  t20 := Tryz.underlying20,
  a20 := Tryz.isAgg20,
  z20 := Tryz.sizeOf20,
  v20 := Tryz.zeroValue20,
  i20 := by kernel_rfl,
  t26 := Tryz.underlying77,
  a26 := Tryz.isAgg77,
  z26 := Tryz.sizeOf77,
  v26 := Tryz.zeroValue77,
  i26 := by kernel_rfl,
  t32 := Tryz.underlying98,
  a32 := Tryz.isAgg98,
  z32 := Tryz.sizeOf98,
  v32 := Tryz.zeroValue98,
  i32 := by kernel_rfl,
  t33 := Tryz.underlying99,
  a33 := Tryz.isAgg99,
  z33 := Tryz.sizeOf99,
  v33 := Tryz.zeroValue99,
  i33 := by kernel_rfl,
  t35 := Tryz.underlying101,
  a35 := Tryz.isAgg101,
  z35 := Tryz.sizeOf101,
  v35 := Tryz.zeroValue101,
  i35 := by kernel_rfl,
  t37 := Tryz.underlying103,
  a37 := Tryz.isAgg103,
  z37 := Tryz.sizeOf103,
  v37 := Tryz.zeroValue103,
  i37 := by kernel_rfl,
  t41 := Tryz.underlying107,
  a41 := Tryz.isAgg107,
  z41 := Tryz.sizeOf107,
  v41 := Tryz.zeroValue107,
  i41 := by kernel_rfl,
  t44 := Tryz.underlying110,
  a44 := Tryz.isAgg110,
  z44 := Tryz.sizeOf110,
  v44 := Tryz.zeroValue110,
  i44 := by kernel_rfl,
  t49 := Tryz.underlying115,
  a49 := Tryz.isAgg115,
  z49 := Tryz.sizeOf115,
  v49 := Tryz.zeroValue115,
  i49 := by kernel_rfl,
  t51 := Tryz.underlying117,
  a51 := Tryz.isAgg117,
  z51 := Tryz.sizeOf117,
  v51 := Tryz.zeroValue117,
  i51 := by kernel_rfl,
  t53 := Tryz.underlying119,
  a53 := Tryz.isAgg119,
  z53 := Tryz.sizeOf119,
  v53 := Tryz.zeroValue119,
  i53 := by kernel_rfl,
  t54 := Tryz.underlying120,
  a54 := Tryz.isAgg120,
  z54 := Tryz.sizeOf120,
  v54 := Tryz.zeroValue120,
  i54 := by kernel_rfl,
  t58 := Tryz.underlying124,
  a58 := Tryz.isAgg124,
  z58 := Tryz.sizeOf124,
  v58 := Tryz.zeroValue124,
  i58 := by kernel_rfl,
  t60 := Tryz.underlying127,
  a60 := Tryz.isAgg127,
  z60 := Tryz.sizeOf127,
  v60 := Tryz.zeroValue127,
  i60 := by kernel_rfl,
  t64 := Tryz.underlying131,
  a64 := Tryz.isAgg131,
  z64 := Tryz.sizeOf131,
  v64 := Tryz.zeroValue131,
  i64 := by kernel_rfl,
  t66 := Tryz.underlying140,
  a66 := Tryz.isAgg140,
  z66 := Tryz.sizeOf140,
  v66 := Tryz.zeroValue140,
  i66 := by kernel_rfl,
  t67 := Tryz.underlying141,
  a67 := Tryz.isAgg141,
  z67 := Tryz.sizeOf141,
  v67 := Tryz.zeroValue141,
  i67 := by kernel_rfl,
  t75 := Tryz.underlying154,
  a75 := Tryz.isAgg154,
  z75 := Tryz.sizeOf154,
  v75 := Tryz.zeroValue154,
  i75 := by kernel_rfl,
  t76 := Tryz.underlying155,
  a76 := Tryz.isAgg155,
  z76 := Tryz.sizeOf155,
  v76 := Tryz.zeroValue155,
  i76 := by kernel_rfl,
  t77 := Tryz.underlying156,
  a77 := Tryz.isAgg156,
  z77 := Tryz.sizeOf156,
  v77 := Tryz.zeroValue156,
  i77 := by kernel_rfl,
  t78 := Tryz.underlying157,
  a78 := Tryz.isAgg157,
  z78 := Tryz.sizeOf157,
  v78 := Tryz.zeroValue157,
  i78 := by kernel_rfl,
  t79 := Tryz.underlying158,
  a79 := Tryz.isAgg158,
  z79 := Tryz.sizeOf158,
  v79 := Tryz.zeroValue158,
  i79 := by kernel_rfl,
  t80 := Tryz.underlying159,
  a80 := Tryz.isAgg159,
  z80 := Tryz.sizeOf159,
  v80 := Tryz.zeroValue159,
  i80 := by kernel_rfl,
  t82 := Tryz.underlying161,
  a82 := Tryz.isAgg161,
  z82 := Tryz.sizeOf161,
  v82 := Tryz.zeroValue161,
  i82 := by kernel_rfl }

set_option maxRecDepth 100000 in
set_option maxHeartbeats 4000000 in
section
open Go Go.Proofs Go.Shelf Go.RowKit Go.Lib Go.Sort
noncomputable def sort_pairsT : TypeInfo := (Tryz.prog.info? 25).get (by kernel_rfl)
noncomputable def sort_pairsE : TypeInfo := (Tryz.prog.info? 29).get (by kernel_rfl)
set_option maxHeartbeats 2000000 in
theorem sort_pairs_less (Bs blk off c size : Nat) (W : World) (G : Nat → Int) (hs : W.cell? ⟨Bs, 0, none⟩ = some (.slice (some ⟨blk, off, none⟩) size c))
    (hc : ∀ t, t < size → W.cell? ⟨blk, off + t * 2, none⟩ = some (.int .i64 (G t))) (i j : Nat) (hi : i < size) (hj : j < size) (_hsz : size < 4611686018427387904) :
    Calls Tryz.prog 89 #[.int .i64 i, .int .i64 j, .pointer (some ⟨Bs, 0, none⟩)] W fun e w' => e = .returned (.bool (decide (G i < G j))) ∧ ∃ q, w' = W.drewN q := by
  have ci := hc i hi
  have cj := hc j hj
  go_enter Tryz.func89, Tryz.ntmps89
  go_wp2
  go_quiet (fail)
  go_wp2
  go_ret
  exact ⟨rfl, nq, rfl⟩
theorem sort_pairs_sw2 (n : Nat) (h : 2 ≤ n) : Lib.swapperK n sort_pairsE 25 = 9 := by
  have c : (n == 0) = false := by simp; omega
  have d : (n == 1) = false := by simp; omega
  have e : sort_pairsE.hasPointers = false := by kernel_rfl
  have b : sort_pairsE.bytes = 16 := by kernel_rfl
  simp [Lib.swapperK, c, d, e, b]
theorem sort_pairs_sw1 : Lib.swapperK 1 sort_pairsE 25 = 2 := rfl
theorem sort_pairs_sw0 : Lib.swapperK 0 sort_pairsE 25 = 1 := rfl
theorem sort_pairs {Bs : Nat} {M : Hp} {v : Value} {l : List (Int × Int)} {xs : List Value} (hr : RowsR RP2 2 M l xs) (hn : (l.map Prod.fst).Nodup) (hb : l.length ≤ 1000000000000) :
    Sp Tryz.prog (.func (.func 88) #[] #[]) M [.iface 25 v, .func (.func 89) #[] #[.pointer (some ⟨Bs, 0, none⟩)]] [OwnC 29 2 v l.length xs, Go.Sl.blk Bs (.cells #[v] 25)]
      (fun r M' C' => ∃ xs', RowsR RP2 2 M' (srtK Prod.fst l) xs' ∧ C' = [OwnC 29 2 v (srtK Prod.fst l).length xs', Go.Sl.blk Bs (.cells #[v] 25)]) :=
  sortK_sp Tryz.call88 (fun blk off c size W G a b i j c1 c2 c3 => sort_pairs_less Bs blk off c size W G a b i j c1 c2 c3)
    (fun blk c d w h2 hsz hless hH hblk => Any.sort_Slice_cells_sorted Tryz.gsv6 25 29 sort_pairsT sort_pairsE (by kernel_rfl) (by kernel_rfl) (by kernel_rfl) (by kernel_rfl) 25 (fun _ => by kernel_rfl) encK 2 (fun _ => rfl) (by kernel_rfl) (fun _ => by kernel_rfl)
      encK_one ltK swo_ltK 89 _ (enters_of Tryz.func89 (by kernel_rfl) rfl) blk 0 c d h2 hsz 116 (by rw [sort_pairs_sw2 _ h2]; kernel_rfl) false
      (fun args W => run_callFunc_extern Tryz.func116 (by kernel_rfl) (by kernel_rfl) (by kernel_rfl) (e := Extern.ReflectliteSwapper.swap false) (by kernel_rfl) args W) w hless hH hblk)
    (fun p n c w h1 => by
      rcases (show n = 0 ∨ n = 1 by omega) with rfl | rfl
      · exact Any.sort_Slice_tiny Tryz.gsv6 25 29 sort_pairsT sort_pairsE (by kernel_rfl) (by kernel_rfl) (by kernel_rfl) (by kernel_rfl) 25 (fun _ => by kernel_rfl) p 0 c h1 108 (by rw [sort_pairs_sw0]; kernel_rfl) _ _ _ w
      · exact Any.sort_Slice_tiny Tryz.gsv6 25 29 sort_pairsT sort_pairsE (by kernel_rfl) (by kernel_rfl) (by kernel_rfl) (by kernel_rfl) 25 (fun _ => by kernel_rfl) p 1 c h1 109 (by rw [sort_pairs_sw1]; kernel_rfl) _ _ _ w)
    (fun M cs x h => RP2_K h) RP2_mono hr hn hb
end

set_option maxRecDepth 100000 in
set_option maxHeartbeats 4000000 in
theorem impl_pairs {M : Hp} {m0 : Value} {q0 : List (Int × Int)} (hm0 : RdM M m0 (encE (Value.int .i64) q0)) (hb : q0.length ≤ 1000000000000) :
    Pu Tryz.prog (.func (.func 58) #[] #[]) M [m0] (fun r M' => RdS 2 RP2 M' r (srtK Prod.fst q0)) := by
  refine Pu_enter Tryz.func58 rfl Tryz.ntmps58 rfl Tryz.call58 ?_
  intro a w M1 H hM1 S E
  replace hm0 := hm0.le hM1
  have hnq : (q0.map Prod.fst).Nodup := keys_encE (Value.int .i64) q0 ▸ hm0.nodup
  refine WP_seq ?_
  refine WP_region ?_
  refine S_v E rfl (R_assign E rfl) rfl ?_
  clear E a; intro a E
  refine WL_nil ?_
  refine T_n ?_
  refine WP_seq ?_
  refine WP_region ?_
  refine S_x (X_alloc (cs := #[.slice none 0 0]) E S rfl Tryz.zeroValue25 rfl ?_)
  clear E a S; rintro a w b_1 E S
  refine WL_nil ?_
  refine T_n ?_
  refine WP_seq ?_
  refine WP_seq ?_
  refine WP_region ?_
  refine S_v E rfl (R_move E rfl) rfl ?_
  clear E a; intro a E
  refine S_x (X_range E S rfl MT63 hm0 rfl ?_)
  clear E a S; rintro a w i_2 es_3 ck_4 E hf_5 S
  replace S : St w M1 (ItO m0 es_3 ck_4 i_2 (encE (Value.int .i64) ([] : List (Int × Int))) :: _) := S
  refine WL_nil ?_
  refine T_n ?_
  refine WP_block ?_
  replace S : St w M1 (OwnC 29 2 (.slice none 0 0) ([] : List (Int × Int)).length [] :: _) := S.ownNil
  have hr_7 : RowsR RP2 2 M1 ([] : List (Int × Int)) [] := RowsR.nil
  replace S := S.front1
  replace S := S.front1
  have hre : ([] : List (Int × Int)) = [] := by first | rfl | (simp; done)
  replace S := S.reR hre
  replace hr_7 := hr_7.eq hre
  clear hre
  replace S := S.front1
  replace S := S.reIt (p' := (encE (Value.int .i64) [])) (congrArg (encE (Value.int .i64)) (show ([] : List (Int × Int)) = [] by first | rfl | (simp; done)))
  refine WP_loop (γ := List (Int × Int)) (fun (p : List (Int × Int)) a w => ∃ (M_8 : Hp) (u3 : Value) (xs3 : List Value), Hp.le M1 M_8 ∧ St w M_8 (ItO m0 es_3 ck_4 i_2 (encE (Value.int .i64) p) :: OwnC 29 2 u3 p.length xs3 :: blk b_1 (.cells #[u3] 25) :: H) ∧ Env a 24 [] [(3, .pointer (some ⟨b_1, 0, none⟩)), (7, .pointer (some ⟨i_2, 0, none⟩))] ∧ ((p.map Prod.fst).Nodup) ∧ (∀ z ∈ p, z ∈ q0) ∧ (p.length ≤ q0.length) ∧ RowsR RP2 2 M_8 p xs3) (fun p => q0.length - p.length) [] ⟨M1, _, _, Hp.le.refl _, S, E.keep ⟨rfl, rfl, trivial⟩, (by simp), (by simp), (by simp), hr_7⟩ ?_
  try clear E
  try clear S
  try clear a
  try clear w
  rintro p a w ⟨M_8, u3, xs3, hM_8, S, E, hL0_0, hL0_1, hL0_2, hr3⟩
  replace hm0 := hm0.le hM_8
  replace hf_5 := hf_5.le hM_8
  refine WP_seq ?_
  refine WP_region ?_
  refine S_x (X_nextE (vf := (Value.int .i64)) E S rfl hf_5 rfl (by assumption) (by assumption) ?_ ?_)
  · clear E a S; rintro a E hpm_9 S
    refine S_v E rfl (R_extract E rfl rfl) rfl ?_
    clear E a; intro a E
    refine WL_nil ?_
    refine T_n ?_
    refine WP_seq ?_
    refine WP_condF E rfl rfl ?_
    refine WP_exit ?_
    refine T_x ?_
    refine T_x ?_
    refine B_x ?_
    refine T_n ?_
    refine WP_seq ?_
    refine WP_region ?_
    refine S_v E rfl (R_load E rfl (Tryz.isAgg25 _) (cell_blk (S.mem (.tail _ (.tail _ (.head _)))))) rfl ?_
    clear E a; intro a E
    refine S_v E rfl (R_iface E rfl T25.und) rfl ?_
    clear E a; intro a E
    refine S_v E rfl (R_makeFunc E rfl rfl) rfl ?_
    clear E a; intro a E
    replace S := S.front2
    replace S := S.front2
    refine S_x (X_sp (p := [OwnC 29 2 u3 p.length xs3, blk b_1 (.cells #[u3] 25)]) E S rfl rfl rfl (sort_pairs hr3 (by first | assumption | exact keys_perm (by assumption) hnq) (by (first | (rw [srtK_len]; omega) | omega | (simp; omega)))) (Hp.le.refl _) ?_)
    clear E a S; rintro a _ w M_10 _ hM_10 ⟨xs_11, hr_12, rfl⟩ S E
    replace S : St w M_10 (OwnC 29 2 u3 (srtK Prod.fst p).length xs_11 :: blk b_1 (.cells #[u3] 25) :: _) := S
    replace hm0 := hm0.le hM_10
    replace hf_5 := hf_5.le hM_10
    refine WL_nil ?_
    refine T_n ?_
    refine WP_seq ?_
    refine WP_region ?_
    refine S_v E rfl (R_load E rfl (Tryz.isAgg25 _) (cell_blk (S.mem (.tail _ (.head _))))) rfl ?_
    clear E a; intro a E
    refine S_v E rfl (R_assign E rfl) rfl ?_
    clear E a; intro a E
    refine WL_nil ?_
    refine T_n ?_
    refine WP_ret ?_
    have S0 := S; clear S
    obtain ⟨M_13, hM_13, hz_14, S⟩ := S0.freezeR hr_12 RP2_mono (by (first | (rw [srtK_len]; omega) | omega | (simp; omega)))
    clear S0
    replace hm0 := hm0.le hM_13
    replace hf_5 := hf_5.le hM_13
    exact F_ret1 E Tryz.results58 rfl ⟨_, rfl, M_13, (hM_8.trans (hM_10.trans hM_13)), (by rw [show (srtK Prod.fst q0) = (srtK Prod.fst p) from by (first | exact srtK_perm_eq hnq (by assumption) | exact (srtK_perm_eq hnq (by assumption)).symm)]; exact hz_14), S.drop.drop⟩
  · clear E a S w; rintro a w k_15 u_17 E hk_16 hk_16n hk_16l S
    refine S_v E rfl (R_extract E rfl rfl) rfl ?_
    clear E a; intro a E
    refine WL_nil ?_
    refine T_n ?_
    refine WP_seq ?_
    refine WP_condT E rfl rfl ?_
    refine WP_skip ?_
    refine T_n ?_
    refine WP_block ?_
    refine WP_seq ?_
    refine WP_region ?_
    refine S_v E rfl (R_entry (k := k_15) (v := .int .i64 u_17) E (by have S1 := S; simp only [encE, List.map_append, List.map_cons, List.map_nil] at S1; exact S1) hf_5 rfl) rfl ?_
    clear E a; intro a E
    refine S_v E rfl (R_extract E rfl rfl) rfl ?_
    clear E a; intro a E
    refine S_v E rfl (R_extract E rfl rfl) rfl ?_
    clear E a; intro a E
    refine S_v E rfl (R_assign E rfl) rfl ?_
    clear E a; intro a E
    refine S_v E rfl (R_assign E rfl) rfl ?_
    clear E a; intro a E
    refine WL_nil ?_
    refine T_n ?_
    refine WP_region ?_
    refine S_v E rfl (R_load E rfl (Tryz.isAgg25 _) (cell_blk (S.mem (.tail _ (.tail _ (.head _)))))) rfl ?_
    clear E a; intro a E
    refine S_v E rfl (R_move E rfl) rfl ?_
    clear E a; intro a E
    refine S_v E rfl (R_move E rfl) rfl ?_
    clear E a; intro a E
    refine S_v E rfl (R_build (u := .agg #[.int .i64 k_15, .int .i64 u_17]) (vs := [.int .i64 k_15, .int .i64 u_17]) E rfl (fun w => FB29_0_1_ii k_15 u_17 w)) rfl ?_
    clear E a; intro a E
    refine S_x (X_buildA1 (R := RP2) (cs := [.int .i64 k_15, .int .i64 u_17]) (x0 := (k_15, u_17)) RP2_mono E S rfl T25 rfl rfl rfl rfl ?_)
    clear E a S; rintro a v_18 w M_19 hM_19 hv_18 S E
    replace hm0 := hm0.le hM_19
    replace hf_5 := hf_5.le hM_19
    replace hr3 := hr3.le RP2_mono hM_19
    replace S := S.front1
    refine S_x (X_appendR (R := RP2) (zs := p) (ys := [(k_15, u_17)]) E S hr3 rfl rfl rfl T25 hv_18 one_RP2 (by first | omega | (simp; done) | (simp; omega) | (simp_all; omega)) (by first | omega | (simp; done) | (simp; omega) | (simp_all; omega)) ?_)
    clear E a S; rintro a w v_20 xs_21 E hr_22 S
    have ho_23 := S.oneC
    replace S := S.front2
    refine S_x0 (X_store E S rfl rfl (Tryz.sizeOf25 _) ho_23 ?_)
    clear E a S; rintro a w E S
    refine WL_nil ?_
    refine B_n ?_
    refine T_n ?_
    replace S := S.front1
    replace S := S.front2
    replace S := S.front1
    have hre : p ++ [(k_15, u_17)] = (p ++ [(k_15, u_17)]) := by first | rfl | (simp; done)
    replace S := S.reR hre
    replace hr_22 := hr_22.eq hre
    clear hre
    replace S := S.front1
    replace S := S.reIt (p' := (encE (Value.int .i64) (p ++ [(k_15, u_17)]))) (congrArg (encE (Value.int .i64)) (show p ++ [(k_15, u_17)] = (p ++ [(k_15, u_17)]) by first | rfl | (simp; done)))
    exact ⟨(p ++ [(k_15, u_17)]), ⟨M_19, _, _, (hM_8.trans hM_19), S, E.keep ⟨rfl, rfl, trivial⟩, (by exact snocNk (by assumption) (by assumption)), (by exact snocSk (by assumption) (by assumption)), (by simp; omega), hr_22⟩, (by simp; omega)⟩

set_option maxRecDepth 100000 in
set_option maxHeartbeats 4000000 in
theorem impl_CountValues {M : Hp} {v0 : Value} {l0 : List Int} (h0 : RdI M v0 l0) (hb : l0.length ≤ 1000000000000) :
    Pu Tryz.prog (.func (.func 24) #[] #[]) M [v0] (fun r M' => RdS 2 RP2 M' r (srtK Prod.fst (upM (fun x => x) [] l0))) := by
  refine Pu_enter Tryz.func24 rfl Tryz.ntmps24 rfl Tryz.call24 ?_
  intro a w M1 H hM1 S E
  replace h0 := h0.le hM1
  have b0 := h0.bound
  refine WP_seq ?_
  refine WP_region ?_
  refine S_v E rfl (R_assign E rfl) rfl ?_
  clear E a; intro a E
  refine WL_nil ?_
  refine T_n ?_
  refine WP_seq ?_
  refine WP_region ?_
  refine S_v E rfl (R_move E rfl) rfl ?_
  clear E a; intro a E
  refine S_x (X_pu E S rfl rfl rfl (lo_CountValues h0) (Hp.le.refl _) ?_)
  clear E a S; rintro a v_2 w M_1 hM_1 hv_2 S E
  replace h0 := h0.le hM_1
  refine S_x (X_pu E S rfl rfl rfl (impl_pairs hv_2 (by first | omega | (exact bigE _ l0 (by first | (rw [ixm_len]; exact Nat.le_refl _) | exact kpix_len _ _ _ | (rw [List.length_map]; exact Nat.le_refl _)) (by omega)) | exact Nat.le_trans (mkE_len _) (by omega) | (exact Nat.le_trans (lk_len (by assumption) (by assumption)) (by first | omega | exact Nat.le_trans (fl_mk _ _) (by omega))) | exact Nat.le_trans (mk_perm_len (by assumption)) (by omega) | exact Nat.le_trans (Nat.le_trans (lk_len (by assumption) (by assumption)) (mkl_len _ _)) (by omega) | (first | omega | (simp; omega) | (simp; done) | (simp_all; omega) | grind) | exact Nat.le_trans (upM_len _ _) (by omega))) (Hp.le.refl _) ?_)
  clear E a S; rintro a v_4 w M_3 hM_3 hv_4 S E
  replace h0 := h0.le hM_3
  replace hv_2 := hv_2.le hM_3
  refine S_v E rfl (R_assign E rfl) rfl ?_
  clear E a; intro a E
  refine WL_nil ?_
  refine T_n ?_
  refine WP_ret ?_
  exact F_ret1 E Tryz.results24 rfl ⟨_, rfl, M_3, (hM_1.trans hM_3), hv_4, S⟩

set_option maxRecDepth 100000 in
set_option maxHeartbeats 4000000 in
theorem laws_eqPairs {M : Hp} {v0 : Value} {l0 : List (Int × Int)} (h0 : RdS 2 RP2 M v0 l0) {v1 : Value} {l1 : List (Int × Int)} (h1 : RdS 2 RP2 M v1 l1) :
    Pu Tryz.prog (.func (.func 23) #[] #[]) M [v0, v1] (fun r M' => r = .bool (decide (l0 = l1))) := by
  refine Pu_enter Tryz.func23 rfl Tryz.ntmps23 rfl Tryz.call23 ?_
  intro a w M1 H hM1 S E
  replace h0 := h0.le RP2_mono hM1
  replace h1 := h1.le RP2_mono hM1
  have b0 := h0.bound
  have b1 := h1.bound
  refine WP_seq ?_
  refine WP_region ?_
  refine S_v E rfl (R_assign E rfl) rfl ?_
  clear E a; intro a E
  refine WL_nil ?_
  refine T_n ?_
  refine WP_seq ?_
  refine WP_seq ?_
  refine WP_region ?_
  refine S_v E rfl (R_move E rfl) rfl ?_
  clear E a; intro a E
  refine S_v E rfl (R_lenV E rfl T25 h0.len) rfl ?_
  clear E a; intro a E
  refine S_v E rfl (R_move E rfl) rfl ?_
  clear E a; intro a E
  refine S_v E rfl (R_lenV E rfl T25 h1.len) rfl ?_
  clear E a; intro a E
  refine S_v E rfl (R_neq E rfl rfl) rfl ?_
  clear E a; intro a E
  refine WL_nil ?_
  refine T_n ?_
  refine WP_cond E rfl (fun hc_1 => ?_) (fun hc_1 => ?_)
  · replace hc_1 := of_decide_eq_true hc_1
    refine WP_seq ?_
    refine WP_region ?_
    refine S_v E rfl (R_assign E rfl) rfl ?_
    clear E a; intro a E
    refine WL_nil ?_
    refine T_n ?_
    refine WP_ret ?_
    refine T_r ?_
    exact F_ret1 E Tryz.results23 rfl ⟨_, rfl, M1, (Hp.le.refl _), (bF (by (first | (simp; done) | exact eqp_no (by assumption) (by assumption) (p2_ne (by assumption)) | (have h9 : l0.take k = l1.take k := (by assumption); rwa [List.take_of_length_le (by omega), List.take_of_length_le (by omega)] at h9) | (intro h9; subst h9; omega) | (intro h9; subst h9; simp_all; done)))), S⟩
  · replace hc_1 := of_decide_eq_false hc_1
    refine WP_skip ?_
    refine T_n ?_
    refine WP_seq ?_
    refine WP_seq ?_
    refine WP_region ?_
    refine S_v E rfl (R_move E rfl) rfl ?_
    clear E a; intro a E
    refine S_v E rfl (R_lenV E rfl T25 h0.len) rfl ?_
    clear E a; intro a E
    refine S_v E rfl (R_move E rfl) rfl ?_
    clear E a; intro a E
    refine WL_nil ?_
    refine T_n ?_
    refine WP_block ?_
    refine WP_loop (γ := Nat) (fun (k : Nat) a w => ∃ (M_2 : Hp), Hp.le M1 M_2 ∧ St w M_2 (H) ∧ Env a 26 [] [(0, v0), (1, v1), (12, .int .i64 (((l0).length : Nat) : Int)), (13, .int .i64 ((k : Nat) : Int))] ∧ (k ≤ (l0).length) ∧ (l0.length = l1.length) ∧ (l0.take k = l1.take k)) (fun k => ((l0).length) - k) 0 ⟨M1, Hp.le.refl _, S, E.keep ⟨rfl, rfl, rfl, rfl, trivial⟩, by ((try clear S); (try clear E); first | assumption | omega | rfl | (simp; done) | (simp_all; done) | (simp [List.take_add_one, *]; done) | grind [List.take_add_one]), by ((try clear S); (try clear E); first | assumption | omega | rfl | (simp; done) | (simp_all; done) | (simp [List.take_add_one, *]; done) | grind [List.take_add_one]), by ((try clear S); (try clear E); first | assumption | omega | rfl | (simp; done) | (simp_all; done) | (simp [List.take_add_one, *]; done) | grind [List.take_add_one])⟩ ?_
    try clear E
    try clear S
    try clear a
    try clear w
    rintro k a w ⟨M_2, hM_2, S, E, hL0_0, hL0_1, hL0_2⟩
    replace h0 := h0.le RP2_mono hM_2
    replace h1 := h1.le RP2_mono hM_2
    refine WP_seq ?_
    refine WP_region ?_
    refine S_v E rfl (R_lss E rfl rfl) rfl ?_
    clear E a; intro a E
    refine WL_nil ?_
    refine T_n ?_
    refine WP_seq ?_
    refine WP_cond E rfl (fun hc_3 => ?_) (fun hc_3 => ?_)
    · replace hc_3 := of_decide_eq_true hc_3
      refine WP_skip ?_
      refine T_n ?_
      refine WP_seq ?_
      refine WP_block ?_
      refine WP_seq ?_
      refine WP_region ?_
      refine S_v E rfl (R_move E rfl) rfl ?_
      clear E a; intro a E
      refine S_v E rfl (R_assign E rfl) rfl ?_
      clear E a; intro a E
      refine WL_nil ?_
      refine T_n ?_
      refine WP_seq ?_
      replace S := S.mono_heap (w' := World.drew _) rfl
      refine WP_drawn (C := fun x w => agree M_2 w) (bf := (fun i => [])) [0, 1, 2, 3, 4, 5, 6, 7, 8] [0, 1, 2, 3, 4, 5, 6, 7, 8] Tryz.mixed (by kernel_rfl) (fun x hq => S.imm) ?_
      refine D_v E rfl rfl rfl (fun w hC => (R_move E rfl)) ?_
      clear E a; intro a E
      refine D_v E rfl rfl rfl (fun w hC => (R_move E rfl)) ?_
      clear E a; intro a E
      obtain ⟨x_4, hx_4⟩ : ∃ x, (l0)[k]? = some x := ⟨_, List.getElem?_eq_getElem (by first | omega | (simp; done) | (simp; omega) | (simp_all; omega))⟩
      obtain ⟨p_5, hp_5, qp_5⟩ := RdP2.at h0 hx_4
      refine D_v E rfl rfl rfl (fun w hC => (R_idx E rfl rfl T25 hp_5 rfl)) ?_
      clear E a; intro a E
      refine D_v E rfl rfl rfl (fun w hC => (R_loadA (cs := [.int .i64 x_4.1, .int .i64 x_4.2]) E rfl (Tryz.isAgg29 _) (Tryz.sizeOf29 _) hC qp_5)) ?_
      clear E a; intro a E
      refine D_v E rfl rfl rfl (fun w hC => (R_move E rfl)) ?_
      clear E a; intro a E
      refine D_v E rfl rfl rfl (fun w hC => (R_move E rfl)) ?_
      clear E a; intro a E
      obtain ⟨x_6, hx_6⟩ : ∃ x, (l1)[k]? = some x := ⟨_, List.getElem?_eq_getElem (by first | omega | (simp; done) | (simp; omega) | (simp_all; omega))⟩
      obtain ⟨p_7, hp_7, qp_7⟩ := RdP2.at h1 hx_6
      refine D_v E rfl rfl rfl (fun w hC => (R_idx E rfl rfl T25 hp_7 rfl)) ?_
      clear E a; intro a E
      refine D_v E rfl rfl rfl (fun w hC => (R_loadA (cs := [.int .i64 x_6.1, .int .i64 x_6.2]) E rfl (Tryz.isAgg29 _) (Tryz.sizeOf29 _) hC qp_7)) ?_
      clear E a; intro a E
      refine D_v E rfl rfl rfl (fun w hC => (R_neqA E rfl rfl (by kernel_rfl) (EQ29 x_4.1 x_4.2 x_6.1 x_6.2 _))) ?_
      clear E a; intro a E
      refine D_end (NoP_n ?_)
      refine T_n ?_
      refine WP_cond E rfl (fun hc_8 => ?_) (fun hc_8 => ?_)
      · replace hc_8 := of_decide_eq_true hc_8
        refine WP_seq ?_
        refine WP_region ?_
        refine S_v E rfl (R_assign E rfl) rfl ?_
        clear E a; intro a E
        refine WL_nil ?_
        refine T_n ?_
        refine WP_ret ?_
        refine B_r ?_
        refine T_r ?_
        refine T_r ?_
        refine B_r ?_
        refine T_r ?_
        exact F_ret1 E Tryz.results23 rfl ⟨_, rfl, M_2, hM_2, (bF (by (first | (simp; done) | exact eqp_no (by assumption) (by assumption) (p2_ne (by assumption)) | (have h9 : l0.take k = l1.take k := (by assumption); rwa [List.take_of_length_le (by omega), List.take_of_length_le (by omega)] at h9) | (intro h9; subst h9; omega) | (intro h9; subst h9; simp_all; done)))), S⟩
      · replace hc_8 := of_decide_eq_false hc_8
        refine WP_skip ?_
        refine B_n ?_
        refine T_n ?_
        refine WP_region ?_
        refine S_v E rfl (R_addx (m := ((k + 1 : Nat) : Int)) E rfl rfl (by omega) (by omega)) rfl ?_
        clear E a; intro a E
        refine S_v E rfl (R_move E rfl) rfl ?_
        clear E a; intro a E
        refine WL_nil ?_
        refine T_n ?_
        exact ⟨k + 1, ⟨M_2, hM_2, S, E.keep ⟨rfl, rfl, rfl, rfl, trivial⟩, by ((try clear S); (try clear E); first | assumption | omega | rfl | (simp; done) | (simp_all; done) | (simp [List.take_add_one, *]; done) | grind [List.take_add_one]), by ((try clear S); (try clear E); first | assumption | omega | rfl | (simp; done) | (simp_all; done) | (simp [List.take_add_one, *]; done) | grind [List.take_add_one]), (by exact eqp_step (by assumption) (by assumption) (by assumption) (p2_eq (by first | assumption | exact Decidable.not_not.1 (by assumption))))⟩, by omega⟩
    · replace hc_3 := of_decide_eq_false hc_3
      refine WP_exit ?_
      refine T_x ?_
      refine T_x ?_
      refine B_x ?_
      refine T_n ?_
      refine WP_seq ?_
      refine WP_region ?_
      refine S_v E rfl (R_assign E rfl) rfl ?_
      clear E a; intro a E
      refine WL_nil ?_
      refine T_n ?_
      refine WP_ret ?_
      exact F_ret1 E Tryz.results23 rfl ⟨_, rfl, M_2, hM_2, (bT (by (first | (simp; done) | exact eqp_no (by assumption) (by assumption) (p2_ne (by assumption)) | (have h9 : l0.take k = l1.take k := (by assumption); rwa [List.take_of_length_le (by omega), List.take_of_length_le (by omega)] at h9) | (intro h9; subst h9; omega) | (intro h9; subst h9; simp_all; done)))), S⟩

set_option maxRecDepth 100000 in
set_option maxHeartbeats 4000000 in
theorem it_CountValuesBy {M : Hp} {v0 : Value} {l0 : List Int} (h0 : SeqV Tryz.prog v0 M (RInt) l0){v1 : Value} {f1 : Int → Int} (h1 : PF1I Tryz.prog v1 M f1) (hb : l0.length ≤ 1000000000000) :
    Pu Tryz.prog (.func (.func 90) #[] #[]) M [v0, v1] (fun r M' => RdM M' r (encE (Value.int .i64) (upM f1 [] l0))) := by
  refine Pu_enter Tryz.func90 rfl Tryz.ntmps90 rfl Tryz.call90 ?_
  intro a w M1 H hM1 S E
  replace h0 := h0.le hM1
  replace h1 := h1.le hM1
  replace S : St w M1 (mks [] :: _) := S.empty
  replace E : Env a 17 (([] : List Nat).map mk) _ := E
  refine WP_seq ?_
  refine WP_region ?_
  refine S_x (X_box (cs := #[v1]) E S rfl rfl (cells_one h1.1) ?_)
  clear E a S; rintro a w b_1 E S
  obtain ⟨M_2, hM_2, hb_1, S⟩ := S.freezeB
  replace h0 := h0.le hM_2
  replace h1 := h1.le hM_2
  refine S_v E rfl (R_assign E rfl) rfl ?_
  clear E a; intro a E
  refine WL_nil ?_
  refine T_n ?_
  refine WP_seq ?_
  refine WP_region ?_
  refine S_x (X_makeMap E S rfl ?_)
  clear E a S; rintro a w b_3 E S
  replace S : St w M_2 (OwnE (Value.int .i64) b_3 ([] : List (Int × Int)) :: _) := S
  refine S_x (X_alloc (cs := #[.map none]) E S rfl Tryz.zeroValue63 rfl ?_)
  clear E a S; rintro a w b_4 E S
  refine S_x0 (X_store E S rfl rfl (Tryz.sizeOf63 _) rfl ?_)
  clear E a S; rintro a w E S
  refine WL_nil ?_
  refine T_n ?_
  refine WP_seq ?_
  refine WP_seq ?_
  refine WP_region ?_
  refine S_v E rfl (R_move E rfl) rfl ?_
  clear E a; intro a E
  refine WL_nil ?_
  refine T_n ?_
  refine WP_block ?_
  replace S := S.front1
  replace S := S.front1
  replace E := E.keep (l' := [(3, .pointer (some ⟨b_1, 0, none⟩)), (5, .pointer (some ⟨b_4, 0, none⟩)), (8, v0)]) ⟨rfl, rfl, rfl, trivial⟩
  replace S := S.front1
  replace S := S.reM (L' := (encE (Value.int .i64) (upM f1 [] (([] : List Int))))) (congrArg (encE (Value.int .i64)) (show ([] : List (Int × Int)) = upM f1 [] (([] : List Int)) by first | (simp [upM]; done) | (rw [upM_app])))
  replace S := S.front1
  have S0 := S; clear S; have S := St.pack [blk b_4 (.cells #[.map (some b_3)] 63), OwnE (Value.int .i64) b_3 (upM f1 [] (([] : List Int)))] S0; clear S0
  refine WP_range (RV := RInt) (l := l0) (fun pre M c => c = bigs [blk b_4 (.cells #[.map (some b_3)] 63), OwnE (Value.int .i64) b_3 (upM f1 [] (pre))]) (fun _ _ _ _ => False) E S rfl h0 (Hp.le.refl _) (fun _ _ _ h => by rw [h]; rfl) (by decide) (by rintro _ M M' c hM rfl; exact rfl) rfl ?_ ?_ ?_
  clear E S
  · rintro lb_6 rec_7 pre x _ a w M_5 _ G hM_5 hp_8 rfl rfl E S
    replace E : Env a 17 [] [(9, .int .i64 x), (3, .pointer (some ⟨b_1, 0, none⟩)), (5, .pointer (some ⟨b_4, 0, none⟩)), (8, v0)] := E
    replace S := S.swap.unpack2
    have hq0 := prefix_lt hp_8
    replace h0 := h0.le hM_5
    replace h1 := h1.le hM_5
    replace hb_1 := hM_5.2 _ _ hb_1
    have hpl := hp_8.length_le; simp at hpl; have hbd := upM_bnd f1 (l := pre) (by omega)
    refine WP_region ?_
    refine S_v E rfl (R_assign E rfl) rfl ?_
    clear E a; intro a E
    refine WL_nil ?_
    refine T_n ?_
    replace S := S.front2
    refine rb S ?_
    clear S; intro w S
    refine WP_block ?_
    have hb_1k9 := hb_1
    replace S := S.mono_heap (w' := World.drew _) rfl
    refine WP_drawn (C := fun x w => agree M_5 w ∧ (x = 0 → w.heap[b_4]? = some (.cells #[.map (some b_3)] 63))) (bf := (fun i => bif Nat.beq i 3 then [] else bif Nat.beq i 4 then [0] else bif Nat.beq i 6 then [0] else [])) [0, 1, 2, 5] [0, 1, 2, 3, 4, 5, 6] Tryz.mixed (by kernel_rfl) (fun x hq => ⟨S.imm, fun _ => (S.mem (.tail _ (.head _)))⟩) ?_
    refine D_v E rfl rfl rfl (fun w hC => (R_load E rfl (Tryz.isAgg63 _) (cell_blk (hC.2 rfl)))) ?_
    clear E a; intro a E
    refine D_v E rfl rfl rfl (fun w hC => (R_loadM E rfl Tryz.isAgg84 hC.1 (cellM_box hb_1k9))) ?_
    clear E a; intro a E
    refine D_v E rfl rfl rfl (fun w hC => (R_move E rfl)) ?_
    clear E a; intro a E
    refine D_x rfl rfl rfl (X_pu E S rfl rfl rfl (h1.2 x) (Hp.le.refl _) ?_)
    clear E a S; rintro a _ w M_10 hM_10 rfl S E
    replace h0 := h0.le hM_10
    replace h1 := h1.le hM_10
    replace hb_1 := hM_10.2 _ _ hb_1
    refine ⟨fun x hq hb => ⟨(agree_le hM_10 S.imm), (fun _ => (S.mem (.tail _ (.head _))))⟩, ?_⟩
    replace S := S.front2
    refine D_x rfl rfl rfl (X_lookupE1 (vf := (Value.int .i64)) (zb := (0 : Int)) E S rfl MT63 rfl rfl ?_)
    clear E a S; rintro a w E S
    replace S : St w M_10 (OwnE (Value.int .i64) b_3 (upM f1 [] (pre)) :: _) := S
    refine ⟨fun x hq hb => ⟨(agree_le hM_10 S.imm), (fun e => by subst e; exact absurd hb (by decide))⟩, ?_⟩
    refine D_v E rfl rfl rfl (fun w hC => (R_addx (m := (getK (0 : Int) (upM f1 [] (pre)) (f1 x)) + 1) E rfl rfl (by first | rfl | exact add1_in (hbd _)) (by first | rfl | exact add1_in (hbd _)))) ?_
    clear E a; intro a E
    refine D_x rfl rfl rfl (X_updateE (vf := (Value.int .i64)) (u := (getK (0 : Int) (upM f1 [] (pre)) (f1 x)) + 1) E S MT63 rfl rfl rfl ?_)
    clear E a S; rintro a w E S
    refine ⟨fun x hq hb => ⟨(agree_le hM_10 S.imm), (fun e => by subst e; exact absurd hb (by decide))⟩, ?_⟩
    refine D_end (NoP_n ?_)
    refine B_n ?_
    replace S := S.front2
    replace S := S.front1
    replace S := S.reM (L' := (encE (Value.int .i64) (upM f1 [] ((pre ++ [x]))))) (congrArg (encE (Value.int .i64)) (show putK (upM f1 [] (pre)) (f1 x) ((getK (0 : Int) (upM f1 [] (pre)) (f1 x)) + 1) = upM f1 [] ((pre ++ [x])) by first | (simp [upM]; done) | (rw [upM_app])))
    replace S := S.front1
    have S0 := S; clear S; have S := (St.pack [blk b_4 (.cells #[.map (some b_3)] 63), OwnE (Value.int .i64) b_3 (upM f1 [] ((pre ++ [x])))] S0).swap; clear S0
    exact ⟨M_10, _, hM_10, rfl, S⟩
  · rintro a w M_11 _ D_12 hM_11 rfl S E
    replace S := S.unpack2
    replace h0 := h0.le hM_11
    replace h1 := h1.le hM_11
    replace hb_1 := hM_11.2 _ _ hb_1
    refine B_n ?_
    refine T_n ?_
    refine WP_seq ?_
    refine WP_region ?_
    refine S_v E rfl (R_load E rfl (Tryz.isAgg63 _) (cell_blk (S.mem (.head _)))) rfl ?_
    clear E a; intro a E
    refine S_v E rfl (R_assign E rfl) rfl ?_
    clear E a; intro a E
    refine WL_nil ?_
    refine T_n ?_
    refine WP_ret ?_
    replace S := S.front1
    have S0 := S; clear S
    obtain ⟨M_13, hM_13, hm_14, S⟩ := S0.freezeM
    clear S0
    replace h0 := h0.le hM_13
    replace h1 := h1.le hM_13
    replace hb_1 := hM_13.2 _ _ hb_1
    replace S := S.drop
    exact F_retM1 E S Tryz.results90 rfl (fun w S => ⟨_, rfl, M_13, (hM_2.trans (hM_11.trans hM_13)), (by rw [show (upM f1 [] l0) = (upM f1 [] (l0)) from by ((try clear S); (try clear E); first | rfl | (simp; done) | (simp_all; done) | grind [List.take_add_one])]; exact hm_14), S⟩)
  · rintro _ _ _ _ _ _ _ _ _ hX; exact hX.elim

set_option maxRecDepth 100000 in
set_option maxHeartbeats 4000000 in
theorem it_CountValues1 {M : Hp} {x0 : Int} :
    Pu Tryz.prog (.func (.func 91) #[] #[]) M [.int .i64 x0] (fun r M' => r = .int .i64 x0) := by
  refine Pu_enter Tryz.func91 rfl Tryz.ntmps91 rfl Tryz.call91 ?_
  intro a w M1 H hM1 S E
  refine WP_seq ?_
  refine WP_region ?_
  refine S_v E rfl (R_assign E rfl) rfl ?_
  clear E a; intro a E
  refine WL_nil ?_
  refine T_n ?_
  refine WP_seq ?_
  refine WP_region ?_
  refine S_v E rfl (R_move E rfl) rfl ?_
  clear E a; intro a E
  refine S_v E rfl (R_assign E rfl) rfl ?_
  clear E a; intro a E
  refine WL_nil ?_
  refine T_n ?_
  refine WP_ret ?_
  exact F_ret1 E Tryz.results91 rfl ⟨_, rfl, M1, (Hp.le.refl _), rfl, S⟩

set_option maxRecDepth 100000 in
set_option maxHeartbeats 4000000 in
theorem it_CountValues {M : Hp} {v0 : Value} {l0 : List Int} (h0 : SeqV Tryz.prog v0 M (RInt) l0) (hb : l0.length ≤ 1000000000000) :
    Pu Tryz.prog (.func (.func 60) #[] #[]) M [v0] (fun r M' => RdM M' r (encE (Value.int .i64) (upM (fun x => x) [] l0))) := by
  refine Pu_enter Tryz.func60 rfl Tryz.ntmps60 rfl Tryz.call60 ?_
  intro a w M1 H hM1 S E
  replace h0 := h0.le hM1
  refine WP_seq ?_
  refine WP_region ?_
  refine S_v E rfl (R_assign E rfl) rfl ?_
  clear E a; intro a E
  refine WL_nil ?_
  refine T_n ?_
  refine WP_seq ?_
  refine WP_region ?_
  refine S_v E rfl (R_move E rfl) rfl ?_
  clear E a; intro a E
  refine S_x (X_pu E S rfl rfl rfl (it_CountValuesBy h0 ⟨rfl, fun zx0 => it_CountValues1 (x0 := zx0) ⟩ (by (first | omega | (simp; omega) | (simp; done) | (simp_all; omega) | grind))) (Hp.le.refl _) ?_)
  clear E a S; rintro a v_2 w M_1 hM_1 hv_2 S E
  replace h0 := h0.le hM_1
  refine S_v E rfl (R_assign E rfl) rfl ?_
  clear E a; intro a E
  refine WL_nil ?_
  refine T_n ?_
  refine WP_ret ?_
  exact F_ret1 E Tryz.results60 rfl ⟨_, rfl, M_1, hM_1, hv_2, S⟩

set_option maxRecDepth 100000 in
set_option maxHeartbeats 4000000 in
theorem impl_CountValuesSeq {M : Hp} {v0 : Value} {l0 : List Int} (h0 : RdI M v0 l0) (hb : l0.length ≤ 1000000000000) :
    Pu Tryz.prog (.func (.func 25) #[] #[]) M [v0] (fun r M' => RdS 2 RP2 M' r (srtK Prod.fst (upM (fun x => x) [] l0))) := by
  refine Pu_enter Tryz.func25 rfl Tryz.ntmps25 rfl Tryz.call25 ?_
  intro a w M1 H hM1 S E
  replace h0 := h0.le hM1
  have b0 := h0.bound
  refine WP_seq ?_
  refine WP_region ?_
  refine S_v E rfl (R_assign E rfl) rfl ?_
  clear E a; intro a E
  refine WL_nil ?_
  refine T_n ?_
  refine WP_seq ?_
  refine WP_region ?_
  refine S_v E rfl (R_move E rfl) rfl ?_
  clear E a; intro a E
  refine S_x (X_pu E S rfl rfl rfl (slices_Values h0) (Hp.le.refl _) ?_)
  clear E a S; rintro a v_2 w M_1 hM_1 hv_2 S E
  replace h0 := h0.le hM_1
  refine S_x (X_pu E S rfl rfl rfl (it_CountValues hv_2 (by (first | omega | (simp; omega) | (simp; done) | (simp_all; omega) | grind))) (Hp.le.refl _) ?_)
  clear E a S; rintro a v_4 w M_3 hM_3 hv_4 S E
  replace h0 := h0.le hM_3
  replace hv_2 := hv_2.le hM_3
  refine S_x (X_pu E S rfl rfl rfl (impl_pairs hv_4 (by first | omega | (exact bigE _ l0 (by first | (rw [ixm_len]; exact Nat.le_refl _) | exact kpix_len _ _ _ | (rw [List.length_map]; exact Nat.le_refl _)) (by omega)) | exact Nat.le_trans (mkE_len _) (by omega) | (exact Nat.le_trans (lk_len (by assumption) (by assumption)) (by first | omega | exact Nat.le_trans (fl_mk _ _) (by omega))) | exact Nat.le_trans (mk_perm_len (by assumption)) (by omega) | exact Nat.le_trans (Nat.le_trans (lk_len (by assumption) (by assumption)) (mkl_len _ _)) (by omega) | (first | omega | (simp; omega) | (simp; done) | (simp_all; omega) | grind) | exact Nat.le_trans (upM_len _ _) (by omega))) (Hp.le.refl _) ?_)
  clear E a S; rintro a v_6 w M_5 hM_5 hv_6 S E
  replace h0 := h0.le hM_5
  replace hv_2 := hv_2.le hM_5
  replace hv_4 := hv_4.le hM_5
  refine S_v E rfl (R_assign E rfl) rfl ?_
  clear E a; intro a E
  refine WL_nil ?_
  refine T_n ?_
  refine WP_ret ?_
  exact F_ret1 E Tryz.results25 rfl ⟨_, rfl, M_5, (hM_1.trans (hM_3.trans hM_5)), hv_6, S⟩

set_option maxRecDepth 100000 in
set_option maxHeartbeats 4000000 in
theorem lo_Keyify {M : Hp} {v0 : Value} {l0 : List Int} (h0 : RdI M v0 l0) :
    Sp Tryz.prog (.func (.func 62) #[] #[]) M [v0] [] (fun r M' C' => ∃ b, r = .map (some b) ∧ C' = [OwnS b (keyL l0)]) := by
  refine Sp_enter Tryz.func62 rfl Tryz.ntmps62 rfl Tryz.call62 ?_
  intro a w M1 H hM1 S E
  replace h0 := h0.le hM1
  have b0 := h0.bound
  refine WP_seq ?_
  refine WP_region ?_
  refine S_v E rfl (R_assign E rfl) rfl ?_
  clear E a; intro a E
  refine WL_nil ?_
  refine T_n ?_
  refine WP_seq ?_
  refine WP_region ?_
  refine S_v E rfl (R_move E rfl) rfl ?_
  clear E a; intro a E
  refine S_v E rfl (R_lenV E rfl T22 h0.len) rfl ?_
  clear E a; intro a E
  refine S_x (X_makeMapR E S rfl MT67 rfl ?_)
  clear E a S; rintro a w b_1 E S
  replace S : St w M1 (OwnS b_1 ([] : List Int) :: _) := S
  refine S_v E rfl (R_assign E rfl) rfl ?_
  clear E a; intro a E
  refine WL_nil ?_
  refine T_n ?_
  refine WP_seq ?_
  refine WP_seq ?_
  refine WP_region ?_
  refine S_v E rfl (R_move E rfl) rfl ?_
  clear E a; intro a E
  refine S_v E rfl (R_lenV E rfl T22 h0.len) rfl ?_
  clear E a; intro a E
  refine S_v E rfl (R_move E rfl) rfl ?_
  clear E a; intro a E
  refine WL_nil ?_
  refine T_n ?_
  refine WP_block ?_
  replace S := S.reM (L' := (Sl.encS (keyL (l0.take 0)))) (congrArg Sl.encS (show ([] : List Int) = keyL (l0.take 0) by first | (simp [keyL]; done) | exact (keyL_succ (by assumption)).symm))
  refine WP_loop (γ := Nat) (fun (k : Nat) a w => ∃ (M_2 : Hp), Hp.le M1 M_2 ∧ St w M_2 (OwnS b_1 (keyL (l0.take k)) :: H) ∧ Env a 21 [] [(0, v0), (3, .map (some b_1)), (9, .int .i64 (((l0).length : Nat) : Int)), (10, .int .i64 ((k : Nat) : Int))] ∧ (k ≤ (l0).length)) (fun k => ((l0).length) - k) 0 ⟨M1, Hp.le.refl _, S, E.keep ⟨rfl, rfl, rfl, rfl, trivial⟩, by ((try clear S); (try clear E); first | assumption | omega | rfl | (simp; done) | (simp_all; done) | (simp [List.take_add_one, *]; done) | grind [List.take_add_one])⟩ ?_
  try clear E
  try clear S
  try clear a
  try clear w
  rintro k a w ⟨M_2, hM_2, S, E, hL0_0⟩
  replace h0 := h0.le hM_2
  refine WP_seq ?_
  refine WP_region ?_
  refine S_v E rfl (R_lss E rfl rfl) rfl ?_
  clear E a; intro a E
  refine WL_nil ?_
  refine T_n ?_
  refine WP_seq ?_
  refine WP_cond E rfl (fun hc_3 => ?_) (fun hc_3 => ?_)
  · replace hc_3 := of_decide_eq_true hc_3
    refine WP_skip ?_
    refine T_n ?_
    refine WP_seq ?_
    refine WP_block ?_
    refine WP_seq ?_
    refine WP_region ?_
    refine S_v E rfl (R_move E rfl) rfl ?_
    clear E a; intro a E
    refine S_v E rfl (R_assign E rfl) rfl ?_
    clear E a; intro a E
    refine WL_nil ?_
    refine T_n ?_
    refine WP_region ?_
    refine S_v E rfl (R_move E rfl) rfl ?_
    clear E a; intro a E
    refine S_v E rfl (R_move E rfl) rfl ?_
    clear E a; intro a E
    refine S_v E rfl (R_move E rfl) rfl ?_
    clear E a; intro a E
    obtain ⟨x_4, hx_4⟩ : ∃ x, (l0)[k]? = some x := ⟨_, List.getElem?_eq_getElem (by first | omega | (simp; done) | (simp; omega) | (simp_all; omega))⟩
    obtain ⟨p_5, hp_5, qp_5⟩ := h0.at hx_4
    refine S_v E rfl (R_idx E rfl rfl T22 hp_5 rfl) rfl ?_
    clear E a; intro a E
    refine S_v E rfl (R_loadM E rfl Tryz.isAgg3 S.imm qp_5) rfl ?_
    clear E a; intro a E
    refine S_v E rfl (R_build (u := .agg #[]) (vs := []) E rfl (fun w => FB80__  w)) rfl ?_
    clear E a; intro a E
    refine S_x0 (X_updateS E S MT67 rfl rfl rfl ?_)
    clear E a S; rintro a w E S
    refine WL_nil ?_
    refine B_n ?_
    refine T_n ?_
    refine WP_region ?_
    refine S_v E rfl (R_addx (m := ((k + 1 : Nat) : Int)) E rfl rfl (by omega) (by omega)) rfl ?_
    clear E a; intro a E
    refine S_v E rfl (R_move E rfl) rfl ?_
    clear E a; intro a E
    refine WL_nil ?_
    refine T_n ?_
    replace S := S.reM (L' := (Sl.encS (keyL (l0.take (k + 1))))) (congrArg Sl.encS (show addS (keyL (l0.take k)) x_4 = keyL (l0.take (k + 1)) by first | (simp [keyL]; done) | exact (keyL_succ (by assumption)).symm))
    exact ⟨k + 1, ⟨M_2, hM_2, S, E.keep ⟨rfl, rfl, rfl, rfl, trivial⟩, by ((try clear S); (try clear E); first | assumption | omega | rfl | (simp; done) | (simp_all; done) | (simp [List.take_add_one, *]; done) | grind [List.take_add_one])⟩, by omega⟩
  · replace hc_3 := of_decide_eq_false hc_3
    refine WP_exit ?_
    refine T_x ?_
    refine T_x ?_
    refine B_x ?_
    refine T_n ?_
    refine WP_seq ?_
    refine WP_region ?_
    refine S_v E rfl (R_move E rfl) rfl ?_
    clear E a; intro a E
    refine S_v E rfl (R_assign E rfl) rfl ?_
    clear E a; intro a E
    refine WL_nil ?_
    refine T_n ?_
    refine WP_ret ?_
    replace S := S.reM (L' := (Sl.encS (keyL l0))) (congrArg Sl.encS (show keyL (l0.take k) = keyL l0 by (rw [List.take_of_length_le (by omega)])))
    exact F_ret1 E Tryz.results62 rfl ⟨_, rfl, M_2, _, hM_2, ⟨_, rfl, rfl⟩, S⟩

set_option maxRecDepth 100000 in
set_option maxHeartbeats 4000000 in
def Tryz.lsort_ren : Go.Shelf.Ren := ⟨fun | 5 => 105 | 8 => 103 | 7 => 127 | 19 => 117 | 20 => 118 | 10 => 133 | 11 => 134 | 12 => 135 | 13 => 136 | 14 => 137 | 15 => 138 | 16 => 139 | 17 => 140 | 18 => 141 | 30 => 143 | 31 => 144 | 32 => 145 | 33 => 146 | 34 => 147 | 35 => 148 | 40 => 149 | n => n, fun | 23 => 22 | 25 => 3 | 3 => 3 | 32 => 107 | 22 => 22 | 0 => 0 | 44 => 115 | 46 => 117 | 4 => 4 | 36 => 135 | 35 => 134 | 41 => 124 | 5 => 5 | 9 => 9 | 53 => 143 | 57 => 131 | 63 => 146 | 64 => 141 | n => n, fun | n => n⟩
set_option maxRecDepth 100000 in
set_option maxHeartbeats 4000000 in
theorem Tryz.lsort : Go.Proofs.SlLaysM.n5 Tryz.prog Tryz.lsort_ren := {
  mixed := by kernel_rfl,
  f5 := ⟨Tryz.f105.name, by decide, Tryz.func105.trans (congrArg some (by kernel_rfl))⟩,
  f7 := ⟨Tryz.f127.name, by decide, Tryz.func127.trans (congrArg some (by kernel_rfl))⟩,
  f8 := Tryz.func103.trans (congrArg some (by kernel_rfl)),
  f10 := ⟨Tryz.f133.name, by decide, Tryz.func133.trans (congrArg some (by kernel_rfl))⟩,
  f11 := ⟨Tryz.f134.name, by decide, Tryz.func134.trans (congrArg some (by kernel_rfl))⟩,
  f12 := ⟨Tryz.f135.name, by decide, Tryz.func135.trans (congrArg some (by kernel_rfl))⟩,
  f13 := ⟨Tryz.f136.name, by decide, Tryz.func136.trans (congrArg some (by kernel_rfl))⟩,
  f14 := ⟨Tryz.f137.name, by decide, Tryz.func137.trans (congrArg some (by kernel_rfl))⟩,
  f15 := ⟨Tryz.f138.name, by decide, Tryz.func138.trans (congrArg some (by kernel_rfl))⟩,
  f16 := ⟨Tryz.f139.name, by decide, Tryz.func139.trans (congrArg some (by kernel_rfl))⟩,
  f17 := ⟨Tryz.f140.name, by decide, Tryz.func140.trans (congrArg some (by kernel_rfl))⟩,
  f18 := ⟨Tryz.f141.name, by decide, Tryz.func141.trans (congrArg some (by kernel_rfl))⟩,
  f19 := Tryz.func117.trans (congrArg some (by kernel_rfl)),
  f20 := Tryz.func118.trans (congrArg some (by kernel_rfl)),
  f30 := ⟨Tryz.f143.name, by decide, Tryz.func143.trans (congrArg some (by kernel_rfl))⟩,
  f31 := Tryz.func144.trans (congrArg some (by kernel_rfl)),
  f32 := Tryz.func145.trans (congrArg some (by kernel_rfl)),
  f33 := ⟨Tryz.f146.name, by decide, Tryz.func146.trans (congrArg some (by kernel_rfl))⟩,
  f34 := ⟨Tryz.f147.name, by decide, Tryz.func147.trans (congrArg some (by kernel_rfl))⟩,
  f35 := ⟨Tryz.f148.name, by decide, Tryz.func148.trans (congrArg some (by kernel_rfl))⟩,
  f40 := ⟨Tryz.f149.name, by decide, Tryz.func149.trans (congrArg some (by kernel_rfl))⟩,
  t0 := Tryz.underlying0,
  a0 := Tryz.isAgg0,
  z0 := Tryz.sizeOf0,
  v0 := Tryz.zeroValue0,
  t3 := Tryz.underlying3,
  a3 := Tryz.isAgg3,
  z3 := Tryz.sizeOf3,
  v3 := Tryz.zeroValue3,
  t4 := Tryz.underlying4,
  a4 := Tryz.isAgg4,
  z4 := Tryz.sizeOf4,
  v4 := Tryz.zeroValue4,
  t5 := Tryz.underlying5,
  a5 := Tryz.isAgg5,
  z5 := Tryz.sizeOf5,
  v5 := Tryz.zeroValue5,
  t9 := Tryz.underlying9,
  a9 := Tryz.isAgg9,
  z9 := Tryz.sizeOf9,
  v9 := Tryz.zeroValue9,
  t22 := Tryz.underlying22,
  a22 := Tryz.isAgg22,
  z22 := Tryz.sizeOf22,
  v22 := Tryz.zeroValue22,
  t23 := Tryz.underlying22,
  a23 := Tryz.isAgg22,
  z23 := Tryz.sizeOf22,
  v23 := Tryz.zeroValue22,
  t25 := Tryz.underlying3,
  a25 := Tryz.isAgg3,
  z25 := Tryz.sizeOf3,
  v25 := Tryz.zeroValue3,
  t32 := Tryz.underlying107,
  a32 := Tryz.isAgg107,
  z32 := Tryz.sizeOf107,
  v32 := Tryz.zeroValue107,
  t35 := Tryz.underlying134,
  a35 := Tryz.isAgg134,
  z35 := Tryz.sizeOf134,
  v35 := Tryz.zeroValue134,
  t36 := Tryz.underlying135,
  a36 := Tryz.isAgg135,
  z36 := Tryz.sizeOf135,
  v36 := Tryz.zeroValue135,
  t41 := Tryz.underlying124,
  a41 := Tryz.isAgg124,
  z41 := Tryz.sizeOf124,
  v41 := Tryz.zeroValue124,
  t44 := Tryz.underlying115,
  a44 := Tryz.isAgg115,
  z44 := Tryz.sizeOf115,
  v44 := Tryz.zeroValue115,
  t46 := Tryz.underlying117,
  a46 := Tryz.isAgg117,
  z46 := Tryz.sizeOf117,
  v46 := Tryz.zeroValue117,
  t53 := Tryz.underlying143,
  a53 := Tryz.isAgg143,
  z53 := Tryz.sizeOf143,
  v53 := Tryz.zeroValue143,
  t57 := Tryz.underlying131,
  a57 := Tryz.isAgg131,
  z57 := Tryz.sizeOf131,
  v57 := Tryz.zeroValue131,
  t63 := Tryz.underlying146,
  a63 := Tryz.isAgg146,
  z63 := Tryz.sizeOf146,
  v63 := Tryz.zeroValue146,
  t64 := Tryz.underlying141,
  a64 := Tryz.isAgg141,
  z64 := Tryz.sizeOf141,
  v64 := Tryz.zeroValue141 }
theorem slices_Sort {M : Hp} {v0 : Value} {l0 : List Int} (b0 : l0.length ≤ 1000000000000) :
    Sp Tryz.prog (.func (.func 105) #[] #[]) M [v0] [OwnI 3 v0 l0] (fun r M' C' => C' = [OwnI 3 v0 (srtM l0)]) :=
  sort_sp Tryz.call105 (fun blk off cap zs w a b c => AnyM.slices_Sort_int Tryz.lsort blk off cap zs w a b c) (fun p cap w => AnyM.slices_Sort_int_none Tryz.lsort p cap w) b0

set_option maxRecDepth 100000 in
set_option maxHeartbeats 4000000 in
theorem sort_Ints {M : Hp} {v0 : Value} {l0 : List Int} (b0 : l0.length ≤ 1000000000000) :
    Sp Tryz.prog (.func (.func 92) #[] #[]) M [v0] [OwnI 3 v0 l0] (fun r M' C' => C' = [OwnI 3 v0 (srtM l0)]) := by
  refine Sp_enter Tryz.func92 rfl Tryz.ntmps92 rfl Tryz.call92 ?_
  intro a w M1 H hM1 S E
  replace S : St w M1 (OwnI 3 v0 l0 :: _) := S
  refine WP_region ?_
  refine S_v E rfl (R_move E rfl) rfl ?_
  clear E a; intro a E
  refine S_x (X_sp (p := [OwnI 3 v0 l0]) E S rfl rfl rfl (slices_Sort (by (first | omega | (simp; omega) | (simp; done) | (simp_all; omega) | grind))) (Hp.le.refl _) ?_)
  clear E a S; rintro a v_2 w M_1 _ hM_1 rfl S E
  replace S : St w M_1 (OwnI 3 v0 (srtM l0) :: _) := S
  refine WL_nil ?_
  refine F_nrm ?_
  exact F_ret0 E Tryz.results92 ⟨_, rfl, M_1, _, hM_1, rfl, S⟩

set_option maxRecDepth 100000 in
set_option maxHeartbeats 4000000 in
theorem impl_keys {M : Hp} {m0 : Value} {q0 : List Int} (hm0 : RdM M m0 (Sl.encS q0)) (hb : q0.length ≤ 1000000000000) :
    Pu Tryz.prog (.func (.func 61) #[] #[]) M [m0] (fun r M' => RdI M' r (srtM q0)) := by
  refine Pu_enter Tryz.func61 rfl Tryz.ntmps61 rfl Tryz.call61 ?_
  intro a w M1 H hM1 S E
  replace hm0 := hm0.le hM1
  refine WP_seq ?_
  refine WP_region ?_
  refine S_v E rfl (R_assign E rfl) rfl ?_
  clear E a; intro a E
  refine WL_nil ?_
  refine T_n ?_
  refine WP_seq ?_
  refine WP_region ?_
  refine S_v E rfl (R_assign E rfl) rfl ?_
  clear E a; intro a E
  refine WL_nil ?_
  refine T_n ?_
  refine WP_seq ?_
  refine WP_seq ?_
  refine WP_region ?_
  refine S_v E rfl (R_move E rfl) rfl ?_
  clear E a; intro a E
  refine S_x (X_range E S rfl MT67 hm0 rfl ?_)
  clear E a S; rintro a w i_1 es_2 ck_3 E hf_4 S
  replace S : St w M1 (ItO m0 es_2 ck_3 i_1 (Sl.encS ([] : List Int)) :: _) := S
  refine WL_nil ?_
  refine T_n ?_
  refine WP_block ?_
  replace S := (S.ownNil (e := 3) (sz := 1)).made0
  replace S := S.front1
  replace S := S.front1
  replace S := S.re1 (l' := []) (by first | rfl | (simp; done))
  replace S := S.front1
  replace S := S.reIt (p' := (Sl.encS [])) (congrArg Sl.encS (show ([] : List Int) = [] by first | rfl | (simp; done)))
  refine WP_loop (γ := List Int) (fun (p : List Int) a w => ∃ (M_6 : Hp) (u3 : Value), Hp.le M1 M_6 ∧ St w M_6 (ItO m0 es_2 ck_3 i_1 (Sl.encS p) :: OwnI 3 u3 p :: H) ∧ Env a 18 [] [(3, u3), (6, .pointer (some ⟨i_1, 0, none⟩))] ∧ (p.Nodup) ∧ (∀ z ∈ p, z ∈ q0) ∧ (p.length ≤ q0.length)) (fun p => q0.length - p.length) [] ⟨M1, _, Hp.le.refl _, S, E.keep ⟨rfl, rfl, trivial⟩, (by simp), (by simp), (by simp)⟩ ?_
  try clear E
  try clear S
  try clear a
  try clear w
  rintro p a w ⟨M_6, u3, hM_6, S, E, hL0_0, hL0_1, hL0_2⟩
  replace hm0 := hm0.le hM_6
  replace hf_4 := hf_4.le hM_6
  refine WP_seq ?_
  refine WP_region ?_
  refine S_x (X_nextS E S rfl hf_4 rfl (by assumption) (by assumption) ?_ ?_)
  · clear E a S; rintro a E hpm_7 S
    refine S_v E rfl (R_extract E rfl rfl) rfl ?_
    clear E a; intro a E
    refine WL_nil ?_
    refine T_n ?_
    refine WP_seq ?_
    refine WP_condF E rfl rfl ?_
    refine WP_exit ?_
    refine T_x ?_
    refine T_x ?_
    refine B_x ?_
    refine T_n ?_
    refine WP_seq ?_
    refine WP_region ?_
    refine S_v E rfl (R_move E rfl) rfl ?_
    clear E a; intro a E
    replace S := S.front1
    refine S_x (X_sp (p := [OwnI 3 u3 p]) E S rfl rfl rfl (sort_Ints (by (first | omega | (simp; omega) | (simp; done) | (simp_all; omega) | grind))) (Hp.le.refl _) ?_)
    clear E a S; rintro a v_9 w M_8 _ hM_8 rfl S E
    replace S : St w M_8 (OwnI 3 u3 (srtM p) :: _) := S
    replace hm0 := hm0.le hM_8
    replace hf_4 := hf_4.le hM_8
    refine WL_nil ?_
    refine T_n ?_
    refine WP_seq ?_
    refine WP_region ?_
    refine S_v E rfl (R_move E rfl) rfl ?_
    clear E a; intro a E
    refine S_v E rfl (R_assign E rfl) rfl ?_
    clear E a; intro a E
    refine WL_nil ?_
    refine T_n ?_
    refine WP_ret ?_
    have S0 := S; clear S
    obtain ⟨M_10, hM_10, hz_11, S⟩ := S0.freezeI (by (first | (rw [srtM_len]; omega) | omega | (simp; omega)))
    clear S0
    replace hm0 := hm0.le hM_10
    replace hf_4 := hf_4.le hM_10
    exact F_ret1 E Tryz.results61 rfl ⟨_, rfl, M_10, (hM_6.trans (hM_8.trans hM_10)), (by rw [show (srtM q0) = (srtM p) from by (first | exact srtM_perm_eq (by assumption) | exact (srtM_perm_eq (by assumption)).symm)]; exact hz_11), S.drop⟩
  · clear E a S w; rintro a w k_12 E hk_13 hk_13n hk_13l S
    refine S_v E rfl (R_extract E rfl rfl) rfl ?_
    clear E a; intro a E
    refine WL_nil ?_
    refine T_n ?_
    refine WP_seq ?_
    refine WP_condT E rfl rfl ?_
    refine WP_skip ?_
    refine T_n ?_
    refine WP_block ?_
    refine WP_seq ?_
    refine WP_region ?_
    refine S_v E rfl (R_entry (k := k_12) (v := .agg #[]) E (by have S1 := S; simp only [Sl.encS, List.map_append, List.map_cons, List.map_nil] at S1; exact S1) hf_4 rfl) rfl ?_
    clear E a; intro a E
    refine S_v E rfl (R_extract E rfl rfl) rfl ?_
    clear E a; intro a E
    refine S_v E rfl (R_assign E rfl) rfl ?_
    clear E a; intro a E
    refine WL_nil ?_
    refine T_n ?_
    refine WP_region ?_
    refine S_v E rfl (R_move E rfl) rfl ?_
    clear E a; intro a E
    refine S_v E rfl (R_move E rfl) rfl ?_
    clear E a; intro a E
    refine S_x (X_buildI (ys := [k_12]) E S rfl T22 rfl rfl rfl ?_)
    clear E a S; rintro a w v_14 E S
    replace S := S.front2
    replace S := S.front1
    refine S_x (X_appendB (xs := p) (ys := [k_12]) E S rfl rfl rfl T22 (by first | omega | (simp; done) | (simp; omega) | (simp_all; omega)) ?_)
    clear E a S; rintro a w v_15 E S
    refine S_v E rfl (R_assign E rfl) rfl ?_
    clear E a; intro a E
    refine WL_nil ?_
    refine B_n ?_
    refine T_n ?_
    replace S := S.front1
    replace S := S.front1
    replace S := S.re1 (l' := (p ++ [k_12])) (by first | rfl | (simp; done))
    replace S := S.front1
    replace S := S.reIt (p' := (Sl.encS (p ++ [k_12]))) (congrArg Sl.encS (show p ++ [k_12] = (p ++ [k_12]) by first | rfl | (simp; done)))
    exact ⟨(p ++ [k_12]), ⟨M_6, _, hM_6, S, E.keep ⟨rfl, rfl, trivial⟩, (by exact snocN (by assumption) (by assumption)), (by exact snocS (by assumption) (by assumption)), (by simp; omega)⟩, (by simp; omega)⟩

set_option maxRecDepth 100000 in
set_option maxHeartbeats 4000000 in
theorem impl_Keyify {M : Hp} {v0 : Value} {l0 : List Int} (h0 : RdI M v0 l0) (hb : l0.length ≤ 1000000000000) :
    Pu Tryz.prog (.func (.func 26) #[] #[]) M [v0] (fun r M' => RdI M' r (srtM (keyL l0))) := by
  refine Pu_enter Tryz.func26 rfl Tryz.ntmps26 rfl Tryz.call26 ?_
  intro a w M1 H hM1 S E
  replace h0 := h0.le hM1
  have b0 := h0.bound
  have hkl := keyL_le' l0
  refine WP_seq ?_
  refine WP_region ?_
  refine S_v E rfl (R_assign E rfl) rfl ?_
  clear E a; intro a E
  refine WL_nil ?_
  refine T_n ?_
  refine WP_seq ?_
  refine WP_region ?_
  refine S_v E rfl (R_move E rfl) rfl ?_
  clear E a; intro a E
  refine S_x (X_sp (p := []) E S rfl rfl rfl (lo_Keyify h0) (Hp.le.refl _) ?_)
  clear E a S; rintro a _ w M_1 _ hM_1 ⟨v_2, rfl, rfl⟩ S E
  replace S : St w M_1 (OwnS v_2 (keyL l0) :: _) := S
  replace h0 := h0.le hM_1
  have S0 := S; clear S
  obtain ⟨M_3, hM_3, hm_4, S⟩ := S0.freezeM
  clear S0
  replace h0 := h0.le hM_3
  refine S_x (X_pu E S rfl rfl rfl (impl_keys hm_4 (by (first | omega | (simp; omega) | (simp; done) | (simp_all; omega) | grind))) (Hp.le.refl _) ?_)
  clear E a S; rintro a v_6 w M_5 hM_5 hv_6 S E
  replace h0 := h0.le hM_5
  replace hm_4 := hm_4.le hM_5
  refine S_v E rfl (R_assign E rfl) rfl ?_
  clear E a; intro a E
  refine WL_nil ?_
  refine T_n ?_
  refine WP_ret ?_
  exact F_ret1 E Tryz.results26 rfl ⟨_, rfl, M_5, (hM_1.trans (hM_3.trans hM_5)), hv_6, S⟩

set_option maxRecDepth 100000 in
set_option maxHeartbeats 4000000 in
theorem it_Keyify {M : Hp} {v0 : Value} {l0 : List Int} (h0 : SeqV Tryz.prog v0 M (RInt) l0) :
    Pu Tryz.prog (.func (.func 63) #[] #[]) M [v0] (fun r M' => RdM M' r (Sl.encS (keyL l0))) := by
  refine Pu_enter Tryz.func63 rfl Tryz.ntmps63 rfl Tryz.call63 ?_
  intro a w M1 H hM1 S E
  replace h0 := h0.le hM1
  replace S : St w M1 (mks [] :: _) := S.empty
  replace E : Env a 12 (([] : List Nat).map mk) _ := E
  refine WP_seq ?_
  refine WP_region ?_
  refine S_v E rfl (R_assign E rfl) rfl ?_
  clear E a; intro a E
  refine WL_nil ?_
  refine T_n ?_
  refine WP_seq ?_
  refine WP_region ?_
  refine S_x (X_makeMap E S rfl ?_)
  clear E a S; rintro a w b_1 E S
  replace S : St w M1 (OwnS b_1 ([] : List Int) :: _) := S
  refine S_x (X_alloc (cs := #[.map none]) E S rfl Tryz.zeroValue67 rfl ?_)
  clear E a S; rintro a w b_2 E S
  refine S_x0 (X_store E S rfl rfl (Tryz.sizeOf67 _) rfl ?_)
  clear E a S; rintro a w E S
  refine WL_nil ?_
  refine T_n ?_
  refine WP_seq ?_
  refine WP_seq ?_
  refine WP_region ?_
  refine S_v E rfl (R_move E rfl) rfl ?_
  clear E a; intro a E
  refine WL_nil ?_
  refine T_n ?_
  refine WP_block ?_
  replace S := S.front1
  replace S := S.front1
  replace E := E.keep (l' := [(3, .pointer (some ⟨b_2, 0, none⟩)), (6, v0)]) ⟨rfl, rfl, trivial⟩
  replace S := S.front1
  replace S := S.reM (L' := (Sl.encS (keyL (([] : List Int))))) (congrArg Sl.encS (show ([] : List Int) = keyL (([] : List Int)) by first | (simp [keyL]; done) | exact (keyL_app1 _ _).symm))
  replace S := S.front1
  have S0 := S; clear S; have S := St.pack [blk b_2 (.cells #[.map (some b_1)] 67), OwnS b_1 (keyL (([] : List Int)))] S0; clear S0
  refine WP_range (RV := RInt) (l := l0) (fun pre M c => c = bigs [blk b_2 (.cells #[.map (some b_1)] 67), OwnS b_1 (keyL (pre))]) (fun _ _ _ _ => False) E S rfl h0 (Hp.le.refl _) (fun _ _ _ h => by rw [h]; rfl) (by decide) (by rintro _ M M' c hM rfl; exact rfl) rfl ?_ ?_ ?_
  clear E S
  · rintro lb_4 rec_5 pre x _ a w M_3 _ G hM_3 hp_6 rfl rfl E S
    replace E : Env a 12 [] [(7, .int .i64 x), (3, .pointer (some ⟨b_2, 0, none⟩)), (6, v0)] := E
    replace S := S.swap.unpack2
    have hq0 := prefix_lt hp_6
    replace h0 := h0.le hM_3
    refine WP_region ?_
    refine S_v E rfl (R_assign E rfl) rfl ?_
    clear E a; intro a E
    refine WL_nil ?_
    refine T_n ?_
    replace S := S.front2
    refine rb S ?_
    clear S; intro w S
    refine WP_block ?_
    refine WP_region ?_
    refine S_v E rfl (R_load E rfl (Tryz.isAgg67 _) (cell_blk (S.mem (.tail _ (.head _))))) rfl ?_
    clear E a; intro a E
    refine S_v E rfl (R_move E rfl) rfl ?_
    clear E a; intro a E
    refine S_v E rfl (R_build (u := .agg #[]) (vs := []) E rfl (fun w => FB80__  w)) rfl ?_
    clear E a; intro a E
    replace S := S.front2
    refine S_x0 (X_updateS E S MT67 rfl rfl rfl ?_)
    clear E a S; rintro a w E S
    refine WL_nil ?_
    refine B_n ?_
    replace S := S.front2
    replace S := S.front1
    replace S := S.reM (L' := (Sl.encS (keyL ((pre ++ [x]))))) (congrArg Sl.encS (show addS (keyL (pre)) x = keyL ((pre ++ [x])) by first | (simp [keyL]; done) | exact (keyL_app1 _ _).symm))
    replace S := S.front1
    have S0 := S; clear S; have S := (St.pack [blk b_2 (.cells #[.map (some b_1)] 67), OwnS b_1 (keyL ((pre ++ [x])))] S0).swap; clear S0
    exact ⟨M_3, _, (Hp.le.refl _), rfl, S⟩
  · rintro a w M_8 _ D_9 hM_8 rfl S E
    replace S := S.unpack2
    replace h0 := h0.le hM_8
    refine B_n ?_
    refine T_n ?_
    refine WP_seq ?_
    refine WP_region ?_
    refine S_v E rfl (R_load E rfl (Tryz.isAgg67 _) (cell_blk (S.mem (.head _)))) rfl ?_
    clear E a; intro a E
    refine S_v E rfl (R_assign E rfl) rfl ?_
    clear E a; intro a E
    refine WL_nil ?_
    refine T_n ?_
    refine WP_ret ?_
    replace S := S.front1
    have S0 := S; clear S
    obtain ⟨M_10, hM_10, hm_11, S⟩ := S0.freezeM
    clear S0
    replace h0 := h0.le hM_10
    replace S := S.drop
    exact F_retM1 E S Tryz.results63 rfl (fun w S => ⟨_, rfl, M_10, (hM_8.trans hM_10), (by rw [show (keyL l0) = (keyL (l0)) from by ((try clear S); (try clear E); first | rfl | (simp; done) | (simp_all; done) | grind [List.take_add_one])]; exact hm_11), S⟩)
  · rintro _ _ _ _ _ _ _ _ _ hX; exact hX.elim

set_option maxRecDepth 100000 in
set_option maxHeartbeats 4000000 in
theorem impl_KeyifySeq {M : Hp} {v0 : Value} {l0 : List Int} (h0 : RdI M v0 l0) (hb : l0.length ≤ 1000000000000) :
    Pu Tryz.prog (.func (.func 27) #[] #[]) M [v0] (fun r M' => RdI M' r (srtM (keyL l0))) := by
  refine Pu_enter Tryz.func27 rfl Tryz.ntmps27 rfl Tryz.call27 ?_
  intro a w M1 H hM1 S E
  replace h0 := h0.le hM1
  have b0 := h0.bound
  have hkl := keyL_le' l0
  refine WP_seq ?_
  refine WP_region ?_
  refine S_v E rfl (R_assign E rfl) rfl ?_
  clear E a; intro a E
  refine WL_nil ?_
  refine T_n ?_
  refine WP_seq ?_
  refine WP_region ?_
  refine S_v E rfl (R_move E rfl) rfl ?_
  clear E a; intro a E
  refine S_x (X_pu E S rfl rfl rfl (slices_Values h0) (Hp.le.refl _) ?_)
  clear E a S; rintro a v_2 w M_1 hM_1 hv_2 S E
  replace h0 := h0.le hM_1
  refine S_x (X_pu E S rfl rfl rfl (it_Keyify hv_2) (Hp.le.refl _) ?_)
  clear E a S; rintro a v_4 w M_3 hM_3 hv_4 S E
  replace h0 := h0.le hM_3
  replace hv_2 := hv_2.le hM_3
  refine S_x (X_pu E S rfl rfl rfl (impl_keys hv_4 (by (first | omega | (simp; omega) | (simp; done) | (simp_all; omega) | grind))) (Hp.le.refl _) ?_)
  clear E a S; rintro a v_6 w M_5 hM_5 hv_6 S E
  replace h0 := h0.le hM_5
  replace hv_2 := hv_2.le hM_5
  replace hv_4 := hv_4.le hM_5
  refine S_v E rfl (R_assign E rfl) rfl ?_
  clear E a; intro a E
  refine WL_nil ?_
  refine T_n ?_
  refine WP_ret ?_
  exact F_ret1 E Tryz.results27 rfl ⟨_, rfl, M_5, (hM_1.trans (hM_3.trans hM_5)), hv_6, S⟩

set_option maxRecDepth 100000 in
set_option maxHeartbeats 4000000 in
theorem laws_FnUniques {M : Hp} {v0 : Value} {l0 : List Int} (h0 : RdI M v0 l0) (hr0 : (∀ x ∈ l0, -9223372036854775808 ≤ x ∧ x ≤ 9223372036854775807)) :
    PuC Tryz.prog 3 M [v0] (fun r M' => r = .bool true) := by
  refine PuC_enter Tryz.func3 rfl Tryz.ntmps3 rfl ?_
  intro a w M1 H hM1 S E
  replace h0 := h0.le hM1
  have b0 := h0.bound
  refine WP_seq ?_
  refine WP_region ?_
  refine S_v E rfl (R_assign E rfl) rfl ?_
  clear E a; intro a E
  refine WL_nil ?_
  refine T_n ?_
  refine WP_seq ?_
  refine WP_seq ?_
  refine WP_region ?_
  refine S_v E rfl (R_move E rfl) rfl ?_
  clear E a; intro a E
  refine S_v E rfl (R_lenV E rfl T22 h0.len) rfl ?_
  clear E a; intro a E
  refine S_v E rfl (R_gtr E rfl rfl) rfl ?_
  clear E a; intro a E
  refine WL_nil ?_
  refine T_n ?_
  refine WP_cond E rfl (fun hc_1 => ?_) (fun hc_1 => ?_)
  · replace hc_1 := of_decide_eq_true hc_1
    refine WP_seq ?_
    refine WP_region ?_
    refine S_v E rfl (R_assign E rfl) rfl ?_
    clear E a; intro a E
    refine WL_nil ?_
    refine T_n ?_
    refine WP_ret ?_
    refine T_r ?_
    exact F_ret1 E Tryz.results3 rfl ⟨_, rfl, M1, (Hp.le.refl _), rfl, S⟩
  · replace hc_1 := of_decide_eq_false hc_1
    refine WP_skip ?_
    refine T_n ?_
    refine WP_seq ?_
    refine WP_seq ?_
    refine WP_region ?_
    refine S_x (X_buildI (ys := [1, 1]) E S rfl T22 rfl rfl rfl ?_)
    clear E a S; rintro a w v_2 E S
    have S0 := S; clear S
    obtain ⟨M_3, hM_3, hz_4, S⟩ := S0.freezeI (by (first | (simp; done) | omega | (have hal := al_len l0 (l0.take k); rw [List.length_take] at hal; omega) | (have hkt := keyL_le' (l0.take k); rw [List.length_take] at hkt; omega) | (simp only [List.length_map]; have hkt := List.length_take_le j (setI l0); omega)))
    clear S0
    replace h0 := h0.le hM_3
    refine S_x (X_pu E S rfl rfl rfl (impl_Uniq hz_4 (by (first | omega | (simp; omega) | (simp; done) | (simp_all; omega) | grind))) (Hp.le.refl _) ?_)
    clear E a S; rintro a v_6 w M_5 hM_5 hv_6 S E
    replace h0 := h0.le hM_5
    replace hz_4 := hz_4.le hM_5
    refine S_v E rfl (R_lenV E rfl T22 hv_6.len) rfl ?_
    clear E a; intro a E
    refine S_v E rfl (R_neq E rfl rfl) rfl ?_
    clear E a; intro a E
    refine WL_nil ?_
    refine T_n ?_
    have hc_7 : (decide ((((keyL [1, 1]).length : Nat) : Int) ≠ 1)) = false := by (clear S E; first | (simp; done) | decide | (simp only [uqS_id]; decide) | (simp [keyL, addS]; done) | (first | refine dec_t ?_ | refine dec_f ?_ | skip); first | (rw [etk]; done) | ((try rw [etk]); first | rfl | exact su_alone _ | exact dq_doub _ | exact fu_alone _ | exact fd_doub _ | exact (sortI_key _) | exact srtM_key _ | (rw [uqS_id]; done) | (rw [fu_alone]; exact same_pq (List.Perm.refl _)) | exact td_doub _ | (rw [etj]; done) | (rw [etj]; exact cv_counts _) | (rw [etj]; rfl) | (rw [cv_counts, etj]; done)))
    refine WP_condF E rfl hc_7 ?_
    refine WP_skip ?_
    refine T_n ?_
    refine WP_seq ?_
    refine WP_seq ?_
    refine WP_region ?_
    refine S_v E rfl (R_move E rfl) rfl ?_
    clear E a; intro a E
    refine S_x (X_buildM (R := RSl 1 RInt) (vs := [v0]) (xs := [l0]) (RSl_mono RInt_mono) E S rfl T50 rfl rfl rfl (by intro u hu; simp only [List.mem_cons, List.not_mem_nil, or_false] at hu; rcases hu with rfl <;> first | exact RdI.one h0 | rfl) rfl (rowsC (R := RSl 1 RInt) (RdI.row h0) rowsN) ?_)
    clear E a S; rintro a v_8 w M_9 hM_9 hv_8 S E
    replace hv_8 : RdII M_9 v_8 [l0] := hv_8
    replace h0 := h0.le hM_9
    replace hz_4 := hz_4.le hM_9
    replace hv_6 := hv_6.le hM_9
    refine S_x (X_pu E S rfl rfl rfl (laws_few hv_8) (Hp.le.refl _) ?_)
    clear E a S; rintro a _ w M_10 hM_10 rfl S E
    replace h0 := h0.le hM_10
    replace hz_4 := hz_4.le hM_10
    replace hv_6 := hv_6.le hM_10
    replace hv_8 := hv_8.le hM_10
    refine S_v E rfl (R_not E rfl) rfl ?_
    clear E a; intro a E
    refine WL_nil ?_
    refine T_n ?_
    refine WP_cond E rfl (fun hc_11 => ?_) (fun hc_11 => ?_)
    · refine WP_seq ?_
      refine WP_region ?_
      refine S_v E rfl (R_assign E rfl) rfl ?_
      clear E a; intro a E
      refine WL_nil ?_
      refine T_n ?_
      refine WP_ret ?_
      refine T_r ?_
      exact F_ret1 E Tryz.results3 rfl ⟨_, rfl, M_10, (hM_3.trans (hM_5.trans (hM_9.trans hM_10))), rfl, S⟩
    · have hln : l0.length ≤ 300 := (by simp_all)
      refine WP_skip ?_
      refine T_n ?_
      refine WP_seq ?_
      refine WP_region ?_
      refine S_v E rfl (R_assign E rfl) rfl ?_
      clear E a; intro a E
      refine S_v E rfl (R_assign E rfl) rfl ?_
      clear E a; intro a E
      refine S_v E rfl (R_assign E rfl) rfl ?_
      clear E a; intro a E
      refine WL_nil ?_
      refine T_n ?_
      refine WP_seq ?_
      refine WP_region ?_
      refine S_v E rfl (R_assign E rfl) rfl ?_
      clear E a; intro a E
      refine WL_nil ?_
      refine T_n ?_
      refine WP_seq ?_
      refine WP_seq ?_
      refine WP_region ?_
      refine S_v E rfl (R_move E rfl) rfl ?_
      clear E a; intro a E
      refine S_v E rfl (R_lenV E rfl T22 h0.len) rfl ?_
      clear E a; intro a E
      refine S_v E rfl (R_move E rfl) rfl ?_
      clear E a; intro a E
      refine WL_nil ?_
      refine T_n ?_
      refine WP_block ?_
      replace S := (S.ownNil (e := 3) (sz := 1)).made0
      replace S := (S.ownNil (e := 3) (sz := 1)).made0
      replace S := (S.ownNil (e := 3) (sz := 1)).made0
      replace S := S.front2
      replace S := S.re1 (l' := doubL l0 (l0.take 0)) (by first | (simp [keyL, aloneL, doubL]; done) | (rw [ky_in (by assumption) (by assumption)]; done) | (rw [ky_out (by assumption) (by assumption)]; done) | (rw [(al_old (by assumption) (by assumption)).1]; done) | (rw [(al_old (by assumption) (by assumption)).2]; done) | (rw [(al_one (by assumption) (by assumption) (by omega)).1]; done) | (rw [(al_one (by assumption) (by assumption) (by omega)).2]; done) | (rw [(al_two (by assumption) (by assumption) (by omega)).1]; done) | (rw [(al_two (by assumption) (by assumption) (by omega)).2]; done))
      replace S := S.front2
      replace S := S.re1 (l' := aloneL l0 (l0.take 0)) (by first | (simp [keyL, aloneL, doubL]; done) | (rw [ky_in (by assumption) (by assumption)]; done) | (rw [ky_out (by assumption) (by assumption)]; done) | (rw [(al_old (by assumption) (by assumption)).1]; done) | (rw [(al_old (by assumption) (by assumption)).2]; done) | (rw [(al_one (by assumption) (by assumption) (by omega)).1]; done) | (rw [(al_one (by assumption) (by assumption) (by omega)).2]; done) | (rw [(al_two (by assumption) (by assumption) (by omega)).1]; done) | (rw [(al_two (by assumption) (by assumption) (by omega)).2]; done))
      replace S := S.front2
      replace S := S.re1 (l' := keyL (l0.take 0)) (by first | (simp [keyL, aloneL, doubL]; done) | (rw [ky_in (by assumption) (by assumption)]; done) | (rw [ky_out (by assumption) (by assumption)]; done) | (rw [(al_old (by assumption) (by assumption)).1]; done) | (rw [(al_old (by assumption) (by assumption)).2]; done) | (rw [(al_one (by assumption) (by assumption) (by omega)).1]; done) | (rw [(al_one (by assumption) (by assumption) (by omega)).2]; done) | (rw [(al_two (by assumption) (by assumption) (by omega)).1]; done) | (rw [(al_two (by assumption) (by assumption) (by omega)).2]; done))
      refine WP_loop (γ := Nat) (fun (k : Nat) a w => ∃ (M_15 : Hp) (u3 : Value) (u4 : Value) (u5 : Value), Hp.le M_10 M_15 ∧ St w M_15 (OwnI 3 u3 (keyL (l0.take k)) :: OwnI 3 u4 (aloneL l0 (l0.take k)) :: OwnI 3 u5 (doubL l0 (l0.take k)) :: H) ∧ Env a 158 [] [(0, v0), (3, u3), (4, u4), (5, u5), (6, .slice none 0 0), (22, v0), (23, .int .i64 (((l0).length : Nat) : Int)), (24, .int .i64 ((k : Nat) : Int))] ∧ (k ≤ (l0).length)) (fun k => ((l0).length) - k) 0 ⟨M_10, _, _, _, Hp.le.refl _, S, E.keep ⟨rfl, rfl, rfl, rfl, rfl, rfl, rfl, rfl, trivial⟩, by ((try clear S); (try clear E); first | assumption | omega | rfl | (simp; done) | (simp_all; done) | (simp [List.take_add_one, *]; done) | grind [List.take_add_one])⟩ ?_
      try clear E
      try clear S
      try clear a
      try clear w
      rintro k a w ⟨M_15, u3, u4, u5, hM_15, S, E, hL0_0⟩
      replace h0 := h0.le hM_15
      replace hz_4 := hz_4.le hM_15
      replace hv_6 := hv_6.le hM_15
      replace hv_8 := hv_8.le hM_15
      have hal := al_len l0 (l0.take k); rw [List.length_take] at hal
      have hkt := keyL_le' (l0.take k); rw [List.length_take] at hkt
      refine WP_seq ?_
      refine WP_region ?_
      refine S_v E rfl (R_lss E rfl rfl) rfl ?_
      clear E a; intro a E
      refine WL_nil ?_
      refine T_n ?_
      refine WP_seq ?_
      refine WP_cond E rfl (fun hc_16 => ?_) (fun hc_16 => ?_)
      · replace hc_16 := of_decide_eq_true hc_16
        refine WP_skip ?_
        refine T_n ?_
        refine WP_seq ?_
        refine WP_block ?_
        refine WP_seq ?_
        refine WP_region ?_
        refine S_v E rfl (R_move E rfl) rfl ?_
        clear E a; intro a E
        obtain ⟨x_17, hx_17⟩ : ∃ x, (l0)[k]? = some x := ⟨_, List.getElem?_eq_getElem (by first | omega | (simp; done) | (simp; omega) | (simp_all; omega))⟩
        obtain ⟨p_18, hp_18, qp_18⟩ := h0.at hx_17
        refine S_v E rfl (R_idx E rfl rfl T22 hp_18 rfl) rfl ?_
        clear E a; intro a E
        refine S_v E rfl (R_loadM E rfl Tryz.isAgg3 S.imm qp_18) rfl ?_
        clear E a; intro a E
        refine S_v E rfl (R_assign E rfl) rfl ?_
        clear E a; intro a E
        refine S_v E rfl (R_assign E rfl) rfl ?_
        clear E a; intro a E
        refine WL_nil ?_
        refine T_n ?_
        refine WP_seq ?_
        refine WP_seq ?_
        refine WP_region ?_
        refine S_v E rfl (R_move E rfl) rfl ?_
        clear E a; intro a E
        refine S_v E rfl (R_move E rfl) rfl ?_
        clear E a; intro a E
        obtain ⟨v_19, sv_19, hv_19⟩ := h0.subv 0 k (by first | omega | (simp; done) | (simp; omega) | (simp_all; omega)) (by first | omega | (simp; done) | (simp; omega) | (simp_all; omega))
        simp only [List.drop_zero] at hv_19
        replace hv_19 : RdI M_15 v_19 ((l0).take k) := hv_19
        refine S_v E rfl (R_sliceH E rfl rfl T22 sv_19 (by omega)) rfl ?_
        clear E a; intro a E
        refine S_v E rfl (R_move E rfl) rfl ?_
        clear E a; intro a E
        refine S_x (X_pu E S rfl rfl rfl (laws_in hv_19) (Hp.le.refl _) ?_)
        clear E a S; rintro a _ w M_20 hM_20 rfl S E
        replace h0 := h0.le hM_20
        replace hz_4 := hz_4.le hM_20
        replace hv_6 := hv_6.le hM_20
        replace hv_8 := hv_8.le hM_20
        replace hv_19 := hv_19.le hM_20
        refine WL_nil ?_
        refine T_n ?_
        refine WP_cond E rfl (fun hc_21 => ?_) (fun hc_21 => ?_)
        · replace hc_21 := of_decide_eq_true hc_21
          refine WP_exit ?_
          refine T_x ?_
          refine B_x ?_
          refine T_n ?_
          refine WP_region ?_
          refine S_v E rfl (R_addx (m := ((k + 1 : Nat) : Int)) E rfl rfl (by omega) (by omega)) rfl ?_
          clear E a; intro a E
          refine S_v E rfl (R_move E rfl) rfl ?_
          clear E a; intro a E
          refine WL_nil ?_
          refine T_n ?_
          replace S := S.front2
          replace S := S.re1 (l' := doubL l0 (l0.take (k + 1))) (by first | (simp [keyL, aloneL, doubL]; done) | (rw [ky_in (by assumption) (by assumption)]; done) | (rw [ky_out (by assumption) (by assumption)]; done) | (rw [(al_old (by assumption) (by assumption)).1]; done) | (rw [(al_old (by assumption) (by assumption)).2]; done) | (rw [(al_one (by assumption) (by assumption) (by omega)).1]; done) | (rw [(al_one (by assumption) (by assumption) (by omega)).2]; done) | (rw [(al_two (by assumption) (by assumption) (by omega)).1]; done) | (rw [(al_two (by assumption) (by assumption) (by omega)).2]; done))
          replace S := S.front2
          replace S := S.re1 (l' := aloneL l0 (l0.take (k + 1))) (by first | (simp [keyL, aloneL, doubL]; done) | (rw [ky_in (by assumption) (by assumption)]; done) | (rw [ky_out (by assumption) (by assumption)]; done) | (rw [(al_old (by assumption) (by assumption)).1]; done) | (rw [(al_old (by assumption) (by assumption)).2]; done) | (rw [(al_one (by assumption) (by assumption) (by omega)).1]; done) | (rw [(al_one (by assumption) (by assumption) (by omega)).2]; done) | (rw [(al_two (by assumption) (by assumption) (by omega)).1]; done) | (rw [(al_two (by assumption) (by assumption) (by omega)).2]; done))
          replace S := S.front2
          replace S := S.re1 (l' := keyL (l0.take (k + 1))) (by first | (simp [keyL, aloneL, doubL]; done) | (rw [ky_in (by assumption) (by assumption)]; done) | (rw [ky_out (by assumption) (by assumption)]; done) | (rw [(al_old (by assumption) (by assumption)).1]; done) | (rw [(al_old (by assumption) (by assumption)).2]; done) | (rw [(al_one (by assumption) (by assumption) (by omega)).1]; done) | (rw [(al_one (by assumption) (by assumption) (by omega)).2]; done) | (rw [(al_two (by assumption) (by assumption) (by omega)).1]; done) | (rw [(al_two (by assumption) (by assumption) (by omega)).2]; done))
          exact ⟨k + 1, ⟨M_20, _, _, _, (hM_15.trans hM_20), S, E.keep ⟨rfl, rfl, rfl, rfl, rfl, rfl, rfl, rfl, trivial⟩, by ((try clear S); (try clear E); first | assumption | omega | rfl | (simp; done) | (simp_all; done) | (simp [List.take_add_one, *]; done) | grind [List.take_add_one])⟩, by omega⟩
        · replace hc_21 := of_decide_eq_false hc_21
          refine WP_skip ?_
          refine T_n ?_
          refine WP_seq ?_
          refine WP_region ?_
          refine S_v E rfl (R_move E rfl) rfl ?_
          clear E a; intro a E
          refine S_v E rfl (R_move E rfl) rfl ?_
          clear E a; intro a E
          refine S_x (X_buildI (ys := [x_17]) E S rfl T22 rfl rfl rfl ?_)
          clear E a S; rintro a w v_22 E S
          replace S := S.front1
          replace S := S.front1
          refine S_x (X_appendB (xs := keyL (l0.take k)) (ys := [x_17]) E S rfl rfl rfl T22 (by (simp only [List.length_map, List.length_cons, List.length_nil] at *; omega)) ?_)
          clear E a S; rintro a w v_23 E S
          refine S_v E rfl (R_assign E rfl) rfl ?_
          clear E a; intro a E
          refine WL_nil ?_
          refine T_n ?_
          refine WP_seq ?_
          refine WP_region ?_
          refine S_v E rfl (R_move E rfl) rfl ?_
          clear E a; intro a E
          refine S_v E rfl (R_move E rfl) rfl ?_
          clear E a; intro a E
          refine S_x (X_pu E S rfl rfl rfl (laws_count h0) (Hp.le.refl _) ?_)
          clear E a S; rintro a _ w M_24 hM_24 rfl S E
          replace h0 := h0.le hM_24
          replace hz_4 := hz_4.le hM_24
          replace hv_6 := hv_6.le hM_24
          replace hv_8 := hv_8.le hM_24
          replace hv_19 := hv_19.le hM_24
          refine S_v E rfl (R_eql E rfl rfl) rfl ?_
          clear E a; intro a E
          refine WL_nil ?_
          refine T_n ?_
          refine WP_cond E rfl (fun hc_25 => ?_) (fun hc_25 => ?_)
          · replace hc_25 := of_decide_eq_true hc_25
            refine WP_region ?_
            refine S_v E rfl (R_move E rfl) rfl ?_
            clear E a; intro a E
            refine S_v E rfl (R_move E rfl) rfl ?_
            clear E a; intro a E
            refine S_x (X_buildI (ys := [x_17]) E S rfl T22 rfl rfl rfl ?_)
            clear E a S; rintro a w v_26 E S
            replace S := S.front2
            replace S := S.front1
            refine S_x (X_appendB (xs := aloneL l0 (l0.take k)) (ys := [x_17]) E S rfl rfl rfl T22 (by (simp only [List.length_map, List.length_cons, List.length_nil] at *; omega)) ?_)
            clear E a S; rintro a w v_27 E S
            refine S_v E rfl (R_assign E rfl) rfl ?_
            clear E a; intro a E
            refine WL_nil ?_
            refine B_n ?_
            refine T_n ?_
            refine WP_region ?_
            refine S_v E rfl (R_addx (m := ((k + 1 : Nat) : Int)) E rfl rfl (by omega) (by omega)) rfl ?_
            clear E a; intro a E
            refine S_v E rfl (R_move E rfl) rfl ?_
            clear E a; intro a E
            refine WL_nil ?_
            refine T_n ?_
            replace S := S.front2
            replace S := S.front1
            replace S := S.front2
            replace S := S.front2
            replace S := S.re1 (l' := doubL l0 (l0.take (k + 1))) (by first | (simp [keyL, aloneL, doubL]; done) | (rw [ky_in (by assumption) (by assumption)]; done) | (rw [ky_out (by assumption) (by assumption)]; done) | (rw [(al_old (by assumption) (by assumption)).1]; done) | (rw [(al_old (by assumption) (by assumption)).2]; done) | (rw [(al_one (by assumption) (by assumption) (by omega)).1]; done) | (rw [(al_one (by assumption) (by assumption) (by omega)).2]; done) | (rw [(al_two (by assumption) (by assumption) (by omega)).1]; done) | (rw [(al_two (by assumption) (by assumption) (by omega)).2]; done))
            replace S := S.front2
            replace S := S.re1 (l' := aloneL l0 (l0.take (k + 1))) (by first | (simp [keyL, aloneL, doubL]; done) | (rw [ky_in (by assumption) (by assumption)]; done) | (rw [ky_out (by assumption) (by assumption)]; done) | (rw [(al_old (by assumption) (by assumption)).1]; done) | (rw [(al_old (by assumption) (by assumption)).2]; done) | (rw [(al_one (by assumption) (by assumption) (by omega)).1]; done) | (rw [(al_one (by assumption) (by assumption) (by omega)).2]; done) | (rw [(al_two (by assumption) (by assumption) (by omega)).1]; done) | (rw [(al_two (by assumption) (by assumption) (by omega)).2]; done))
            replace S := S.front2
            replace S := S.re1 (l' := keyL (l0.take (k + 1))) (by first | (simp [keyL, aloneL, doubL]; done) | (rw [ky_in (by assumption) (by assumption)]; done) | (rw [ky_out (by assumption) (by assumption)]; done) | (rw [(al_old (by assumption) (by assumption)).1]; done) | (rw [(al_old (by assumption) (by assumption)).2]; done) | (rw [(al_one (by assumption) (by assumption) (by omega)).1]; done) | (rw [(al_one (by assumption) (by assumption) (by omega)).2]; done) | (rw [(al_two (by assumption) (by assumption) (by omega)).1]; done) | (rw [(al_two (by assumption) (by assumption) (by omega)).2]; done))
            exact ⟨k + 1, ⟨M_24, _, _, _, (hM_15.trans (hM_20.trans hM_24)), S, E.keep ⟨rfl, rfl, rfl, rfl, rfl, rfl, rfl, rfl, trivial⟩, by ((try clear S); (try clear E); first | assumption | omega | rfl | (simp; done) | (simp_all; done) | (simp [List.take_add_one, *]; done) | grind [List.take_add_one])⟩, by omega⟩
          · replace hc_25 := of_decide_eq_false hc_25
            refine WP_region ?_
            refine S_v E rfl (R_move E rfl) rfl ?_
            clear E a; intro a E
            refine S_v E rfl (R_move E rfl) rfl ?_
            clear E a; intro a E
            refine S_x (X_buildI (ys := [x_17]) E S rfl T22 rfl rfl rfl ?_)
            clear E a S; rintro a w v_28 E S
            replace S := S.front3
            replace S := S.front1
            refine S_x (X_appendB (xs := doubL l0 (l0.take k)) (ys := [x_17]) E S rfl rfl rfl T22 (by (simp only [List.length_map, List.length_cons, List.length_nil] at *; omega)) ?_)
            clear E a S; rintro a w v_29 E S
            refine S_v E rfl (R_assign E rfl) rfl ?_
            clear E a; intro a E
            refine WL_nil ?_
            refine B_n ?_
            refine T_n ?_
            refine WP_region ?_
            refine S_v E rfl (R_addx (m := ((k + 1 : Nat) : Int)) E rfl rfl (by omega) (by omega)) rfl ?_
            clear E a; intro a E
            refine S_v E rfl (R_move E rfl) rfl ?_
            clear E a; intro a E
            refine WL_nil ?_
            refine T_n ?_
            replace S := S.front2
            replace S := S.front2
            replace S := S.front2
            replace S := S.re1 (l' := doubL l0 (l0.take (k + 1))) (by first | (simp [keyL, aloneL, doubL]; done) | (rw [ky_in (by assumption) (by assumption)]; done) | (rw [ky_out (by assumption) (by assumption)]; done) | (rw [(al_old (by assumption) (by assumption)).1]; done) | (rw [(al_old (by assumption) (by assumption)).2]; done) | (rw [(al_one (by assumption) (by assumption) (by omega)).1]; done) | (rw [(al_one (by assumption) (by assumption) (by omega)).2]; done) | (rw [(al_two (by assumption) (by assumption) (by omega)).1]; done) | (rw [(al_two (by assumption) (by assumption) (by omega)).2]; done))
            replace S := S.front2
            replace S := S.re1 (l' := aloneL l0 (l0.take (k + 1))) (by first | (simp [keyL, aloneL, doubL]; done) | (rw [ky_in (by assumption) (by assumption)]; done) | (rw [ky_out (by assumption) (by assumption)]; done) | (rw [(al_old (by assumption) (by assumption)).1]; done) | (rw [(al_old (by assumption) (by assumption)).2]; done) | (rw [(al_one (by assumption) (by assumption) (by omega)).1]; done) | (rw [(al_one (by assumption) (by assumption) (by omega)).2]; done) | (rw [(al_two (by assumption) (by assumption) (by omega)).1]; done) | (rw [(al_two (by assumption) (by assumption) (by omega)).2]; done))
            replace S := S.front2
            replace S := S.re1 (l' := keyL (l0.take (k + 1))) (by first | (simp [keyL, aloneL, doubL]; done) | (rw [ky_in (by assumption) (by assumption)]; done) | (rw [ky_out (by assumption) (by assumption)]; done) | (rw [(al_old (by assumption) (by assumption)).1]; done) | (rw [(al_old (by assumption) (by assumption)).2]; done) | (rw [(al_one (by assumption) (by assumption) (by omega)).1]; done) | (rw [(al_one (by assumption) (by assumption) (by omega)).2]; done) | (rw [(al_two (by assumption) (by assumption) (by omega)).1]; done) | (rw [(al_two (by assumption) (by assumption) (by omega)).2]; done))
            exact ⟨k + 1, ⟨M_24, _, _, _, (hM_15.trans (hM_20.trans hM_24)), S, E.keep ⟨rfl, rfl, rfl, rfl, rfl, rfl, rfl, rfl, trivial⟩, by ((try clear S); (try clear E); first | assumption | omega | rfl | (simp; done) | (simp_all; done) | (simp [List.take_add_one, *]; done) | grind [List.take_add_one])⟩, by omega⟩
      · replace hc_16 := of_decide_eq_false hc_16
        have etk : l0.take k = l0 := List.take_of_length_le (by omega)
        have hsl := (setI_spec l0).2.2
        refine WP_exit ?_
        refine T_x ?_
        refine T_x ?_
        refine B_x ?_
        refine T_n ?_
        refine WP_seq ?_
        refine WP_seq ?_
        refine WP_region ?_
        refine S_v E rfl (R_move E rfl) rfl ?_
        clear E a; intro a E
        refine S_x (X_pu E S rfl rfl rfl (laws_sorted h0 (by (first | omega | (simp; omega) | (simp; done) | (simp_all; omega) | grind))) (Hp.le.refl _) ?_)
        clear E a S; rintro a v_31 w M_30 hM_30 hv_31 S E
        replace h0 := h0.le hM_30
        replace hz_4 := hz_4.le hM_30
        replace hv_6 := hv_6.le hM_30
        replace hv_8 := hv_8.le hM_30
        refine S_v E rfl (R_lenV E rfl T22 hv_31.len) rfl ?_
        clear E a; intro a E
        refine S_v E rfl (R_move E rfl) rfl ?_
        clear E a; intro a E
        refine WL_nil ?_
        refine T_n ?_
        refine WP_block ?_
        replace S : St w M_30 (OwnC 29 2 (.slice none 0 0) ([] : List (Int × Int)).length [] :: _) := S.ownNil
        have hr_33 : RowsR RP2 2 M_30 ([] : List (Int × Int)) [] := RowsR.nil
        have hre : ([] : List (Int × Int)) = ((setI l0).take 0).map (fun x => (x, (l0.count x : Int))) := by first | (simp; done) | (rw [tk_snoc (by assumption), List.map_append]; rfl)
        replace S := S.reR hre
        replace hr_33 := hr_33.eq hre
        clear hre
        refine WP_loop (γ := Nat) (fun (j : Nat) a w => ∃ (M_34 : Hp) (u6 : Value) (xs6 : List Value), Hp.le M_30 M_34 ∧ St w M_34 (OwnC 29 2 u6 (((setI l0).take j).map (fun x => (x, (l0.count x : Int)))).length xs6 :: OwnI 3 u3 (keyL (l0.take k)) :: OwnI 3 u4 (aloneL l0 (l0.take k)) :: OwnI 3 u5 (doubL l0 (l0.take k)) :: H) ∧ Env a 158 [] [(0, v0), (3, u3), (4, u4), (5, u5), (6, u6), (52, v_31), (53, .int .i64 (((setI l0).length : Nat) : Int)), (54, .int .i64 ((j : Nat) : Int))] ∧ (j ≤ (setI l0).length) ∧ RowsR RP2 2 M_34 (((setI l0).take j).map (fun x => (x, (l0.count x : Int)))) xs6) (fun j => ((setI l0).length) - j) 0 ⟨M_30, _, _, Hp.le.refl _, S, E.keep ⟨rfl, rfl, rfl, rfl, rfl, rfl, rfl, rfl, trivial⟩, by ((try clear S); (try clear E); first | assumption | omega | rfl | (simp; done) | (simp_all; done) | (simp [List.take_add_one, *]; done) | grind [List.take_add_one]), hr_33⟩ ?_
        try clear E
        try clear S
        try clear a
        try clear w
        rintro j a w ⟨M_34, u6, xs6, hM_34, S, E, hL1_0, hr6⟩
        replace h0 := h0.le hM_34
        replace hz_4 := hz_4.le hM_34
        replace hv_6 := hv_6.le hM_34
        replace hv_8 := hv_8.le hM_34
        replace hv_31 := hv_31.le hM_34
        have hkt := List.length_take_le j (setI l0)
        refine WP_seq ?_
        refine WP_region ?_
        refine S_v E rfl (R_lss E rfl rfl) rfl ?_
        clear E a; intro a E
        refine WL_nil ?_
        refine T_n ?_
        refine WP_seq ?_
        refine WP_cond E rfl (fun hc_35 => ?_) (fun hc_35 => ?_)
        · replace hc_35 := of_decide_eq_true hc_35
          refine WP_skip ?_
          refine T_n ?_
          refine WP_seq ?_
          refine WP_block ?_
          refine WP_seq ?_
          refine WP_region ?_
          obtain ⟨x_36, hx_36⟩ : ∃ x, (setI l0)[j]? = some x := ⟨_, List.getElem?_eq_getElem (by first | omega | (simp; done) | (simp; omega) | (simp_all; omega))⟩
          obtain ⟨p_37, hp_37, qp_37⟩ := hv_31.at hx_36
          refine S_v E rfl (R_idx E rfl rfl T22 hp_37 rfl) rfl ?_
          clear E a; intro a E
          refine S_v E rfl (R_loadM E rfl Tryz.isAgg3 S.imm qp_37) rfl ?_
          clear E a; intro a E
          refine S_v E rfl (R_assign E rfl) rfl ?_
          clear E a; intro a E
          refine WL_nil ?_
          refine T_n ?_
          refine WP_region ?_
          refine S_v E rfl (R_move E rfl) rfl ?_
          clear E a; intro a E
          refine S_v E rfl (R_move E rfl) rfl ?_
          clear E a; intro a E
          refine S_v E rfl (R_move E rfl) rfl ?_
          clear E a; intro a E
          refine S_v E rfl (R_move E rfl) rfl ?_
          clear E a; intro a E
          refine S_x (X_pu E S rfl rfl rfl (laws_count h0) (Hp.le.refl _) ?_)
          clear E a S; rintro a _ w M_38 hM_38 rfl S E
          replace h0 := h0.le hM_38
          replace hz_4 := hz_4.le hM_38
          replace hv_6 := hv_6.le hM_38
          replace hv_8 := hv_8.le hM_38
          replace hv_31 := hv_31.le hM_38
          replace hr6 := hr6.le RP2_mono hM_38
          refine S_v E rfl (R_build (u := .agg #[.int .i64 x_36, .int .i64 (((l0).count x_36 : Nat) : Int)]) (vs := [.int .i64 x_36, .int .i64 (((l0).count x_36 : Nat) : Int)]) E rfl (fun w => FB29_0_1_ii x_36 (((l0).count x_36 : Nat) : Int) w)) rfl ?_
          clear E a; intro a E
          refine S_x (X_buildA1 (R := RP2) (cs := [.int .i64 x_36, .int .i64 (((l0).count x_36 : Nat) : Int)]) (x0 := (x_36, (((l0).count x_36 : Nat) : Int))) RP2_mono E S rfl T25 rfl rfl rfl rfl ?_)
          clear E a S; rintro a v_39 w M_40 hM_40 hv_39 S E
          replace h0 := h0.le hM_40
          replace hz_4 := hz_4.le hM_40
          replace hv_6 := hv_6.le hM_40
          replace hv_8 := hv_8.le hM_40
          replace hv_31 := hv_31.le hM_40
          replace hr6 := hr6.le RP2_mono hM_40
          refine S_x (X_appendR (R := RP2) (zs := ((setI l0).take j).map (fun x => (x, (l0.count x : Int)))) (ys := [(x_36, (((l0).count x_36 : Nat) : Int))]) E S hr6 rfl rfl rfl T25 hv_39 one_RP2 (by (simp only [List.length_map, List.length_cons, List.length_nil] at *; omega)) (by (simp only [List.length_map, List.length_cons, List.length_nil] at *; omega)) ?_)
          clear E a S; rintro a w v_41 xs_42 E hr_43 S
          refine S_v E rfl (R_assign E rfl) rfl ?_
          clear E a; intro a E
          refine WL_nil ?_
          refine B_n ?_
          refine T_n ?_
          refine WP_region ?_
          refine S_v E rfl (R_addx (m := ((j + 1 : Nat) : Int)) E rfl rfl (by omega) (by omega)) rfl ?_
          clear E a; intro a E
          refine S_v E rfl (R_move E rfl) rfl ?_
          clear E a; intro a E
          refine WL_nil ?_
          refine T_n ?_
          have hre : (((setI l0).take j).map (fun x => (x, (l0.count x : Int)))) ++ [(x_36, (((l0).count x_36 : Nat) : Int))] = ((setI l0).take (j + 1)).map (fun x => (x, (l0.count x : Int))) := by first | (simp; done) | (rw [tk_snoc (by assumption), List.map_append]; rfl)
          replace S := S.reR hre
          replace hr_43 := hr_43.eq hre
          clear hre
          exact ⟨j + 1, ⟨M_40, _, _, (hM_34.trans (hM_38.trans hM_40)), S, E.keep ⟨rfl, rfl, rfl, rfl, rfl, rfl, rfl, rfl, trivial⟩, by ((try clear S); (try clear E); first | assumption | omega | rfl | (simp; done) | (simp_all; done) | (simp [List.take_add_one, *]; done) | grind [List.take_add_one]), hr_43⟩, by omega⟩
        · replace hc_35 := of_decide_eq_false hc_35
          have etj : (setI l0).take j = setI l0 := List.take_of_length_le (by omega)
          refine WP_exit ?_
          refine T_x ?_
          refine T_x ?_
          refine B_x ?_
          refine T_n ?_
          refine WP_seq ?_
          refine WP_region ?_
          refine S_v E rfl (R_move E rfl) rfl ?_
          clear E a; intro a E
          refine S_x (X_pu E S rfl rfl rfl (spec_Uniq h0 (by first | assumption | exact (fun x hx => by rcases List.mem_append.1 hx with h | h; exact hr0 x h; exact hr1 x h)) (by (first | omega | (simp; omega) | (simp; done) | (simp_all; omega) | grind))) (Hp.le.refl _) ?_)
          clear E a S; rintro a v_45 w M_44 hM_44 hv_45 S E
          replace h0 := h0.le hM_44
          replace hz_4 := hz_4.le hM_44
          replace hv_6 := hv_6.le hM_44
          replace hv_8 := hv_8.le hM_44
          replace hv_31 := hv_31.le hM_44
          replace hr6 := hr6.le RP2_mono hM_44
          refine S_v E rfl (R_move E rfl) rfl ?_
          clear E a; intro a E
          replace S := S.front1
          have S0 := S; clear S
          obtain ⟨M_46, hM_46, hz_47, S⟩ := S0.freezeI (by (first | (simp; done) | omega | (have hal := al_len l0 (l0.take k); rw [List.length_take] at hal; omega) | (have hkt := keyL_le' (l0.take k); rw [List.length_take] at hkt; omega) | (simp only [List.length_map]; have hkt := List.length_take_le j (setI l0); omega)))
          clear S0
          replace h0 := h0.le hM_46
          replace hz_4 := hz_4.le hM_46
          replace hv_6 := hv_6.le hM_46
          replace hv_8 := hv_8.le hM_46
          replace hv_31 := hv_31.le hM_46
          replace hr6 := hr6.le RP2_mono hM_46
          replace hv_45 := hv_45.le hM_46
          refine S_x (X_pu E S rfl rfl rfl (laws_eq hv_45 hz_47) (Hp.le.refl _) ?_)
          clear E a S; rintro a _ w M_48 hM_48 rfl S E
          replace h0 := h0.le hM_48
          replace hz_4 := hz_4.le hM_48
          replace hv_6 := hv_6.le hM_48
          replace hv_8 := hv_8.le hM_48
          replace hv_31 := hv_31.le hM_48
          replace hr6 := hr6.le RP2_mono hM_48
          replace hv_45 := hv_45.le hM_48
          replace hz_47 := hz_47.le hM_48
          refine S_v E rfl (R_move E rfl) rfl ?_
          clear E a; intro a E
          have hc_49 : (decide (keyL l0 = keyL (l0.take k))) = true := by (clear S E; first | (simp; done) | decide | (simp only [uqS_id]; decide) | (simp [keyL, addS]; done) | (first | refine dec_t ?_ | refine dec_f ?_ | skip); first | (rw [etk]; done) | ((try rw [etk]); first | rfl | exact su_alone _ | exact dq_doub _ | exact fu_alone _ | exact fd_doub _ | exact (sortI_key _) | exact srtM_key _ | (rw [uqS_id]; done) | (rw [fu_alone]; exact same_pq (List.Perm.refl _)) | exact td_doub _ | (rw [etj]; done) | (rw [etj]; exact cv_counts _) | (rw [etj]; rfl) | (rw [cv_counts, etj]; done)))
          replace E := E.val (t := 70) rfl hc_49
          replace E := E.val (t := 71) rfl hc_49
          refine WL_guard_yes E rfl rfl ?_
          refine S_v E rfl (R_move E rfl) rfl ?_
          clear E a; intro a E
          refine WL_guard_yes E rfl rfl ?_
          refine S_x (X_pu E S rfl rfl rfl (spec_FindUniques h0 (by first | assumption | exact (fun x hx => by rcases List.mem_append.1 hx with h | h; exact hr0 x h; exact hr1 x h)) (by (first | omega | (simp; omega) | (simp; done) | (simp_all; omega) | grind))) (Hp.le.refl _) ?_)
          clear E a S; rintro a v_51 w M_50 hM_50 hv_51 S E
          replace h0 := h0.le hM_50
          replace hz_4 := hz_4.le hM_50
          replace hv_6 := hv_6.le hM_50
          replace hv_8 := hv_8.le hM_50
          replace hv_31 := hv_31.le hM_50
          replace hr6 := hr6.le RP2_mono hM_50
          replace hv_45 := hv_45.le hM_50
          replace hz_47 := hz_47.le hM_50
          refine WL_guard_yes E rfl rfl ?_
          refine S_v E rfl (R_move E rfl) rfl ?_
          clear E a; intro a E
          replace S := S.front1
          have S0 := S; clear S
          obtain ⟨M_52, hM_52, hz_53, S⟩ := S0.freezeI (by (first | (simp; done) | omega | (have hal := al_len l0 (l0.take k); rw [List.length_take] at hal; omega) | (have hkt := keyL_le' (l0.take k); rw [List.length_take] at hkt; omega) | (simp only [List.length_map]; have hkt := List.length_take_le j (setI l0); omega)))
          clear S0
          replace h0 := h0.le hM_52
          replace hz_4 := hz_4.le hM_52
          replace hv_6 := hv_6.le hM_52
          replace hv_8 := hv_8.le hM_52
          replace hv_31 := hv_31.le hM_52
          replace hr6 := hr6.le RP2_mono hM_52
          replace hv_45 := hv_45.le hM_52
          replace hz_47 := hz_47.le hM_52
          replace hv_51 := hv_51.le hM_52
          refine WL_guard_yes E rfl rfl ?_
          refine S_x (X_pu E S rfl rfl rfl (laws_eq hv_51 hz_53) (Hp.le.refl _) ?_)
          clear E a S; rintro a _ w M_54 hM_54 rfl S E
          replace h0 := h0.le hM_54
          replace hz_4 := hz_4.le hM_54
          replace hv_6 := hv_6.le hM_54
          replace hv_8 := hv_8.le hM_54
          replace hv_31 := hv_31.le hM_54
          replace hr6 := hr6.le RP2_mono hM_54
          replace hv_45 := hv_45.le hM_54
          replace hz_47 := hz_47.le hM_54
          replace hv_51 := hv_51.le hM_54
          replace hz_53 := hz_53.le hM_54
          refine S_v E rfl (R_pickT E rfl rfl) rfl ?_
          clear E a; intro a E
          refine S_v E rfl (R_move E rfl) rfl ?_
          clear E a; intro a E
          have hc_55 : (decide ((l0).filter (fun x => decide ((l0).count x = 1)) = aloneL l0 (l0.take k))) = true := by (clear S E; first | (simp; done) | decide | (simp only [uqS_id]; decide) | (simp [keyL, addS]; done) | (first | refine dec_t ?_ | refine dec_f ?_ | skip); first | (rw [etk]; done) | ((try rw [etk]); first | rfl | exact su_alone _ | exact dq_doub _ | exact fu_alone _ | exact fd_doub _ | exact (sortI_key _) | exact srtM_key _ | (rw [uqS_id]; done) | (rw [fu_alone]; exact same_pq (List.Perm.refl _)) | exact td_doub _ | (rw [etj]; done) | (rw [etj]; exact cv_counts _) | (rw [etj]; rfl) | (rw [cv_counts, etj]; done)))
          replace E := E.val (t := 75) rfl hc_55
          replace E := E.val (t := 76) rfl hc_55
          replace E := E.val (t := 77) rfl hc_55
          refine WL_guard_yes E rfl rfl ?_
          refine S_v E rfl (R_move E rfl) rfl ?_
          clear E a; intro a E
          refine WL_guard_yes E rfl rfl ?_
          refine S_x (X_pu E S rfl rfl rfl (spec_FindDuplicates h0 (by first | assumption | exact (fun x hx => by rcases List.mem_append.1 hx with h | h; exact hr0 x h; exact hr1 x h)) (by (first | omega | (simp; omega) | (simp; done) | (simp_all; omega) | grind))) (Hp.le.refl _) ?_)
          clear E a S; rintro a v_57 w M_56 hM_56 hv_57 S E
          replace h0 := h0.le hM_56
          replace hz_4 := hz_4.le hM_56
          replace hv_6 := hv_6.le hM_56
          replace hv_8 := hv_8.le hM_56
          replace hv_31 := hv_31.le hM_56
          replace hr6 := hr6.le RP2_mono hM_56
          replace hv_45 := hv_45.le hM_56
          replace hz_47 := hz_47.le hM_56
          replace hv_51 := hv_51.le hM_56
          replace hz_53 := hz_53.le hM_56
          refine WL_guard_yes E rfl rfl ?_
          refine S_v E rfl (R_move E rfl) rfl ?_
          clear E a; intro a E
          replace S := S.front1
          have S0 := S; clear S
          obtain ⟨M_58, hM_58, hz_59, S⟩ := S0.freezeI (by (first | (simp; done) | omega | (have hal := al_len l0 (l0.take k); rw [List.length_take] at hal; omega) | (have hkt := keyL_le' (l0.take k); rw [List.length_take] at hkt; omega) | (simp only [List.length_map]; have hkt := List.length_take_le j (setI l0); omega)))
          clear S0
          replace h0 := h0.le hM_58
          replace hz_4 := hz_4.le hM_58
          replace hv_6 := hv_6.le hM_58
          replace hv_8 := hv_8.le hM_58
          replace hv_31 := hv_31.le hM_58
          replace hr6 := hr6.le RP2_mono hM_58
          replace hv_45 := hv_45.le hM_58
          replace hz_47 := hz_47.le hM_58
          replace hv_51 := hv_51.le hM_58
          replace hz_53 := hz_53.le hM_58
          replace hv_57 := hv_57.le hM_58
          refine WL_guard_yes E rfl rfl ?_
          refine S_x (X_pu E S rfl rfl rfl (laws_eq hv_57 hz_59) (Hp.le.refl _) ?_)
          clear E a S; rintro a _ w M_60 hM_60 rfl S E
          replace h0 := h0.le hM_60
          replace hz_4 := hz_4.le hM_60
          replace hv_6 := hv_6.le hM_60
          replace hv_8 := hv_8.le hM_60
          replace hv_31 := hv_31.le hM_60
          replace hr6 := hr6.le RP2_mono hM_60
          replace hv_45 := hv_45.le hM_60
          replace hz_47 := hz_47.le hM_60
          replace hv_51 := hv_51.le hM_60
          replace hz_53 := hz_53.le hM_60
          replace hv_57 := hv_57.le hM_60
          replace hz_59 := hz_59.le hM_60
          refine S_v E rfl (R_pickT E rfl rfl) rfl ?_
          clear E a; intro a E
          refine S_v E rfl (R_move E rfl) rfl ?_
          clear E a; intro a E
          have hc_61 : (decide ((keyL l0).filter (fun x => decide (1 < (l0).count x)) = doubL l0 (l0.take k))) = true := by (clear S E; first | (simp; done) | decide | (simp only [uqS_id]; decide) | (simp [keyL, addS]; done) | (first | refine dec_t ?_ | refine dec_f ?_ | skip); first | (rw [etk]; done) | ((try rw [etk]); first | rfl | exact su_alone _ | exact dq_doub _ | exact fu_alone _ | exact fd_doub _ | exact (sortI_key _) | exact srtM_key _ | (rw [uqS_id]; done) | (rw [fu_alone]; exact same_pq (List.Perm.refl _)) | exact td_doub _ | (rw [etj]; done) | (rw [etj]; exact cv_counts _) | (rw [etj]; rfl) | (rw [cv_counts, etj]; done)))
          replace E := E.val (t := 81) rfl hc_61
          replace E := E.val (t := 82) rfl hc_61
          replace E := E.val (t := 83) rfl hc_61
          refine WL_guard_yes E rfl rfl ?_
          refine S_v E rfl (R_move E rfl) rfl ?_
          clear E a; intro a E
          refine WL_guard_yes E rfl rfl ?_
          refine S_v E rfl (R_move E rfl) rfl ?_
          clear E a; intro a E
          refine WL_guard_yes E rfl rfl ?_
          refine S_x (X_pu E S rfl rfl rfl (spec_CountValues h0 (by first | assumption | exact (fun x hx => by rcases List.mem_append.1 hx with h | h; exact hr0 x h; exact hr1 x h)) (by (first | omega | (simp; omega) | (simp; done) | (simp_all; omega) | grind))) (Hp.le.refl _) ?_)
          clear E a S; rintro a v_63 w M_62 hM_62 hv_63 S E
          replace h0 := h0.le hM_62
          replace hz_4 := hz_4.le hM_62
          replace hv_6 := hv_6.le hM_62
          replace hv_8 := hv_8.le hM_62
          replace hv_31 := hv_31.le hM_62
          replace hr6 := hr6.le RP2_mono hM_62
          replace hv_45 := hv_45.le hM_62
          replace hz_47 := hz_47.le hM_62
          replace hv_51 := hv_51.le hM_62
          replace hz_53 := hz_53.le hM_62
          replace hv_57 := hv_57.le hM_62
          replace hz_59 := hz_59.le hM_62
          have S0 := S; clear S
          obtain ⟨M_64, hM_64, hz_65, S⟩ := S0.freezeR hr6 RP2_mono (by (first | (simp; done) | omega | (have hal := al_len l0 (l0.take k); rw [List.length_take] at hal; omega) | (have hkt := keyL_le' (l0.take k); rw [List.length_take] at hkt; omega) | (simp only [List.length_map]; have hkt := List.length_take_le j (setI l0); omega)))
          clear S0
          replace h0 := h0.le hM_64
          replace hz_4 := hz_4.le hM_64
          replace hv_6 := hv_6.le hM_64
          replace hv_8 := hv_8.le hM_64
          replace hv_31 := hv_31.le hM_64
          replace hv_45 := hv_45.le hM_64
          replace hz_47 := hz_47.le hM_64
          replace hv_51 := hv_51.le hM_64
          replace hz_53 := hz_53.le hM_64
          replace hv_57 := hv_57.le hM_64
          replace hz_59 := hz_59.le hM_64
          replace hv_63 := hv_63.le RP2_mono hM_64
          refine WL_guard_yes E rfl rfl ?_
          refine S_x (X_pu E S rfl rfl rfl (laws_eqRef hz_65 hv_63) (Hp.le.refl _) ?_)
          clear E a S; rintro a _ w M_66 hM_66 rfl S E
          replace h0 := h0.le hM_66
          replace hz_4 := hz_4.le hM_66
          replace hv_6 := hv_6.le hM_66
          replace hv_8 := hv_8.le hM_66
          replace hv_31 := hv_31.le hM_66
          replace hv_45 := hv_45.le hM_66
          replace hz_47 := hz_47.le hM_66
          replace hv_51 := hv_51.le hM_66
          replace hz_53 := hz_53.le hM_66
          replace hv_57 := hv_57.le hM_66
          replace hz_59 := hz_59.le hM_66
          replace hv_63 := hv_63.le RP2_mono hM_66
          replace hz_65 := hz_65.le RP2_mono hM_66
          refine S_v E rfl (R_pickT E rfl rfl) rfl ?_
          clear E a; intro a E
          refine S_v E rfl (R_move E rfl) rfl ?_
          clear E a; intro a E
          have hc_67 : (decide (((setI l0).take j).map (fun x => (x, (l0.count x : Int))) = (setI l0).map fun x => (x, ((l0).count x : Int)))) = true := by (clear S E; first | (simp; done) | decide | (simp only [uqS_id]; decide) | (simp [keyL, addS]; done) | (first | refine dec_t ?_ | refine dec_f ?_ | skip); first | (rw [etk]; done) | ((try rw [etk]); first | rfl | exact su_alone _ | exact dq_doub _ | exact fu_alone _ | exact fd_doub _ | exact (sortI_key _) | exact srtM_key _ | (rw [uqS_id]; done) | (rw [fu_alone]; exact same_pq (List.Perm.refl _)) | exact td_doub _ | (rw [etj]; done) | (rw [etj]; exact cv_counts _) | (rw [etj]; rfl) | (rw [cv_counts, etj]; done)))
          replace E := E.val (t := 87) rfl hc_67
          replace E := E.val (t := 88) rfl hc_67
          replace E := E.val (t := 89) rfl hc_67
          refine WL_guard_yes E rfl rfl ?_
          refine S_v E rfl (R_move E rfl) rfl ?_
          clear E a; intro a E
          refine WL_guard_yes E rfl rfl ?_
          refine S_x (X_pu E S rfl rfl rfl (spec_Keyify h0 (by first | assumption | exact (fun x hx => by rcases List.mem_append.1 hx with h | h; exact hr0 x h; exact hr1 x h)) (by (first | omega | (simp; omega) | (simp; done) | (simp_all; omega) | grind))) (Hp.le.refl _) ?_)
          clear E a S; rintro a v_69 w M_68 hM_68 hv_69 S E
          replace h0 := h0.le hM_68
          replace hz_4 := hz_4.le hM_68
          replace hv_6 := hv_6.le hM_68
          replace hv_8 := hv_8.le hM_68
          replace hv_31 := hv_31.le hM_68
          replace hv_45 := hv_45.le hM_68
          replace hz_47 := hz_47.le hM_68
          replace hv_51 := hv_51.le hM_68
          replace hz_53 := hz_53.le hM_68
          replace hv_57 := hv_57.le hM_68
          replace hz_59 := hz_59.le hM_68
          replace hv_63 := hv_63.le RP2_mono hM_68
          replace hz_65 := hz_65.le RP2_mono hM_68
          refine WL_guard_yes E rfl rfl ?_
          refine S_v E rfl (R_move E rfl) rfl ?_
          clear E a; intro a E
          refine WL_guard_yes E rfl rfl ?_
          refine S_x (X_pu E S rfl rfl rfl (laws_sorted h0 (by (first | omega | (simp; omega) | (simp; done) | (simp_all; omega) | grind))) (Hp.le.refl _) ?_)
          clear E a S; rintro a v_71 w M_70 hM_70 hv_71 S E
          replace h0 := h0.le hM_70
          replace hz_4 := hz_4.le hM_70
          replace hv_6 := hv_6.le hM_70
          replace hv_8 := hv_8.le hM_70
          replace hv_31 := hv_31.le hM_70
          replace hv_45 := hv_45.le hM_70
          replace hz_47 := hz_47.le hM_70
          replace hv_51 := hv_51.le hM_70
          replace hz_53 := hz_53.le hM_70
          replace hv_57 := hv_57.le hM_70
          replace hz_59 := hz_59.le hM_70
          replace hv_63 := hv_63.le RP2_mono hM_70
          replace hz_65 := hz_65.le RP2_mono hM_70
          replace hv_69 := hv_69.le hM_70
          refine WL_guard_yes E rfl rfl ?_
          refine S_x (X_pu E S rfl rfl rfl (laws_eq hv_69 hv_71) (Hp.le.refl _) ?_)
          clear E a S; rintro a _ w M_72 hM_72 rfl S E
          replace h0 := h0.le hM_72
          replace hz_4 := hz_4.le hM_72
          replace hv_6 := hv_6.le hM_72
          replace hv_8 := hv_8.le hM_72
          replace hv_31 := hv_31.le hM_72
          replace hv_45 := hv_45.le hM_72
          replace hz_47 := hz_47.le hM_72
          replace hv_51 := hv_51.le hM_72
          replace hz_53 := hz_53.le hM_72
          replace hv_57 := hv_57.le hM_72
          replace hz_59 := hz_59.le hM_72
          replace hv_63 := hv_63.le RP2_mono hM_72
          replace hz_65 := hz_65.le RP2_mono hM_72
          replace hv_69 := hv_69.le hM_72
          replace hv_71 := hv_71.le hM_72
          refine S_v E rfl (R_pickT E rfl rfl) rfl ?_
          clear E a; intro a E
          refine S_v E rfl (R_move E rfl) rfl ?_
          clear E a; intro a E
          have hc_73 : (decide (setI l0 = setI l0)) = true := by (clear S E; first | (simp; done) | decide | (simp only [uqS_id]; decide) | (simp [keyL, addS]; done) | (first | refine dec_t ?_ | refine dec_f ?_ | skip); first | (rw [etk]; done) | ((try rw [etk]); first | rfl | exact su_alone _ | exact dq_doub _ | exact fu_alone _ | exact fd_doub _ | exact (sortI_key _) | exact srtM_key _ | (rw [uqS_id]; done) | (rw [fu_alone]; exact same_pq (List.Perm.refl _)) | exact td_doub _ | (rw [etj]; done) | (rw [etj]; exact cv_counts _) | (rw [etj]; rfl) | (rw [cv_counts, etj]; done)))
          replace E := E.val (t := 94) rfl hc_73
          replace E := E.val (t := 95) rfl hc_73
          replace E := E.val (t := 96) rfl hc_73
          refine WL_guard_yes E rfl rfl ?_
          refine S_v E rfl (R_move E rfl) rfl ?_
          clear E a; intro a E
          refine WL_guard_yes E rfl rfl ?_
          refine S_x (X_pu E S rfl rfl rfl (impl_Uniq h0 (by (first | omega | (simp; omega) | (simp; done) | (simp_all; omega) | grind))) (Hp.le.refl _) ?_)
          clear E a S; rintro a v_75 w M_74 hM_74 hv_75 S E
          replace h0 := h0.le hM_74
          replace hz_4 := hz_4.le hM_74
          replace hv_6 := hv_6.le hM_74
          replace hv_8 := hv_8.le hM_74
          replace hv_31 := hv_31.le hM_74
          replace hv_45 := hv_45.le hM_74
          replace hz_47 := hz_47.le hM_74
          replace hv_51 := hv_51.le hM_74
          replace hz_53 := hz_53.le hM_74
          replace hv_57 := hv_57.le hM_74
          replace hz_59 := hz_59.le hM_74
          replace hv_63 := hv_63.le RP2_mono hM_74
          replace hz_65 := hz_65.le RP2_mono hM_74
          replace hv_69 := hv_69.le hM_74
          replace hv_71 := hv_71.le hM_74
          refine WL_guard_yes E rfl rfl ?_
          refine S_v E rfl (R_move E rfl) rfl ?_
          clear E a; intro a E
          refine WL_guard_yes E rfl rfl ?_
          refine S_x (X_pu E S rfl rfl rfl (laws_eq hv_75 hz_47) (Hp.le.refl _) ?_)
          clear E a S; rintro a _ w M_76 hM_76 rfl S E
          replace h0 := h0.le hM_76
          replace hz_4 := hz_4.le hM_76
          replace hv_6 := hv_6.le hM_76
          replace hv_8 := hv_8.le hM_76
          replace hv_31 := hv_31.le hM_76
          replace hv_45 := hv_45.le hM_76
          replace hz_47 := hz_47.le hM_76
          replace hv_51 := hv_51.le hM_76
          replace hz_53 := hz_53.le hM_76
          replace hv_57 := hv_57.le hM_76
          replace hz_59 := hz_59.le hM_76
          replace hv_63 := hv_63.le RP2_mono hM_76
          replace hz_65 := hz_65.le RP2_mono hM_76
          replace hv_69 := hv_69.le hM_76
          replace hv_71 := hv_71.le hM_76
          replace hv_75 := hv_75.le hM_76
          refine S_v E rfl (R_pickT E rfl rfl) rfl ?_
          clear E a; intro a E
          refine S_v E rfl (R_move E rfl) rfl ?_
          clear E a; intro a E
          have hc_77 : (decide (keyL l0 = keyL (l0.take k))) = true := by (clear S E; first | (simp; done) | decide | (simp only [uqS_id]; decide) | (simp [keyL, addS]; done) | (first | refine dec_t ?_ | refine dec_f ?_ | skip); first | (rw [etk]; done) | ((try rw [etk]); first | rfl | exact su_alone _ | exact dq_doub _ | exact fu_alone _ | exact fd_doub _ | exact (sortI_key _) | exact srtM_key _ | (rw [uqS_id]; done) | (rw [fu_alone]; exact same_pq (List.Perm.refl _)) | exact td_doub _ | (rw [etj]; done) | (rw [etj]; exact cv_counts _) | (rw [etj]; rfl) | (rw [cv_counts, etj]; done)))
          replace E := E.val (t := 100) rfl hc_77
          replace E := E.val (t := 101) rfl hc_77
          replace E := E.val (t := 102) rfl hc_77
          refine WL_guard_yes E rfl rfl ?_
          refine S_v E rfl (R_move E rfl) rfl ?_
          clear E a; intro a E
          refine WL_guard_yes E rfl rfl ?_
          refine S_x (X_pu E S rfl rfl rfl (impl_UniqSeq h0 (by (first | omega | (simp; omega) | (simp; done) | (simp_all; omega) | grind))) (Hp.le.refl _) ?_)
          clear E a S; rintro a v_79 w M_78 hM_78 hv_79 S E
          replace h0 := h0.le hM_78
          replace hz_4 := hz_4.le hM_78
          replace hv_6 := hv_6.le hM_78
          replace hv_8 := hv_8.le hM_78
          replace hv_31 := hv_31.le hM_78
          replace hv_45 := hv_45.le hM_78
          replace hz_47 := hz_47.le hM_78
          replace hv_51 := hv_51.le hM_78
          replace hz_53 := hz_53.le hM_78
          replace hv_57 := hv_57.le hM_78
          replace hz_59 := hz_59.le hM_78
          replace hv_63 := hv_63.le RP2_mono hM_78
          replace hz_65 := hz_65.le RP2_mono hM_78
          replace hv_69 := hv_69.le hM_78
          replace hv_71 := hv_71.le hM_78
          replace hv_75 := hv_75.le hM_78
          refine WL_guard_yes E rfl rfl ?_
          refine S_v E rfl (R_move E rfl) rfl ?_
          clear E a; intro a E
          refine WL_guard_yes E rfl rfl ?_
          refine S_x (X_pu E S rfl rfl rfl (laws_eq hv_79 hz_47) (Hp.le.refl _) ?_)
          clear E a S; rintro a _ w M_80 hM_80 rfl S E
          replace h0 := h0.le hM_80
          replace hz_4 := hz_4.le hM_80
          replace hv_6 := hv_6.le hM_80
          replace hv_8 := hv_8.le hM_80
          replace hv_31 := hv_31.le hM_80
          replace hv_45 := hv_45.le hM_80
          replace hz_47 := hz_47.le hM_80
          replace hv_51 := hv_51.le hM_80
          replace hz_53 := hz_53.le hM_80
          replace hv_57 := hv_57.le hM_80
          replace hz_59 := hz_59.le hM_80
          replace hv_63 := hv_63.le RP2_mono hM_80
          replace hz_65 := hz_65.le RP2_mono hM_80
          replace hv_69 := hv_69.le hM_80
          replace hv_71 := hv_71.le hM_80
          replace hv_75 := hv_75.le hM_80
          replace hv_79 := hv_79.le hM_80
          refine S_v E rfl (R_pickT E rfl rfl) rfl ?_
          clear E a; intro a E
          refine S_v E rfl (R_move E rfl) rfl ?_
          clear E a; intro a E
          have hc_81 : (decide ((uqS (fun x => x) l0).2 = keyL (l0.take k))) = true := by (clear S E; first | (simp; done) | decide | (simp only [uqS_id]; decide) | (simp [keyL, addS]; done) | (first | refine dec_t ?_ | refine dec_f ?_ | skip); first | (rw [etk]; done) | ((try rw [etk]); first | rfl | exact su_alone _ | exact dq_doub _ | exact fu_alone _ | exact fd_doub _ | exact (sortI_key _) | exact srtM_key _ | (rw [uqS_id]; done) | (rw [fu_alone]; exact same_pq (List.Perm.refl _)) | exact td_doub _ | (rw [etj]; done) | (rw [etj]; exact cv_counts _) | (rw [etj]; rfl) | (rw [cv_counts, etj]; done)))
          replace E := E.val (t := 106) rfl hc_81
          replace E := E.val (t := 107) rfl hc_81
          replace E := E.val (t := 108) rfl hc_81
          refine WL_guard_yes E rfl rfl ?_
          refine S_v E rfl (R_move E rfl) rfl ?_
          clear E a; intro a E
          refine WL_guard_yes E rfl rfl ?_
          refine S_x (X_pu E S rfl rfl rfl (impl_FindUniques h0 (by (first | omega | (simp; omega) | (simp; done) | (simp_all; omega) | grind))) (Hp.le.refl _) ?_)
          clear E a S; rintro a v_83 w M_82 hM_82 hv_83 S E
          replace h0 := h0.le hM_82
          replace hz_4 := hz_4.le hM_82
          replace hv_6 := hv_6.le hM_82
          replace hv_8 := hv_8.le hM_82
          replace hv_31 := hv_31.le hM_82
          replace hv_45 := hv_45.le hM_82
          replace hz_47 := hz_47.le hM_82
          replace hv_51 := hv_51.le hM_82
          replace hz_53 := hz_53.le hM_82
          replace hv_57 := hv_57.le hM_82
          replace hz_59 := hz_59.le hM_82
          replace hv_63 := hv_63.le RP2_mono hM_82
          replace hz_65 := hz_65.le RP2_mono hM_82
          replace hv_69 := hv_69.le hM_82
          replace hv_71 := hv_71.le hM_82
          replace hv_75 := hv_75.le hM_82
          replace hv_79 := hv_79.le hM_82
          refine WL_guard_yes E rfl rfl ?_
          refine S_v E rfl (R_move E rfl) rfl ?_
          clear E a; intro a E
          refine WL_guard_yes E rfl rfl ?_
          refine S_x (X_pu E S rfl rfl rfl (laws_eq hv_83 hz_53) (Hp.le.refl _) ?_)
          clear E a S; rintro a _ w M_84 hM_84 rfl S E
          replace h0 := h0.le hM_84
          replace hz_4 := hz_4.le hM_84
          replace hv_6 := hv_6.le hM_84
          replace hv_8 := hv_8.le hM_84
          replace hv_31 := hv_31.le hM_84
          replace hv_45 := hv_45.le hM_84
          replace hz_47 := hz_47.le hM_84
          replace hv_51 := hv_51.le hM_84
          replace hz_53 := hz_53.le hM_84
          replace hv_57 := hv_57.le hM_84
          replace hz_59 := hz_59.le hM_84
          replace hv_63 := hv_63.le RP2_mono hM_84
          replace hz_65 := hz_65.le RP2_mono hM_84
          replace hv_69 := hv_69.le hM_84
          replace hv_71 := hv_71.le hM_84
          replace hv_75 := hv_75.le hM_84
          replace hv_79 := hv_79.le hM_84
          replace hv_83 := hv_83.le hM_84
          refine S_v E rfl (R_pickT E rfl rfl) rfl ?_
          clear E a; intro a E
          refine S_v E rfl (R_move E rfl) rfl ?_
          clear E a; intro a E
          have hc_85 : (decide ((l0).filter (fun x => !getK false (dupM (fun x => x) l0) ((fun x => x) x)) = aloneL l0 (l0.take k))) = true := by (clear S E; first | (simp; done) | decide | (simp only [uqS_id]; decide) | (simp [keyL, addS]; done) | (first | refine dec_t ?_ | refine dec_f ?_ | skip); first | (rw [etk]; done) | ((try rw [etk]); first | rfl | exact su_alone _ | exact dq_doub _ | exact fu_alone _ | exact fd_doub _ | exact (sortI_key _) | exact srtM_key _ | (rw [uqS_id]; done) | (rw [fu_alone]; exact same_pq (List.Perm.refl _)) | exact td_doub _ | (rw [etj]; done) | (rw [etj]; exact cv_counts _) | (rw [etj]; rfl) | (rw [cv_counts, etj]; done)))
          replace E := E.val (t := 112) rfl hc_85
          replace E := E.val (t := 113) rfl hc_85
          replace E := E.val (t := 114) rfl hc_85
          refine WL_guard_yes E rfl rfl ?_
          refine S_v E rfl (R_move E rfl) rfl ?_
          clear E a; intro a E
          refine WL_guard_yes E rfl rfl ?_
          refine S_x (X_pu E S rfl rfl rfl (impl_FindDuplicates h0 (by (first | omega | (simp; omega) | (simp; done) | (simp_all; omega) | grind))) (Hp.le.refl _) ?_)
          clear E a S; rintro a v_87 w M_86 hM_86 hv_87 S E
          replace h0 := h0.le hM_86
          replace hz_4 := hz_4.le hM_86
          replace hv_6 := hv_6.le hM_86
          replace hv_8 := hv_8.le hM_86
          replace hv_31 := hv_31.le hM_86
          replace hv_45 := hv_45.le hM_86
          replace hz_47 := hz_47.le hM_86
          replace hv_51 := hv_51.le hM_86
          replace hz_53 := hz_53.le hM_86
          replace hv_57 := hv_57.le hM_86
          replace hz_59 := hz_59.le hM_86
          replace hv_63 := hv_63.le RP2_mono hM_86
          replace hz_65 := hz_65.le RP2_mono hM_86
          replace hv_69 := hv_69.le hM_86
          replace hv_71 := hv_71.le hM_86
          replace hv_75 := hv_75.le hM_86
          replace hv_79 := hv_79.le hM_86
          replace hv_83 := hv_83.le hM_86
          refine WL_guard_yes E rfl rfl ?_
          refine S_v E rfl (R_move E rfl) rfl ?_
          clear E a; intro a E
          refine WL_guard_yes E rfl rfl ?_
          refine S_x (X_pu E S rfl rfl rfl (laws_eq hv_87 hz_59) (Hp.le.refl _) ?_)
          clear E a S; rintro a _ w M_88 hM_88 rfl S E
          replace h0 := h0.le hM_88
          replace hz_4 := hz_4.le hM_88
          replace hv_6 := hv_6.le hM_88
          replace hv_8 := hv_8.le hM_88
          replace hv_31 := hv_31.le hM_88
          replace hv_45 := hv_45.le hM_88
          replace hz_47 := hz_47.le hM_88
          replace hv_51 := hv_51.le hM_88
          replace hz_53 := hz_53.le hM_88
          replace hv_57 := hv_57.le hM_88
          replace hz_59 := hz_59.le hM_88
          replace hv_63 := hv_63.le RP2_mono hM_88
          replace hz_65 := hz_65.le RP2_mono hM_88
          replace hv_69 := hv_69.le hM_88
          replace hv_71 := hv_71.le hM_88
          replace hv_75 := hv_75.le hM_88
          replace hv_79 := hv_79.le hM_88
          replace hv_83 := hv_83.le hM_88
          replace hv_87 := hv_87.le hM_88
          refine S_v E rfl (R_pickT E rfl rfl) rfl ?_
          clear E a; intro a E
          refine S_v E rfl (R_move E rfl) rfl ?_
          clear E a; intro a E
          have hc_89 : (decide ((fdS (fun x => x) (dupM (fun x => x) l0) l0).2 = doubL l0 (l0.take k))) = true := by (clear S E; first | (simp; done) | decide | (simp only [uqS_id]; decide) | (simp [keyL, addS]; done) | (first | refine dec_t ?_ | refine dec_f ?_ | skip); first | (rw [etk]; done) | ((try rw [etk]); first | rfl | exact su_alone _ | exact dq_doub _ | exact fu_alone _ | exact fd_doub _ | exact (sortI_key _) | exact srtM_key _ | (rw [uqS_id]; done) | (rw [fu_alone]; exact same_pq (List.Perm.refl _)) | exact td_doub _ | (rw [etj]; done) | (rw [etj]; exact cv_counts _) | (rw [etj]; rfl) | (rw [cv_counts, etj]; done)))
          replace E := E.val (t := 118) rfl hc_89
          replace E := E.val (t := 119) rfl hc_89
          replace E := E.val (t := 120) rfl hc_89
          refine WL_guard_yes E rfl rfl ?_
          refine S_v E rfl (R_move E rfl) rfl ?_
          clear E a; intro a E
          refine WL_guard_yes E rfl rfl ?_
          refine S_x (X_pu E S rfl rfl rfl (impl_FindUniquesSeq h0 (by (first | omega | (simp; omega) | (simp; done) | (simp_all; omega) | grind))) (Hp.le.refl _) ?_)
          clear E a S; rintro a v_91 w M_90 hM_90 hv_91 S E
          replace h0 := h0.le hM_90
          replace hz_4 := hz_4.le hM_90
          replace hv_6 := hv_6.le hM_90
          replace hv_8 := hv_8.le hM_90
          replace hv_31 := hv_31.le hM_90
          replace hv_45 := hv_45.le hM_90
          replace hz_47 := hz_47.le hM_90
          replace hv_51 := hv_51.le hM_90
          replace hz_53 := hz_53.le hM_90
          replace hv_57 := hv_57.le hM_90
          replace hz_59 := hz_59.le hM_90
          replace hv_63 := hv_63.le RP2_mono hM_90
          replace hz_65 := hz_65.le RP2_mono hM_90
          replace hv_69 := hv_69.le hM_90
          replace hv_71 := hv_71.le hM_90
          replace hv_75 := hv_75.le hM_90
          replace hv_79 := hv_79.le hM_90
          replace hv_83 := hv_83.le hM_90
          replace hv_87 := hv_87.le hM_90
          refine WL_guard_yes E rfl rfl ?_
          refine S_v E rfl (R_move E rfl) rfl ?_
          clear E a; intro a E
          refine WL_guard_yes E rfl rfl ?_
          refine S_x (X_pu E S rfl rfl rfl (laws_same hv_91 hz_53) (Hp.le.refl _) ?_)
          clear E a S; rintro a _ w M_92 hM_92 rfl S E
          replace h0 := h0.le hM_92
          replace hz_4 := hz_4.le hM_92
          replace hv_6 := hv_6.le hM_92
          replace hv_8 := hv_8.le hM_92
          replace hv_31 := hv_31.le hM_92
          replace hv_45 := hv_45.le hM_92
          replace hz_47 := hz_47.le hM_92
          replace hv_51 := hv_51.le hM_92
          replace hz_53 := hz_53.le hM_92
          replace hv_57 := hv_57.le hM_92
          replace hz_59 := hz_59.le hM_92
          replace hv_63 := hv_63.le RP2_mono hM_92
          replace hz_65 := hz_65.le RP2_mono hM_92
          replace hv_69 := hv_69.le hM_92
          replace hv_71 := hv_71.le hM_92
          replace hv_75 := hv_75.le hM_92
          replace hv_79 := hv_79.le hM_92
          replace hv_83 := hv_83.le hM_92
          replace hv_87 := hv_87.le hM_92
          replace hv_91 := hv_91.le hM_92
          refine S_v E rfl (R_pickT E rfl rfl) rfl ?_
          clear E a; intro a E
          refine S_v E rfl (R_move E rfl) rfl ?_
          clear E a; intro a E
          have hc_93 : (decide (((l0).filter (fun x => !getK false (dupM (fun x => x) l0) ((fun x => x) x))).length = (aloneL l0 (l0.take k)).length ∧ ∀ x ∈ (l0).filter (fun x => !getK false (dupM (fun x => x) l0) ((fun x => x) x)), ((l0).filter (fun x => !getK false (dupM (fun x => x) l0) ((fun x => x) x))).count x = (aloneL l0 (l0.take k)).count x)) = true := by (clear S E; first | (simp; done) | decide | (simp only [uqS_id]; decide) | (simp [keyL, addS]; done) | (first | refine dec_t ?_ | refine dec_f ?_ | skip); first | (rw [etk]; done) | ((try rw [etk]); first | rfl | exact su_alone _ | exact dq_doub _ | exact fu_alone _ | exact fd_doub _ | exact (sortI_key _) | exact srtM_key _ | (rw [uqS_id]; done) | (rw [fu_alone]; exact same_pq (List.Perm.refl _)) | exact td_doub _ | (rw [etj]; done) | (rw [etj]; exact cv_counts _) | (rw [etj]; rfl) | (rw [cv_counts, etj]; done)))
          replace E := E.val (t := 124) rfl hc_93
          replace E := E.val (t := 125) rfl hc_93
          replace E := E.val (t := 126) rfl hc_93
          refine WL_guard_yes E rfl rfl ?_
          refine S_v E rfl (R_move E rfl) rfl ?_
          clear E a; intro a E
          refine WL_guard_yes E rfl rfl ?_
          refine S_x (X_pu E S rfl rfl rfl (impl_FindDuplicatesSeq h0 (by (first | omega | (simp; omega) | (simp; done) | (simp_all; omega) | grind))) (Hp.le.refl _) ?_)
          clear E a S; rintro a v_95 w M_94 hM_94 hv_95 S E
          replace h0 := h0.le hM_94
          replace hz_4 := hz_4.le hM_94
          replace hv_6 := hv_6.le hM_94
          replace hv_8 := hv_8.le hM_94
          replace hv_31 := hv_31.le hM_94
          replace hv_45 := hv_45.le hM_94
          replace hz_47 := hz_47.le hM_94
          replace hv_51 := hv_51.le hM_94
          replace hz_53 := hz_53.le hM_94
          replace hv_57 := hv_57.le hM_94
          replace hz_59 := hz_59.le hM_94
          replace hv_63 := hv_63.le RP2_mono hM_94
          replace hz_65 := hz_65.le RP2_mono hM_94
          replace hv_69 := hv_69.le hM_94
          replace hv_71 := hv_71.le hM_94
          replace hv_75 := hv_75.le hM_94
          replace hv_79 := hv_79.le hM_94
          replace hv_83 := hv_83.le hM_94
          replace hv_87 := hv_87.le hM_94
          replace hv_91 := hv_91.le hM_94
          refine WL_guard_yes E rfl rfl ?_
          refine S_v E rfl (R_move E rfl) rfl ?_
          clear E a; intro a E
          refine WL_guard_yes E rfl rfl ?_
          refine S_x (X_pu E S rfl rfl rfl (laws_same hv_95 hz_59) (Hp.le.refl _) ?_)
          clear E a S; rintro a _ w M_96 hM_96 rfl S E
          replace h0 := h0.le hM_96
          replace hz_4 := hz_4.le hM_96
          replace hv_6 := hv_6.le hM_96
          replace hv_8 := hv_8.le hM_96
          replace hv_31 := hv_31.le hM_96
          replace hv_45 := hv_45.le hM_96
          replace hz_47 := hz_47.le hM_96
          replace hv_51 := hv_51.le hM_96
          replace hz_53 := hz_53.le hM_96
          replace hv_57 := hv_57.le hM_96
          replace hz_59 := hz_59.le hM_96
          replace hv_63 := hv_63.le RP2_mono hM_96
          replace hz_65 := hz_65.le RP2_mono hM_96
          replace hv_69 := hv_69.le hM_96
          replace hv_71 := hv_71.le hM_96
          replace hv_75 := hv_75.le hM_96
          replace hv_79 := hv_79.le hM_96
          replace hv_83 := hv_83.le hM_96
          replace hv_87 := hv_87.le hM_96
          replace hv_91 := hv_91.le hM_96
          replace hv_95 := hv_95.le hM_96
          refine S_v E rfl (R_pickT E rfl rfl) rfl ?_
          clear E a; intro a E
          refine S_v E rfl (R_move E rfl) rfl ?_
          clear E a; intro a E
          have hc_97 : (decide (((tdS (fun x => x) l0).2).length = (doubL l0 (l0.take k)).length ∧ ∀ x ∈ (tdS (fun x => x) l0).2, ((tdS (fun x => x) l0).2).count x = (doubL l0 (l0.take k)).count x)) = true := by (clear S E; first | (simp; done) | decide | (simp only [uqS_id]; decide) | (simp [keyL, addS]; done) | (first | refine dec_t ?_ | refine dec_f ?_ | skip); first | (rw [etk]; done) | ((try rw [etk]); first | rfl | exact su_alone _ | exact dq_doub _ | exact fu_alone _ | exact fd_doub _ | exact (sortI_key _) | exact srtM_key _ | (rw [uqS_id]; done) | (rw [fu_alone]; exact same_pq (List.Perm.refl _)) | exact td_doub _ | (rw [etj]; done) | (rw [etj]; exact cv_counts _) | (rw [etj]; rfl) | (rw [cv_counts, etj]; done)))
          replace E := E.val (t := 130) rfl hc_97
          replace E := E.val (t := 131) rfl hc_97
          replace E := E.val (t := 132) rfl hc_97
          refine WL_guard_yes E rfl rfl ?_
          refine S_v E rfl (R_move E rfl) rfl ?_
          clear E a; intro a E
          refine WL_guard_yes E rfl rfl ?_
          refine S_x (X_pu E S rfl rfl rfl (impl_CountValues h0 (by (first | omega | (simp; omega) | (simp; done) | (simp_all; omega) | grind))) (Hp.le.refl _) ?_)
          clear E a S; rintro a v_99 w M_98 hM_98 hv_99 S E
          replace h0 := h0.le hM_98
          replace hz_4 := hz_4.le hM_98
          replace hv_6 := hv_6.le hM_98
          replace hv_8 := hv_8.le hM_98
          replace hv_31 := hv_31.le hM_98
          replace hv_45 := hv_45.le hM_98
          replace hz_47 := hz_47.le hM_98
          replace hv_51 := hv_51.le hM_98
          replace hz_53 := hz_53.le hM_98
          replace hv_57 := hv_57.le hM_98
          replace hz_59 := hz_59.le hM_98
          replace hv_63 := hv_63.le RP2_mono hM_98
          replace hz_65 := hz_65.le RP2_mono hM_98
          replace hv_69 := hv_69.le hM_98
          replace hv_71 := hv_71.le hM_98
          replace hv_75 := hv_75.le hM_98
          replace hv_79 := hv_79.le hM_98
          replace hv_83 := hv_83.le hM_98
          replace hv_87 := hv_87.le hM_98
          replace hv_91 := hv_91.le hM_98
          replace hv_95 := hv_95.le hM_98
          refine WL_guard_yes E rfl rfl ?_
          refine S_v E rfl (R_move E rfl) rfl ?_
          clear E a; intro a E
          refine WL_guard_yes E rfl rfl ?_
          refine S_x (X_pu E S rfl rfl rfl (laws_eqPairs hv_99 hz_65) (Hp.le.refl _) ?_)
          clear E a S; rintro a _ w M_100 hM_100 rfl S E
          replace h0 := h0.le hM_100
          replace hz_4 := hz_4.le hM_100
          replace hv_6 := hv_6.le hM_100
          replace hv_8 := hv_8.le hM_100
          replace hv_31 := hv_31.le hM_100
          replace hv_45 := hv_45.le hM_100
          replace hz_47 := hz_47.le hM_100
          replace hv_51 := hv_51.le hM_100
          replace hz_53 := hz_53.le hM_100
          replace hv_57 := hv_57.le hM_100
          replace hz_59 := hz_59.le hM_100
          replace hv_63 := hv_63.le RP2_mono hM_100
          replace hz_65 := hz_65.le RP2_mono hM_100
          replace hv_69 := hv_69.le hM_100
          replace hv_71 := hv_71.le hM_100
          replace hv_75 := hv_75.le hM_100
          replace hv_79 := hv_79.le hM_100
          replace hv_83 := hv_83.le hM_100
          replace hv_87 := hv_87.le hM_100
          replace hv_91 := hv_91.le hM_100
          replace hv_95 := hv_95.le hM_100
          replace hv_99 := hv_99.le RP2_mono hM_100
          refine S_v E rfl (R_pickT E rfl rfl) rfl ?_
          clear E a; intro a E
          refine S_v E rfl (R_move E rfl) rfl ?_
          clear E a; intro a E
          have hc_101 : (decide (srtK Prod.fst (upM (fun x => x) [] l0) = ((setI l0).take j).map (fun x => (x, (l0.count x : Int))))) = true := by (clear S E; first | (simp; done) | decide | (simp only [uqS_id]; decide) | (simp [keyL, addS]; done) | (first | refine dec_t ?_ | refine dec_f ?_ | skip); first | (rw [etk]; done) | ((try rw [etk]); first | rfl | exact su_alone _ | exact dq_doub _ | exact fu_alone _ | exact fd_doub _ | exact (sortI_key _) | exact srtM_key _ | (rw [uqS_id]; done) | (rw [fu_alone]; exact same_pq (List.Perm.refl _)) | exact td_doub _ | (rw [etj]; done) | (rw [etj]; exact cv_counts _) | (rw [etj]; rfl) | (rw [cv_counts, etj]; done)))
          replace E := E.val (t := 136) rfl hc_101
          replace E := E.val (t := 137) rfl hc_101
          replace E := E.val (t := 138) rfl hc_101
          refine WL_guard_yes E rfl rfl ?_
          refine S_v E rfl (R_move E rfl) rfl ?_
          clear E a; intro a E
          refine WL_guard_yes E rfl rfl ?_
          refine S_x (X_pu E S rfl rfl rfl (impl_CountValuesSeq h0 (by (first | omega | (simp; omega) | (simp; done) | (simp_all; omega) | grind))) (Hp.le.refl _) ?_)
          clear E a S; rintro a v_103 w M_102 hM_102 hv_103 S E
          replace h0 := h0.le hM_102
          replace hz_4 := hz_4.le hM_102
          replace hv_6 := hv_6.le hM_102
          replace hv_8 := hv_8.le hM_102
          replace hv_31 := hv_31.le hM_102
          replace hv_45 := hv_45.le hM_102
          replace hz_47 := hz_47.le hM_102
          replace hv_51 := hv_51.le hM_102
          replace hz_53 := hz_53.le hM_102
          replace hv_57 := hv_57.le hM_102
          replace hz_59 := hz_59.le hM_102
          replace hv_63 := hv_63.le RP2_mono hM_102
          replace hz_65 := hz_65.le RP2_mono hM_102
          replace hv_69 := hv_69.le hM_102
          replace hv_71 := hv_71.le hM_102
          replace hv_75 := hv_75.le hM_102
          replace hv_79 := hv_79.le hM_102
          replace hv_83 := hv_83.le hM_102
          replace hv_87 := hv_87.le hM_102
          replace hv_91 := hv_91.le hM_102
          replace hv_95 := hv_95.le hM_102
          replace hv_99 := hv_99.le RP2_mono hM_102
          refine WL_guard_yes E rfl rfl ?_
          refine S_v E rfl (R_move E rfl) rfl ?_
          clear E a; intro a E
          refine WL_guard_yes E rfl rfl ?_
          refine S_x (X_pu E S rfl rfl rfl (laws_eqPairs hv_103 hz_65) (Hp.le.refl _) ?_)
          clear E a S; rintro a _ w M_104 hM_104 rfl S E
          replace h0 := h0.le hM_104
          replace hz_4 := hz_4.le hM_104
          replace hv_6 := hv_6.le hM_104
          replace hv_8 := hv_8.le hM_104
          replace hv_31 := hv_31.le hM_104
          replace hv_45 := hv_45.le hM_104
          replace hz_47 := hz_47.le hM_104
          replace hv_51 := hv_51.le hM_104
          replace hz_53 := hz_53.le hM_104
          replace hv_57 := hv_57.le hM_104
          replace hz_59 := hz_59.le hM_104
          replace hv_63 := hv_63.le RP2_mono hM_104
          replace hz_65 := hz_65.le RP2_mono hM_104
          replace hv_69 := hv_69.le hM_104
          replace hv_71 := hv_71.le hM_104
          replace hv_75 := hv_75.le hM_104
          replace hv_79 := hv_79.le hM_104
          replace hv_83 := hv_83.le hM_104
          replace hv_87 := hv_87.le hM_104
          replace hv_91 := hv_91.le hM_104
          replace hv_95 := hv_95.le hM_104
          replace hv_99 := hv_99.le RP2_mono hM_104
          replace hv_103 := hv_103.le RP2_mono hM_104
          refine S_v E rfl (R_pickT E rfl rfl) rfl ?_
          clear E a; intro a E
          refine S_v E rfl (R_move E rfl) rfl ?_
          clear E a; intro a E
          have hc_105 : (decide (srtK Prod.fst (upM (fun x => x) [] l0) = ((setI l0).take j).map (fun x => (x, (l0.count x : Int))))) = true := by (clear S E; first | (simp; done) | decide | (simp only [uqS_id]; decide) | (simp [keyL, addS]; done) | (first | refine dec_t ?_ | refine dec_f ?_ | skip); first | (rw [etk]; done) | ((try rw [etk]); first | rfl | exact su_alone _ | exact dq_doub _ | exact fu_alone _ | exact fd_doub _ | exact (sortI_key _) | exact srtM_key _ | (rw [uqS_id]; done) | (rw [fu_alone]; exact same_pq (List.Perm.refl _)) | exact td_doub _ | (rw [etj]; done) | (rw [etj]; exact cv_counts _) | (rw [etj]; rfl) | (rw [cv_counts, etj]; done)))
          replace E := E.val (t := 142) rfl hc_105
          replace E := E.val (t := 143) rfl hc_105
          replace E := E.val (t := 144) rfl hc_105
          refine WL_guard_yes E rfl rfl ?_
          refine S_v E rfl (R_move E rfl) rfl ?_
          clear E a; intro a E
          refine WL_guard_yes E rfl rfl ?_
          refine S_x (X_pu E S rfl rfl rfl (impl_Keyify h0 (by (first | omega | (simp; omega) | (simp; done) | (simp_all; omega) | grind))) (Hp.le.refl _) ?_)
          clear E a S; rintro a v_107 w M_106 hM_106 hv_107 S E
          replace h0 := h0.le hM_106
          replace hz_4 := hz_4.le hM_106
          replace hv_6 := hv_6.le hM_106
          replace hv_8 := hv_8.le hM_106
          replace hv_31 := hv_31.le hM_106
          replace hv_45 := hv_45.le hM_106
          replace hz_47 := hz_47.le hM_106
          replace hv_51 := hv_51.le hM_106
          replace hz_53 := hz_53.le hM_106
          replace hv_57 := hv_57.le hM_106
          replace hz_59 := hz_59.le hM_106
          replace hv_63 := hv_63.le RP2_mono hM_106
          replace hz_65 := hz_65.le RP2_mono hM_106
          replace hv_69 := hv_69.le hM_106
          replace hv_71 := hv_71.le hM_106
          replace hv_75 := hv_75.le hM_106
          replace hv_79 := hv_79.le hM_106
          replace hv_83 := hv_83.le hM_106
          replace hv_87 := hv_87.le hM_106
          replace hv_91 := hv_91.le hM_106
          replace hv_95 := hv_95.le hM_106
          replace hv_99 := hv_99.le RP2_mono hM_106
          replace hv_103 := hv_103.le RP2_mono hM_106
          refine WL_guard_yes E rfl rfl ?_
          refine S_v E rfl (R_move E rfl) rfl ?_
          clear E a; intro a E
          refine WL_guard_yes E rfl rfl ?_
          refine S_x (X_pu E S rfl rfl rfl (laws_sorted h0 (by (first | omega | (simp; omega) | (simp; done) | (simp_all; omega) | grind))) (Hp.le.refl _) ?_)
          clear E a S; rintro a v_109 w M_108 hM_108 hv_109 S E
          replace h0 := h0.le hM_108
          replace hz_4 := hz_4.le hM_108
          replace hv_6 := hv_6.le hM_108
          replace hv_8 := hv_8.le hM_108
          replace hv_31 := hv_31.le hM_108
          replace hv_45 := hv_45.le hM_108
          replace hz_47 := hz_47.le hM_108
          replace hv_51 := hv_51.le hM_108
          replace hz_53 := hz_53.le hM_108
          replace hv_57 := hv_57.le hM_108
          replace hz_59 := hz_59.le hM_108
          replace hv_63 := hv_63.le RP2_mono hM_108
          replace hz_65 := hz_65.le RP2_mono hM_108
          replace hv_69 := hv_69.le hM_108
          replace hv_71 := hv_71.le hM_108
          replace hv_75 := hv_75.le hM_108
          replace hv_79 := hv_79.le hM_108
          replace hv_83 := hv_83.le hM_108
          replace hv_87 := hv_87.le hM_108
          replace hv_91 := hv_91.le hM_108
          replace hv_95 := hv_95.le hM_108
          replace hv_99 := hv_99.le RP2_mono hM_108
          replace hv_103 := hv_103.le RP2_mono hM_108
          replace hv_107 := hv_107.le hM_108
          refine WL_guard_yes E rfl rfl ?_
          refine S_x (X_pu E S rfl rfl rfl (laws_eq hv_107 hv_109) (Hp.le.refl _) ?_)
          clear E a S; rintro a _ w M_110 hM_110 rfl S E
          replace h0 := h0.le hM_110
          replace hz_4 := hz_4.le hM_110
          replace hv_6 := hv_6.le hM_110
          replace hv_8 := hv_8.le hM_110
          replace hv_31 := hv_31.le hM_110
          replace hv_45 := hv_45.le hM_110
          replace hz_47 := hz_47.le hM_110
          replace hv_51 := hv_51.le hM_110
          replace hz_53 := hz_53.le hM_110
          replace hv_57 := hv_57.le hM_110
          replace hz_59 := hz_59.le hM_110
          replace hv_63 := hv_63.le RP2_mono hM_110
          replace hz_65 := hz_65.le RP2_mono hM_110
          replace hv_69 := hv_69.le hM_110
          replace hv_71 := hv_71.le hM_110
          replace hv_75 := hv_75.le hM_110
          replace hv_79 := hv_79.le hM_110
          replace hv_83 := hv_83.le hM_110
          replace hv_87 := hv_87.le hM_110
          replace hv_91 := hv_91.le hM_110
          replace hv_95 := hv_95.le hM_110
          replace hv_99 := hv_99.le RP2_mono hM_110
          replace hv_103 := hv_103.le RP2_mono hM_110
          replace hv_107 := hv_107.le hM_110
          replace hv_109 := hv_109.le hM_110
          refine S_v E rfl (R_pickT E rfl rfl) rfl ?_
          clear E a; intro a E
          refine S_v E rfl (R_move E rfl) rfl ?_
          clear E a; intro a E
          have hc_111 : (decide (srtM (keyL l0) = setI l0)) = true := by (clear S E; first | (simp; done) | decide | (simp only [uqS_id]; decide) | (simp [keyL, addS]; done) | (first | refine dec_t ?_ | refine dec_f ?_ | skip); first | (rw [etk]; done) | ((try rw [etk]); first | rfl | exact su_alone _ | exact dq_doub _ | exact fu_alone _ | exact fd_doub _ | exact (sortI_key _) | exact srtM_key _ | (rw [uqS_id]; done) | (rw [fu_alone]; exact same_pq (List.Perm.refl _)) | exact td_doub _ | (rw [etj]; done) | (rw [etj]; exact cv_counts _) | (rw [etj]; rfl) | (rw [cv_counts, etj]; done)))
          replace E := E.val (t := 149) rfl hc_111
          replace E := E.val (t := 150) rfl hc_111
          replace E := E.val (t := 151) rfl hc_111
          refine WL_guard_yes E rfl rfl ?_
          refine S_v E rfl (R_move E rfl) rfl ?_
          clear E a; intro a E
          refine WL_guard_yes E rfl rfl ?_
          refine S_x (X_pu E S rfl rfl rfl (impl_KeyifySeq h0 (by (first | omega | (simp; omega) | (simp; done) | (simp_all; omega) | grind))) (Hp.le.refl _) ?_)
          clear E a S; rintro a v_113 w M_112 hM_112 hv_113 S E
          replace h0 := h0.le hM_112
          replace hz_4 := hz_4.le hM_112
          replace hv_6 := hv_6.le hM_112
          replace hv_8 := hv_8.le hM_112
          replace hv_31 := hv_31.le hM_112
          replace hv_45 := hv_45.le hM_112
          replace hz_47 := hz_47.le hM_112
          replace hv_51 := hv_51.le hM_112
          replace hz_53 := hz_53.le hM_112
          replace hv_57 := hv_57.le hM_112
          replace hz_59 := hz_59.le hM_112
          replace hv_63 := hv_63.le RP2_mono hM_112
          replace hz_65 := hz_65.le RP2_mono hM_112
          replace hv_69 := hv_69.le hM_112
          replace hv_71 := hv_71.le hM_112
          replace hv_75 := hv_75.le hM_112
          replace hv_79 := hv_79.le hM_112
          replace hv_83 := hv_83.le hM_112
          replace hv_87 := hv_87.le hM_112
          replace hv_91 := hv_91.le hM_112
          replace hv_95 := hv_95.le hM_112
          replace hv_99 := hv_99.le RP2_mono hM_112
          replace hv_103 := hv_103.le RP2_mono hM_112
          replace hv_107 := hv_107.le hM_112
          replace hv_109 := hv_109.le hM_112
          refine WL_guard_yes E rfl rfl ?_
          refine S_v E rfl (R_move E rfl) rfl ?_
          clear E a; intro a E
          refine WL_guard_yes E rfl rfl ?_
          refine S_x (X_pu E S rfl rfl rfl (laws_sorted h0 (by (first | omega | (simp; omega) | (simp; done) | (simp_all; omega) | grind))) (Hp.le.refl _) ?_)
          clear E a S; rintro a v_115 w M_114 hM_114 hv_115 S E
          replace h0 := h0.le hM_114
          replace hz_4 := hz_4.le hM_114
          replace hv_6 := hv_6.le hM_114
          replace hv_8 := hv_8.le hM_114
          replace hv_31 := hv_31.le hM_114
          replace hv_45 := hv_45.le hM_114
          replace hz_47 := hz_47.le hM_114
          replace hv_51 := hv_51.le hM_114
          replace hz_53 := hz_53.le hM_114
          replace hv_57 := hv_57.le hM_114
          replace hz_59 := hz_59.le hM_114
          replace hv_63 := hv_63.le RP2_mono hM_114
          replace hz_65 := hz_65.le RP2_mono hM_114
          replace hv_69 := hv_69.le hM_114
          replace hv_71 := hv_71.le hM_114
          replace hv_75 := hv_75.le hM_114
          replace hv_79 := hv_79.le hM_114
          replace hv_83 := hv_83.le hM_114
          replace hv_87 := hv_87.le hM_114
          replace hv_91 := hv_91.le hM_114
          replace hv_95 := hv_95.le hM_114
          replace hv_99 := hv_99.le RP2_mono hM_114
          replace hv_103 := hv_103.le RP2_mono hM_114
          replace hv_107 := hv_107.le hM_114
          replace hv_109 := hv_109.le hM_114
          replace hv_113 := hv_113.le hM_114
          refine WL_guard_yes E rfl rfl ?_
          refine S_x (X_pu E S rfl rfl rfl (laws_eq hv_113 hv_115) (Hp.le.refl _) ?_)
          clear E a S; rintro a _ w M_116 hM_116 rfl S E
          replace h0 := h0.le hM_116
          replace hz_4 := hz_4.le hM_116
          replace hv_6 := hv_6.le hM_116
          replace hv_8 := hv_8.le hM_116
          replace hv_31 := hv_31.le hM_116
          replace hv_45 := hv_45.le hM_116
          replace hz_47 := hz_47.le hM_116
          replace hv_51 := hv_51.le hM_116
          replace hz_53 := hz_53.le hM_116
          replace hv_57 := hv_57.le hM_116
          replace hz_59 := hz_59.le hM_116
          replace hv_63 := hv_63.le RP2_mono hM_116
          replace hz_65 := hz_65.le RP2_mono hM_116
          replace hv_69 := hv_69.le hM_116
          replace hv_71 := hv_71.le hM_116
          replace hv_75 := hv_75.le hM_116
          replace hv_79 := hv_79.le hM_116
          replace hv_83 := hv_83.le hM_116
          replace hv_87 := hv_87.le hM_116
          replace hv_91 := hv_91.le hM_116
          replace hv_95 := hv_95.le hM_116
          replace hv_99 := hv_99.le RP2_mono hM_116
          replace hv_103 := hv_103.le RP2_mono hM_116
          replace hv_107 := hv_107.le hM_116
          replace hv_109 := hv_109.le hM_116
          replace hv_113 := hv_113.le hM_116
          replace hv_115 := hv_115.le hM_116
          refine S_v E rfl (R_pickT E rfl rfl) rfl ?_
          clear E a; intro a E
          refine S_v E rfl (R_assign E rfl) rfl ?_
          clear E a; intro a E
          refine WL_nil ?_
          refine T_n ?_
          refine WP_ret ?_
          exact F_ret1 E Tryz.results3 rfl ⟨_, rfl, M_116, (hM_3.trans (hM_5.trans (hM_9.trans (hM_10.trans (hM_15.trans (hM_30.trans (hM_34.trans (hM_44.trans (hM_46.trans (hM_48.trans (hM_50.trans (hM_52.trans (hM_54.trans (hM_56.trans (hM_58.trans (hM_60.trans (hM_62.trans (hM_64.trans (hM_66.trans (hM_68.trans (hM_70.trans (hM_72.trans (hM_74.trans (hM_76.trans (hM_78.trans (hM_80.trans (hM_82.trans (hM_84.trans (hM_86.trans (hM_88.trans (hM_90.trans (hM_92.trans (hM_94.trans (hM_96.trans (hM_98.trans (hM_100.trans (hM_102.trans (hM_104.trans (hM_106.trans (hM_108.trans (hM_110.trans (hM_112.trans (hM_114.trans hM_116))))))))))))))))))))))))))))))))))))))))))), (congrArg Value.bool (by (clear S E; first | (simp; done) | decide | (simp only [uqS_id]; decide) | (simp [keyL, addS]; done) | (first | refine dec_t ?_ | refine dec_f ?_ | skip); first | (rw [etk]; done) | ((try rw [etk]); first | rfl | exact su_alone _ | exact dq_doub _ | exact fu_alone _ | exact fd_doub _ | exact (sortI_key _) | exact srtM_key _ | (rw [uqS_id]; done) | (rw [fu_alone]; exact same_pq (List.Perm.refl _)) | exact td_doub _ | (rw [etj]; done) | (rw [etj]; exact cv_counts _) | (rw [etj]; rfl) | (rw [cv_counts, etj]; done))))), S⟩

end Go.Proofs.YtahbobhbookehaaGreat.wFnUniques
