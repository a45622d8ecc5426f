/- Walks through the functions that laws.FnFilterRoads reaches: what each computes; no conditions beyond what each theorem states. -/
import Derived.Test.YtealhfcckjdclaaWFnFilterRoadsa
set_option linter.unusedVariables false
set_option linter.unusedSimpArgs false
namespace Go.Proofs.Ytealhfcckjdclaa.wFnFilterRoads
open Go Go.Sl
set_option maxRecDepth 100000 in
set_option maxHeartbeats 4000000 in
theorem it_FilterMapI1 {M : Hp} {v0 : Value} {l0 : List Int} (h0 : SeqV Try.prog v0 M (RInt) l0) {v1 : Value} {f1 : Int → Int → Int × Bool} (h1 : PF2T Try.prog v1 M f1) (hb : l0.length ≤ 1000000000000) {bx8 bx9 : Nat} (hbx8 : M bx8 = some (.cells #[v0] 70)) (hbx9 : M bx9 = some (.cells #[v1] 95)) :
    SeqV Try.prog (.func (.func 223) #[] #[.pointer (some ⟨bx8, 0, none⟩), .pointer (some ⟨bx9, 0, none⟩)]) M (RInt) (fmapI f1 0 l0) := by
  refine SeqV_enter Try.func223 rfl Try.ntmps223 rfl Try.call223 ?_
  intro y J X a w M1 c H hJM hM1 hY hJ S E
  replace h0 := h0.le hM1
  replace h1 := h1.le hM1
  replace hbx8 := hM1.2 _ _ hbx8
  replace hbx9 := hM1.2 _ _ hbx9
  refine WP_seq ?_
  refine WP_region ?_
  refine S_x (X_box (cs := #[y]) E S rfl rfl (cells_one hY.1) ?_)
  clear E a S; rintro a w b_1 E S
  obtain ⟨M_2, hM_2, hb_1, S⟩ := S.freezeB
  replace h0 := h0.le hM_2
  replace h1 := h1.le hM_2
  replace hbx8 := hM_2.2 _ _ hbx8
  replace hbx9 := hM_2.2 _ _ hbx9
  replace hJ := hJM _ _ _ _ hM_2 hJ
  refine WL_nil ?_
  refine T_n ?_
  refine WP_seq ?_
  refine WP_region ?_
  refine S_x (X_alloc (cs := #[.int .i64 0]) E S rfl Try.zeroValue3 rfl ?_)
  clear E a S; rintro a w b_3 E S
  refine WL_nil ?_
  refine T_n ?_
  refine WP_seq ?_
  refine WP_region ?_
  refine S_v E rfl (R_loadM E rfl Try.isAgg70 S.imm (cellM_box hbx8)) rfl ?_
  clear E a; intro a E
  refine WL_nil ?_
  refine T_n ?_
  refine WP_block ?_
  replace S := S.front2
  replace S := S.front1
  replace E := E.keep (l' := [(2, .pointer (some ⟨bx9, 0, none⟩)), (3, .pointer (some ⟨b_1, 0, none⟩)), (4, .pointer (some ⟨b_3, 0, none⟩)), (8, v0)]) ⟨rfl, rfl, rfl, rfl, trivial⟩
  replace S := S.front1
  replace S := S.front1
  replace S := S.blk_int (j := ((([] : List Int)).length : Int)) (by (first | (simp; done) | omega))
  have S0 := S; clear S; have S := St.pack [blk b_3 (.cells #[.int .i64 ((([] : List Int)).length : Int)] 3), c] S0; clear S0
  refine WP_range (RV := RInt) (l := l0) (fun pre M c => ∃ (c0 : HProp), c = bigs [blk b_3 (.cells #[.int .i64 ((pre).length : Int)] 3), c0] ∧ (J (fmapI f1 0 (pre)) M c0)) (fun cd pre M c => cd = .ret ∧ X (fmapI f1 0 (pre)) M c) E S rfl h0 (Hp.le.refl _) (fun _ _ _ h => by rw [h]; rfl) (by decide) (by rintro _ M M' c hM ⟨c0, rfl, f0⟩; exact ⟨_, rfl, hJM _ _ _ _ hM f0⟩) ⟨_, rfl, J_eq hJ (by ((try clear S); (try clear E); first | assumption | omega | rfl | (simp; done) | (simp_all; done) | (simp [List.take_add_one, *]; done) | grind [List.take_add_one]))⟩ ?_ ?_ ?_
  clear E S
  · rintro lb_5 rec_6 pre x _ a w M_4 _ G hM_4 hp_7 rfl ⟨c0, rfl, f0⟩ E S
    replace E : Env a 26 [] [(9, .int .i64 x), (2, .pointer (some ⟨bx9, 0, none⟩)), (3, .pointer (some ⟨b_1, 0, none⟩)), (4, .pointer (some ⟨b_3, 0, none⟩)), (8, v0)] := E
    replace S := S.swap.unpack2
    have hq0 := prefix_lt hp_7
    replace h0 := h0.le hM_4
    replace h1 := h1.le hM_4
    replace hbx8 := hM_4.2 _ _ hbx8
    replace hbx9 := hM_4.2 _ _ hbx9
    replace hb_1 := hM_4.2 _ _ hb_1
    refine WP_region ?_
    refine S_v E rfl (R_assign E rfl) rfl ?_
    clear E a; intro a E
    refine WL_nil ?_
    refine T_n ?_
    replace S := S.front2
    refine rb S ?_
    clear S; intro w S
    refine WP_block ?_
    refine WP_seq ?_
    refine WP_seq ?_
    refine WP_region ?_
    refine S_v E rfl (R_loadM E rfl Try.isAgg95 S.imm (cellM_box hbx9)) rfl ?_
    clear E a; intro a E
    refine S_v E rfl (R_move E rfl) rfl ?_
    clear E a; intro a E
    refine S_v E rfl (R_load E rfl (Try.isAgg3 _) (cell_blk (S.mem (.tail _ (.head _))))) rfl ?_
    clear E a; intro a E
    refine S_x (X_pu E S rfl rfl rfl (h1.2 x ((pre).length : Int)) (Hp.le.refl _) ?_)
    clear E a S; rintro a _ w M_9 hM_9 rfl S E
    replace h0 := h0.le hM_9
    replace h1 := h1.le hM_9
    replace hbx8 := hM_9.2 _ _ hbx8
    replace hbx9 := hM_9.2 _ _ hbx9
    replace hb_1 := hM_9.2 _ _ hb_1
    replace f0 := hJM _ _ _ _ hM_9 f0
    refine S_v E rfl (R_move E rfl) rfl ?_
    clear E a; intro a E
    refine S_v E rfl (R_extract E rfl rfl) rfl ?_
    clear E a; intro a E
    refine S_v E rfl (R_extract E rfl rfl) rfl ?_
    clear E a; intro a E
    refine S_v E rfl (R_assign E rfl) rfl ?_
    clear E a; intro a E
    refine S_v E rfl (R_assign E rfl) rfl ?_
    clear E a; intro a E
    refine WL_nil ?_
    refine T_n ?_
    refine WP_seq ?_
    refine WP_region ?_
    refine S_v E rfl (R_move E rfl) rfl ?_
    clear E a; intro a E
    refine S_v E rfl (R_move E rfl) rfl ?_
    clear E a; intro a E
    refine split_bool ((f1 x ((pre).length : Int)).2) (fun hc_10 => ?_) (fun hc_10 => ?_)
    · replace E := E.val (t := 16) rfl hc_10
      replace E := E.val (t := 7) rfl hc_10
      replace E := E.val (t := 17) rfl hc_10
      replace E := E.val (t := 18) rfl hc_10
      refine WL_guard_yes E rfl rfl ?_
      refine S_v E rfl (R_loadM E rfl Try.isAgg102 S.imm (cellM_box hb_1)) rfl ?_
      clear E a; intro a E
      refine WL_guard_yes E rfl rfl ?_
      refine S_v E rfl (R_move E rfl) rfl ?_
      clear E a; intro a E
      replace S := S.front2
      refine WL_guard_yes E rfl rfl ?_
      refine S_x (X_yield (x := (f1 x ((pre).length : Int)).1) E S rfl rfl rfl hY (hM_2.trans (hM_4.trans hM_9)) (by exact fmapI_prefix (by assumption) (by assumption)) rfl f0 ?_)
      clear E a S; rintro a w M_11 c_12 go_13 hM_11 f0 S E
      replace h0 := h0.le hM_11
      replace h1 := h1.le hM_11
      replace hbx8 := hM_11.2 _ _ hbx8
      replace hbx9 := hM_11.2 _ _ hbx9
      replace hb_1 := hM_11.2 _ _ hb_1
      cases go_13
      · replace f0 : X (fmapI f1 0 (pre) ++ [(f1 x ((pre).length : Int)).1]) M_11 c_12 := f0
        refine WL_guard_yes E rfl rfl ?_
        refine S_v E rfl (R_not E rfl) rfl ?_
        clear E a; intro a E
        refine S_v E rfl (R_pickT E rfl rfl) rfl ?_
        clear E a; intro a E
        refine WL_nil ?_
        refine T_n ?_
        refine WP_condT E rfl rfl ?_
        refine WP_ret ?_
        refine T_r ?_
        refine B_r ?_
        replace S := S.front2
        replace S := S.drop
        replace S := S.front1
        exact ⟨M_11, _, (hM_9.trans hM_11), ⟨rfl, J_eq f0 (by (rw [fmapI_app1]; simp [*]))⟩, S⟩
      · replace f0 : J (fmapI f1 0 (pre) ++ [(f1 x ((pre).length : Int)).1]) M_11 c_12 := f0
        refine WL_guard_yes E rfl rfl ?_
        refine S_v E rfl (R_not E rfl) rfl ?_
        clear E a; intro a E
        refine S_v E rfl (R_pickT E rfl rfl) rfl ?_
        clear E a; intro a E
        refine WL_nil ?_
        refine T_n ?_
        refine WP_condF E rfl rfl ?_
        refine WP_skip ?_
        refine T_n ?_
        refine WP_region ?_
        refine S_v E rfl (R_load E rfl (Try.isAgg3 _) (cell_blk (S.mem (.tail _ (.tail _ (.head _)))))) rfl ?_
        clear E a; intro a E
        refine S_v E rfl (R_addx (m := (((pre).length + 1 : Nat) : Int)) E rfl rfl (by omega) (by omega)) rfl ?_
        clear E a; intro a E
        replace S := S.front2
        refine S_x0 (X_store E S rfl rfl (Try.sizeOf3 _) rfl ?_)
        clear E a S; rintro a w E S
        refine WL_nil ?_
        refine B_n ?_
        replace S := S.front1
        replace S := S.front1
        replace S := S.front1
        replace S := S.front1
        replace S := S.blk_int (j := (((pre ++ [x])).length : Int)) (by (first | (simp; done) | omega))
        have S0 := S; clear S; have S := (St.pack [blk b_3 (.cells #[.int .i64 (((pre ++ [x])).length : Int)] 3), c_12] S0).swap; clear S0
        exact ⟨M_11, _, (hM_9.trans hM_11), ⟨_, rfl, J_eq f0 (by (rw [fmapI_app1]; simp [*]))⟩, S⟩
    · replace E := E.val (t := 16) rfl hc_10
      replace E := E.val (t := 7) rfl hc_10
      replace E := E.val (t := 17) rfl hc_10
      replace E := E.val (t := 18) rfl hc_10
      refine WL_guard_no E rfl rfl rfl rfl fun a E => ?_
      refine WL_guard_no E rfl rfl rfl rfl fun a E => ?_
      refine WL_guard_no E rfl rfl rfl rfl fun a E => ?_
      refine WL_guard_no E rfl rfl rfl rfl fun a E => ?_
      refine S_v E rfl (R_pickF E rfl rfl) rfl ?_
      clear E a; intro a E
      refine WL_nil ?_
      refine T_n ?_
      refine WP_condF E rfl rfl ?_
      refine WP_skip ?_
      refine T_n ?_
      refine WP_region ?_
      refine S_v E rfl (R_load E rfl (Try.isAgg3 _) (cell_blk (S.mem (.tail _ (.head _))))) rfl ?_
      clear E a; intro a E
      refine S_v E rfl (R_addx (m := (((pre).length + 1 : Nat) : Int)) E rfl rfl (by omega) (by omega)) rfl ?_
      clear E a; intro a E
      replace S := S.front1
      refine S_x0 (X_store E S rfl rfl (Try.sizeOf3 _) rfl ?_)
      clear E a S; rintro a w E S
      refine WL_nil ?_
      refine B_n ?_
      replace S := S.front2
      replace S := S.front1
      replace S := S.front1
      replace S := S.front1
      replace S := S.blk_int (j := (((pre ++ [x])).length : Int)) (by (first | (simp; done) | omega))
      have S0 := S; clear S; have S := (St.pack [blk b_3 (.cells #[.int .i64 (((pre ++ [x])).length : Int)] 3), c0] S0).swap; clear S0
      exact ⟨M_9, _, hM_9, ⟨_, rfl, J_eq f0 (by (rw [fmapI_app1]; simp [*]))⟩, S⟩
  · rintro a w M_14 _ D_15 hM_14 ⟨c0, rfl, f0⟩ S E
    replace S := S.unpack2
    replace h0 := h0.le hM_14
    replace h1 := h1.le hM_14
    replace hbx8 := hM_14.2 _ _ hbx8
    replace hbx9 := hM_14.2 _ _ hbx9
    replace hb_1 := hM_14.2 _ _ hb_1
    refine B_n ?_
    refine F_nrm ?_
    replace S := S.drop
    replace S := S.front1
    have hpre : fmapI f1 0 (l0) = fmapI f1 0 l0 := by ((try clear S); (try clear E); first | rfl | (simp; done) | (simp_all; done) | grind [List.take_add_one])
    rw [hpre] at f0
    exact F_retM0 E S Try.results223 (fun w S => ⟨_, rfl, M_14, _, (hM_2.trans hM_14), .inl f0, S⟩)
  · rintro a w M_16 c_ D_17 p_18 _ hM_16 hp_19 ⟨rfl, f0⟩ S E
    replace h0 := h0.le hM_16
    replace h1 := h1.le hM_16
    replace hbx8 := hM_16.2 _ _ hbx8
    replace hbx9 := hM_16.2 _ _ hbx9
    replace hb_1 := hM_16.2 _ _ hb_1
    refine WP_ret ?_
    refine B_r ?_
    replace S := S.front1
    exact F_retM0 E S Try.results223 (fun w S => ⟨_, rfl, M_16, _, (hM_2.trans hM_16), .inr ⟨fmapI f1 0 (p_18), (by exact fmapI_prefix0 (by assumption)), f0⟩, S⟩)

set_option maxRecDepth 100000 in
set_option maxHeartbeats 4000000 in
theorem it_FilterMapI {M : Hp} {v0 : Value} {l0 : List Int} (h0 : SeqV Try.prog v0 M (RInt) l0) {v1 : Value} {f1 : Int → Int → Int × Bool} (h1 : PF2T Try.prog v1 M f1) (hb : l0.length ≤ 1000000000000) :
    Pu Try.prog (.func (.func 150) #[] #[]) M [v0, v1] (fun r M' => SeqV Try.prog r M' RInt (fmapI f1 0 l0)) := by
  refine Pu_enter Try.func150 rfl Try.ntmps150 rfl Try.call150 ?_
  intro a w M1 H hM1 S E
  replace h0 := h0.le hM1
  replace h1 := h1.le hM1
  refine WP_seq ?_
  refine WP_region ?_
  refine S_x (X_box (cs := #[v0]) E S rfl rfl (cells_one h0.1) ?_)
  clear E a S; rintro a w b_1 E S
  obtain ⟨M_2, hM_2, hb_1, S⟩ := S.freezeB
  replace h0 := h0.le hM_2
  replace h1 := h1.le hM_2
  refine S_x (X_box (cs := #[v1]) E S rfl rfl (cells_one h1.1) ?_)
  clear E a S; rintro a w b_3 E S
  obtain ⟨M_4, hM_4, hb_3, S⟩ := S.freezeB
  replace h0 := h0.le hM_4
  replace h1 := h1.le hM_4
  replace hb_1 := hM_4.2 _ _ hb_1
  refine S_v E rfl (R_assign E rfl) rfl ?_
  clear E a; intro a E
  refine WL_nil ?_
  refine T_n ?_
  refine WP_seq ?_
  refine WP_region ?_
  refine S_v E rfl (R_makeFunc E rfl rfl) rfl ?_
  clear E a; intro a E
  refine S_v E rfl (R_assign E rfl) rfl ?_
  clear E a; intro a E
  refine WL_nil ?_
  refine T_n ?_
  refine WP_ret ?_
  exact F_ret1 E Try.results150 rfl ⟨_, rfl, M_4, (hM_2.trans hM_4), (SeqV_eq (it_FilterMapI1 (f1 := f1) h0 h1 (by (first | omega | (simp; omega) | (simp; done) | (simp_all; omega) | grind)) hb_1 hb_3) (by ((try clear S); (try clear E); first | rfl | (simp; done) | (simp_all; done) | grind [List.take_add_one]))), S⟩

set_option maxRecDepth 100000 in
set_option maxHeartbeats 4000000 in
theorem impl_FilterMapSeq1 {M : Hp} {kk8 kn8 : Int} (gk8 : -9223372036854775808 ≤ kn8 ∧ kn8 ≤ 9223372036854775807) {bx8 : Nat} (hbx8 : M bx8 = some (.cells #[.int .i64 kk8, .int .i64 kn8] 34)) {pk9 pn9 : Int} {w9 : Value} {pl9 : List Int} (hw9 : RdI M w9 pl9) (gn9 : -9223372036854775808 ≤ pn9 ∧ pn9 ≤ 9223372036854775807) {bx9 : Nat} (hbx9 : M bx9 = some (.cells #[.int .i64 pk9, .int .i64 pn9, w9] 29)) {x0 x1 : Int} :
    Pu Try.prog (.func (.func 151) #[] #[.pointer (some ⟨bx8, 0, none⟩), .pointer (some ⟨bx9, 0, none⟩)]) M [.int .i64 x0, .int .i64 x1] (fun r M' => r = .tuple #[.int .i64 (keyAt kk8 kn8 x0 x1), .bool (predAt pk9 pn9 pl9 x0 x1)]) := by
  refine Pu_enter Try.func151 rfl Try.ntmps151 rfl Try.call151 ?_
  intro a w M1 H hM1 S E
  replace hbx8 := hM1.2 _ _ hbx8
  replace hbx9 := hM1.2 _ _ hbx9
  replace hw9 := hw9.le hM1
  refine WP_seq ?_
  refine WP_region ?_
  refine S_v E rfl (R_assign E rfl) rfl ?_
  clear E a; intro a E
  refine S_v E rfl (R_assign E rfl) rfl ?_
  clear E a; intro a E
  refine WL_nil ?_
  refine T_n ?_
  refine WP_seq ?_
  have hbx8k0 := hbx8
  have hbx9k0 := hbx9
  replace S := S.mono_heap (w' := World.drew _) rfl
  refine WP_drawn (C := fun x w => agree M1 w) (bf := (fun i => [])) [0, 1, 2, 4, 5, 6, 8, 9] [0, 1, 2, 4, 5, 6, 3, 7, 8, 9] Try.mixed (by kernel_rfl) (fun x hq => S.imm) ?_
  refine D_v E rfl rfl rfl (fun w hC => (R_loadGM E rfl (Try.isAgg34 _) (Try.sizeOf34 _) hC hbx8k0)) ?_
  clear E a; intro a E
  refine D_v E rfl rfl rfl (fun w hC => (R_move E rfl)) ?_
  clear E a; intro a E
  refine D_v E rfl rfl rfl (fun w hC => (R_move E rfl)) ?_
  clear E a; intro a E
  refine D_v E rfl rfl rfl (fun w hC => (R_loadGM E rfl (Try.isAgg29 _) (Try.sizeOf29 _) hC hbx9k0)) ?_
  clear E a; intro a E
  refine D_v E rfl rfl rfl (fun w hC => (R_move E rfl)) ?_
  clear E a; intro a E
  refine D_v E rfl rfl rfl (fun w hC => (R_move E rfl)) ?_
  clear E a; intro a E
  refine D_x rfl rfl rfl (X_pu E S rfl rfl rfl (Key_at_d (by omega)) (Hp.le.refl _) ?_)
  clear E a S; rintro a _ w M_1 hM_1 rfl S E
  replace hbx8 := hM_1.2 _ _ hbx8
  replace hbx9 := hM_1.2 _ _ hbx9
  replace hw9 := hw9.le hM_1
  refine ⟨fun x hq hb => (agree_le hM_1 S.imm), ?_⟩
  refine D_x rfl rfl rfl (X_pu E S rfl rfl rfl (Pred_at_d hw9 (by omega)) (Hp.le.refl _) ?_)
  clear E a S; rintro a _ w M_2 hM_2 rfl S E
  replace hbx8 := hM_2.2 _ _ hbx8
  replace hbx9 := hM_2.2 _ _ hbx9
  replace hw9 := hw9.le hM_2
  refine ⟨fun x hq hb => (agree_le (hM_1.trans hM_2) S.imm), ?_⟩
  refine D_v E rfl rfl rfl (fun w hC => (R_assign E rfl)) ?_
  clear E a; intro a E
  refine D_v E rfl rfl rfl (fun w hC => (R_assign E rfl)) ?_
  clear E a; intro a E
  refine D_end (NoP_n ?_)
  refine T_n ?_
  refine WP_ret ?_
  exact F_ret2 E Try.results151 rfl rfl ⟨_, rfl, M_2, (hM_1.trans hM_2), (by first | rfl | (simp; done) | (simp_all; done)), S⟩

set_option maxRecDepth 100000 in
set_option maxHeartbeats 4000000 in
theorem impl_FilterMapSeq {M : Hp} {v0 : Value} {l0 : List Int} (h0 : RdI M v0 l0){pk1 pn1 : Int} {w1 : Value} {pl1 : List Int} (hw1 : RdI M w1 pl1) (gn1 : -9223372036854775808 ≤ pn1 ∧ pn1 ≤ 9223372036854775807) {kk2 kn2 : Int} (gk2 : -9223372036854775808 ≤ kn2 ∧ kn2 ≤ 9223372036854775807) (hb : l0.length ≤ 1000000000000) :
    Pu Try.prog (.func (.func 63) #[] #[]) M [v0, .agg #[.int .i64 pk1, .int .i64 pn1, w1], .agg #[.int .i64 kk2, .int .i64 kn2]] (fun r M' => RdI M' r (fmapI (fun x i => (keyAt kk2 kn2 x i, predAt pk1 pn1 pl1 x i)) 0 l0)) := by
  refine Pu_enter Try.func63 rfl Try.ntmps63 rfl Try.call63 ?_
  intro a w M1 H hM1 S E
  replace h0 := h0.le hM1
  replace hw1 := hw1.le hM1
  have b0 := h0.bound
  have hfl := fmapI_len (fun x i => (keyAt kk2 kn2 x i, predAt pk1 pn1 pl1 x i)) l0 0
  refine WP_seq ?_
  refine WP_region ?_
  refine S_x (X_box (cs := #[.int .i64 pk1, .int .i64 pn1, w1]) E S rfl rfl rfl ?_)
  clear E a S; rintro a w b_1 E S
  obtain ⟨M_2, hM_2, hb_1, S⟩ := S.freezeB
  replace h0 := h0.le hM_2
  replace hw1 := hw1.le hM_2
  refine S_x (X_box (cs := #[.int .i64 kk2, .int .i64 kn2]) E S rfl rfl rfl ?_)
  clear E a S; rintro a w b_3 E S
  obtain ⟨M_4, hM_4, hb_3, S⟩ := S.freezeB
  replace h0 := h0.le hM_4
  replace hw1 := hw1.le hM_4
  replace hb_1 := hM_4.2 _ _ hb_1
  refine S_v E rfl (R_assign E rfl) rfl ?_
  clear E a; intro a E
  refine WL_nil ?_
  refine T_n ?_
  refine WP_seq ?_
  refine WP_region ?_
  refine S_v E rfl (R_move E rfl) rfl ?_
  clear E a; intro a E
  refine S_x (X_pu E S rfl rfl rfl (slices_Values h0) (Hp.le.refl _) ?_)
  clear E a S; rintro a v_6 w M_5 hM_5 hv_6 S E
  replace h0 := h0.le hM_5
  replace hw1 := hw1.le hM_5
  replace hb_1 := hM_5.2 _ _ hb_1
  replace hb_3 := hM_5.2 _ _ hb_3
  refine S_v E rfl (R_makeFunc E rfl rfl) rfl ?_
  clear E a; intro a E
  refine S_x (X_pu E S rfl rfl rfl (it_FilterMapI hv_6 (f1 := (fun x i => (keyAt kk2 kn2 x i, predAt pk1 pn1 pl1 x i))) ⟨rfl, fun zx0 zx1 => impl_FilterMapSeq1 (x0 := zx0) (x1 := zx1) (by omega) hb_3 hw1 (by omega) hb_1⟩ (by (first | omega | (simp; omega) | (simp; done) | (simp_all; omega) | grind))) (Hp.le.refl _) ?_)
  clear E a S; rintro a v_8 w M_7 hM_7 hv_8 S E
  replace h0 := h0.le hM_7
  replace hw1 := hw1.le hM_7
  replace hb_1 := hM_7.2 _ _ hb_1
  replace hb_3 := hM_7.2 _ _ hb_3
  replace hv_6 := hv_6.le hM_7
  refine S_x (X_pu E S rfl rfl rfl (slices_Collect hv_8 (by (first | omega | (simp; omega) | (simp; done) | (simp_all; omega) | grind))) (Hp.le.refl _) ?_)
  clear E a S; rintro a v_10 w M_9 hM_9 hv_10 S E
  replace h0 := h0.le hM_9
  replace hw1 := hw1.le hM_9
  replace hb_1 := hM_9.2 _ _ hb_1
  replace hb_3 := hM_9.2 _ _ hb_3
  replace hv_6 := hv_6.le hM_9
  replace hv_8 := hv_8.le hM_9
  refine S_v E rfl (R_assign E rfl) rfl ?_
  clear E a; intro a E
  refine WL_nil ?_
  refine T_n ?_
  refine WP_ret ?_
  exact F_ret1 E Try.results63 rfl ⟨_, rfl, M_9, (hM_2.trans (hM_4.trans (hM_5.trans (hM_7.trans hM_9)))), hv_10, S⟩

set_option maxRecDepth 100000 in
set_option maxHeartbeats 4000000 in
theorem laws_FnFilterRoads {M : Hp} {v0 : Value} {l0 : List Int} (h0 : RdI M v0 l0){pk1 pn1 : Int} {w1 : Value} {pl1 : List Int} (hw1 : RdI M w1 pl1) (gn1 : -9223372036854775808 ≤ pn1 ∧ pn1 ≤ 9223372036854775807) (hr0 : (∀ x ∈ l0, -9223372036854775808 ≤ x ∧ x ≤ 9223372036854775807)) :
    PuC Try.prog 11 M [v0, .agg #[.int .i64 pk1, .int .i64 pn1, w1]] (fun r M' => r = .bool true) := by
  refine PuC_enter Try.func11 rfl Try.ntmps11 rfl ?_
  intro a w M1 H hM1 S E
  replace h0 := h0.le hM1
  replace hw1 := hw1.le hM1
  have b0 := h0.bound
  refine WP_seq ?_
  refine WP_region ?_
  refine S_x (X_box (cs := #[.int .i64 pk1, .int .i64 pn1, w1]) E S rfl rfl rfl ?_)
  clear E a S; rintro a w b_1 E S
  obtain ⟨M_2, hM_2, hb_1, S⟩ := S.freezeB
  replace h0 := h0.le hM_2
  replace hw1 := hw1.le hM_2
  refine S_v E rfl (R_assign E rfl) rfl ?_
  clear E a; intro a E
  refine WL_nil ?_
  refine T_n ?_
  refine WP_seq ?_
  refine WP_seq ?_
  refine WP_region ?_
  refine S_v E rfl (R_move E rfl) rfl ?_
  clear E a; intro a E
  refine S_v E rfl (R_lenV E rfl T22 h0.len) rfl ?_
  clear E a; intro a E
  refine S_v E rfl (R_gtr E rfl rfl) rfl ?_
  clear E a; intro a E
  refine S_v E rfl (R_move E rfl) rfl ?_
  clear E a; intro a E
  refine split_bool (decide (2147483647 < (((l0).length : Nat) : Int))) (fun hc_3 => ?_) (fun hc_3 => ?_)
  · replace E := E.val (t := 15) rfl hc_3
    replace E := E.val (t := 16) rfl hc_3
    replace hc_3 := of_decide_eq_true hc_3
    refine WL_guard_no E rfl rfl rfl rfl fun a E => ?_
    refine WL_guard_no E rfl rfl rfl rfl fun a E => ?_
    refine WL_guard_no E rfl rfl rfl rfl fun a E => ?_
    refine S_v E rfl (R_pickT E rfl rfl) rfl ?_
    clear E a; intro a E
    refine WL_nil ?_
    refine T_n ?_
    refine WP_condT E rfl rfl ?_
    refine WP_seq ?_
    refine WP_region ?_
    refine S_v E rfl (R_assign E rfl) rfl ?_
    clear E a; intro a E
    refine WL_nil ?_
    refine T_n ?_
    refine WP_ret ?_
    refine T_r ?_
    exact F_ret1 E Try.results11 rfl ⟨_, rfl, M_2, hM_2, rfl, S⟩
  · replace E := E.val (t := 15) rfl hc_3
    replace E := E.val (t := 16) rfl hc_3
    replace hc_3 := of_decide_eq_false hc_3
    refine WL_guard_yes E rfl rfl ?_
    refine S_v E rfl (R_loadGM E rfl (Try.isAgg29 _) (Try.sizeOf29 _) S.imm hb_1) rfl ?_
    clear E a; intro a E
    refine WL_guard_yes E rfl rfl ?_
    refine S_x (X_pu E S rfl rfl rfl (laws_zzFits1 hw1 (by omega)) (Hp.le.refl _) ?_)
    clear E a S; rintro a _ w M_4 hM_4 rfl S E
    replace h0 := h0.le hM_4
    replace hw1 := hw1.le hM_4
    replace hb_1 := hM_4.2 _ _ hb_1
    refine WL_guard_yes E rfl rfl ?_
    refine S_v E rfl (R_not E rfl) rfl ?_
    clear E a; intro a E
    refine S_v E rfl (R_pickF E rfl rfl) rfl ?_
    clear E a; intro a E
    refine WL_nil ?_
    refine T_n ?_
    refine WP_cond E rfl (fun hc_5 => ?_) (fun hc_5 => ?_)
    · refine WP_seq ?_
      refine WP_region ?_
      refine S_v E rfl (R_assign E rfl) rfl ?_
      clear E a; intro a E
      refine WL_nil ?_
      refine T_n ?_
      refine WP_ret ?_
      refine T_r ?_
      exact F_ret1 E Try.results11 rfl ⟨_, rfl, M_4, (hM_2.trans hM_4), rfl, S⟩
    · refine WP_skip ?_
      refine T_n ?_
      refine WP_seq ?_
      refine WP_seq ?_
      refine WP_region ?_
      refine S_x (X_buildI (ys := [1]) E S rfl T22 rfl rfl rfl ?_)
      clear E a S; rintro a w v_6 E S
      refine S_v E rfl (R_build (u := .agg #[.int .i64 4, .int .i64 0, .slice none 0 0]) (vs := [.int .i64 4]) E rfl (fun w => FB29_0_i 4 w)) rfl ?_
      clear E a; intro a E
      have S0 := S; clear S
      obtain ⟨M_7, hM_7, hz_8, S⟩ := S0.freezeI (by (first | omega | (simp; omega) | (simp; done) | (simp_all; omega) | grind))
      clear S0
      replace h0 := h0.le hM_7
      replace hw1 := hw1.le hM_7
      replace hb_1 := hM_7.2 _ _ hb_1
      refine S_x (X_pu E S rfl rfl rfl (impl_Filter hz_8 (RdS.nil _) (by omega) (by (first | omega | (simp; omega) | (simp; done) | (simp_all; omega) | grind))) (Hp.le.refl _) ?_)
      clear E a S; rintro a v_10 w M_9 hM_9 hv_10 S E
      replace h0 := h0.le hM_9
      replace hw1 := hw1.le hM_9
      replace hb_1 := hM_9.2 _ _ hb_1
      replace hz_8 := hz_8.le hM_9
      refine S_v E rfl (R_lenV E rfl T22 hv_10.len) rfl ?_
      clear E a; intro a E
      refine S_v E rfl (R_neq E rfl rfl) rfl ?_
      clear E a; intro a E
      refine WL_nil ?_
      refine T_n ?_
      have hc_11 : (decide ((((filtI (predAt 4 0 ([] : List Int)) 0 [1]).length : Nat) : Int) ≠ 1)) = false := by first | (simp; done) | decide
      refine WP_condF E rfl hc_11 ?_
      refine WP_skip ?_
      refine T_n ?_
      refine WP_seq ?_
      refine WP_seq ?_
      refine WP_region ?_
      refine S_v E rfl (R_move E rfl) rfl ?_
      clear E a; intro a E
      refine S_x (X_buildM (R := RSl 1 RInt) (vs := [v0]) (xs := [l0]) (RSl_mono RInt_mono) E S rfl T36 rfl rfl rfl (by intro u hu; simp only [List.mem_cons, List.not_mem_nil, or_false] at hu; rcases hu with rfl <;> first | exact RdI.one h0 | rfl) rfl (rowsC (R := RSl 1 RInt) (RdI.row h0) rowsN) ?_)
      clear E a S; rintro a v_12 w M_13 hM_13 hv_12 S E
      replace hv_12 : RdII M_13 v_12 [l0] := hv_12
      replace h0 := h0.le hM_13
      replace hw1 := hw1.le hM_13
      replace hb_1 := hM_13.2 _ _ hb_1
      replace hz_8 := hz_8.le hM_13
      replace hv_10 := hv_10.le hM_13
      refine S_x (X_pu E S rfl rfl rfl (laws_few hv_12) (Hp.le.refl _) ?_)
      clear E a S; rintro a _ w M_14 hM_14 rfl S E
      replace h0 := h0.le hM_14
      replace hw1 := hw1.le hM_14
      replace hb_1 := hM_14.2 _ _ hb_1
      replace hz_8 := hz_8.le hM_14
      replace hv_10 := hv_10.le hM_14
      replace hv_12 := hv_12.le hM_14
      refine S_v E rfl (R_not E rfl) rfl ?_
      clear E a; intro a E
      refine S_v E rfl (R_move E rfl) rfl ?_
      clear E a; intro a E
      refine split_bool (!(decide (∀ x ∈ [l0], x.length ≤ 300))) (fun hc_15 => ?_) (fun hc_15 => ?_)
      · replace E := E.val (t := 29) rfl hc_15
        replace E := E.val (t := 30) rfl hc_15
        refine WL_guard_no E rfl rfl rfl rfl fun a E => ?_
        refine WL_guard_no E rfl rfl rfl rfl fun a E => ?_
        refine WL_guard_no E rfl rfl rfl rfl fun a E => ?_
        refine S_v E rfl (R_pickT E rfl rfl) rfl ?_
        clear E a; intro a E
        refine WL_nil ?_
        refine T_n ?_
        refine WP_condT E rfl rfl ?_
        refine WP_seq ?_
        refine WP_region ?_
        refine S_v E rfl (R_assign E rfl) rfl ?_
        clear E a; intro a E
        refine WL_nil ?_
        refine T_n ?_
        refine WP_ret ?_
        refine T_r ?_
        exact F_ret1 E Try.results11 rfl ⟨_, rfl, M_14, (hM_2.trans (hM_4.trans (hM_7.trans (hM_9.trans (hM_13.trans hM_14))))), rfl, S⟩
      · replace E := E.val (t := 29) rfl hc_15
        replace E := E.val (t := 30) rfl hc_15
        refine WL_guard_yes E rfl rfl ?_
        refine S_v E rfl (R_loadGM E rfl (Try.isAgg29 _) (Try.sizeOf29 _) S.imm hb_1) rfl ?_
        clear E a; intro a E
        refine WL_guard_yes E rfl rfl ?_
        refine S_x (X_pu E S rfl rfl rfl (laws_fair hw1 (by omega)) (Hp.le.refl _) ?_)
        clear E a S; rintro a _ w M_16 hM_16 rfl S E
        replace h0 := h0.le hM_16
        replace hw1 := hw1.le hM_16
        replace hb_1 := hM_16.2 _ _ hb_1
        replace hz_8 := hz_8.le hM_16
        replace hv_10 := hv_10.le hM_16
        replace hv_12 := hv_12.le hM_16
        refine WL_guard_yes E rfl rfl ?_
        refine S_v E rfl (R_not E rfl) rfl ?_
        clear E a; intro a E
        refine S_v E rfl (R_pickF E rfl rfl) rfl ?_
        clear E a; intro a E
        refine WL_nil ?_
        refine T_n ?_
        refine WP_cond E rfl (fun hc_17 => ?_) (fun hc_17 => ?_)
        · refine WP_seq ?_
          refine WP_region ?_
          refine S_v E rfl (R_assign E rfl) rfl ?_
          clear E a; intro a E
          refine WL_nil ?_
          refine T_n ?_
          refine WP_ret ?_
          refine T_r ?_
          exact F_ret1 E Try.results11 rfl ⟨_, rfl, M_16, (hM_2.trans (hM_4.trans (hM_7.trans (hM_9.trans (hM_13.trans (hM_14.trans hM_16)))))), rfl, S⟩
        · have hkp : -1099511627776 < pn1 ∧ pn1 < 1099511627776 := (by simp_all)
          refine WP_skip ?_
          refine T_n ?_
          refine WP_seq ?_
          refine WP_region ?_
          refine S_v E rfl (R_assign E rfl) rfl ?_
          clear E a; intro a E
          refine S_v E rfl (R_assign E rfl) rfl ?_
          clear E a; intro a E
          refine WL_nil ?_
          refine T_n ?_
          refine WP_seq ?_
          refine WP_seq ?_
          refine WP_region ?_
          refine S_v E rfl (R_move E rfl) rfl ?_
          clear E a; intro a E
          refine S_v E rfl (R_lenV E rfl T22 h0.len) rfl ?_
          clear E a; intro a E
          refine S_v E rfl (R_move E rfl) rfl ?_
          clear E a; intro a E
          refine WL_nil ?_
          refine T_n ?_
          refine WP_block ?_
          replace S := (S.ownNil (e := 3) (sz := 1)).made0
          replace S := (S.ownNil (e := 3) (sz := 1)).made0
          replace S := S.front1
          replace S := S.re1 (l' := filtI (fun x i => !(predAt pk1 pn1 pl1) x i) 0 (l0.take 0)) (by first | (simp [filtI]; done) | (rw [filtI_succ (by assumption)]; simp [*]; done) | (rw [filtI_succ (by assumption)]; simp_all; done))
          replace S := S.front1
          replace S := S.re1 (l' := filtI (predAt pk1 pn1 pl1) 0 (l0.take 0)) (by first | (simp [filtI]; done) | (rw [filtI_succ (by assumption)]; simp [*]; done) | (rw [filtI_succ (by assumption)]; simp_all; done))
          refine WP_loop (γ := Nat) (fun (k : Nat) a w => ∃ (M_20 : Hp) (u5 : Value) (u6 : Value), Hp.le M_16 M_20 ∧ St w M_20 (OwnI 3 u5 (filtI (predAt pk1 pn1 pl1) 0 (l0.take k)) :: OwnI 3 u6 (filtI (fun x i => !(predAt pk1 pn1 pl1) x i) 0 (l0.take k)) :: H) ∧ Env a 136 [] [(0, v0), (3, .pointer (some ⟨b_1, 0, none⟩)), (5, u5), (6, u6), (35, v0), (36, .int .i64 (((l0).length : Nat) : Int)), (37, .int .i64 ((k : Nat) : Int))] ∧ (k ≤ (l0).length)) (fun k => ((l0).length) - k) 0 ⟨M_16, _, _, Hp.le.refl _, S, E.keep ⟨rfl, rfl, rfl, rfl, rfl, rfl, rfl, trivial⟩, by ((try clear S); (try clear E); first | assumption | omega | rfl | (simp; done) | (simp_all; done) | (simp [List.take_add_one, *]; done) | grind [List.take_add_one])⟩ ?_
          try clear E
          try clear S
          try clear a
          try clear w
          rintro k a w ⟨M_20, u5, u6, hM_20, S, E, hL0_0⟩
          replace h0 := h0.le hM_20
          replace hw1 := hw1.le hM_20
          replace hb_1 := hM_20.2 _ _ hb_1
          replace hz_8 := hz_8.le hM_20
          replace hv_10 := hv_10.le hM_20
          replace hv_12 := hv_12.le hM_20
          have hfa := filtI_len (predAt pk1 pn1 pl1) (l0.take k) 0; have hfb := filtI_len (fun x i => !(predAt pk1 pn1 pl1) x i) (l0.take k) 0; simp only [List.length_take] at hfa hfb
          refine WP_seq ?_
          refine WP_region ?_
          refine S_v E rfl (R_lss E rfl rfl) rfl ?_
          clear E a; intro a E
          refine WL_nil ?_
          refine T_n ?_
          refine WP_seq ?_
          refine WP_cond E rfl (fun hc_21 => ?_) (fun hc_21 => ?_)
          · replace hc_21 := of_decide_eq_true hc_21
            refine WP_skip ?_
            refine T_n ?_
            refine WP_seq ?_
            refine WP_block ?_
            refine WP_seq ?_
            refine WP_region ?_
            refine S_v E rfl (R_move E rfl) rfl ?_
            clear E a; intro a E
            obtain ⟨x_22, hx_22⟩ : ∃ x, (l0)[k]? = some x := ⟨_, List.getElem?_eq_getElem (by first | omega | (simp; done) | (simp; omega) | (simp_all; omega))⟩
            obtain ⟨p_23, hp_23, qp_23⟩ := h0.at hx_22
            refine S_v E rfl (R_idx E rfl rfl T22 hp_23 rfl) rfl ?_
            clear E a; intro a E
            refine S_v E rfl (R_loadM E rfl Try.isAgg3 S.imm qp_23) rfl ?_
            clear E a; intro a E
            refine S_v E rfl (R_assign E rfl) rfl ?_
            clear E a; intro a E
            refine S_v E rfl (R_assign E rfl) rfl ?_
            clear E a; intro a E
            refine WL_nil ?_
            refine T_n ?_
            refine WP_seq ?_
            refine WP_region ?_
            refine S_v E rfl (R_loadGM E rfl (Try.isAgg29 _) (Try.sizeOf29 _) S.imm hb_1) rfl ?_
            clear E a; intro a E
            refine S_v E rfl (R_move E rfl) rfl ?_
            clear E a; intro a E
            refine S_v E rfl (R_move E rfl) rfl ?_
            clear E a; intro a E
            refine S_x (X_pu E S rfl rfl rfl (laws_holds hw1 (by omega)) (Hp.le.refl _) ?_)
            clear E a S; rintro a _ w M_24 hM_24 rfl S E
            replace h0 := h0.le hM_24
            replace hw1 := hw1.le hM_24
            replace hb_1 := hM_24.2 _ _ hb_1
            replace hz_8 := hz_8.le hM_24
            replace hv_10 := hv_10.le hM_24
            replace hv_12 := hv_12.le hM_24
            refine WL_nil ?_
            refine T_n ?_
            refine WP_cond E rfl (fun hc_25 => ?_) (fun hc_25 => ?_)
            · refine WP_region ?_
              refine S_v E rfl (R_move E rfl) rfl ?_
              clear E a; intro a E
              refine S_v E rfl (R_move E rfl) rfl ?_
              clear E a; intro a E
              refine S_x (X_buildI (ys := [x_22]) E S rfl T22 rfl rfl rfl ?_)
              clear E a S; rintro a w v_26 E S
              replace S := S.front1
              replace S := S.front1
              refine S_x (X_appendB (xs := filtI (predAt pk1 pn1 pl1) 0 (l0.take k)) (ys := [x_22]) E S rfl rfl rfl T22 (by first | omega | (simp; done) | (simp; omega) | (simp_all; omega)) ?_)
              clear E a S; rintro a w v_27 E S
              refine S_v E rfl (R_assign E rfl) rfl ?_
              clear E a; intro a E
              refine WL_nil ?_
              refine B_n ?_
              refine T_n ?_
              refine WP_region ?_
              refine S_v E rfl (R_addx (m := ((k + 1 : Nat) : Int)) E rfl rfl (by omega) (by omega)) rfl ?_
              clear E a; intro a E
              refine S_v E rfl (R_move E rfl) rfl ?_
              clear E a; intro a E
              refine WL_nil ?_
              refine T_n ?_
              replace S := S.front1
              replace S := S.re1 (l' := filtI (fun x i => !(predAt pk1 pn1 pl1) x i) 0 (l0.take (k + 1))) (by first | (simp [filtI]; done) | (rw [filtI_succ (by assumption)]; simp [*]; done) | (rw [filtI_succ (by assumption)]; simp_all; done))
              replace S := S.front1
              replace S := S.re1 (l' := filtI (predAt pk1 pn1 pl1) 0 (l0.take (k + 1))) (by first | (simp [filtI]; done) | (rw [filtI_succ (by assumption)]; simp [*]; done) | (rw [filtI_succ (by assumption)]; simp_all; done))
              exact ⟨k + 1, ⟨M_24, _, _, (hM_20.trans hM_24), S, E.keep ⟨rfl, rfl, rfl, rfl, rfl, rfl, rfl, trivial⟩, by ((try clear S); (try clear E); first | assumption | omega | rfl | (simp; done) | (simp_all; done) | (simp [List.take_add_one, *]; done) | grind [List.take_add_one])⟩, by omega⟩
            · refine WP_region ?_
              refine S_v E rfl (R_move E rfl) rfl ?_
              clear E a; intro a E
              refine S_v E rfl (R_move E rfl) rfl ?_
              clear E a; intro a E
              refine S_x (X_buildI (ys := [x_22]) E S rfl T22 rfl rfl rfl ?_)
              clear E a S; rintro a w v_28 E S
              replace S := S.front2
              replace S := S.front1
              refine S_x (X_appendB (xs := filtI (fun x i => !(predAt pk1 pn1 pl1) x i) 0 (l0.take k)) (ys := [x_22]) E S rfl rfl rfl T22 (by first | omega | (simp; done) | (simp; omega) | (simp_all; omega)) ?_)
              clear E a S; rintro a w v_29 E S
              refine S_v E rfl (R_assign E rfl) rfl ?_
              clear E a; intro a E
              refine WL_nil ?_
              refine B_n ?_
              refine T_n ?_
              refine WP_region ?_
              refine S_v E rfl (R_addx (m := ((k + 1 : Nat) : Int)) E rfl rfl (by omega) (by omega)) rfl ?_
              clear E a; intro a E
              refine S_v E rfl (R_move E rfl) rfl ?_
              clear E a; intro a E
              refine WL_nil ?_
              refine T_n ?_
              replace S := S.front1
              replace S := S.front1
              replace S := S.re1 (l' := filtI (fun x i => !(predAt pk1 pn1 pl1) x i) 0 (l0.take (k + 1))) (by first | (simp [filtI]; done) | (rw [filtI_succ (by assumption)]; simp [*]; done) | (rw [filtI_succ (by assumption)]; simp_all; done))
              replace S := S.front1
              replace S := S.re1 (l' := filtI (predAt pk1 pn1 pl1) 0 (l0.take (k + 1))) (by first | (simp [filtI]; done) | (rw [filtI_succ (by assumption)]; simp [*]; done) | (rw [filtI_succ (by assumption)]; simp_all; done))
              exact ⟨k + 1, ⟨M_24, _, _, (hM_20.trans hM_24), S, E.keep ⟨rfl, rfl, rfl, rfl, rfl, rfl, rfl, trivial⟩, by ((try clear S); (try clear E); first | assumption | omega | rfl | (simp; done) | (simp_all; done) | (simp [List.take_add_one, *]; done) | grind [List.take_add_one])⟩, by omega⟩
          · replace hc_21 := of_decide_eq_false hc_21
            have etk : l0.take k = l0 := List.take_of_length_le (by omega)
            refine WP_exit ?_
            refine T_x ?_
            refine T_x ?_
            refine B_x ?_
            refine T_n ?_
            refine WP_seq ?_
            refine WP_region ?_
            refine S_v E rfl (R_move E rfl) rfl ?_
            clear E a; intro a E
            refine S_v E rfl (R_loadGM E rfl (Try.isAgg29 _) (Try.sizeOf29 _) S.imm hb_1) rfl ?_
            clear E a; intro a E
            refine S_x (X_pu E S rfl rfl rfl (impl_FilterReject h0 hw1 (by omega) (by (first | omega | (simp; omega) | (simp; done) | (simp_all; omega) | grind))) (Hp.le.refl _) ?_)
            clear E a S; rintro a _ w M_30 hM_30 ⟨v_31, v_32, rfl, hv_31, hv_32⟩ S E
            replace h0 := h0.le hM_30
            replace hw1 := hw1.le hM_30
            replace hb_1 := hM_30.2 _ _ hb_1
            replace hz_8 := hz_8.le hM_30
            replace hv_10 := hv_10.le hM_30
            replace hv_12 := hv_12.le hM_30
            refine S_v E rfl (R_move E rfl) rfl ?_
            clear E a; intro a E
            refine S_v E rfl (R_extract E rfl rfl) rfl ?_
            clear E a; intro a E
            refine S_v E rfl (R_extract E rfl rfl) rfl ?_
            clear E a; intro a E
            refine S_v E rfl (R_assign E rfl) rfl ?_
            clear E a; intro a E
            refine S_v E rfl (R_assign E rfl) rfl ?_
            clear E a; intro a E
            refine WL_nil ?_
            refine T_n ?_
            refine WP_seq ?_
            refine WP_region ?_
            refine S_v E rfl (R_move E rfl) rfl ?_
            clear E a; intro a E
            refine S_v E rfl (R_loadGM E rfl (Try.isAgg29 _) (Try.sizeOf29 _) S.imm hb_1) rfl ?_
            clear E a; intro a E
            refine S_x (X_pu E S rfl rfl rfl (spec_FilterReject h0 hw1 (by omega) (by (first | omega | (simp; omega) | (simp; done) | (simp_all; omega) | grind)) (by first | assumption | exact (fun x hx => by rcases List.mem_append.1 hx with h | h; exact hr0 x h; exact hr1 x h))) (Hp.le.refl _) ?_)
            clear E a S; rintro a _ w M_33 hM_33 ⟨v_34, v_35, rfl, hv_34, hv_35⟩ S E
            replace h0 := h0.le hM_33
            replace hw1 := hw1.le hM_33
            replace hb_1 := hM_33.2 _ _ hb_1
            replace hz_8 := hz_8.le hM_33
            replace hv_10 := hv_10.le hM_33
            replace hv_12 := hv_12.le hM_33
            replace hv_31 := hv_31.le hM_33
            replace hv_32 := hv_32.le hM_33
            refine S_v E rfl (R_move E rfl) rfl ?_
            clear E a; intro a E
            refine S_v E rfl (R_extract E rfl rfl) rfl ?_
            clear E a; intro a E
            refine S_v E rfl (R_extract E rfl rfl) rfl ?_
            clear E a; intro a E
            refine S_v E rfl (R_assign E rfl) rfl ?_
            clear E a; intro a E
            refine S_v E rfl (R_assign E rfl) rfl ?_
            clear E a; intro a E
            refine WL_nil ?_
            refine T_n ?_
            refine WP_seq ?_
            refine WP_region ?_
            refine S_v E rfl (R_move E rfl) rfl ?_
            clear E a; intro a E
            refine S_v E rfl (R_move E rfl) rfl ?_
            clear E a; intro a E
            have S0 := S; clear S
            obtain ⟨M_36, hM_36, hz_37, S⟩ := S0.freezeI (by (have hfa := filtI_len (predAt pk1 pn1 pl1) (l0.take k) 0; have hfb := filtI_len (fun x i => !(predAt pk1 pn1 pl1) x i) (l0.take k) 0; simp only [List.length_take] at hfa hfb; omega))
            clear S0
            replace h0 := h0.le hM_36
            replace hw1 := hw1.le hM_36
            replace hb_1 := hM_36.2 _ _ hb_1
            replace hz_8 := hz_8.le hM_36
            replace hv_10 := hv_10.le hM_36
            replace hv_12 := hv_12.le hM_36
            replace hv_31 := hv_31.le hM_36
            replace hv_32 := hv_32.le hM_36
            replace hv_34 := hv_34.le hM_36
            replace hv_35 := hv_35.le hM_36
            refine S_x (X_pu E S rfl rfl rfl (laws_eq hv_34 hz_37) (Hp.le.refl _) ?_)
            clear E a S; rintro a _ w M_38 hM_38 rfl S E
            replace h0 := h0.le hM_38
            replace hw1 := hw1.le hM_38
            replace hb_1 := hM_38.2 _ _ hb_1
            replace hz_8 := hz_8.le hM_38
            replace hv_10 := hv_10.le hM_38
            replace hv_12 := hv_12.le hM_38
            replace hv_31 := hv_31.le hM_38
            replace hv_32 := hv_32.le hM_38
            replace hv_34 := hv_34.le hM_38
            replace hv_35 := hv_35.le hM_38
            replace hz_37 := hz_37.le hM_38
            refine S_v E rfl (R_move E rfl) rfl ?_
            clear E a; intro a E
            have hc_39 : (decide (filtI (predAt pk1 pn1 pl1) 0 l0 = filtI (predAt pk1 pn1 pl1) 0 (l0.take k))) = true := by (clear S E; rw [etk]; first | (simp; done) | (rw [fmapI_id l0 0 hr0]; simp; done))
            replace E := E.val (t := 69) rfl hc_39
            replace E := E.val (t := 70) rfl hc_39
            refine WL_guard_yes E rfl rfl ?_
            refine S_v E rfl (R_move E rfl) rfl ?_
            clear E a; intro a E
            refine WL_guard_yes E rfl rfl ?_
            refine S_v E rfl (R_move E rfl) rfl ?_
            clear E a; intro a E
            have S0 := S; clear S
            obtain ⟨M_40, hM_40, hz_41, S⟩ := S0.freezeI (by (have hfa := filtI_len (predAt pk1 pn1 pl1) (l0.take k) 0; have hfb := filtI_len (fun x i => !(predAt pk1 pn1 pl1) x i) (l0.take k) 0; simp only [List.length_take] at hfa hfb; omega))
            clear S0
            replace h0 := h0.le hM_40
            replace hw1 := hw1.le hM_40
            replace hb_1 := hM_40.2 _ _ hb_1
            replace hz_8 := hz_8.le hM_40
            replace hv_10 := hv_10.le hM_40
            replace hv_12 := hv_12.le hM_40
            replace hv_31 := hv_31.le hM_40
            replace hv_32 := hv_32.le hM_40
            replace hv_34 := hv_34.le hM_40
            replace hv_35 := hv_35.le hM_40
            replace hz_37 := hz_37.le hM_40
            refine WL_guard_yes E rfl rfl ?_
            refine S_x (X_pu E S rfl rfl rfl (laws_eq hv_35 hz_41) (Hp.le.refl _) ?_)
            clear E a S; rintro a _ w M_42 hM_42 rfl S E
            replace h0 := h0.le hM_42
            replace hw1 := hw1.le hM_42
            replace hb_1 := hM_42.2 _ _ hb_1
            replace hz_8 := hz_8.le hM_42
            replace hv_10 := hv_10.le hM_42
            replace hv_12 := hv_12.le hM_42
            replace hv_31 := hv_31.le hM_42
            replace hv_32 := hv_32.le hM_42
            replace hv_34 := hv_34.le hM_42
            replace hv_35 := hv_35.le hM_42
            replace hz_37 := hz_37.le hM_42
            replace hz_41 := hz_41.le hM_42
            refine S_v E rfl (R_pickT E rfl rfl) rfl ?_
            clear E a; intro a E
            refine S_v E rfl (R_move E rfl) rfl ?_
            clear E a; intro a E
            have hc_43 : (decide (filtI (fun x i => !(predAt pk1 pn1 pl1) x i) 0 l0 = filtI (fun x i => !(predAt pk1 pn1 pl1) x i) 0 (l0.take k))) = true := by (clear S E; rw [etk]; first | (simp; done) | (rw [fmapI_id l0 0 hr0]; simp; done))
            replace E := E.val (t := 73) rfl hc_43
            replace E := E.val (t := 74) rfl hc_43
            replace E := E.val (t := 75) rfl hc_43
            refine WL_guard_yes E rfl rfl ?_
            refine S_v E rfl (R_move E rfl) rfl ?_
            clear E a; intro a E
            refine WL_guard_yes E rfl rfl ?_
            refine S_v E rfl (R_loadGM E rfl (Try.isAgg29 _) (Try.sizeOf29 _) S.imm hb_1) rfl ?_
            clear E a; intro a E
            refine WL_guard_yes E rfl rfl ?_
            refine S_x (X_pu E S rfl rfl rfl (impl_Filter h0 hw1 (by omega) (by (first | omega | (simp; omega) | (simp; done) | (simp_all; omega) | grind))) (Hp.le.refl _) ?_)
            clear E a S; rintro a v_45 w M_44 hM_44 hv_45 S E
            replace h0 := h0.le hM_44
            replace hw1 := hw1.le hM_44
            replace hb_1 := hM_44.2 _ _ hb_1
            replace hz_8 := hz_8.le hM_44
            replace hv_10 := hv_10.le hM_44
            replace hv_12 := hv_12.le hM_44
            replace hv_31 := hv_31.le hM_44
            replace hv_32 := hv_32.le hM_44
            replace hv_34 := hv_34.le hM_44
            replace hv_35 := hv_35.le hM_44
            replace hz_37 := hz_37.le hM_44
            replace hz_41 := hz_41.le hM_44
            refine WL_guard_yes E rfl rfl ?_
            refine S_v E rfl (R_move E rfl) rfl ?_
            clear E a; intro a E
            refine WL_guard_yes E rfl rfl ?_
            refine S_x (X_pu E S rfl rfl rfl (laws_eq hv_45 hz_37) (Hp.le.refl _) ?_)
            clear E a S; rintro a _ w M_46 hM_46 rfl S E
            replace h0 := h0.le hM_46
            replace hw1 := hw1.le hM_46
            replace hb_1 := hM_46.2 _ _ hb_1
            replace hz_8 := hz_8.le hM_46
            replace hv_10 := hv_10.le hM_46
            replace hv_12 := hv_12.le hM_46
            replace hv_31 := hv_31.le hM_46
            replace hv_32 := hv_32.le hM_46
            replace hv_34 := hv_34.le hM_46
            replace hv_35 := hv_35.le hM_46
            replace hz_37 := hz_37.le hM_46
            replace hz_41 := hz_41.le hM_46
            replace hv_45 := hv_45.le hM_46
            refine S_v E rfl (R_pickT E rfl rfl) rfl ?_
            clear E a; intro a E
            refine S_v E rfl (R_move E rfl) rfl ?_
            clear E a; intro a E
            have hc_47 : (decide (filtI (predAt pk1 pn1 pl1) 0 l0 = filtI (predAt pk1 pn1 pl1) 0 (l0.take k))) = true := by (clear S E; rw [etk]; first | (simp; done) | (rw [fmapI_id l0 0 hr0]; simp; done))
            replace E := E.val (t := 80) rfl hc_47
            replace E := E.val (t := 81) rfl hc_47
            replace E := E.val (t := 82) rfl hc_47
            refine WL_guard_yes E rfl rfl ?_
            refine S_v E rfl (R_move E rfl) rfl ?_
            clear E a; intro a E
            refine WL_guard_yes E rfl rfl ?_
            refine S_v E rfl (R_loadGM E rfl (Try.isAgg29 _) (Try.sizeOf29 _) S.imm hb_1) rfl ?_
            clear E a; intro a E
            refine WL_guard_yes E rfl rfl ?_
            refine S_x (X_pu E S rfl rfl rfl (impl_Reject h0 hw1 (by omega) (by (first | omega | (simp; omega) | (simp; done) | (simp_all; omega) | grind))) (Hp.le.refl _) ?_)
            clear E a S; rintro a v_49 w M_48 hM_48 hv_49 S E
            replace h0 := h0.le hM_48
            replace hw1 := hw1.le hM_48
            replace hb_1 := hM_48.2 _ _ hb_1
            replace hz_8 := hz_8.le hM_48
            replace hv_10 := hv_10.le hM_48
            replace hv_12 := hv_12.le hM_48
            replace hv_31 := hv_31.le hM_48
            replace hv_32 := hv_32.le hM_48
            replace hv_34 := hv_34.le hM_48
            replace hv_35 := hv_35.le hM_48
            replace hz_37 := hz_37.le hM_48
            replace hz_41 := hz_41.le hM_48
            replace hv_45 := hv_45.le hM_48
            refine WL_guard_yes E rfl rfl ?_
            refine S_v E rfl (R_move E rfl) rfl ?_
            clear E a; intro a E
            refine WL_guard_yes E rfl rfl ?_
            refine S_x (X_pu E S rfl rfl rfl (laws_eq hv_49 hz_41) (Hp.le.refl _) ?_)
            clear E a S; rintro a _ w M_50 hM_50 rfl S E
            replace h0 := h0.le hM_50
            replace hw1 := hw1.le hM_50
            replace hb_1 := hM_50.2 _ _ hb_1
            replace hz_8 := hz_8.le hM_50
            replace hv_10 := hv_10.le hM_50
            replace hv_12 := hv_12.le hM_50
            replace hv_31 := hv_31.le hM_50
            replace hv_32 := hv_32.le hM_50
            replace hv_34 := hv_34.le hM_50
            replace hv_35 := hv_35.le hM_50
            replace hz_37 := hz_37.le hM_50
            replace hz_41 := hz_41.le hM_50
            replace hv_45 := hv_45.le hM_50
            replace hv_49 := hv_49.le hM_50
            refine S_v E rfl (R_pickT E rfl rfl) rfl ?_
            clear E a; intro a E
            refine S_v E rfl (R_move E rfl) rfl ?_
            clear E a; intro a E
            have hc_51 : (decide (filtI (fun x i => !(predAt pk1 pn1 pl1) x i) 0 l0 = filtI (fun x i => !(predAt pk1 pn1 pl1) x i) 0 (l0.take k))) = true := by (clear S E; rw [etk]; first | (simp; done) | (rw [fmapI_id l0 0 hr0]; simp; done))
            replace E := E.val (t := 87) rfl hc_51
            replace E := E.val (t := 88) rfl hc_51
            replace E := E.val (t := 89) rfl hc_51
            refine WL_guard_yes E rfl rfl ?_
            refine S_v E rfl (R_move E rfl) rfl ?_
            clear E a; intro a E
            refine WL_guard_yes E rfl rfl ?_
            refine S_v E rfl (R_move E rfl) rfl ?_
            clear E a; intro a E
            refine WL_guard_yes E rfl rfl ?_
            refine S_x (X_pu E S rfl rfl rfl (laws_eq hv_31 hz_37) (Hp.le.refl _) ?_)
            clear E a S; rintro a _ w M_52 hM_52 rfl S E
            replace h0 := h0.le hM_52
            replace hw1 := hw1.le hM_52
            replace hb_1 := hM_52.2 _ _ hb_1
            replace hz_8 := hz_8.le hM_52
            replace hv_10 := hv_10.le hM_52
            replace hv_12 := hv_12.le hM_52
            replace hv_31 := hv_31.le hM_52
            replace hv_32 := hv_32.le hM_52
            replace hv_34 := hv_34.le hM_52
            replace hv_35 := hv_35.le hM_52
            replace hz_37 := hz_37.le hM_52
            replace hz_41 := hz_41.le hM_52
            replace hv_45 := hv_45.le hM_52
            replace hv_49 := hv_49.le hM_52
            refine S_v E rfl (R_pickT E rfl rfl) rfl ?_
            clear E a; intro a E
            refine S_v E rfl (R_move E rfl) rfl ?_
            clear E a; intro a E
            have hc_53 : (decide (filtI (predAt pk1 pn1 pl1) 0 l0 = filtI (predAt pk1 pn1 pl1) 0 (l0.take k))) = true := by (clear S E; rw [etk]; first | (simp; done) | (rw [fmapI_id l0 0 hr0]; simp; done))
            replace E := E.val (t := 92) rfl hc_53
            replace E := E.val (t := 93) rfl hc_53
            replace E := E.val (t := 94) rfl hc_53
            refine WL_guard_yes E rfl rfl ?_
            refine S_v E rfl (R_move E rfl) rfl ?_
            clear E a; intro a E
            refine WL_guard_yes E rfl rfl ?_
            refine S_v E rfl (R_move E rfl) rfl ?_
            clear E a; intro a E
            refine WL_guard_yes E rfl rfl ?_
            refine S_x (X_pu E S rfl rfl rfl (laws_eq hv_32 hz_41) (Hp.le.refl _) ?_)
            clear E a S; rintro a _ w M_54 hM_54 rfl S E
            replace h0 := h0.le hM_54
            replace hw1 := hw1.le hM_54
            replace hb_1 := hM_54.2 _ _ hb_1
            replace hz_8 := hz_8.le hM_54
            replace hv_10 := hv_10.le hM_54
            replace hv_12 := hv_12.le hM_54
            replace hv_31 := hv_31.le hM_54
            replace hv_32 := hv_32.le hM_54
            replace hv_34 := hv_34.le hM_54
            replace hv_35 := hv_35.le hM_54
            replace hz_37 := hz_37.le hM_54
            replace hz_41 := hz_41.le hM_54
            replace hv_45 := hv_45.le hM_54
            replace hv_49 := hv_49.le hM_54
            refine S_v E rfl (R_pickT E rfl rfl) rfl ?_
            clear E a; intro a E
            refine S_v E rfl (R_move E rfl) rfl ?_
            clear E a; intro a E
            have hc_55 : (decide (filtI (fun x i => !(predAt pk1 pn1 pl1) x i) 0 l0 = filtI (fun x i => !(predAt pk1 pn1 pl1) x i) 0 (l0.take k))) = true := by (clear S E; rw [etk]; first | (simp; done) | (rw [fmapI_id l0 0 hr0]; simp; done))
            replace E := E.val (t := 97) rfl hc_55
            replace E := E.val (t := 98) rfl hc_55
            replace E := E.val (t := 99) rfl hc_55
            refine WL_guard_yes E rfl rfl ?_
            refine S_v E rfl (R_move E rfl) rfl ?_
            clear E a; intro a E
            refine WL_guard_yes E rfl rfl ?_
            refine S_v E rfl (R_loadGM E rfl (Try.isAgg29 _) (Try.sizeOf29 _) S.imm hb_1) rfl ?_
            clear E a; intro a E
            refine WL_guard_yes E rfl rfl ?_
            refine S_x (X_pu E S rfl rfl rfl (impl_FilterInPlace h0 hw1 (by omega) (by (first | omega | (simp; omega) | (simp; done) | (simp_all; omega) | grind))) (Hp.le.refl _) ?_)
            clear E a S; rintro a v_57 w M_56 hM_56 hv_57 S E
            replace h0 := h0.le hM_56
            replace hw1 := hw1.le hM_56
            replace hb_1 := hM_56.2 _ _ hb_1
            replace hz_8 := hz_8.le hM_56
            replace hv_10 := hv_10.le hM_56
            replace hv_12 := hv_12.le hM_56
            replace hv_31 := hv_31.le hM_56
            replace hv_32 := hv_32.le hM_56
            replace hv_34 := hv_34.le hM_56
            replace hv_35 := hv_35.le hM_56
            replace hz_37 := hz_37.le hM_56
            replace hz_41 := hz_41.le hM_56
            replace hv_45 := hv_45.le hM_56
            replace hv_49 := hv_49.le hM_56
            refine WL_guard_yes E rfl rfl ?_
            refine S_v E rfl (R_move E rfl) rfl ?_
            clear E a; intro a E
            refine WL_guard_yes E rfl rfl ?_
            refine S_x (X_pu E S rfl rfl rfl (laws_eq hv_57 hz_37) (Hp.le.refl _) ?_)
            clear E a S; rintro a _ w M_58 hM_58 rfl S E
            replace h0 := h0.le hM_58
            replace hw1 := hw1.le hM_58
            replace hb_1 := hM_58.2 _ _ hb_1
            replace hz_8 := hz_8.le hM_58
            replace hv_10 := hv_10.le hM_58
            replace hv_12 := hv_12.le hM_58
            replace hv_31 := hv_31.le hM_58
            replace hv_32 := hv_32.le hM_58
            replace hv_34 := hv_34.le hM_58
            replace hv_35 := hv_35.le hM_58
            replace hz_37 := hz_37.le hM_58
            replace hz_41 := hz_41.le hM_58
            replace hv_45 := hv_45.le hM_58
            replace hv_49 := hv_49.le hM_58
            replace hv_57 := hv_57.le hM_58
            refine S_v E rfl (R_pickT E rfl rfl) rfl ?_
            clear E a; intro a E
            refine S_v E rfl (R_move E rfl) rfl ?_
            clear E a; intro a E
            have hc_59 : (decide (filtI (predAt pk1 pn1 pl1) 0 l0 = filtI (predAt pk1 pn1 pl1) 0 (l0.take k))) = true := by (clear S E; rw [etk]; first | (simp; done) | (rw [fmapI_id l0 0 hr0]; simp; done))
            replace E := E.val (t := 104) rfl hc_59
            replace E := E.val (t := 105) rfl hc_59
            replace E := E.val (t := 106) rfl hc_59
            refine WL_guard_yes E rfl rfl ?_
            refine S_v E rfl (R_move E rfl) rfl ?_
            clear E a; intro a E
            refine WL_guard_yes E rfl rfl ?_
            refine S_v E rfl (R_loadGM E rfl (Try.isAgg29 _) (Try.sizeOf29 _) S.imm hb_1) rfl ?_
            clear E a; intro a E
            refine WL_guard_yes E rfl rfl ?_
            refine S_x (X_pu E S rfl rfl rfl (impl_FilterSeq h0 hw1 (by omega) (by (first | omega | (simp; omega) | (simp; done) | (simp_all; omega) | grind))) (Hp.le.refl _) ?_)
            clear E a S; rintro a v_61 w M_60 hM_60 hv_61 S E
            replace h0 := h0.le hM_60
            replace hw1 := hw1.le hM_60
            replace hb_1 := hM_60.2 _ _ hb_1
            replace hz_8 := hz_8.le hM_60
            replace hv_10 := hv_10.le hM_60
            replace hv_12 := hv_12.le hM_60
            replace hv_31 := hv_31.le hM_60
            replace hv_32 := hv_32.le hM_60
            replace hv_34 := hv_34.le hM_60
            replace hv_35 := hv_35.le hM_60
            replace hz_37 := hz_37.le hM_60
            replace hz_41 := hz_41.le hM_60
            replace hv_45 := hv_45.le hM_60
            replace hv_49 := hv_49.le hM_60
            replace hv_57 := hv_57.le hM_60
            refine WL_guard_yes E rfl rfl ?_
            refine S_v E rfl (R_move E rfl) rfl ?_
            clear E a; intro a E
            refine WL_guard_yes E rfl rfl ?_
            refine S_x (X_pu E S rfl rfl rfl (laws_eq hv_61 hz_37) (Hp.le.refl _) ?_)
            clear E a S; rintro a _ w M_62 hM_62 rfl S E
            replace h0 := h0.le hM_62
            replace hw1 := hw1.le hM_62
            replace hb_1 := hM_62.2 _ _ hb_1
            replace hz_8 := hz_8.le hM_62
            replace hv_10 := hv_10.le hM_62
            replace hv_12 := hv_12.le hM_62
            replace hv_31 := hv_31.le hM_62
            replace hv_32 := hv_32.le hM_62
            replace hv_34 := hv_34.le hM_62
            replace hv_35 := hv_35.le hM_62
            replace hz_37 := hz_37.le hM_62
            replace hz_41 := hz_41.le hM_62
            replace hv_45 := hv_45.le hM_62
            replace hv_49 := hv_49.le hM_62
            replace hv_57 := hv_57.le hM_62
            replace hv_61 := hv_61.le hM_62
            refine S_v E rfl (R_pickT E rfl rfl) rfl ?_
            clear E a; intro a E
            refine S_v E rfl (R_move E rfl) rfl ?_
            clear E a; intro a E
            have hc_63 : (decide (filtI (predAt pk1 pn1 pl1) 0 l0 = filtI (predAt pk1 pn1 pl1) 0 (l0.take k))) = true := by (clear S E; rw [etk]; first | (simp; done) | (rw [fmapI_id l0 0 hr0]; simp; done))
            replace E := E.val (t := 111) rfl hc_63
            replace E := E.val (t := 112) rfl hc_63
            replace E := E.val (t := 113) rfl hc_63
            refine WL_guard_yes E rfl rfl ?_
            refine S_v E rfl (R_move E rfl) rfl ?_
            clear E a; intro a E
            refine WL_guard_yes E rfl rfl ?_
            refine S_v E rfl (R_loadGM E rfl (Try.isAgg29 _) (Try.sizeOf29 _) S.imm hb_1) rfl ?_
            clear E a; intro a E
            refine WL_guard_yes E rfl rfl ?_
            refine S_x (X_pu E S rfl rfl rfl (impl_RejectSeq h0 hw1 (by omega) (by (first | omega | (simp; omega) | (simp; done) | (simp_all; omega) | grind))) (Hp.le.refl _) ?_)
            clear E a S; rintro a v_65 w M_64 hM_64 hv_65 S E
            replace h0 := h0.le hM_64
            replace hw1 := hw1.le hM_64
            replace hb_1 := hM_64.2 _ _ hb_1
            replace hz_8 := hz_8.le hM_64
            replace hv_10 := hv_10.le hM_64
            replace hv_12 := hv_12.le hM_64
            replace hv_31 := hv_31.le hM_64
            replace hv_32 := hv_32.le hM_64
            replace hv_34 := hv_34.le hM_64
            replace hv_35 := hv_35.le hM_64
            replace hz_37 := hz_37.le hM_64
            replace hz_41 := hz_41.le hM_64
            replace hv_45 := hv_45.le hM_64
            replace hv_49 := hv_49.le hM_64
            replace hv_57 := hv_57.le hM_64
            replace hv_61 := hv_61.le hM_64
            refine WL_guard_yes E rfl rfl ?_
            refine S_v E rfl (R_move E rfl) rfl ?_
            clear E a; intro a E
            refine WL_guard_yes E rfl rfl ?_
            refine S_x (X_pu E S rfl rfl rfl (laws_eq hv_65 hz_41) (Hp.le.refl _) ?_)
            clear E a S; rintro a _ w M_66 hM_66 rfl S E
            replace h0 := h0.le hM_66
            replace hw1 := hw1.le hM_66
            replace hb_1 := hM_66.2 _ _ hb_1
            replace hz_8 := hz_8.le hM_66
            replace hv_10 := hv_10.le hM_66
            replace hv_12 := hv_12.le hM_66
            replace hv_31 := hv_31.le hM_66
            replace hv_32 := hv_32.le hM_66
            replace hv_34 := hv_34.le hM_66
            replace hv_35 := hv_35.le hM_66
            replace hz_37 := hz_37.le hM_66
            replace hz_41 := hz_41.le hM_66
            replace hv_45 := hv_45.le hM_66
            replace hv_49 := hv_49.le hM_66
            replace hv_57 := hv_57.le hM_66
            replace hv_61 := hv_61.le hM_66
            replace hv_65 := hv_65.le hM_66
            refine S_v E rfl (R_pickT E rfl rfl) rfl ?_
            clear E a; intro a E
            refine S_v E rfl (R_move E rfl) rfl ?_
            clear E a; intro a E
            have hc_67 : (decide (filtI (fun x i => !(predAt pk1 pn1 pl1) x i) 0 l0 = filtI (fun x i => !(predAt pk1 pn1 pl1) x i) 0 (l0.take k))) = true := by (clear S E; rw [etk]; first | (simp; done) | (rw [fmapI_id l0 0 hr0]; simp; done))
            replace E := E.val (t := 118) rfl hc_67
            replace E := E.val (t := 119) rfl hc_67
            replace E := E.val (t := 120) rfl hc_67
            refine WL_guard_yes E rfl rfl ?_
            refine S_v E rfl (R_move E rfl) rfl ?_
            clear E a; intro a E
            refine WL_guard_yes E rfl rfl ?_
            refine S_v E rfl (R_loadGM E rfl (Try.isAgg29 _) (Try.sizeOf29 _) S.imm hb_1) rfl ?_
            clear E a; intro a E
            refine WL_guard_yes E rfl rfl ?_
            refine S_v E rfl (R_build (u := .agg #[.int .i64 0, .int .i64 0]) (vs := []) E rfl (fun w => FB34__  w)) rfl ?_
            clear E a; intro a E
            refine WL_guard_yes E rfl rfl ?_
            refine S_x (X_pu E S rfl rfl rfl (impl_FilterMap h0 hw1 (by omega) (by omega) (by (first | omega | (simp; omega) | (simp; done) | (simp_all; omega) | grind))) (Hp.le.refl _) ?_)
            clear E a S; rintro a v_69 w M_68 hM_68 hv_69 S E
            replace h0 := h0.le hM_68
            replace hw1 := hw1.le hM_68
            replace hb_1 := hM_68.2 _ _ hb_1
            replace hz_8 := hz_8.le hM_68
            replace hv_10 := hv_10.le hM_68
            replace hv_12 := hv_12.le hM_68
            replace hv_31 := hv_31.le hM_68
            replace hv_32 := hv_32.le hM_68
            replace hv_34 := hv_34.le hM_68
            replace hv_35 := hv_35.le hM_68
            replace hz_37 := hz_37.le hM_68
            replace hz_41 := hz_41.le hM_68
            replace hv_45 := hv_45.le hM_68
            replace hv_49 := hv_49.le hM_68
            replace hv_57 := hv_57.le hM_68
            replace hv_61 := hv_61.le hM_68
            replace hv_65 := hv_65.le hM_68
            refine WL_guard_yes E rfl rfl ?_
            refine S_v E rfl (R_move E rfl) rfl ?_
            clear E a; intro a E
            refine WL_guard_yes E rfl rfl ?_
            refine S_x (X_pu E S rfl rfl rfl (laws_eq hv_69 hz_37) (Hp.le.refl _) ?_)
            clear E a S; rintro a _ w M_70 hM_70 rfl S E
            replace h0 := h0.le hM_70
            replace hw1 := hw1.le hM_70
            replace hb_1 := hM_70.2 _ _ hb_1
            replace hz_8 := hz_8.le hM_70
            replace hv_10 := hv_10.le hM_70
            replace hv_12 := hv_12.le hM_70
            replace hv_31 := hv_31.le hM_70
            replace hv_32 := hv_32.le hM_70
            replace hv_34 := hv_34.le hM_70
            replace hv_35 := hv_35.le hM_70
            replace hz_37 := hz_37.le hM_70
            replace hz_41 := hz_41.le hM_70
            replace hv_45 := hv_45.le hM_70
            replace hv_49 := hv_49.le hM_70
            replace hv_57 := hv_57.le hM_70
            replace hv_61 := hv_61.le hM_70
            replace hv_65 := hv_65.le hM_70
            replace hv_69 := hv_69.le hM_70
            refine S_v E rfl (R_pickT E rfl rfl) rfl ?_
            clear E a; intro a E
            refine S_v E rfl (R_move E rfl) rfl ?_
            clear E a; intro a E
            have hc_71 : (decide (fmapI (fun x i => (keyAt 0 0 x i, predAt pk1 pn1 pl1 x i)) 0 l0 = filtI (predAt pk1 pn1 pl1) 0 (l0.take k))) = true := by (clear S E; rw [etk]; first | (simp; done) | (rw [fmapI_id l0 0 hr0]; simp; done))
            replace E := E.val (t := 126) rfl hc_71
            replace E := E.val (t := 127) rfl hc_71
            replace E := E.val (t := 128) rfl hc_71
            refine WL_guard_yes E rfl rfl ?_
            refine S_v E rfl (R_move E rfl) rfl ?_
            clear E a; intro a E
            refine WL_guard_yes E rfl rfl ?_
            refine S_v E rfl (R_loadGM E rfl (Try.isAgg29 _) (Try.sizeOf29 _) S.imm hb_1) rfl ?_
            clear E a; intro a E
            refine WL_guard_yes E rfl rfl ?_
            refine S_v E rfl (R_build (u := .agg #[.int .i64 0, .int .i64 0]) (vs := []) E rfl (fun w => FB34__  w)) rfl ?_
            clear E a; intro a E
            refine WL_guard_yes E rfl rfl ?_
            refine S_x (X_pu E S rfl rfl rfl (impl_FilterMapSeq h0 hw1 (by omega) (by omega) (by (first | omega | (simp; omega) | (simp; done) | (simp_all; omega) | grind))) (Hp.le.refl _) ?_)
            clear E a S; rintro a v_73 w M_72 hM_72 hv_73 S E
            replace h0 := h0.le hM_72
            replace hw1 := hw1.le hM_72
            replace hb_1 := hM_72.2 _ _ hb_1
            replace hz_8 := hz_8.le hM_72
            replace hv_10 := hv_10.le hM_72
            replace hv_12 := hv_12.le hM_72
            replace hv_31 := hv_31.le hM_72
            replace hv_32 := hv_32.le hM_72
            replace hv_34 := hv_34.le hM_72
            replace hv_35 := hv_35.le hM_72
            replace hz_37 := hz_37.le hM_72
            replace hz_41 := hz_41.le hM_72
            replace hv_45 := hv_45.le hM_72
            replace hv_49 := hv_49.le hM_72
            replace hv_57 := hv_57.le hM_72
            replace hv_61 := hv_61.le hM_72
            replace hv_65 := hv_65.le hM_72
            replace hv_69 := hv_69.le hM_72
            refine WL_guard_yes E rfl rfl ?_
            refine S_v E rfl (R_move E rfl) rfl ?_
            clear E a; intro a E
            refine WL_guard_yes E rfl rfl ?_
            refine S_x (X_pu E S rfl rfl rfl (laws_eq hv_73 hz_37) (Hp.le.refl _) ?_)
            clear E a S; rintro a _ w M_74 hM_74 rfl S E
            replace h0 := h0.le hM_74
            replace hw1 := hw1.le hM_74
            replace hb_1 := hM_74.2 _ _ hb_1
            replace hz_8 := hz_8.le hM_74
            replace hv_10 := hv_10.le hM_74
            replace hv_12 := hv_12.le hM_74
            replace hv_31 := hv_31.le hM_74
            replace hv_32 := hv_32.le hM_74
            replace hv_34 := hv_34.le hM_74
            replace hv_35 := hv_35.le hM_74
            replace hz_37 := hz_37.le hM_74
            replace hz_41 := hz_41.le hM_74
            replace hv_45 := hv_45.le hM_74
            replace hv_49 := hv_49.le hM_74
            replace hv_57 := hv_57.le hM_74
            replace hv_61 := hv_61.le hM_74
            replace hv_65 := hv_65.le hM_74
            replace hv_69 := hv_69.le hM_74
            replace hv_73 := hv_73.le hM_74
            refine S_v E rfl (R_pickT E rfl rfl) rfl ?_
            clear E a; intro a E
            refine S_v E rfl (R_assign E rfl) rfl ?_
            clear E a; intro a E
            refine WL_nil ?_
            refine T_n ?_
            refine WP_ret ?_
            exact F_ret1 E Try.results11 rfl ⟨_, rfl, M_74, (hM_2.trans (hM_4.trans (hM_7.trans (hM_9.trans (hM_13.trans (hM_14.trans (hM_16.trans (hM_20.trans (hM_30.trans (hM_33.trans (hM_36.trans (hM_38.trans (hM_40.trans (hM_42.trans (hM_44.trans (hM_46.trans (hM_48.trans (hM_50.trans (hM_52.trans (hM_54.trans (hM_56.trans (hM_58.trans (hM_60.trans (hM_62.trans (hM_64.trans (hM_66.trans (hM_68.trans (hM_70.trans (hM_72.trans hM_74))))))))))))))))))))))))))))), (congrArg Value.bool (by (clear S E; rw [etk]; first | (simp; done) | (rw [fmapI_id l0 0 hr0]; simp; done)))), S⟩

end Go.Proofs.Ytealhfcckjdclaa.wFnFilterRoads
