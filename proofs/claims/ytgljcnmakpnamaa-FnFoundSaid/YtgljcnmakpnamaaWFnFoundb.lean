/- Walks through the functions that laws.FnFound reaches: what each computes; no conditions beyond what each theorem states. -/
import Derived.Test.YtgljcnmakpnamaaWFnFounda
set_option linter.unusedVariables false
set_option linter.unusedSimpArgs false
namespace Go.Proofs.Ytgljcnmakpnamaa.wFnFound
open Go Go.Sl
set_option maxRecDepth 100000 in
set_option maxHeartbeats 4000000 in
theorem spec_FindIndexOf {M : Hp} {v0 : Value} {l0 : List Int} (h0 : RdI M v0 l0){pk1 pn1 : Int} {w1 : Value} {pl1 : List Int} (hw1 : RdI M w1 pl1) (gn1 : -9223372036854775808 ≤ pn1 ∧ pn1 ≤ 9223372036854775807) (hr0 : (∀ x ∈ l0, -9223372036854775808 ≤ x ∧ x ≤ 9223372036854775807)) :
    Pu Try.prog (.func (.func 40) #[] #[]) M [v0, .agg #[.int .i64 pk1, .int .i64 pn1, w1]] (fun r M' => r = .tuple #[.int .i64 (fiV (fun x => predAt pk1 pn1 pl1 x 0) l0), .int .i64 (fiI (fun x => predAt pk1 pn1 pl1 x 0) l0), .bool ((l0).any (fun x => predAt pk1 pn1 pl1 x 0))]) := by
  refine Pu_enter Try.func40 rfl Try.ntmps40 rfl Try.call40 ?_
  intro a w M1 H hM1 S E
  replace h0 := h0.le hM1
  replace hw1 := hw1.le hM1
  have b0 := h0.bound
  refine WP_seq ?_
  refine WP_region ?_
  refine S_x (X_box (cs := #[.int .i64 pk1, .int .i64 pn1, w1]) E S rfl rfl rfl ?_)
  clear E a S; rintro a w b_1 E S
  obtain ⟨M_2, hM_2, hb_1, S⟩ := S.freezeB
  replace h0 := h0.le hM_2
  replace hw1 := hw1.le hM_2
  refine S_v E rfl (R_assign E rfl) rfl ?_
  clear E a; intro a E
  refine S_v E rfl (R_assign E rfl) rfl ?_
  clear E a; intro a E
  refine S_v E rfl (R_assign E rfl) rfl ?_
  clear E a; intro a E
  refine WL_nil ?_
  refine T_n ?_
  refine WP_seq ?_
  refine WP_seq ?_
  refine WP_region ?_
  refine S_v E rfl (R_move E rfl) rfl ?_
  clear E a; intro a E
  refine S_v E rfl (R_lenV E rfl T22 h0.len) rfl ?_
  clear E a; intro a E
  refine S_v E rfl (R_move E rfl) rfl ?_
  clear E a; intro a E
  refine WL_nil ?_
  refine T_n ?_
  refine WP_block ?_
  refine WP_loop (γ := Nat) (fun (k : Nat) a w => ∃ (M_3 : Hp), Hp.le M_2 M_3 ∧ St w M_3 (H) ∧ Env a 22 [] [(3, .pointer (some ⟨b_1, 0, none⟩)), (9, v0), (10, .int .i64 (((l0).length : Nat) : Int)), (11, .int .i64 ((k : Nat) : Int))] ∧ (k ≤ (l0).length) ∧ (∀ x ∈ l0.take k, (fun x => predAt pk1 pn1 pl1 x 0) x = false)) (fun k => ((l0).length) - k) 0 ⟨M_2, Hp.le.refl _, S, E.keep ⟨rfl, rfl, rfl, rfl, trivial⟩, by ((try clear S); (try clear E); first | assumption | omega | rfl | (simp; done) | (simp_all; done) | (simp [List.take_add_one, *]; done) | grind [List.take_add_one]), (by simp)⟩ ?_
  try clear E
  try clear S
  try clear a
  try clear w
  rintro k a w ⟨M_3, hM_3, S, E, hL0_0, hL0_1⟩
  replace h0 := h0.le hM_3
  replace hw1 := hw1.le hM_3
  replace hb_1 := hM_3.2 _ _ hb_1
  refine WP_seq ?_
  refine WP_region ?_
  refine S_v E rfl (R_lss E rfl rfl) rfl ?_
  clear E a; intro a E
  refine WL_nil ?_
  refine T_n ?_
  refine WP_seq ?_
  refine WP_cond E rfl (fun hc_4 => ?_) (fun hc_4 => ?_)
  · replace hc_4 := of_decide_eq_true hc_4
    refine WP_skip ?_
    refine T_n ?_
    refine WP_seq ?_
    refine WP_block ?_
    refine WP_seq ?_
    refine WP_region ?_
    refine S_v E rfl (R_move E rfl) rfl ?_
    clear E a; intro a E
    obtain ⟨x_5, hx_5⟩ : ∃ x, (l0)[k]? = some x := ⟨_, List.getElem?_eq_getElem (by first | omega | (simp; done) | (simp; omega) | (simp_all; omega))⟩
    obtain ⟨p_6, hp_6, qp_6⟩ := h0.at hx_5
    refine S_v E rfl (R_idx E rfl rfl T22 hp_6 rfl) rfl ?_
    clear E a; intro a E
    refine S_v E rfl (R_loadM E rfl Try.isAgg3 S.imm qp_6) rfl ?_
    clear E a; intro a E
    refine S_v E rfl (R_assign E rfl) rfl ?_
    clear E a; intro a E
    refine S_v E rfl (R_assign E rfl) rfl ?_
    clear E a; intro a E
    refine WL_nil ?_
    refine T_n ?_
    refine WP_seq ?_
    refine WP_region ?_
    refine S_v E rfl (R_loadGM E rfl (Try.isAgg44 _) (Try.sizeOf44 _) S.imm hb_1) rfl ?_
    clear E a; intro a E
    refine S_v E rfl (R_move E rfl) rfl ?_
    clear E a; intro a E
    refine S_x (X_pu E S rfl rfl rfl (SPred_Holds_d hw1 (by omega) (by first | omega | assumption | exact hr0 _ (List.mem_of_getElem? (by assumption)))) (Hp.le.refl _) ?_)
    clear E a S; rintro a _ w M_7 hM_7 rfl S E
    replace h0 := h0.le hM_7
    replace hw1 := hw1.le hM_7
    replace hb_1 := hM_7.2 _ _ hb_1
    refine WL_nil ?_
    refine T_n ?_
    refine WP_cond E rfl (fun hc_8 => ?_) (fun hc_8 => ?_)
    · refine WP_seq ?_
      refine WP_region ?_
      refine S_v E rfl (R_move E rfl) rfl ?_
      clear E a; intro a E
      refine S_v E rfl (R_move E rfl) rfl ?_
      clear E a; intro a E
      refine S_v E rfl (R_assign E rfl) rfl ?_
      clear E a; intro a E
      refine S_v E rfl (R_assign E rfl) rfl ?_
      clear E a; intro a E
      refine S_v E rfl (R_assign E rfl) rfl ?_
      clear E a; intro a E
      refine WL_nil ?_
      refine T_n ?_
      refine WP_ret ?_
      refine B_r ?_
      refine T_r ?_
      refine T_r ?_
      refine B_r ?_
      refine T_r ?_
      exact F_ret3 E Try.results40 rfl rfl rfl ⟨_, rfl, M_7, (hM_2.trans (hM_3.trans hM_7)), (by (first | exact tup3_eq (fi_yes (f := fun x => predAt pk1 pn1 pl1 x 0) hL0_1 (by assumption) (by assumption)) | exact tup3_eq (fi_no (f := fun x => predAt pk1 pn1 pl1 x 0) hL0_1 (by omega)))), S⟩
    · refine WP_skip ?_
      refine B_n ?_
      refine T_n ?_
      refine WP_region ?_
      refine S_v E rfl (R_addx (m := ((k + 1 : Nat) : Int)) E rfl rfl (by omega) (by omega)) rfl ?_
      clear E a; intro a E
      refine S_v E rfl (R_move E rfl) rfl ?_
      clear E a; intro a E
      refine WL_nil ?_
      refine T_n ?_
      exact ⟨k + 1, ⟨M_7, (hM_3.trans hM_7), S, E.keep ⟨rfl, rfl, rfl, rfl, trivial⟩, by ((try clear S); (try clear E); first | assumption | omega | rfl | (simp; done) | (simp_all; done) | (simp [List.take_add_one, *]; done) | grind [List.take_add_one]), (by exact take_all (P := fun x => (fun x => predAt pk1 pn1 pl1 x 0) x = false) hL0_1 (by assumption) (by first | assumption | (simpa using (by assumption))))⟩, by omega⟩
  · replace hc_4 := of_decide_eq_false hc_4
    refine WP_exit ?_
    refine T_x ?_
    refine T_x ?_
    refine B_x ?_
    refine T_n ?_
    refine WP_seq ?_
    refine WP_region ?_
    refine S_v E rfl (R_assign E rfl) rfl ?_
    clear E a; intro a E
    refine S_v E rfl (R_assign E rfl) rfl ?_
    clear E a; intro a E
    refine S_v E rfl (R_assign E rfl) rfl ?_
    clear E a; intro a E
    refine WL_nil ?_
    refine T_n ?_
    refine WP_ret ?_
    exact F_ret3 E Try.results40 rfl rfl rfl ⟨_, rfl, M_3, (hM_2.trans hM_3), (by (first | exact tup3_eq (fi_yes (f := fun x => predAt pk1 pn1 pl1 x 0) hL0_1 (by assumption) (by assumption)) | exact tup3_eq (fi_no (f := fun x => predAt pk1 pn1 pl1 x 0) hL0_1 (by omega)))), S⟩

set_option maxRecDepth 100000 in
set_option maxHeartbeats 4000000 in
theorem spec_FindLastIndexOf {M : Hp} {v0 : Value} {l0 : List Int} (h0 : RdI M v0 l0){pk1 pn1 : Int} {w1 : Value} {pl1 : List Int} (hw1 : RdI M w1 pl1) (gn1 : -9223372036854775808 ≤ pn1 ∧ pn1 ≤ 9223372036854775807) (hr0 : (∀ x ∈ l0, -9223372036854775808 ≤ x ∧ x ≤ 9223372036854775807)) :
    Pu Try.prog (.func (.func 41) #[] #[]) M [v0, .agg #[.int .i64 pk1, .int .i64 pn1, w1]] (fun r M' => r = .tuple #[.int .i64 (laV (fun x => predAt pk1 pn1 pl1 x 0) l0), .int .i64 (laI (fun x => predAt pk1 pn1 pl1 x 0) l0), .bool ((l0).any (fun x => predAt pk1 pn1 pl1 x 0))]) := by
  refine Pu_enter Try.func41 rfl Try.ntmps41 rfl Try.call41 ?_
  intro a w M1 H hM1 S E
  replace h0 := h0.le hM1
  replace hw1 := hw1.le hM1
  have b0 := h0.bound
  refine WP_seq ?_
  refine WP_region ?_
  refine S_x (X_box (cs := #[.int .i64 pk1, .int .i64 pn1, w1]) E S rfl rfl rfl ?_)
  clear E a S; rintro a w b_1 E S
  obtain ⟨M_2, hM_2, hb_1, S⟩ := S.freezeB
  replace h0 := h0.le hM_2
  replace hw1 := hw1.le hM_2
  refine S_v E rfl (R_assign E rfl) rfl ?_
  clear E a; intro a E
  refine S_v E rfl (R_assign E rfl) rfl ?_
  clear E a; intro a E
  refine S_v E rfl (R_assign E rfl) rfl ?_
  clear E a; intro a E
  refine WL_nil ?_
  refine T_n ?_
  refine WP_seq ?_
  refine WP_seq ?_
  refine WP_region ?_
  refine S_v E rfl (R_move E rfl) rfl ?_
  clear E a; intro a E
  refine S_v E rfl (R_lenV E rfl T22 h0.len) rfl ?_
  clear E a; intro a E
  refine S_v E rfl (R_subx (m := (((l0).length : Nat) : Int) - 1) E rfl rfl (by omega) (by omega)) rfl ?_
  clear E a; intro a E
  refine S_v E rfl (R_assign E rfl) rfl ?_
  clear E a; intro a E
  refine WL_nil ?_
  refine T_n ?_
  refine WP_block ?_
  refine WP_loop (γ := Nat) (fun (k : Nat) a w => ∃ (M_3 : Hp), Hp.le M_2 M_3 ∧ St w M_3 (H) ∧ Env a 26 [] [(0, v0), (3, .pointer (some ⟨b_1, 0, none⟩)), (7, .int .i64 ((l0.length : Int) - 1 - (k : Int)))] ∧ (k ≤ l0.length) ∧ (∀ x ∈ l0.drop (l0.length - k), (fun x => predAt pk1 pn1 pl1 x 0) x = false)) (fun k => l0.length - k) 0 ⟨M_2, Hp.le.refl _, S, E.keep ⟨rfl, rfl, look_int (i := (((l0).length : Nat) : Int) - 1) rfl (by (simp)), trivial⟩, by ((try clear S); (try clear E); first | assumption | omega | rfl | (simp; done) | (simp_all; done) | (simp [List.take_add_one, *]; done) | grind [List.take_add_one]), (by simp)⟩ ?_
  try clear E
  try clear S
  try clear a
  try clear w
  rintro k a w ⟨M_3, hM_3, S, E, hL0_0, hL0_1⟩
  replace h0 := h0.le hM_3
  replace hw1 := hw1.le hM_3
  replace hb_1 := hM_3.2 _ _ hb_1
  refine WP_seq ?_
  refine WP_seq ?_
  refine WP_region ?_
  refine S_v E rfl (R_move E rfl) rfl ?_
  clear E a; intro a E
  refine S_v E rfl (R_geq E rfl rfl) rfl ?_
  clear E a; intro a E
  refine WL_nil ?_
  refine T_n ?_
  refine WP_cond E rfl (fun hc_4 => ?_) (fun hc_4 => ?_)
  · replace hc_4 := of_decide_eq_true hc_4
    refine WP_skip ?_
    refine T_n ?_
    refine WP_seq ?_
    refine WP_block ?_
    refine WP_seq ?_
    have hb_1k4 := hb_1
    replace S := S.mono_heap (w' := World.drew _) rfl
    refine WP_drawn (C := fun x w => agree M_3 w) (bf := (fun i => [])) [0, 1, 2, 3, 4] [0, 1, 2, 3, 4, 5] Try.mixed (by kernel_rfl) (fun x hq => S.imm) ?_
    refine D_v E rfl rfl rfl (fun w hC => (R_loadGM E rfl (Try.isAgg44 _) (Try.sizeOf44 _) hC hb_1k4)) ?_
    clear E a; intro a E
    refine D_v E rfl rfl rfl (fun w hC => (R_move E rfl)) ?_
    clear E a; intro a E
    refine D_v E rfl rfl rfl (fun w hC => (R_move E rfl)) ?_
    clear E a; intro a E
    obtain ⟨x_5, hx_5⟩ : ∃ x, (l0)[l0.length - 1 - k]? = some x := ⟨_, List.getElem?_eq_getElem (by first | omega | (simp; done) | (simp; omega) | (simp_all; omega))⟩
    obtain ⟨p_6, hp_6, qp_6⟩ := h0.at hx_5
    refine D_v E rfl rfl rfl (fun w hC => (R_idx E rfl rfl T22 hp_6 (by omega))) ?_
    clear E a; intro a E
    refine D_v E rfl rfl rfl (fun w hC => (R_loadM E rfl Try.isAgg3 hC qp_6)) ?_
    clear E a; intro a E
    refine D_x rfl rfl rfl (X_pu E S rfl rfl rfl (SPred_Holds_d hw1 (by omega) (by first | omega | assumption | exact hr0 _ (List.mem_of_getElem? (by assumption)))) (Hp.le.refl _) ?_)
    clear E a S; rintro a _ w M_7 hM_7 rfl S E
    replace h0 := h0.le hM_7
    replace hw1 := hw1.le hM_7
    replace hb_1 := hM_7.2 _ _ hb_1
    refine ⟨fun x hq hb => (agree_le hM_7 S.imm), ?_⟩
    refine D_end (NoP_n ?_)
    refine T_n ?_
    refine WP_cond E rfl (fun hc_8 => ?_) (fun hc_8 => ?_)
    · refine WP_seq ?_
      refine WP_region ?_
      refine S_v E rfl (R_move E rfl) rfl ?_
      clear E a; intro a E
      refine S_v E rfl (R_move E rfl) rfl ?_
      clear E a; intro a E
      obtain ⟨p_9, hp_9, qp_9⟩ := h0.at hx_5
      refine S_v E rfl (R_idx E rfl rfl T22 hp_9 (by omega)) rfl ?_
      clear E a; intro a E
      refine S_v E rfl (R_loadM E rfl Try.isAgg3 S.imm qp_9) rfl ?_
      clear E a; intro a E
      refine S_v E rfl (R_move E rfl) rfl ?_
      clear E a; intro a E
      refine S_v E rfl (R_assign E rfl) rfl ?_
      clear E a; intro a E
      refine S_v E rfl (R_assign E rfl) rfl ?_
      clear E a; intro a E
      refine S_v E rfl (R_assign E rfl) rfl ?_
      clear E a; intro a E
      refine WL_nil ?_
      refine T_n ?_
      refine WP_ret ?_
      refine B_r ?_
      refine T_r ?_
      refine T_r ?_
      refine B_r ?_
      refine T_r ?_
      exact F_ret3 E Try.results41 rfl rfl rfl ⟨_, rfl, M_7, (hM_2.trans (hM_3.trans hM_7)), (by (first | exact tup3_eq (la_yes (f := fun x => predAt pk1 pn1 pl1 x 0) hL0_1 (by assumption) (by assumption) (by omega)) | exact tup3_eq (la_no (f := fun x => predAt pk1 pn1 pl1 x 0) hL0_1 (by omega)))), S⟩
    · refine WP_skip ?_
      refine B_n ?_
      refine T_n ?_
      refine WP_region ?_
      refine S_v E rfl (R_move E rfl) rfl ?_
      clear E a; intro a E
      refine S_v E rfl (R_subx (m := ((l0.length : Int) - 1 - (k : Int)) - 1) E rfl rfl (by omega) (by omega)) rfl ?_
      clear E a; intro a E
      refine S_v E rfl (R_assign E rfl) rfl ?_
      clear E a; intro a E
      refine WL_nil ?_
      refine T_n ?_
      exact ⟨k + 1, ⟨M_7, (hM_3.trans hM_7), S, E.keep ⟨rfl, rfl, look_int (i := ((l0.length : Int) - 1 - (k : Int)) - 1) rfl (by (omega)), trivial⟩, (by omega), (by exact dropn_all (f := fun x => predAt pk1 pn1 pl1 x 0) hL0_1 (by omega) (by assumption) (by assumption))⟩, by omega⟩
  · replace hc_4 := of_decide_eq_false hc_4
    refine WP_exit ?_
    refine T_x ?_
    refine T_x ?_
    refine B_x ?_
    refine T_n ?_
    refine WP_seq ?_
    refine WP_region ?_
    refine S_v E rfl (R_assign E rfl) rfl ?_
    clear E a; intro a E
    refine S_v E rfl (R_assign E rfl) rfl ?_
    clear E a; intro a E
    refine S_v E rfl (R_assign E rfl) rfl ?_
    clear E a; intro a E
    refine WL_nil ?_
    refine T_n ?_
    refine WP_ret ?_
    exact F_ret3 E Try.results41 rfl rfl rfl ⟨_, rfl, M_3, (hM_2.trans hM_3), (by (first | exact tup3_eq (la_yes (f := fun x => predAt pk1 pn1 pl1 x 0) hL0_1 (by assumption) (by assumption) (by omega)) | exact tup3_eq (la_no (f := fun x => predAt pk1 pn1 pl1 x 0) hL0_1 (by omega)))), S⟩

set_option maxRecDepth 100000 in
set_option maxHeartbeats 4000000 in
theorem spec_Find {M : Hp} {v0 : Value} {l0 : List Int} (h0 : RdI M v0 l0){pk1 pn1 : Int} {w1 : Value} {pl1 : List Int} (hw1 : RdI M w1 pl1) (gn1 : -9223372036854775808 ≤ pn1 ∧ pn1 ≤ 9223372036854775807) (hr0 : (∀ x ∈ l0, -9223372036854775808 ≤ x ∧ x ≤ 9223372036854775807)) :
    Pu Try.prog (.func (.func 42) #[] #[]) M [v0, .agg #[.int .i64 pk1, .int .i64 pn1, w1]] (fun r M' => r = .tuple #[.int .i64 (fiV (fun x => predAt pk1 pn1 pl1 x 0) l0), .bool ((l0).any (fun x => predAt pk1 pn1 pl1 x 0))]) := by
  refine Pu_enter Try.func42 rfl Try.ntmps42 rfl Try.call42 ?_
  intro a w M1 H hM1 S E
  replace h0 := h0.le hM1
  replace hw1 := hw1.le hM1
  have b0 := h0.bound
  refine WP_seq ?_
  refine WP_region ?_
  refine S_x (X_box (cs := #[.int .i64 pk1, .int .i64 pn1, w1]) E S rfl rfl rfl ?_)
  clear E a S; rintro a w b_1 E S
  obtain ⟨M_2, hM_2, hb_1, S⟩ := S.freezeB
  replace h0 := h0.le hM_2
  replace hw1 := hw1.le hM_2
  refine S_v E rfl (R_assign E rfl) rfl ?_
  clear E a; intro a E
  refine S_v E rfl (R_assign E rfl) rfl ?_
  clear E a; intro a E
  refine WL_nil ?_
  refine T_n ?_
  refine WP_seq ?_
  refine WP_region ?_
  refine S_v E rfl (R_move E rfl) rfl ?_
  clear E a; intro a E
  refine S_v E rfl (R_loadGM E rfl (Try.isAgg44 _) (Try.sizeOf44 _) S.imm hb_1) rfl ?_
  clear E a; intro a E
  refine S_x (X_pu E S rfl rfl rfl (spec_FindIndexOf h0 hw1 (by omega) (by assumption)) (Hp.le.refl _) ?_)
  clear E a S; rintro a _ w M_3 hM_3 rfl S E
  replace h0 := h0.le hM_3
  replace hw1 := hw1.le hM_3
  replace hb_1 := hM_3.2 _ _ hb_1
  refine S_v E rfl (R_move E rfl) rfl ?_
  clear E a; intro a E
  refine S_v E rfl (R_extract E rfl rfl) rfl ?_
  clear E a; intro a E
  refine S_v E rfl (R_extract E rfl rfl) rfl ?_
  clear E a; intro a E
  refine S_v E rfl (R_extract E rfl rfl) rfl ?_
  clear E a; intro a E
  refine S_v E rfl (R_assign E rfl) rfl ?_
  clear E a; intro a E
  refine S_v E rfl (R_assign E rfl) rfl ?_
  clear E a; intro a E
  refine S_v E rfl (R_assign E rfl) rfl ?_
  clear E a; intro a E
  refine WL_nil ?_
  refine T_n ?_
  refine WP_seq ?_
  refine WP_region ?_
  refine S_v E rfl (R_move E rfl) rfl ?_
  clear E a; intro a E
  refine S_v E rfl (R_move E rfl) rfl ?_
  clear E a; intro a E
  refine S_v E rfl (R_assign E rfl) rfl ?_
  clear E a; intro a E
  refine S_v E rfl (R_assign E rfl) rfl ?_
  clear E a; intro a E
  refine WL_nil ?_
  refine T_n ?_
  refine WP_ret ?_
  exact F_ret2 E Try.results42 rfl rfl ⟨_, rfl, M_3, (hM_2.trans hM_3), (by first | rfl | (simp; done) | (simp_all; done)), S⟩

set_option maxRecDepth 100000 in
set_option maxHeartbeats 4000000 in
theorem spec_CountBy {M : Hp} {v0 : Value} {l0 : List Int} (h0 : RdI M v0 l0){pk1 pn1 : Int} {w1 : Value} {pl1 : List Int} (hw1 : RdI M w1 pl1) (gn1 : -9223372036854775808 ≤ pn1 ∧ pn1 ≤ 9223372036854775807) (hr0 : (∀ x ∈ l0, -9223372036854775808 ≤ x ∧ x ≤ 9223372036854775807)) :
    Pu Try.prog (.func (.func 43) #[] #[]) M [v0, .agg #[.int .i64 pk1, .int .i64 pn1, w1]] (fun r M' => r = .int .i64 (((l0).countP (fun x => predAt pk1 pn1 pl1 x 0) : Nat) : Int)) := by
  refine Pu_enter Try.func43 rfl Try.ntmps43 rfl Try.call43 ?_
  intro a w M1 H hM1 S E
  replace h0 := h0.le hM1
  replace hw1 := hw1.le hM1
  have b0 := h0.bound
  refine WP_seq ?_
  refine WP_region ?_
  refine S_x (X_box (cs := #[.int .i64 pk1, .int .i64 pn1, w1]) E S rfl rfl rfl ?_)
  clear E a S; rintro a w b_1 E S
  obtain ⟨M_2, hM_2, hb_1, S⟩ := S.freezeB
  replace h0 := h0.le hM_2
  replace hw1 := hw1.le hM_2
  refine S_v E rfl (R_assign E rfl) rfl ?_
  clear E a; intro a E
  refine WL_nil ?_
  refine T_n ?_
  refine WP_seq ?_
  refine WP_region ?_
  refine S_v E rfl (R_assign E rfl) rfl ?_
  clear E a; intro a E
  refine WL_nil ?_
  refine T_n ?_
  refine WP_seq ?_
  refine WP_seq ?_
  refine WP_region ?_
  refine S_v E rfl (R_move E rfl) rfl ?_
  clear E a; intro a E
  refine S_v E rfl (R_lenV E rfl T22 h0.len) rfl ?_
  clear E a; intro a E
  refine S_v E rfl (R_move E rfl) rfl ?_
  clear E a; intro a E
  refine WL_nil ?_
  refine T_n ?_
  refine WP_block ?_
  refine WP_loop (γ := Nat) (fun (k : Nat) a w => ∃ (M_3 : Hp), Hp.le M_2 M_3 ∧ St w M_3 (H) ∧ Env a 21 [] [(3, .pointer (some ⟨b_1, 0, none⟩)), (5, .int .i64 (((l0.take k).countP (fun x => predAt pk1 pn1 pl1 x 0) : Nat) : Int)), (8, v0), (9, .int .i64 (((l0).length : Nat) : Int)), (10, .int .i64 ((k : Nat) : Int))] ∧ (k ≤ (l0).length)) (fun k => ((l0).length) - k) 0 ⟨M_2, Hp.le.refl _, S, E.keep ⟨rfl, look_nat (i := 0) rfl (by (simp)), rfl, rfl, rfl, trivial⟩, by ((try clear S); (try clear E); first | assumption | omega | rfl | (simp; done) | (simp_all; done) | (simp [List.take_add_one, *]; done) | grind [List.take_add_one])⟩ ?_
  try clear E
  try clear S
  try clear a
  try clear w
  rintro k a w ⟨M_3, hM_3, S, E, hL0_0⟩
  replace h0 := h0.le hM_3
  replace hw1 := hw1.le hM_3
  replace hb_1 := hM_3.2 _ _ hb_1
  have ck := List.countP_le_length (p := fun x => predAt pk1 pn1 pl1 x 0) (l := l0.take k); simp only [List.length_take] at ck
  refine WP_seq ?_
  refine WP_region ?_
  refine S_v E rfl (R_lss E rfl rfl) rfl ?_
  clear E a; intro a E
  refine WL_nil ?_
  refine T_n ?_
  refine WP_seq ?_
  refine WP_cond E rfl (fun hc_4 => ?_) (fun hc_4 => ?_)
  · replace hc_4 := of_decide_eq_true hc_4
    refine WP_skip ?_
    refine T_n ?_
    refine WP_seq ?_
    refine WP_block ?_
    refine WP_seq ?_
    refine WP_region ?_
    obtain ⟨x_5, hx_5⟩ : ∃ x, (l0)[k]? = some x := ⟨_, List.getElem?_eq_getElem (by first | omega | (simp; done) | (simp; omega) | (simp_all; omega))⟩
    obtain ⟨p_6, hp_6, qp_6⟩ := h0.at hx_5
    refine S_v E rfl (R_idx E rfl rfl T22 hp_6 rfl) rfl ?_
    clear E a; intro a E
    refine S_v E rfl (R_loadM E rfl Try.isAgg3 S.imm qp_6) rfl ?_
    clear E a; intro a E
    refine S_v E rfl (R_assign E rfl) rfl ?_
    clear E a; intro a E
    refine WL_nil ?_
    refine T_n ?_
    refine WP_seq ?_
    refine WP_region ?_
    refine S_v E rfl (R_loadGM E rfl (Try.isAgg44 _) (Try.sizeOf44 _) S.imm hb_1) rfl ?_
    clear E a; intro a E
    refine S_v E rfl (R_move E rfl) rfl ?_
    clear E a; intro a E
    refine S_x (X_pu E S rfl rfl rfl (SPred_Holds_d hw1 (by omega) (by first | omega | assumption | exact hr0 _ (List.mem_of_getElem? (by assumption)))) (Hp.le.refl _) ?_)
    clear E a S; rintro a _ w M_7 hM_7 rfl S E
    replace h0 := h0.le hM_7
    replace hw1 := hw1.le hM_7
    replace hb_1 := hM_7.2 _ _ hb_1
    refine WL_nil ?_
    refine T_n ?_
    refine WP_cond E rfl (fun hc_8 => ?_) (fun hc_8 => ?_)
    · refine WP_region ?_
      refine S_v E rfl (R_move E rfl) rfl ?_
      clear E a; intro a E
      refine S_v E rfl (R_addx (m := (((l0.take k).countP (fun x => predAt pk1 pn1 pl1 x 0) + 1 : Nat) : Int)) E rfl rfl (by omega) (by omega)) rfl ?_
      clear E a; intro a E
      refine S_v E rfl (R_assign E rfl) rfl ?_
      clear E a; intro a E
      refine WL_nil ?_
      refine B_n ?_
      refine T_n ?_
      refine WP_region ?_
      refine S_v E rfl (R_addx (m := ((k + 1 : Nat) : Int)) E rfl rfl (by omega) (by omega)) rfl ?_
      clear E a; intro a E
      refine S_v E rfl (R_move E rfl) rfl ?_
      clear E a; intro a E
      refine WL_nil ?_
      refine T_n ?_
      exact ⟨k + 1, ⟨M_7, (hM_3.trans hM_7), S, E.keep ⟨rfl, look_nat (i := (l0.take k).countP (fun x => predAt pk1 pn1 pl1 x 0) + 1) rfl (by (rw [List.take_add_one, show l0[k]? = some _ by assumption, List.countP_append]; simp_all [List.countP_cons])), rfl, rfl, rfl, trivial⟩, by ((try clear S); (try clear E); first | assumption | omega | rfl | (simp; done) | (simp_all; done) | (simp [List.take_add_one, *]; done) | grind [List.take_add_one])⟩, by omega⟩
    · refine WP_skip ?_
      refine B_n ?_
      refine T_n ?_
      refine WP_region ?_
      refine S_v E rfl (R_addx (m := ((k + 1 : Nat) : Int)) E rfl rfl (by omega) (by omega)) rfl ?_
      clear E a; intro a E
      refine S_v E rfl (R_move E rfl) rfl ?_
      clear E a; intro a E
      refine WL_nil ?_
      refine T_n ?_
      exact ⟨k + 1, ⟨M_7, (hM_3.trans hM_7), S, E.keep ⟨rfl, look_nat (i := (l0.take k).countP (fun x => predAt pk1 pn1 pl1 x 0)) rfl (by (rw [List.take_add_one, show l0[k]? = some _ by assumption, List.countP_append]; simp_all [List.countP_cons])), rfl, rfl, rfl, trivial⟩, by ((try clear S); (try clear E); first | assumption | omega | rfl | (simp; done) | (simp_all; done) | (simp [List.take_add_one, *]; done) | grind [List.take_add_one])⟩, by omega⟩
  · replace hc_4 := of_decide_eq_false hc_4
    refine WP_exit ?_
    refine T_x ?_
    refine T_x ?_
    refine B_x ?_
    refine T_n ?_
    refine WP_seq ?_
    refine WP_region ?_
    refine S_v E rfl (R_move E rfl) rfl ?_
    clear E a; intro a E
    refine S_v E rfl (R_assign E rfl) rfl ?_
    clear E a; intro a E
    refine WL_nil ?_
    refine T_n ?_
    refine WP_ret ?_
    exact F_ret1 E Try.results43 rfl ⟨_, rfl, M_3, (hM_2.trans hM_3), (congrArg (Value.int .i64) (by (rw [List.take_of_length_le (by omega)]))), S⟩

set_option maxRecDepth 100000 in
set_option maxHeartbeats 4000000 in
theorem spec_EveryBy {M : Hp} {v0 : Value} {l0 : List Int} (h0 : RdI M v0 l0){pk1 pn1 : Int} {w1 : Value} {pl1 : List Int} (hw1 : RdI M w1 pl1) (gn1 : -9223372036854775808 ≤ pn1 ∧ pn1 ≤ 9223372036854775807) (hr0 : (∀ x ∈ l0, -9223372036854775808 ≤ x ∧ x ≤ 9223372036854775807)) :
    Pu Try.prog (.func (.func 44) #[] #[]) M [v0, .agg #[.int .i64 pk1, .int .i64 pn1, w1]] (fun r M' => r = .bool ((l0).all (fun x => predAt pk1 pn1 pl1 x 0))) := by
  refine Pu_enter Try.func44 rfl Try.ntmps44 rfl Try.call44 ?_
  intro a w M1 H hM1 S E
  replace h0 := h0.le hM1
  replace hw1 := hw1.le hM1
  have b0 := h0.bound
  refine WP_seq ?_
  refine WP_region ?_
  refine S_x (X_box (cs := #[.int .i64 pk1, .int .i64 pn1, w1]) E S rfl rfl rfl ?_)
  clear E a S; rintro a w b_1 E S
  obtain ⟨M_2, hM_2, hb_1, S⟩ := S.freezeB
  replace h0 := h0.le hM_2
  replace hw1 := hw1.le hM_2
  refine S_v E rfl (R_assign E rfl) rfl ?_
  clear E a; intro a E
  refine WL_nil ?_
  refine T_n ?_
  refine WP_seq ?_
  refine WP_region ?_
  refine S_v E rfl (R_move E rfl) rfl ?_
  clear E a; intro a E
  refine S_v E rfl (R_loadGM E rfl (Try.isAgg44 _) (Try.sizeOf44 _) S.imm hb_1) rfl ?_
  clear E a; intro a E
  refine S_x (X_pu E S rfl rfl rfl (spec_CountBy h0 hw1 (by omega) (by assumption)) (Hp.le.refl _) ?_)
  clear E a S; rintro a _ w M_3 hM_3 rfl S E
  replace h0 := h0.le hM_3
  replace hw1 := hw1.le hM_3
  replace hb_1 := hM_3.2 _ _ hb_1
  refine S_v E rfl (R_move E rfl) rfl ?_
  clear E a; intro a E
  refine S_v E rfl (R_lenV E rfl T22 h0.len) rfl ?_
  clear E a; intro a E
  refine S_v E rfl (R_eql E rfl rfl) rfl ?_
  clear E a; intro a E
  refine S_v E rfl (R_assign E rfl) rfl ?_
  clear E a; intro a E
  refine WL_nil ?_
  refine T_n ?_
  refine WP_ret ?_
  exact F_ret1 E Try.results44 rfl ⟨_, rfl, M_3, (hM_2.trans hM_3), (congrArg Value.bool (by (first | exact beq_iff_eq.1 (law_all _ _) | exact (beq_iff_eq.1 (law_all _ _)).symm))), S⟩

set_option maxRecDepth 100000 in
set_option maxHeartbeats 4000000 in
theorem spec_SomeBy {M : Hp} {v0 : Value} {l0 : List Int} (h0 : RdI M v0 l0){pk1 pn1 : Int} {w1 : Value} {pl1 : List Int} (hw1 : RdI M w1 pl1) (gn1 : -9223372036854775808 ≤ pn1 ∧ pn1 ≤ 9223372036854775807) (hr0 : (∀ x ∈ l0, -9223372036854775808 ≤ x ∧ x ≤ 9223372036854775807)) :
    Pu Try.prog (.func (.func 45) #[] #[]) M [v0, .agg #[.int .i64 pk1, .int .i64 pn1, w1]] (fun r M' => r = .bool ((l0).any (fun x => predAt pk1 pn1 pl1 x 0))) := by
  refine Pu_enter Try.func45 rfl Try.ntmps45 rfl Try.call45 ?_
  intro a w M1 H hM1 S E
  replace h0 := h0.le hM1
  replace hw1 := hw1.le hM1
  have b0 := h0.bound
  refine WP_seq ?_
  refine WP_region ?_
  refine S_x (X_box (cs := #[.int .i64 pk1, .int .i64 pn1, w1]) E S rfl rfl rfl ?_)
  clear E a S; rintro a w b_1 E S
  obtain ⟨M_2, hM_2, hb_1, S⟩ := S.freezeB
  replace h0 := h0.le hM_2
  replace hw1 := hw1.le hM_2
  refine S_v E rfl (R_assign E rfl) rfl ?_
  clear E a; intro a E
  refine WL_nil ?_
  refine T_n ?_
  refine WP_seq ?_
  refine WP_region ?_
  refine S_v E rfl (R_move E rfl) rfl ?_
  clear E a; intro a E
  refine S_v E rfl (R_loadGM E rfl (Try.isAgg44 _) (Try.sizeOf44 _) S.imm hb_1) rfl ?_
  clear E a; intro a E
  refine S_x (X_pu E S rfl rfl rfl (spec_CountBy h0 hw1 (by omega) (by assumption)) (Hp.le.refl _) ?_)
  clear E a S; rintro a _ w M_3 hM_3 rfl S E
  replace h0 := h0.le hM_3
  replace hw1 := hw1.le hM_3
  replace hb_1 := hM_3.2 _ _ hb_1
  refine S_v E rfl (R_gtr E rfl rfl) rfl ?_
  clear E a; intro a E
  refine S_v E rfl (R_assign E rfl) rfl ?_
  clear E a; intro a E
  refine WL_nil ?_
  refine T_n ?_
  refine WP_ret ?_
  exact F_ret1 E Try.results45 rfl ⟨_, rfl, M_3, (hM_2.trans hM_3), (congrArg Value.bool (by (first | exact beq_iff_eq.1 (law_any _ _) | exact (beq_iff_eq.1 (law_any _ _)).symm))), S⟩

set_option maxRecDepth 100000 in
set_option maxHeartbeats 4000000 in
theorem spec_NoneBy {M : Hp} {v0 : Value} {l0 : List Int} (h0 : RdI M v0 l0){pk1 pn1 : Int} {w1 : Value} {pl1 : List Int} (hw1 : RdI M w1 pl1) (gn1 : -9223372036854775808 ≤ pn1 ∧ pn1 ≤ 9223372036854775807) (hr0 : (∀ x ∈ l0, -9223372036854775808 ≤ x ∧ x ≤ 9223372036854775807)) :
    Pu Try.prog (.func (.func 46) #[] #[]) M [v0, .agg #[.int .i64 pk1, .int .i64 pn1, w1]] (fun r M' => r = .bool (!((l0).any (fun x => predAt pk1 pn1 pl1 x 0)))) := by
  refine Pu_enter Try.func46 rfl Try.ntmps46 rfl Try.call46 ?_
  intro a w M1 H hM1 S E
  replace h0 := h0.le hM1
  replace hw1 := hw1.le hM1
  have b0 := h0.bound
  refine WP_seq ?_
  refine WP_region ?_
  refine S_x (X_box (cs := #[.int .i64 pk1, .int .i64 pn1, w1]) E S rfl rfl rfl ?_)
  clear E a S; rintro a w b_1 E S
  obtain ⟨M_2, hM_2, hb_1, S⟩ := S.freezeB
  replace h0 := h0.le hM_2
  replace hw1 := hw1.le hM_2
  refine S_v E rfl (R_assign E rfl) rfl ?_
  clear E a; intro a E
  refine WL_nil ?_
  refine T_n ?_
  refine WP_seq ?_
  refine WP_region ?_
  refine S_v E rfl (R_move E rfl) rfl ?_
  clear E a; intro a E
  refine S_v E rfl (R_loadGM E rfl (Try.isAgg44 _) (Try.sizeOf44 _) S.imm hb_1) rfl ?_
  clear E a; intro a E
  refine S_x (X_pu E S rfl rfl rfl (spec_SomeBy h0 hw1 (by omega) (by assumption)) (Hp.le.refl _) ?_)
  clear E a S; rintro a _ w M_3 hM_3 rfl S E
  replace h0 := h0.le hM_3
  replace hw1 := hw1.le hM_3
  replace hb_1 := hM_3.2 _ _ hb_1
  refine S_v E rfl (R_not E rfl) rfl ?_
  clear E a; intro a E
  refine S_v E rfl (R_assign E rfl) rfl ?_
  clear E a; intro a E
  refine WL_nil ?_
  refine T_n ?_
  refine WP_ret ?_
  exact F_ret1 E Try.results46 rfl ⟨_, rfl, M_3, (hM_2.trans hM_3), rfl, S⟩

set_option maxRecDepth 100000 in
set_option maxHeartbeats 4000000 in
theorem lo_CountBy {M : Hp} {v0 : Value} {l0 : List Int} (h0 : RdI M v0 l0){v1 : Value} {f1 : Int → Bool} (h1 : PF1B Try.prog v1 M f1) :
    Pu Try.prog (.func (.func 165) #[] #[]) M [v0, v1] (fun r M' => r = .int .i64 (((l0).countP f1 : Nat) : Int)) := by
  refine Pu_enter Try.func165 rfl Try.ntmps165 rfl Try.call165 ?_
  intro a w M1 H hM1 S E
  replace h0 := h0.le hM1
  replace h1 := h1.le hM1
  have b0 := h0.bound
  refine WP_seq ?_
  refine WP_region ?_
  refine S_v E rfl (R_assign E rfl) rfl ?_
  clear E a; intro a E
  refine WL_nil ?_
  refine T_n ?_
  refine WP_seq ?_
  refine WP_region ?_
  refine S_v E rfl (R_assign E rfl) rfl ?_
  clear E a; intro a E
  refine WL_nil ?_
  refine T_n ?_
  refine WP_seq ?_
  refine WP_seq ?_
  refine WP_region ?_
  refine S_v E rfl (R_move E rfl) rfl ?_
  clear E a; intro a E
  refine S_v E rfl (R_lenV E rfl T22 h0.len) rfl ?_
  clear E a; intro a E
  refine S_v E rfl (R_move E rfl) rfl ?_
  clear E a; intro a E
  refine WL_nil ?_
  refine T_n ?_
  refine WP_block ?_
  refine WP_loop (γ := Nat) (fun (k : Nat) a w => ∃ (M_1 : Hp), Hp.le M1 M_1 ∧ St w M_1 (H) ∧ Env a 22 [] [(0, v0), (1, v1), (5, .int .i64 (((l0.take k).countP f1 : Nat) : Int)), (8, .int .i64 (((l0).length : Nat) : Int)), (9, .int .i64 ((k : Nat) : Int))] ∧ (k ≤ (l0).length)) (fun k => ((l0).length) - k) 0 ⟨M1, Hp.le.refl _, S, E.keep ⟨rfl, rfl, look_nat (i := 0) rfl (by ((try clear S); (try clear E); first | assumption | omega | rfl | (simp; done) | (simp_all; done) | (simp [List.take_add_one, *]; done) | grind [List.take_add_one])), rfl, rfl, trivial⟩, by ((try clear S); (try clear E); first | assumption | omega | rfl | (simp; done) | (simp_all; done) | (simp [List.take_add_one, *]; done) | grind [List.take_add_one])⟩ ?_
  try clear E
  try clear S
  try clear a
  try clear w
  rintro k a w ⟨M_1, hM_1, S, E, hL0_0⟩
  replace h0 := h0.le hM_1
  replace h1 := h1.le hM_1
  have hcp := List.countP_le_length (p := f1) (l := l0.take k); simp only [List.length_take] at hcp
  refine WP_seq ?_
  refine WP_region ?_
  refine S_v E rfl (R_lss E rfl rfl) rfl ?_
  clear E a; intro a E
  refine WL_nil ?_
  refine T_n ?_
  refine WP_seq ?_
  refine WP_cond E rfl (fun hc_2 => ?_) (fun hc_2 => ?_)
  · replace hc_2 := of_decide_eq_true hc_2
    refine WP_skip ?_
    refine T_n ?_
    refine WP_seq ?_
    refine WP_block ?_
    refine WP_seq ?_
    refine WP_region ?_
    refine S_v E rfl (R_move E rfl) rfl ?_
    clear E a; intro a E
    refine S_v E rfl (R_assign E rfl) rfl ?_
    clear E a; intro a E
    refine WL_nil ?_
    refine T_n ?_
    refine WP_seq ?_
    refine WP_region ?_
    refine S_v E rfl (R_move E rfl) rfl ?_
    clear E a; intro a E
    refine S_v E rfl (R_move E rfl) rfl ?_
    clear E a; intro a E
    refine S_v E rfl (R_move E rfl) rfl ?_
    clear E a; intro a E
    obtain ⟨x_3, hx_3⟩ : ∃ x, (l0)[k]? = some x := ⟨_, List.getElem?_eq_getElem (by first | omega | (simp; done) | (simp; omega) | (simp_all; omega))⟩
    obtain ⟨p_4, hp_4, qp_4⟩ := h0.at hx_3
    refine S_v E rfl (R_idx E rfl rfl T22 hp_4 rfl) rfl ?_
    clear E a; intro a E
    refine S_v E rfl (R_loadM E rfl Try.isAgg3 S.imm qp_4) rfl ?_
    clear E a; intro a E
    refine S_x (X_pu E S rfl rfl rfl (h1.2 x_3) (Hp.le.refl _) ?_)
    clear E a S; rintro a _ w M_5 hM_5 rfl S E
    replace h0 := h0.le hM_5
    replace h1 := h1.le hM_5
    refine WL_nil ?_
    refine T_n ?_
    refine WP_cond E rfl (fun hc_6 => ?_) (fun hc_6 => ?_)
    · refine WP_region ?_
      refine S_v E rfl (R_move E rfl) rfl ?_
      clear E a; intro a E
      refine S_v E rfl (R_addx (m := (((l0.take k).countP f1 + 1 : Nat) : Int)) E rfl rfl (by omega) (by omega)) rfl ?_
      clear E a; intro a E
      refine S_v E rfl (R_assign E rfl) rfl ?_
      clear E a; intro a E
      refine WL_nil ?_
      refine B_n ?_
      refine T_n ?_
      refine WP_region ?_
      refine S_v E rfl (R_addx (m := ((k + 1 : Nat) : Int)) E rfl rfl (by omega) (by omega)) rfl ?_
      clear E a; intro a E
      refine S_v E rfl (R_move E rfl) rfl ?_
      clear E a; intro a E
      refine WL_nil ?_
      refine T_n ?_
      exact ⟨k + 1, ⟨M_5, (hM_1.trans hM_5), S, E.keep ⟨rfl, rfl, look_nat (i := (l0.take k).countP f1 + 1) rfl (by (rw [countP_succ (by assumption)]; simp [*])), rfl, rfl, trivial⟩, by ((try clear S); (try clear E); first | assumption | omega | rfl | (simp; done) | (simp_all; done) | (simp [List.take_add_one, *]; done) | grind [List.take_add_one])⟩, by omega⟩
    · refine WP_skip ?_
      refine B_n ?_
      refine T_n ?_
      refine WP_region ?_
      refine S_v E rfl (R_addx (m := ((k + 1 : Nat) : Int)) E rfl rfl (by omega) (by omega)) rfl ?_
      clear E a; intro a E
      refine S_v E rfl (R_move E rfl) rfl ?_
      clear E a; intro a E
      refine WL_nil ?_
      refine T_n ?_
      exact ⟨k + 1, ⟨M_5, (hM_1.trans hM_5), S, E.keep ⟨rfl, rfl, look_nat (i := (l0.take k).countP f1) rfl (by (rw [countP_succ (by assumption)]; simp [*])), rfl, rfl, trivial⟩, by ((try clear S); (try clear E); first | assumption | omega | rfl | (simp; done) | (simp_all; done) | (simp [List.take_add_one, *]; done) | grind [List.take_add_one])⟩, by omega⟩
  · replace hc_2 := of_decide_eq_false hc_2
    refine WP_exit ?_
    refine T_x ?_
    refine T_x ?_
    refine B_x ?_
    refine T_n ?_
    refine WP_seq ?_
    refine WP_region ?_
    refine S_v E rfl (R_move E rfl) rfl ?_
    clear E a; intro a E
    refine S_v E rfl (R_assign E rfl) rfl ?_
    clear E a; intro a E
    refine WL_nil ?_
    refine T_n ?_
    refine WP_ret ?_
    exact F_ret1 E Try.results165 rfl ⟨_, rfl, M_1, hM_1, (congrArg (Value.int .i64) (by (rw [List.take_of_length_le (by omega)]))), S⟩

set_option maxRecDepth 100000 in
set_option maxHeartbeats 4000000 in
theorem impl_CountBy {M : Hp} {v0 : Value} {l0 : List Int} (h0 : RdI M v0 l0){pk1 pn1 : Int} {w1 : Value} {pl1 : List Int} (hw1 : RdI M w1 pl1) (gn1 : -9223372036854775808 ≤ pn1 ∧ pn1 ≤ 9223372036854775807) :
    Pu Try.prog (.func (.func 47) #[] #[]) M [v0, .agg #[.int .i64 pk1, .int .i64 pn1, w1]] (fun r M' => r = .int .i64 (((l0).countP (fun x => predAt pk1 pn1 pl1 x 0) : Nat) : Int)) := by
  refine Pu_enter Try.func47 rfl Try.ntmps47 rfl Try.call47 ?_
  intro a w M1 H hM1 S E
  replace h0 := h0.le hM1
  replace hw1 := hw1.le hM1
  have b0 := h0.bound
  refine WP_seq ?_
  refine WP_region ?_
  refine S_x (X_box (cs := #[.int .i64 pk1, .int .i64 pn1, w1]) E S rfl rfl rfl ?_)
  clear E a S; rintro a w b_1 E S
  obtain ⟨M_2, hM_2, hb_1, S⟩ := S.freezeB
  replace h0 := h0.le hM_2
  replace hw1 := hw1.le hM_2
  refine S_v E rfl (R_assign E rfl) rfl ?_
  clear E a; intro a E
  refine WL_nil ?_
  refine T_n ?_
  refine WP_seq ?_
  refine WP_region ?_
  refine S_v E rfl (R_move E rfl) rfl ?_
  clear E a; intro a E
  refine S_v E rfl (R_loadGM E rfl (Try.isAgg36 _) (Try.sizeOf36 _) S.imm hb_1) rfl ?_
  clear E a; intro a E
  refine S_v E rfl (R_makeFunc E rfl rfl) rfl ?_
  clear E a; intro a E
  refine S_x (X_pu E S rfl rfl rfl (lo_CountBy h0 ⟨rfl, fun zx1 => Pred_of (x1 := zx1) hw1 (by omega)⟩) (Hp.le.refl _) ?_)
  clear E a S; rintro a _ w M_3 hM_3 rfl S E
  replace h0 := h0.le hM_3
  replace hw1 := hw1.le hM_3
  replace hb_1 := hM_3.2 _ _ hb_1
  refine S_v E rfl (R_assign E rfl) rfl ?_
  clear E a; intro a E
  refine WL_nil ?_
  refine T_n ?_
  refine WP_ret ?_
  exact F_ret1 E Try.results47 rfl ⟨_, rfl, M_3, (hM_2.trans hM_3), rfl, S⟩

set_option maxRecDepth 100000 in
set_option maxHeartbeats 4000000 in
theorem it_CountBy {M : Hp} {v0 : Value} {l0 : List Int} (h0 : SeqV Try.prog v0 M (RInt) l0){v1 : Value} {f1 : Int → Bool} (h1 : PF1B Try.prog v1 M f1) (hb : l0.length ≤ 1000000000000) :
    Pu Try.prog (.func (.func 166) #[] #[]) M [v0, v1] (fun r M' => r = .int .i64 (((l0).countP f1 : Nat) : Int)) := by
  refine Pu_enter Try.func166 rfl Try.ntmps166 rfl Try.call166 ?_
  intro a w M1 H hM1 S E
  replace h0 := h0.le hM1
  replace h1 := h1.le hM1
  replace S : St w M1 (mks [] :: _) := S.empty
  replace E : Env a 15 (([] : List Nat).map mk) _ := E
  refine WP_seq ?_
  refine WP_region ?_
  refine S_x (X_box (cs := #[v1]) E S rfl rfl (cells_one h1.1) ?_)
  clear E a S; rintro a w b_1 E S
  obtain ⟨M_2, hM_2, hb_1, S⟩ := S.freezeB
  replace h0 := h0.le hM_2
  replace h1 := h1.le hM_2
  refine S_v E rfl (R_assign E rfl) rfl ?_
  clear E a; intro a E
  refine WL_nil ?_
  refine T_n ?_
  refine WP_seq ?_
  refine WP_region ?_
  refine S_x (X_alloc (cs := #[.int .i64 0]) E S rfl Try.zeroValue3 rfl ?_)
  clear E a S; rintro a w b_3 E S
  refine WL_nil ?_
  refine T_n ?_
  refine WP_seq ?_
  refine WP_seq ?_
  refine WP_region ?_
  refine S_v E rfl (R_move E rfl) rfl ?_
  clear E a; intro a E
  refine WL_nil ?_
  refine T_n ?_
  refine WP_block ?_
  replace E := E.keep (l' := [(3, .pointer (some ⟨b_1, 0, none⟩)), (5, .pointer (some ⟨b_3, 0, none⟩)), (7, v0)]) ⟨rfl, rfl, rfl, trivial⟩
  replace S := S.blk_int (j := ((([] : List Int)).countP f1 : Int)) (by (first | (simp; done) | (rw [List.countP_append]; simp [*]; done) | (rw [List.countP_append]; simp_all; done)))
  have S0 := S; clear S; have S := St.pack [blk b_3 (.cells #[.int .i64 ((([] : List Int)).countP f1 : Int)] 3)] S0; clear S0
  refine WP_range (RV := RInt) (l := l0) (fun pre M c => c = bigs [blk b_3 (.cells #[.int .i64 ((pre).countP f1 : Int)] 3)]) (fun _ _ _ _ => False) E S rfl h0 (Hp.le.refl _) (fun _ _ _ h => by rw [h]; rfl) (by decide) (by rintro _ M M' c hM rfl; exact rfl) rfl ?_ ?_ ?_
  clear E S
  · rintro lb_5 rec_6 pre x _ a w M_4 _ G hM_4 hp_7 rfl rfl E S
    replace E : Env a 15 [] [(8, .int .i64 x), (3, .pointer (some ⟨b_1, 0, none⟩)), (5, .pointer (some ⟨b_3, 0, none⟩)), (7, v0)] := E
    replace S := S.swap.unpack1
    have hq0 := prefix_lt hp_7
    replace h0 := h0.le hM_4
    replace h1 := h1.le hM_4
    replace hb_1 := hM_4.2 _ _ hb_1
    have hpl := hp_7.length_le; simp at hpl; have ck := List.countP_le_length (p := f1) (l := pre)
    refine WP_region ?_
    refine S_v E rfl (R_assign E rfl) rfl ?_
    clear E a; intro a E
    refine WL_nil ?_
    refine T_n ?_
    replace S := S.front1
    refine rb S ?_
    clear S; intro w S
    refine WP_block ?_
    refine WP_seq ?_
    refine WP_region ?_
    refine S_v E rfl (R_loadM E rfl Try.isAgg122 S.imm (cellM_box hb_1)) rfl ?_
    clear E a; intro a E
    refine S_v E rfl (R_move E rfl) rfl ?_
    clear E a; intro a E
    refine S_x (X_pu E S rfl rfl rfl (h1.2 x) (Hp.le.refl _) ?_)
    clear E a S; rintro a _ w M_9 hM_9 rfl S E
    replace h0 := h0.le hM_9
    replace h1 := h1.le hM_9
    replace hb_1 := hM_9.2 _ _ hb_1
    refine WL_nil ?_
    refine T_n ?_
    refine WP_cond E rfl (fun hc_10 => ?_) (fun hc_10 => ?_)
    · refine WP_region ?_
      refine S_v E rfl (R_load E rfl (Try.isAgg3 _) (cell_blk (S.mem (.tail _ (.head _))))) rfl ?_
      clear E a; intro a E
      refine S_v E rfl (R_addx (m := (((pre).countP f1 + 1 : Nat) : Int)) E rfl rfl (by omega) (by omega)) rfl ?_
      clear E a; intro a E
      replace S := S.front1
      refine S_x0 (X_store E S rfl rfl (Try.sizeOf3 _) rfl ?_)
      clear E a S; rintro a w E S
      refine WL_nil ?_
      refine B_n ?_
      replace S := S.blk_int (j := (((pre ++ [x])).countP f1 : Int)) (by (first | (simp; done) | (rw [List.countP_append]; simp [*]; done) | (rw [List.countP_append]; simp_all; done)))
      have S0 := S; clear S; have S := (St.pack [blk b_3 (.cells #[.int .i64 (((pre ++ [x])).countP f1 : Int)] 3)] S0).swap; clear S0
      exact ⟨M_9, _, hM_9, rfl, S⟩
    · refine WP_skip ?_
      refine B_n ?_
      replace S := S.front1
      replace S := S.blk_int (j := (((pre ++ [x])).countP f1 : Int)) (by (first | (simp; done) | (rw [List.countP_append]; simp [*]; done) | (rw [List.countP_append]; simp_all; done)))
      have S0 := S; clear S; have S := (St.pack [blk b_3 (.cells #[.int .i64 (((pre ++ [x])).countP f1 : Int)] 3)] S0).swap; clear S0
      exact ⟨M_9, _, hM_9, rfl, S⟩
  · rintro a w M_11 _ D_12 hM_11 rfl S E
    replace S := S.unpack1
    replace h0 := h0.le hM_11
    replace h1 := h1.le hM_11
    replace hb_1 := hM_11.2 _ _ hb_1
    refine B_n ?_
    refine T_n ?_
    refine WP_seq ?_
    refine WP_region ?_
    refine S_v E rfl (R_load E rfl (Try.isAgg3 _) (cell_blk (S.mem (.head _)))) rfl ?_
    clear E a; intro a E
    refine S_v E rfl (R_assign E rfl) rfl ?_
    clear E a; intro a E
    refine WL_nil ?_
    refine T_n ?_
    refine WP_ret ?_
    replace S := S.drop
    exact F_retM1 E S Try.results166 rfl (fun w S => ⟨_, rfl, M_11, (hM_2.trans hM_11), (congrArg (Value.int .i64) (by ((try clear S); (try clear E); first | assumption | omega | rfl | (simp; done) | (simp_all; done) | (simp [List.take_add_one, *]; done) | grind [List.take_add_one]))), S⟩)
  · rintro _ _ _ _ _ _ _ _ _ hX; exact hX.elim

set_option maxRecDepth 100000 in
set_option maxHeartbeats 4000000 in
theorem impl_CountBySeq {M : Hp} {v0 : Value} {l0 : List Int} (h0 : RdI M v0 l0){pk1 pn1 : Int} {w1 : Value} {pl1 : List Int} (hw1 : RdI M w1 pl1) (gn1 : -9223372036854775808 ≤ pn1 ∧ pn1 ≤ 9223372036854775807) (hb : l0.length ≤ 1000000000000) :
    Pu Try.prog (.func (.func 48) #[] #[]) M [v0, .agg #[.int .i64 pk1, .int .i64 pn1, w1]] (fun r M' => r = .int .i64 (((l0).countP (fun x => predAt pk1 pn1 pl1 x 0) : Nat) : Int)) := by
  refine Pu_enter Try.func48 rfl Try.ntmps48 rfl Try.call48 ?_
  intro a w M1 H hM1 S E
  replace h0 := h0.le hM1
  replace hw1 := hw1.le hM1
  have b0 := h0.bound
  refine WP_seq ?_
  refine WP_region ?_
  refine S_x (X_box (cs := #[.int .i64 pk1, .int .i64 pn1, w1]) E S rfl rfl rfl ?_)
  clear E a S; rintro a w b_1 E S
  obtain ⟨M_2, hM_2, hb_1, S⟩ := S.freezeB
  replace h0 := h0.le hM_2
  replace hw1 := hw1.le hM_2
  refine S_v E rfl (R_assign E rfl) rfl ?_
  clear E a; intro a E
  refine WL_nil ?_
  refine T_n ?_
  refine WP_seq ?_
  have hb_1k2 := hb_1
  replace S := S.mono_heap (w' := World.drew _) rfl
  refine WP_drawn (C := fun x w => agree M_2 w) (bf := (fun i => [])) [0, 2, 3, 5] [0, 2, 3, 1, 4, 5] Try.mixed (by kernel_rfl) (fun x hq => S.imm) ?_
  refine D_v E rfl rfl rfl (fun w hC => (R_move E rfl)) ?_
  clear E a; intro a E
  refine D_v E rfl rfl rfl (fun w hC => (R_loadGM E rfl (Try.isAgg36 _) (Try.sizeOf36 _) hC hb_1k2)) ?_
  clear E a; intro a E
  refine D_v E rfl rfl rfl (fun w hC => (R_makeFunc E rfl rfl)) ?_
  clear E a; intro a E
  refine D_x rfl rfl rfl (X_pu E S rfl rfl rfl (slices_Values h0) (Hp.le.refl _) ?_)
  clear E a S; rintro a v_4 w M_3 hM_3 hv_4 S E
  replace h0 := h0.le hM_3
  replace hw1 := hw1.le hM_3
  replace hb_1 := hM_3.2 _ _ hb_1
  refine ⟨fun x hq hb => (agree_le hM_3 S.imm), ?_⟩
  refine D_x rfl rfl rfl (X_pu E S rfl rfl rfl (it_CountBy hv_4 ⟨rfl, fun zx1 => Pred_of (x1 := zx1) hw1 (by omega)⟩ (by (first | omega | (simp; omega) | (simp; done) | (simp_all; omega) | grind))) (Hp.le.refl _) ?_)
  clear E a S; rintro a _ w M_5 hM_5 rfl S E
  replace h0 := h0.le hM_5
  replace hw1 := hw1.le hM_5
  replace hb_1 := hM_5.2 _ _ hb_1
  replace hv_4 := hv_4.le hM_5
  refine ⟨fun x hq hb => (agree_le (hM_3.trans hM_5) S.imm), ?_⟩
  refine D_v E rfl rfl rfl (fun w hC => (R_assign E rfl)) ?_
  clear E a; intro a E
  refine D_end (NoP_n ?_)
  refine T_n ?_
  refine WP_ret ?_
  exact F_ret1 E Try.results48 rfl ⟨_, rfl, M_5, (hM_2.trans (hM_3.trans hM_5)), rfl, S⟩

set_option maxRecDepth 100000 in
set_option maxHeartbeats 4000000 in
theorem lo_EveryBy {M : Hp} {v0 : Value} {l0 : List Int} (h0 : RdI M v0 l0){v1 : Value} {f1 : Int → Bool} (h1 : PF1B Try.prog v1 M f1) :
    Pu Try.prog (.func (.func 167) #[] #[]) M [v0, v1] (fun r M' => r = .bool ((l0).all f1)) := by
  refine Pu_enter Try.func167 rfl Try.ntmps167 rfl Try.call167 ?_
  intro a w M1 H hM1 S E
  replace h0 := h0.le hM1
  replace h1 := h1.le hM1
  have b0 := h0.bound
  refine WP_seq ?_
  refine WP_region ?_
  refine S_v E rfl (R_assign E rfl) rfl ?_
  clear E a; intro a E
  refine WL_nil ?_
  refine T_n ?_
  refine WP_seq ?_
  refine WP_seq ?_
  refine WP_region ?_
  refine S_v E rfl (R_move E rfl) rfl ?_
  clear E a; intro a E
  refine S_v E rfl (R_lenV E rfl T22 h0.len) rfl ?_
  clear E a; intro a E
  refine S_v E rfl (R_move E rfl) rfl ?_
  clear E a; intro a E
  refine WL_nil ?_
  refine T_n ?_
  refine WP_block ?_
  refine WP_loop (γ := Nat) (fun (k : Nat) a w => ∃ (M_1 : Hp), Hp.le M1 M_1 ∧ St w M_1 (H) ∧ Env a 19 [] [(0, v0), (1, v1), (7, .int .i64 (((l0).length : Nat) : Int)), (8, .int .i64 ((k : Nat) : Int))] ∧ (k ≤ (l0).length) ∧ (∀ x ∈ l0.take k, f1 x = true)) (fun k => ((l0).length) - k) 0 ⟨M1, Hp.le.refl _, S, E.keep ⟨rfl, rfl, rfl, rfl, trivial⟩, by ((try clear S); (try clear E); first | assumption | omega | rfl | (simp; done) | (simp_all; done) | (simp [List.take_add_one, *]; done) | grind [List.take_add_one]), (by simp)⟩ ?_
  try clear E
  try clear S
  try clear a
  try clear w
  rintro k a w ⟨M_1, hM_1, S, E, hL0_0, hL0_1⟩
  replace h0 := h0.le hM_1
  replace h1 := h1.le hM_1
  refine WP_seq ?_
  refine WP_region ?_
  refine S_v E rfl (R_lss E rfl rfl) rfl ?_
  clear E a; intro a E
  refine WL_nil ?_
  refine T_n ?_
  refine WP_seq ?_
  refine WP_cond E rfl (fun hc_2 => ?_) (fun hc_2 => ?_)
  · replace hc_2 := of_decide_eq_true hc_2
    refine WP_skip ?_
    refine T_n ?_
    refine WP_seq ?_
    refine WP_block ?_
    refine WP_seq ?_
    refine WP_region ?_
    refine S_v E rfl (R_move E rfl) rfl ?_
    clear E a; intro a E
    refine S_v E rfl (R_assign E rfl) rfl ?_
    clear E a; intro a E
    refine WL_nil ?_
    refine T_n ?_
    refine WP_seq ?_
    refine WP_region ?_
    refine S_v E rfl (R_move E rfl) rfl ?_
    clear E a; intro a E
    refine S_v E rfl (R_move E rfl) rfl ?_
    clear E a; intro a E
    refine S_v E rfl (R_move E rfl) rfl ?_
    clear E a; intro a E
    obtain ⟨x_3, hx_3⟩ : ∃ x, (l0)[k]? = some x := ⟨_, List.getElem?_eq_getElem (by first | omega | (simp; done) | (simp; omega) | (simp_all; omega))⟩
    obtain ⟨p_4, hp_4, qp_4⟩ := h0.at hx_3
    refine S_v E rfl (R_idx E rfl rfl T22 hp_4 rfl) rfl ?_
    clear E a; intro a E
    refine S_v E rfl (R_loadM E rfl Try.isAgg3 S.imm qp_4) rfl ?_
    clear E a; intro a E
    refine S_x (X_pu E S rfl rfl rfl (h1.2 x_3) (Hp.le.refl _) ?_)
    clear E a S; rintro a _ w M_5 hM_5 rfl S E
    replace h0 := h0.le hM_5
    replace h1 := h1.le hM_5
    refine S_v E rfl (R_not E rfl) rfl ?_
    clear E a; intro a E
    refine WL_nil ?_
    refine T_n ?_
    refine WP_cond E rfl (fun hc_6 => ?_) (fun hc_6 => ?_)
    · refine WP_seq ?_
      refine WP_region ?_
      refine S_v E rfl (R_assign E rfl) rfl ?_
      clear E a; intro a E
      refine WL_nil ?_
      refine T_n ?_
      refine WP_ret ?_
      refine B_r ?_
      refine T_r ?_
      refine T_r ?_
      refine B_r ?_
      refine T_r ?_
      exact F_ret1 E Try.results167 rfl ⟨_, rfl, M_5, (hM_1.trans hM_5), (congrArg Value.bool (by (first | (rw [ev_no (f := f1) (by assumption) (by simpa using (show (!f1 _) = true by assumption))]; done) | (rw [ev_yes (f := f1) hL0_1 (by omega)]; done)))), S⟩
    · refine WP_skip ?_
      refine B_n ?_
      refine T_n ?_
      refine WP_region ?_
      refine S_v E rfl (R_addx (m := ((k + 1 : Nat) : Int)) E rfl rfl (by omega) (by omega)) rfl ?_
      clear E a; intro a E
      refine S_v E rfl (R_move E rfl) rfl ?_
      clear E a; intro a E
      refine WL_nil ?_
      refine T_n ?_
      exact ⟨k + 1, ⟨M_5, (hM_1.trans hM_5), S, E.keep ⟨rfl, rfl, rfl, rfl, trivial⟩, by ((try clear S); (try clear E); first | assumption | omega | rfl | (simp; done) | (simp_all; done) | (simp [List.take_add_one, *]; done) | grind [List.take_add_one]), (by exact take_all (P := fun x => f1 x = true) hL0_1 (by assumption) (by simp_all))⟩, by omega⟩
  · replace hc_2 := of_decide_eq_false hc_2
    refine WP_exit ?_
    refine T_x ?_
    refine T_x ?_
    refine B_x ?_
    refine T_n ?_
    refine WP_seq ?_
    refine WP_region ?_
    refine S_v E rfl (R_assign E rfl) rfl ?_
    clear E a; intro a E
    refine WL_nil ?_
    refine T_n ?_
    refine WP_ret ?_
    exact F_ret1 E Try.results167 rfl ⟨_, rfl, M_1, hM_1, (congrArg Value.bool (by (first | (rw [ev_no (f := f1) (by assumption) (by simpa using (show (!f1 _) = true by assumption))]; done) | (rw [ev_yes (f := f1) hL0_1 (by omega)]; done)))), S⟩

set_option maxRecDepth 100000 in
set_option maxHeartbeats 4000000 in
theorem impl_EveryBy {M : Hp} {v0 : Value} {l0 : List Int} (h0 : RdI M v0 l0){pk1 pn1 : Int} {w1 : Value} {pl1 : List Int} (hw1 : RdI M w1 pl1) (gn1 : -9223372036854775808 ≤ pn1 ∧ pn1 ≤ 9223372036854775807) :
    Pu Try.prog (.func (.func 49) #[] #[]) M [v0, .agg #[.int .i64 pk1, .int .i64 pn1, w1]] (fun r M' => r = .bool ((l0).all (fun x => predAt pk1 pn1 pl1 x 0))) := by
  refine Pu_enter Try.func49 rfl Try.ntmps49 rfl Try.call49 ?_
  intro a w M1 H hM1 S E
  replace h0 := h0.le hM1
  replace hw1 := hw1.le hM1
  have b0 := h0.bound
  refine WP_seq ?_
  refine WP_region ?_
  refine S_x (X_box (cs := #[.int .i64 pk1, .int .i64 pn1, w1]) E S rfl rfl rfl ?_)
  clear E a S; rintro a w b_1 E S
  obtain ⟨M_2, hM_2, hb_1, S⟩ := S.freezeB
  replace h0 := h0.le hM_2
  replace hw1 := hw1.le hM_2
  refine S_v E rfl (R_assign E rfl) rfl ?_
  clear E a; intro a E
  refine WL_nil ?_
  refine T_n ?_
  refine WP_seq ?_
  refine WP_region ?_
  refine S_v E rfl (R_move E rfl) rfl ?_
  clear E a; intro a E
  refine S_v E rfl (R_loadGM E rfl (Try.isAgg36 _) (Try.sizeOf36 _) S.imm hb_1) rfl ?_
  clear E a; intro a E
  refine S_v E rfl (R_makeFunc E rfl rfl) rfl ?_
  clear E a; intro a E
  refine S_x (X_pu E S rfl rfl rfl (lo_EveryBy h0 ⟨rfl, fun zx1 => Pred_of (x1 := zx1) hw1 (by omega)⟩) (Hp.le.refl _) ?_)
  clear E a S; rintro a _ w M_3 hM_3 rfl S E
  replace h0 := h0.le hM_3
  replace hw1 := hw1.le hM_3
  replace hb_1 := hM_3.2 _ _ hb_1
  refine S_v E rfl (R_assign E rfl) rfl ?_
  clear E a; intro a E
  refine WL_nil ?_
  refine T_n ?_
  refine WP_ret ?_
  exact F_ret1 E Try.results49 rfl ⟨_, rfl, M_3, (hM_2.trans hM_3), rfl, S⟩

set_option maxRecDepth 100000 in
set_option maxHeartbeats 4000000 in
theorem lo_NoneBy {M : Hp} {v0 : Value} {l0 : List Int} (h0 : RdI M v0 l0){v1 : Value} {f1 : Int → Bool} (h1 : PF1B Try.prog v1 M f1) :
    Pu Try.prog (.func (.func 168) #[] #[]) M [v0, v1] (fun r M' => r = .bool (!((l0).any f1))) := by
  refine Pu_enter Try.func168 rfl Try.ntmps168 rfl Try.call168 ?_
  intro a w M1 H hM1 S E
  replace h0 := h0.le hM1
  replace h1 := h1.le hM1
  have b0 := h0.bound
  refine WP_seq ?_
  refine WP_region ?_
  refine S_v E rfl (R_assign E rfl) rfl ?_
  clear E a; intro a E
  refine WL_nil ?_
  refine T_n ?_
  refine WP_seq ?_
  refine WP_seq ?_
  refine WP_region ?_
  refine S_v E rfl (R_move E rfl) rfl ?_
  clear E a; intro a E
  refine S_v E rfl (R_lenV E rfl T22 h0.len) rfl ?_
  clear E a; intro a E
  refine S_v E rfl (R_move E rfl) rfl ?_
  clear E a; intro a E
  refine WL_nil ?_
  refine T_n ?_
  refine WP_block ?_
  refine WP_loop (γ := Nat) (fun (k : Nat) a w => ∃ (M_1 : Hp), Hp.le M1 M_1 ∧ St w M_1 (H) ∧ Env a 18 [] [(0, v0), (1, v1), (7, .int .i64 (((l0).length : Nat) : Int)), (8, .int .i64 ((k : Nat) : Int))] ∧ (k ≤ (l0).length) ∧ (∀ x ∈ l0.take k, (f1) x = false)) (fun k => ((l0).length) - k) 0 ⟨M1, Hp.le.refl _, S, E.keep ⟨rfl, rfl, rfl, rfl, trivial⟩, by ((try clear S); (try clear E); first | assumption | omega | rfl | (simp; done) | (simp_all; done) | (simp [List.take_add_one, *]; done) | grind [List.take_add_one]), (by simp)⟩ ?_
  try clear E
  try clear S
  try clear a
  try clear w
  rintro k a w ⟨M_1, hM_1, S, E, hL0_0, hL0_1⟩
  replace h0 := h0.le hM_1
  replace h1 := h1.le hM_1
  refine WP_seq ?_
  refine WP_region ?_
  refine S_v E rfl (R_lss E rfl rfl) rfl ?_
  clear E a; intro a E
  refine WL_nil ?_
  refine T_n ?_
  refine WP_seq ?_
  refine WP_cond E rfl (fun hc_2 => ?_) (fun hc_2 => ?_)
  · replace hc_2 := of_decide_eq_true hc_2
    refine WP_skip ?_
    refine T_n ?_
    refine WP_seq ?_
    refine WP_block ?_
    refine WP_seq ?_
    refine WP_region ?_
    refine S_v E rfl (R_move E rfl) rfl ?_
    clear E a; intro a E
    refine S_v E rfl (R_assign E rfl) rfl ?_
    clear E a; intro a E
    refine WL_nil ?_
    refine T_n ?_
    refine WP_seq ?_
    refine WP_region ?_
    refine S_v E rfl (R_move E rfl) rfl ?_
    clear E a; intro a E
    refine S_v E rfl (R_move E rfl) rfl ?_
    clear E a; intro a E
    refine S_v E rfl (R_move E rfl) rfl ?_
    clear E a; intro a E
    obtain ⟨x_3, hx_3⟩ : ∃ x, (l0)[k]? = some x := ⟨_, List.getElem?_eq_getElem (by first | omega | (simp; done) | (simp; omega) | (simp_all; omega))⟩
    obtain ⟨p_4, hp_4, qp_4⟩ := h0.at hx_3
    refine S_v E rfl (R_idx E rfl rfl T22 hp_4 rfl) rfl ?_
    clear E a; intro a E
    refine S_v E rfl (R_loadM E rfl Try.isAgg3 S.imm qp_4) rfl ?_
    clear E a; intro a E
    refine S_x (X_pu E S rfl rfl rfl (h1.2 x_3) (Hp.le.refl _) ?_)
    clear E a S; rintro a _ w M_5 hM_5 rfl S E
    replace h0 := h0.le hM_5
    replace h1 := h1.le hM_5
    refine WL_nil ?_
    refine T_n ?_
    refine WP_cond E rfl (fun hc_6 => ?_) (fun hc_6 => ?_)
    · refine WP_seq ?_
      refine WP_region ?_
      refine S_v E rfl (R_assign E rfl) rfl ?_
      clear E a; intro a E
      refine WL_nil ?_
      refine T_n ?_
      refine WP_ret ?_
      refine B_r ?_
      refine T_r ?_
      refine T_r ?_
      refine B_r ?_
      refine T_r ?_
      exact F_ret1 E Try.results168 rfl ⟨_, rfl, M_5, (hM_1.trans hM_5), (congrArg Value.bool (by (first | (rw [(fi_yes (f := f1) hL0_1 (by assumption) (by assumption)).2.2]; first | done | rfl) | (rw [(fi_no (f := f1) hL0_1 (by omega)).2.2]; first | done | rfl)))), S⟩
    · refine WP_skip ?_
      refine B_n ?_
      refine T_n ?_
      refine WP_region ?_
      refine S_v E rfl (R_addx (m := ((k + 1 : Nat) : Int)) E rfl rfl (by omega) (by omega)) rfl ?_
      clear E a; intro a E
      refine S_v E rfl (R_move E rfl) rfl ?_
      clear E a; intro a E
      refine WL_nil ?_
      refine T_n ?_
      exact ⟨k + 1, ⟨M_5, (hM_1.trans hM_5), S, E.keep ⟨rfl, rfl, rfl, rfl, trivial⟩, by ((try clear S); (try clear E); first | assumption | omega | rfl | (simp; done) | (simp_all; done) | (simp [List.take_add_one, *]; done) | grind [List.take_add_one]), (by exact take_all (P := fun x => (f1) x = false) hL0_1 (by assumption) (by first | assumption | (simpa using (by assumption))))⟩, by omega⟩
  · replace hc_2 := of_decide_eq_false hc_2
    refine WP_exit ?_
    refine T_x ?_
    refine T_x ?_
    refine B_x ?_
    refine T_n ?_
    refine WP_seq ?_
    refine WP_region ?_
    refine S_v E rfl (R_assign E rfl) rfl ?_
    clear E a; intro a E
    refine WL_nil ?_
    refine T_n ?_
    refine WP_ret ?_
    exact F_ret1 E Try.results168 rfl ⟨_, rfl, M_1, hM_1, (congrArg Value.bool (by (first | (rw [(fi_yes (f := f1) hL0_1 (by assumption) (by assumption)).2.2]; first | done | rfl) | (rw [(fi_no (f := f1) hL0_1 (by omega)).2.2]; first | done | rfl)))), S⟩

set_option maxRecDepth 100000 in
set_option maxHeartbeats 4000000 in
theorem impl_NoneBy {M : Hp} {v0 : Value} {l0 : List Int} (h0 : RdI M v0 l0){pk1 pn1 : Int} {w1 : Value} {pl1 : List Int} (hw1 : RdI M w1 pl1) (gn1 : -9223372036854775808 ≤ pn1 ∧ pn1 ≤ 9223372036854775807) :
    Pu Try.prog (.func (.func 50) #[] #[]) M [v0, .agg #[.int .i64 pk1, .int .i64 pn1, w1]] (fun r M' => r = .bool (!((l0).any (fun x => predAt pk1 pn1 pl1 x 0)))) := by
  refine Pu_enter Try.func50 rfl Try.ntmps50 rfl Try.call50 ?_
  intro a w M1 H hM1 S E
  replace h0 := h0.le hM1
  replace hw1 := hw1.le hM1
  have b0 := h0.bound
  refine WP_seq ?_
  refine WP_region ?_
  refine S_x (X_box (cs := #[.int .i64 pk1, .int .i64 pn1, w1]) E S rfl rfl rfl ?_)
  clear E a S; rintro a w b_1 E S
  obtain ⟨M_2, hM_2, hb_1, S⟩ := S.freezeB
  replace h0 := h0.le hM_2
  replace hw1 := hw1.le hM_2
  refine S_v E rfl (R_assign E rfl) rfl ?_
  clear E a; intro a E
  refine WL_nil ?_
  refine T_n ?_
  refine WP_seq ?_
  refine WP_region ?_
  refine S_v E rfl (R_move E rfl) rfl ?_
  clear E a; intro a E
  refine S_v E rfl (R_loadGM E rfl (Try.isAgg36 _) (Try.sizeOf36 _) S.imm hb_1) rfl ?_
  clear E a; intro a E
  refine S_v E rfl (R_makeFunc E rfl rfl) rfl ?_
  clear E a; intro a E
  refine S_x (X_pu E S rfl rfl rfl (lo_NoneBy h0 ⟨rfl, fun zx1 => Pred_of (x1 := zx1) hw1 (by omega)⟩) (Hp.le.refl _) ?_)
  clear E a S; rintro a _ w M_3 hM_3 rfl S E
  replace h0 := h0.le hM_3
  replace hw1 := hw1.le hM_3
  replace hb_1 := hM_3.2 _ _ hb_1
  refine S_v E rfl (R_assign E rfl) rfl ?_
  clear E a; intro a E
  refine WL_nil ?_
  refine T_n ?_
  refine WP_ret ?_
  exact F_ret1 E Try.results50 rfl ⟨_, rfl, M_3, (hM_2.trans hM_3), rfl, S⟩

set_option maxRecDepth 100000 in
set_option maxHeartbeats 4000000 in
theorem it_EveryBy {M : Hp} {v0 : Value} {l0 : List Int} (h0 : SeqV Try.prog v0 M (RInt) l0){v1 : Value} {f1 : Int → Bool} (h1 : PF1B Try.prog v1 M f1) :
    Pu Try.prog (.func (.func 169) #[] #[]) M [v0, v1] (fun r M' => r = .bool ((l0).all f1)) := by
  refine Pu_enter Try.func169 rfl Try.ntmps169 rfl Try.call169 ?_
  intro a w M1 H hM1 S E
  replace h0 := h0.le hM1
  replace h1 := h1.le hM1
  replace S : St w M1 (mks [] :: _) := S.empty
  replace E : Env a 12 (([] : List Nat).map mk) _ := E
  refine WP_seq ?_
  refine WP_region ?_
  refine S_x (X_box (cs := #[v1]) E S rfl rfl (cells_one h1.1) ?_)
  clear E a S; rintro a w b_1 E S
  obtain ⟨M_2, hM_2, hb_1, S⟩ := S.freezeB
  replace h0 := h0.le hM_2
  replace h1 := h1.le hM_2
  refine S_x (X_alloc (cs := #[.bool false]) E S rfl Try.zeroValue4 rfl ?_)
  clear E a S; rintro a w b_3 E S
  refine WL_nil ?_
  refine T_n ?_
  refine WP_seq ?_
  refine WP_seq ?_
  refine WP_region ?_
  refine S_v E rfl (R_move E rfl) rfl ?_
  clear E a; intro a E
  refine WL_nil ?_
  refine T_n ?_
  refine WP_block ?_
  replace E := E.keep (l' := [(3, .pointer (some ⟨b_1, 0, none⟩)), (4, .pointer (some ⟨b_3, 0, none⟩)), (6, v0)]) ⟨rfl, rfl, rfl, trivial⟩
  have S0 := S; clear S; have S := St.pack [blk b_3 (.cells #[.bool false] 4)] S0; clear S0
  refine WP_range (RV := RInt) (l := l0) (fun pre M c => c = bigs [blk b_3 (.cells #[.bool false] 4)] ∧ ((pre).all f1 = true)) (fun cd pre M c => (cd = .ret ∧ c = bigs [blk b_3 (.cells #[.bool false] 4)] ∧ (l0.all f1 = false))) E S rfl h0 (Hp.le.refl _) (fun _ _ _ h => by rw [h]; rfl) (by decide) (by rintro _ M M' c hM ⟨rfl, f0⟩; exact ⟨rfl, f0⟩) ⟨rfl, (by (rfl))⟩ ?_ ?_ ?_
  clear E S
  · rintro lb_5 rec_6 pre x _ a w M_4 _ G hM_4 hp_7 rfl ⟨rfl, f0⟩ E S
    replace E : Env a 12 [] [(7, .int .i64 x), (3, .pointer (some ⟨b_1, 0, none⟩)), (4, .pointer (some ⟨b_3, 0, none⟩)), (6, v0)] := E
    replace S := S.swap.unpack1
    have hq0 := prefix_lt hp_7
    replace h0 := h0.le hM_4
    replace h1 := h1.le hM_4
    replace hb_1 := hM_4.2 _ _ hb_1
    refine WP_region ?_
    refine S_v E rfl (R_assign E rfl) rfl ?_
    clear E a; intro a E
    refine WL_nil ?_
    refine T_n ?_
    replace S := S.front1
    refine rb S ?_
    clear S; intro w S
    refine WP_block ?_
    refine WP_seq ?_
    refine WP_region ?_
    refine S_v E rfl (R_loadM E rfl Try.isAgg122 S.imm (cellM_box hb_1)) rfl ?_
    clear E a; intro a E
    refine S_v E rfl (R_move E rfl) rfl ?_
    clear E a; intro a E
    refine S_x (X_pu E S rfl rfl rfl (h1.2 x) (Hp.le.refl _) ?_)
    clear E a S; rintro a _ w M_9 hM_9 rfl S E
    replace h0 := h0.le hM_9
    replace h1 := h1.le hM_9
    replace hb_1 := hM_9.2 _ _ hb_1
    refine S_v E rfl (R_not E rfl) rfl ?_
    clear E a; intro a E
    refine WL_nil ?_
    refine T_n ?_
    refine WP_cond E rfl (fun hc_10 => ?_) (fun hc_10 => ?_)
    · refine WP_seq ?_
      refine WP_region ?_
      replace S := S.front1
      refine S_x0 (X_store E S rfl rfl (Try.sizeOf4 _) rfl ?_)
      clear E a S; rintro a w E S
      refine WL_nil ?_
      refine T_n ?_
      refine WP_ret ?_
      refine B_r ?_
      have S0 := S; clear S; have S := (St.pack [blk b_3 (.cells #[.bool false] 4)] S0).swap; clear S0
      exact ⟨M_9, _, hM_9, ⟨rfl, rfl, (by (exact all_pref (by assumption) (by simpa using (show (!f1 x) = true by assumption))))⟩, S⟩
    · refine WP_skip ?_
      refine B_n ?_
      replace S := S.front1
      have S0 := S; clear S; have S := (St.pack [blk b_3 (.cells #[.bool false] 4)] S0).swap; clear S0
      exact ⟨M_9, _, hM_9, ⟨rfl, (by (rw [List.all_append]; simp_all))⟩, S⟩
  · rintro a w M_11 _ D_12 hM_11 ⟨rfl, f0⟩ S E
    replace S := S.unpack1
    replace h0 := h0.le hM_11
    replace h1 := h1.le hM_11
    replace hb_1 := hM_11.2 _ _ hb_1
    refine B_n ?_
    refine T_n ?_
    refine WP_seq ?_
    refine WP_region ?_
    refine S_x0 (X_store E S rfl rfl (Try.sizeOf4 _) rfl ?_)
    clear E a S; rintro a w E S
    refine WL_nil ?_
    refine T_n ?_
    refine WP_ret ?_
    replace S := S.front1
    exact F_retC1 E S Try.results169 rfl (fun w => Try.isAgg4 w) (fun w S => ⟨_, rfl, M_11, (hM_2.trans hM_11), (congrArg Value.bool (by (first | assumption | (symm; assumption)))), S.drop⟩)
  · rintro a w M_13 _ D_14 p_15 _ hM_13 hp_16 (⟨rfl, rfl, f0⟩) S E
    replace S := S.unpack1
    replace h0 := h0.le hM_13
    replace h1 := h1.le hM_13
    replace hb_1 := hM_13.2 _ _ hb_1
    refine WP_ret ?_
    refine B_r ?_
    refine T_r ?_
    replace S := S.front1
    exact F_retC1 E S Try.results169 rfl (fun w => Try.isAgg4 w) (fun w S => ⟨_, rfl, M_13, (hM_2.trans hM_13), (congrArg Value.bool (by (first | assumption | (symm; assumption)))), S.drop⟩)

set_option maxRecDepth 100000 in
set_option maxHeartbeats 4000000 in
theorem impl_EveryBySeq {M : Hp} {v0 : Value} {l0 : List Int} (h0 : RdI M v0 l0){pk1 pn1 : Int} {w1 : Value} {pl1 : List Int} (hw1 : RdI M w1 pl1) (gn1 : -9223372036854775808 ≤ pn1 ∧ pn1 ≤ 9223372036854775807) :
    Pu Try.prog (.func (.func 51) #[] #[]) M [v0, .agg #[.int .i64 pk1, .int .i64 pn1, w1]] (fun r M' => r = .bool ((l0).all (fun x => predAt pk1 pn1 pl1 x 0))) := by
  refine Pu_enter Try.func51 rfl Try.ntmps51 rfl Try.call51 ?_
  intro a w M1 H hM1 S E
  replace h0 := h0.le hM1
  replace hw1 := hw1.le hM1
  have b0 := h0.bound
  refine WP_seq ?_
  refine WP_region ?_
  refine S_x (X_box (cs := #[.int .i64 pk1, .int .i64 pn1, w1]) E S rfl rfl rfl ?_)
  clear E a S; rintro a w b_1 E S
  obtain ⟨M_2, hM_2, hb_1, S⟩ := S.freezeB
  replace h0 := h0.le hM_2
  replace hw1 := hw1.le hM_2
  refine S_v E rfl (R_assign E rfl) rfl ?_
  clear E a; intro a E
  refine WL_nil ?_
  refine T_n ?_
  refine WP_seq ?_
  have hb_1k2 := hb_1
  replace S := S.mono_heap (w' := World.drew _) rfl
  refine WP_drawn (C := fun x w => agree M_2 w) (bf := (fun i => [])) [0, 2, 3, 5] [0, 2, 3, 1, 4, 5] Try.mixed (by kernel_rfl) (fun x hq => S.imm) ?_
  refine D_v E rfl rfl rfl (fun w hC => (R_move E rfl)) ?_
  clear E a; intro a E
  refine D_v E rfl rfl rfl (fun w hC => (R_loadGM E rfl (Try.isAgg36 _) (Try.sizeOf36 _) hC hb_1k2)) ?_
  clear E a; intro a E
  refine D_v E rfl rfl rfl (fun w hC => (R_makeFunc E rfl rfl)) ?_
  clear E a; intro a E
  refine D_x rfl rfl rfl (X_pu E S rfl rfl rfl (slices_Values h0) (Hp.le.refl _) ?_)
  clear E a S; rintro a v_4 w M_3 hM_3 hv_4 S E
  replace h0 := h0.le hM_3
  replace hw1 := hw1.le hM_3
  replace hb_1 := hM_3.2 _ _ hb_1
  refine ⟨fun x hq hb => (agree_le hM_3 S.imm), ?_⟩
  refine D_x rfl rfl rfl (X_pu E S rfl rfl rfl (it_EveryBy hv_4 ⟨rfl, fun zx1 => Pred_of (x1 := zx1) hw1 (by omega)⟩) (Hp.le.refl _) ?_)
  clear E a S; rintro a _ w M_5 hM_5 rfl S E
  replace h0 := h0.le hM_5
  replace hw1 := hw1.le hM_5
  replace hb_1 := hM_5.2 _ _ hb_1
  replace hv_4 := hv_4.le hM_5
  refine ⟨fun x hq hb => (agree_le (hM_3.trans hM_5) S.imm), ?_⟩
  refine D_v E rfl rfl rfl (fun w hC => (R_assign E rfl)) ?_
  clear E a; intro a E
  refine D_end (NoP_n ?_)
  refine T_n ?_
  refine WP_ret ?_
  exact F_ret1 E Try.results51 rfl ⟨_, rfl, M_5, (hM_2.trans (hM_3.trans hM_5)), rfl, S⟩

set_option maxRecDepth 100000 in
set_option maxHeartbeats 4000000 in
theorem it_SomeBy {M : Hp} {v0 : Value} {l0 : List Int} (h0 : SeqV Try.prog v0 M (RInt) l0){v1 : Value} {f1 : Int → Bool} (h1 : PF1B Try.prog v1 M f1) :
    Pu Try.prog (.func (.func 170) #[] #[]) M [v0, v1] (fun r M' => r = .bool ((l0).any f1)) := by
  refine Pu_enter Try.func170 rfl Try.ntmps170 rfl Try.call170 ?_
  intro a w M1 H hM1 S E
  replace h0 := h0.le hM1
  replace h1 := h1.le hM1
  replace S : St w M1 (mks [] :: _) := S.empty
  replace E : Env a 11 (([] : List Nat).map mk) _ := E
  refine WP_seq ?_
  refine WP_region ?_
  refine S_x (X_box (cs := #[v1]) E S rfl rfl (cells_one h1.1) ?_)
  clear E a S; rintro a w b_1 E S
  obtain ⟨M_2, hM_2, hb_1, S⟩ := S.freezeB
  replace h0 := h0.le hM_2
  replace h1 := h1.le hM_2
  refine S_x (X_alloc (cs := #[.bool false]) E S rfl Try.zeroValue4 rfl ?_)
  clear E a S; rintro a w b_3 E S
  refine WL_nil ?_
  refine T_n ?_
  refine WP_seq ?_
  refine WP_seq ?_
  refine WP_region ?_
  refine S_v E rfl (R_move E rfl) rfl ?_
  clear E a; intro a E
  refine WL_nil ?_
  refine T_n ?_
  refine WP_block ?_
  replace E := E.keep (l' := [(3, .pointer (some ⟨b_1, 0, none⟩)), (4, .pointer (some ⟨b_3, 0, none⟩)), (6, v0)]) ⟨rfl, rfl, rfl, trivial⟩
  have S0 := S; clear S; have S := St.pack [blk b_3 (.cells #[.bool false] 4)] S0; clear S0
  refine WP_range (RV := RInt) (l := l0) (fun pre M c => c = bigs [blk b_3 (.cells #[.bool false] 4)] ∧ ((pre).any f1 = false)) (fun cd pre M c => (cd = .ret ∧ c = bigs [blk b_3 (.cells #[.bool true] 4)] ∧ (l0.any f1 = true))) E S rfl h0 (Hp.le.refl _) (fun _ _ _ h => by rw [h]; rfl) (by decide) (by rintro _ M M' c hM ⟨rfl, f0⟩; exact ⟨rfl, f0⟩) ⟨rfl, (by (rfl))⟩ ?_ ?_ ?_
  clear E S
  · rintro lb_5 rec_6 pre x _ a w M_4 _ G hM_4 hp_7 rfl ⟨rfl, f0⟩ E S
    replace E : Env a 11 [] [(7, .int .i64 x), (3, .pointer (some ⟨b_1, 0, none⟩)), (4, .pointer (some ⟨b_3, 0, none⟩)), (6, v0)] := E
    replace S := S.swap.unpack1
    have hq0 := prefix_lt hp_7
    replace h0 := h0.le hM_4
    replace h1 := h1.le hM_4
    replace hb_1 := hM_4.2 _ _ hb_1
    refine WP_region ?_
    refine S_v E rfl (R_assign E rfl) rfl ?_
    clear E a; intro a E
    refine WL_nil ?_
    refine T_n ?_
    replace S := S.front1
    refine rb S ?_
    clear S; intro w S
    refine WP_block ?_
    refine WP_seq ?_
    refine WP_region ?_
    refine S_v E rfl (R_loadM E rfl Try.isAgg122 S.imm (cellM_box hb_1)) rfl ?_
    clear E a; intro a E
    refine S_v E rfl (R_move E rfl) rfl ?_
    clear E a; intro a E
    refine S_x (X_pu E S rfl rfl rfl (h1.2 x) (Hp.le.refl _) ?_)
    clear E a S; rintro a _ w M_9 hM_9 rfl S E
    replace h0 := h0.le hM_9
    replace h1 := h1.le hM_9
    replace hb_1 := hM_9.2 _ _ hb_1
    refine WL_nil ?_
    refine T_n ?_
    refine WP_cond E rfl (fun hc_10 => ?_) (fun hc_10 => ?_)
    · refine WP_seq ?_
      refine WP_region ?_
      replace S := S.front1
      refine S_x0 (X_store E S rfl rfl (Try.sizeOf4 _) rfl ?_)
      clear E a S; rintro a w E S
      refine WL_nil ?_
      refine T_n ?_
      refine WP_ret ?_
      refine B_r ?_
      have S0 := S; clear S; have S := (St.pack [blk b_3 (.cells #[.bool true] 4)] S0).swap; clear S0
      exact ⟨M_9, _, hM_9, ⟨rfl, rfl, (by (exact any_pref (by assumption) (by assumption)))⟩, S⟩
    · refine WP_skip ?_
      refine B_n ?_
      replace S := S.front1
      have S0 := S; clear S; have S := (St.pack [blk b_3 (.cells #[.bool false] 4)] S0).swap; clear S0
      exact ⟨M_9, _, hM_9, ⟨rfl, (by (rw [List.any_append]; simp_all))⟩, S⟩
  · rintro a w M_11 _ D_12 hM_11 ⟨rfl, f0⟩ S E
    replace S := S.unpack1
    replace h0 := h0.le hM_11
    replace h1 := h1.le hM_11
    replace hb_1 := hM_11.2 _ _ hb_1
    refine B_n ?_
    refine T_n ?_
    refine WP_seq ?_
    refine WP_region ?_
    refine S_x0 (X_store E S rfl rfl (Try.sizeOf4 _) rfl ?_)
    clear E a S; rintro a w E S
    refine WL_nil ?_
    refine T_n ?_
    refine WP_ret ?_
    replace S := S.front1
    exact F_retC1 E S Try.results170 rfl (fun w => Try.isAgg4 w) (fun w S => ⟨_, rfl, M_11, (hM_2.trans hM_11), (congrArg Value.bool (by (simp_all))), S.drop⟩)
  · rintro a w M_13 _ D_14 p_15 _ hM_13 hp_16 (⟨rfl, rfl, f0⟩) S E
    replace S := S.unpack1
    replace h0 := h0.le hM_13
    replace h1 := h1.le hM_13
    replace hb_1 := hM_13.2 _ _ hb_1
    refine WP_ret ?_
    refine B_r ?_
    refine T_r ?_
    replace S := S.front1
    exact F_retC1 E S Try.results170 rfl (fun w => Try.isAgg4 w) (fun w S => ⟨_, rfl, M_13, (hM_2.trans hM_13), (congrArg Value.bool (by (simp_all))), S.drop⟩)

set_option maxRecDepth 100000 in
set_option maxHeartbeats 4000000 in
theorem impl_SomeBySeq {M : Hp} {v0 : Value} {l0 : List Int} (h0 : RdI M v0 l0){pk1 pn1 : Int} {w1 : Value} {pl1 : List Int} (hw1 : RdI M w1 pl1) (gn1 : -9223372036854775808 ≤ pn1 ∧ pn1 ≤ 9223372036854775807) :
    Pu Try.prog (.func (.func 52) #[] #[]) M [v0, .agg #[.int .i64 pk1, .int .i64 pn1, w1]] (fun r M' => r = .bool ((l0).any (fun x => predAt pk1 pn1 pl1 x 0))) := by
  refine Pu_enter Try.func52 rfl Try.ntmps52 rfl Try.call52 ?_
  intro a w M1 H hM1 S E
  replace h0 := h0.le hM1
  replace hw1 := hw1.le hM1
  have b0 := h0.bound
  refine WP_seq ?_
  refine WP_region ?_
  refine S_x (X_box (cs := #[.int .i64 pk1, .int .i64 pn1, w1]) E S rfl rfl rfl ?_)
  clear E a S; rintro a w b_1 E S
  obtain ⟨M_2, hM_2, hb_1, S⟩ := S.freezeB
  replace h0 := h0.le hM_2
  replace hw1 := hw1.le hM_2
  refine S_v E rfl (R_assign E rfl) rfl ?_
  clear E a; intro a E
  refine WL_nil ?_
  refine T_n ?_
  refine WP_seq ?_
  have hb_1k2 := hb_1
  replace S := S.mono_heap (w' := World.drew _) rfl
  refine WP_drawn (C := fun x w => agree M_2 w) (bf := (fun i => [])) [0, 2, 3, 5] [0, 2, 3, 1, 4, 5] Try.mixed (by kernel_rfl) (fun x hq => S.imm) ?_
  refine D_v E rfl rfl rfl (fun w hC => (R_move E rfl)) ?_
  clear E a; intro a E
  refine D_v E rfl rfl rfl (fun w hC => (R_loadGM E rfl (Try.isAgg36 _) (Try.sizeOf36 _) hC hb_1k2)) ?_
  clear E a; intro a E
  refine D_v E rfl rfl rfl (fun w hC => (R_makeFunc E rfl rfl)) ?_
  clear E a; intro a E
  refine D_x rfl rfl rfl (X_pu E S rfl rfl rfl (slices_Values h0) (Hp.le.refl _) ?_)
  clear E a S; rintro a v_4 w M_3 hM_3 hv_4 S E
  replace h0 := h0.le hM_3
  replace hw1 := hw1.le hM_3
  replace hb_1 := hM_3.2 _ _ hb_1
  refine ⟨fun x hq hb => (agree_le hM_3 S.imm), ?_⟩
  refine D_x rfl rfl rfl (X_pu E S rfl rfl rfl (it_SomeBy hv_4 ⟨rfl, fun zx1 => Pred_of (x1 := zx1) hw1 (by omega)⟩) (Hp.le.refl _) ?_)
  clear E a S; rintro a _ w M_5 hM_5 rfl S E
  replace h0 := h0.le hM_5
  replace hw1 := hw1.le hM_5
  replace hb_1 := hM_5.2 _ _ hb_1
  replace hv_4 := hv_4.le hM_5
  refine ⟨fun x hq hb => (agree_le (hM_3.trans hM_5) S.imm), ?_⟩
  refine D_v E rfl rfl rfl (fun w hC => (R_assign E rfl)) ?_
  clear E a; intro a E
  refine D_end (NoP_n ?_)
  refine T_n ?_
  refine WP_ret ?_
  exact F_ret1 E Try.results52 rfl ⟨_, rfl, M_5, (hM_2.trans (hM_3.trans hM_5)), rfl, S⟩

set_option maxRecDepth 100000 in
set_option maxHeartbeats 4000000 in
theorem it_NoneBy {M : Hp} {v0 : Value} {l0 : List Int} (h0 : SeqV Try.prog v0 M (RInt) l0){v1 : Value} {f1 : Int → Bool} (h1 : PF1B Try.prog v1 M f1) :
    Pu Try.prog (.func (.func 171) #[] #[]) M [v0, v1] (fun r M' => r = .bool (!((l0).any f1))) := by
  refine Pu_enter Try.func171 rfl Try.ntmps171 rfl Try.call171 ?_
  intro a w M1 H hM1 S E
  replace h0 := h0.le hM1
  replace h1 := h1.le hM1
  replace S : St w M1 (mks [] :: _) := S.empty
  replace E : Env a 11 (([] : List Nat).map mk) _ := E
  refine WP_seq ?_
  refine WP_region ?_
  refine S_x (X_box (cs := #[v1]) E S rfl rfl (cells_one h1.1) ?_)
  clear E a S; rintro a w b_1 E S
  obtain ⟨M_2, hM_2, hb_1, S⟩ := S.freezeB
  replace h0 := h0.le hM_2
  replace h1 := h1.le hM_2
  refine S_x (X_alloc (cs := #[.bool false]) E S rfl Try.zeroValue4 rfl ?_)
  clear E a S; rintro a w b_3 E S
  refine WL_nil ?_
  refine T_n ?_
  refine WP_seq ?_
  refine WP_seq ?_
  refine WP_region ?_
  refine S_v E rfl (R_move E rfl) rfl ?_
  clear E a; intro a E
  refine WL_nil ?_
  refine T_n ?_
  refine WP_block ?_
  replace E := E.keep (l' := [(3, .pointer (some ⟨b_1, 0, none⟩)), (4, .pointer (some ⟨b_3, 0, none⟩)), (6, v0)]) ⟨rfl, rfl, rfl, trivial⟩
  have S0 := S; clear S; have S := St.pack [blk b_3 (.cells #[.bool false] 4)] S0; clear S0
  refine WP_range (RV := RInt) (l := l0) (fun pre M c => c = bigs [blk b_3 (.cells #[.bool false] 4)] ∧ ((pre).any f1 = false)) (fun cd pre M c => (cd = .ret ∧ c = bigs [blk b_3 (.cells #[.bool false] 4)] ∧ (l0.any f1 = true))) E S rfl h0 (Hp.le.refl _) (fun _ _ _ h => by rw [h]; rfl) (by decide) (by rintro _ M M' c hM ⟨rfl, f0⟩; exact ⟨rfl, f0⟩) ⟨rfl, (by (rfl))⟩ ?_ ?_ ?_
  clear E S
  · rintro lb_5 rec_6 pre x _ a w M_4 _ G hM_4 hp_7 rfl ⟨rfl, f0⟩ E S
    replace E : Env a 11 [] [(7, .int .i64 x), (3, .pointer (some ⟨b_1, 0, none⟩)), (4, .pointer (some ⟨b_3, 0, none⟩)), (6, v0)] := E
    replace S := S.swap.unpack1
    have hq0 := prefix_lt hp_7
    replace h0 := h0.le hM_4
    replace h1 := h1.le hM_4
    replace hb_1 := hM_4.2 _ _ hb_1
    refine WP_region ?_
    refine S_v E rfl (R_assign E rfl) rfl ?_
    clear E a; intro a E
    refine WL_nil ?_
    refine T_n ?_
    replace S := S.front1
    refine rb S ?_
    clear S; intro w S
    refine WP_block ?_
    refine WP_seq ?_
    refine WP_region ?_
    refine S_v E rfl (R_loadM E rfl Try.isAgg122 S.imm (cellM_box hb_1)) rfl ?_
    clear E a; intro a E
    refine S_v E rfl (R_move E rfl) rfl ?_
    clear E a; intro a E
    refine S_x (X_pu E S rfl rfl rfl (h1.2 x) (Hp.le.refl _) ?_)
    clear E a S; rintro a _ w M_9 hM_9 rfl S E
    replace h0 := h0.le hM_9
    replace h1 := h1.le hM_9
    replace hb_1 := hM_9.2 _ _ hb_1
    refine WL_nil ?_
    refine T_n ?_
    refine WP_cond E rfl (fun hc_10 => ?_) (fun hc_10 => ?_)
    · refine WP_seq ?_
      refine WP_region ?_
      replace S := S.front1
      refine S_x0 (X_store E S rfl rfl (Try.sizeOf4 _) rfl ?_)
      clear E a S; rintro a w E S
      refine WL_nil ?_
      refine T_n ?_
      refine WP_ret ?_
      refine B_r ?_
      have S0 := S; clear S; have S := (St.pack [blk b_3 (.cells #[.bool false] 4)] S0).swap; clear S0
      exact ⟨M_9, _, hM_9, ⟨rfl, rfl, (by (exact any_pref (by assumption) (by assumption)))⟩, S⟩
    · refine WP_skip ?_
      refine B_n ?_
      replace S := S.front1
      have S0 := S; clear S; have S := (St.pack [blk b_3 (.cells #[.bool false] 4)] S0).swap; clear S0
      exact ⟨M_9, _, hM_9, ⟨rfl, (by (rw [List.any_append]; simp_all))⟩, S⟩
  · rintro a w M_11 _ D_12 hM_11 ⟨rfl, f0⟩ S E
    replace S := S.unpack1
    replace h0 := h0.le hM_11
    replace h1 := h1.le hM_11
    replace hb_1 := hM_11.2 _ _ hb_1
    refine B_n ?_
    refine T_n ?_
    refine WP_seq ?_
    refine WP_region ?_
    refine S_x0 (X_store E S rfl rfl (Try.sizeOf4 _) rfl ?_)
    clear E a S; rintro a w E S
    refine WL_nil ?_
    refine T_n ?_
    refine WP_ret ?_
    replace S := S.front1
    exact F_retC1 E S Try.results171 rfl (fun w => Try.isAgg4 w) (fun w S => ⟨_, rfl, M_11, (hM_2.trans hM_11), (congrArg Value.bool (by (simp_all))), S.drop⟩)
  · rintro a w M_13 _ D_14 p_15 _ hM_13 hp_16 (⟨rfl, rfl, f0⟩) S E
    replace S := S.unpack1
    replace h0 := h0.le hM_13
    replace h1 := h1.le hM_13
    replace hb_1 := hM_13.2 _ _ hb_1
    refine WP_ret ?_
    refine B_r ?_
    refine T_r ?_
    replace S := S.front1
    exact F_retC1 E S Try.results171 rfl (fun w => Try.isAgg4 w) (fun w S => ⟨_, rfl, M_13, (hM_2.trans hM_13), (congrArg Value.bool (by (simp_all))), S.drop⟩)

set_option maxRecDepth 100000 in
set_option maxHeartbeats 4000000 in
theorem impl_NoneBySeq {M : Hp} {v0 : Value} {l0 : List Int} (h0 : RdI M v0 l0){pk1 pn1 : Int} {w1 : Value} {pl1 : List Int} (hw1 : RdI M w1 pl1) (gn1 : -9223372036854775808 ≤ pn1 ∧ pn1 ≤ 9223372036854775807) :
    Pu Try.prog (.func (.func 53) #[] #[]) M [v0, .agg #[.int .i64 pk1, .int .i64 pn1, w1]] (fun r M' => r = .bool (!((l0).any (fun x => predAt pk1 pn1 pl1 x 0)))) := by
  refine Pu_enter Try.func53 rfl Try.ntmps53 rfl Try.call53 ?_
  intro a w M1 H hM1 S E
  replace h0 := h0.le hM1
  replace hw1 := hw1.le hM1
  have b0 := h0.bound
  refine WP_seq ?_
  refine WP_region ?_
  refine S_x (X_box (cs := #[.int .i64 pk1, .int .i64 pn1, w1]) E S rfl rfl rfl ?_)
  clear E a S; rintro a w b_1 E S
  obtain ⟨M_2, hM_2, hb_1, S⟩ := S.freezeB
  replace h0 := h0.le hM_2
  replace hw1 := hw1.le hM_2
  refine S_v E rfl (R_assign E rfl) rfl ?_
  clear E a; intro a E
  refine WL_nil ?_
  refine T_n ?_
  refine WP_seq ?_
  have hb_1k2 := hb_1
  replace S := S.mono_heap (w' := World.drew _) rfl
  refine WP_drawn (C := fun x w => agree M_2 w) (bf := (fun i => [])) [0, 2, 3, 5] [0, 2, 3, 1, 4, 5] Try.mixed (by kernel_rfl) (fun x hq => S.imm) ?_
  refine D_v E rfl rfl rfl (fun w hC => (R_move E rfl)) ?_
  clear E a; intro a E
  refine D_v E rfl rfl rfl (fun w hC => (R_loadGM E rfl (Try.isAgg36 _) (Try.sizeOf36 _) hC hb_1k2)) ?_
  clear E a; intro a E
  refine D_v E rfl rfl rfl (fun w hC => (R_makeFunc E rfl rfl)) ?_
  clear E a; intro a E
  refine D_x rfl rfl rfl (X_pu E S rfl rfl rfl (slices_Values h0) (Hp.le.refl _) ?_)
  clear E a S; rintro a v_4 w M_3 hM_3 hv_4 S E
  replace h0 := h0.le hM_3
  replace hw1 := hw1.le hM_3
  replace hb_1 := hM_3.2 _ _ hb_1
  refine ⟨fun x hq hb => (agree_le hM_3 S.imm), ?_⟩
  refine D_x rfl rfl rfl (X_pu E S rfl rfl rfl (it_NoneBy hv_4 ⟨rfl, fun zx1 => Pred_of (x1 := zx1) hw1 (by omega)⟩) (Hp.le.refl _) ?_)
  clear E a S; rintro a _ w M_5 hM_5 rfl S E
  replace h0 := h0.le hM_5
  replace hw1 := hw1.le hM_5
  replace hb_1 := hM_5.2 _ _ hb_1
  replace hv_4 := hv_4.le hM_5
  refine ⟨fun x hq hb => (agree_le (hM_3.trans hM_5) S.imm), ?_⟩
  refine D_v E rfl rfl rfl (fun w hC => (R_assign E rfl)) ?_
  clear E a; intro a E
  refine D_end (NoP_n ?_)
  refine T_n ?_
  refine WP_ret ?_
  exact F_ret1 E Try.results53 rfl ⟨_, rfl, M_5, (hM_2.trans (hM_3.trans hM_5)), rfl, S⟩

set_option maxRecDepth 100000 in
set_option maxHeartbeats 4000000 in
theorem laws_FnFound {M : Hp} {v0 : Value} {l0 : List Int} (h0 : RdI M v0 l0){pk1 pn1 : Int} {w1 : Value} {pl1 : List Int} (hw1 : RdI M w1 pl1) (gn1 : -9223372036854775808 ≤ pn1 ∧ pn1 ≤ 9223372036854775807) (hr0 : (∀ x ∈ l0, -9223372036854775808 ≤ x ∧ x ≤ 9223372036854775807)) :
    PuC Try.prog 4 M [v0, .agg #[.int .i64 pk1, .int .i64 pn1, w1]] (fun r M' => r = .bool true) := by
  refine PuC_enter Try.func4 rfl Try.ntmps4 rfl ?_
  intro a w M1 H hM1 S E
  replace h0 := h0.le hM1
  replace hw1 := hw1.le hM1
  have b0 := h0.bound
  refine WP_seq ?_
  refine WP_region ?_
  refine S_x (X_box (cs := #[.int .i64 pk1, .int .i64 pn1, w1]) E S rfl rfl rfl ?_)
  clear E a S; rintro a w b_1 E S
  obtain ⟨M_2, hM_2, hb_1, S⟩ := S.freezeB
  replace h0 := h0.le hM_2
  replace hw1 := hw1.le hM_2
  refine S_v E rfl (R_assign E rfl) rfl ?_
  clear E a; intro a E
  refine WL_nil ?_
  refine T_n ?_
  refine WP_seq ?_
  refine WP_seq ?_
  refine WP_region ?_
  refine S_v E rfl (R_move E rfl) rfl ?_
  clear E a; intro a E
  refine S_v E rfl (R_lenV E rfl T22 h0.len) rfl ?_
  clear E a; intro a E
  refine S_v E rfl (R_gtr E rfl rfl) rfl ?_
  clear E a; intro a E
  refine S_v E rfl (R_move E rfl) rfl ?_
  clear E a; intro a E
  refine split_bool (decide (2147483647 < (((l0).length : Nat) : Int))) (fun hc_3 => ?_) (fun hc_3 => ?_)
  · replace E := E.val (t := 37) rfl hc_3
    replace E := E.val (t := 38) rfl hc_3
    replace hc_3 := of_decide_eq_true hc_3
    refine WL_guard_no E rfl rfl rfl rfl fun a E => ?_
    refine WL_guard_no E rfl rfl rfl rfl fun a E => ?_
    refine WL_guard_no E rfl rfl rfl rfl fun a E => ?_
    refine S_v E rfl (R_pickT E rfl rfl) rfl ?_
    clear E a; intro a E
    refine WL_nil ?_
    refine T_n ?_
    refine WP_condT E rfl rfl ?_
    refine WP_seq ?_
    refine WP_region ?_
    refine S_v E rfl (R_assign E rfl) rfl ?_
    clear E a; intro a E
    refine WL_nil ?_
    refine T_n ?_
    refine WP_ret ?_
    refine T_r ?_
    exact F_ret1 E Try.results4 rfl ⟨_, rfl, M_2, hM_2, rfl, S⟩
  · replace E := E.val (t := 37) rfl hc_3
    replace E := E.val (t := 38) rfl hc_3
    replace hc_3 := of_decide_eq_false hc_3
    refine WL_guard_yes E rfl rfl ?_
    refine S_v E rfl (R_loadGM E rfl (Try.isAgg36 _) (Try.sizeOf36 _) S.imm hb_1) rfl ?_
    clear E a; intro a E
    refine WL_guard_yes E rfl rfl ?_
    refine S_x (X_pu E S rfl rfl rfl (laws_zzFits1 hw1 (by omega)) (Hp.le.refl _) ?_)
    clear E a S; rintro a _ w M_4 hM_4 rfl S E
    replace h0 := h0.le hM_4
    replace hw1 := hw1.le hM_4
    replace hb_1 := hM_4.2 _ _ hb_1
    refine WL_guard_yes E rfl rfl ?_
    refine S_v E rfl (R_not E rfl) rfl ?_
    clear E a; intro a E
    refine S_v E rfl (R_pickF E rfl rfl) rfl ?_
    clear E a; intro a E
    refine WL_nil ?_
    refine T_n ?_
    refine WP_cond E rfl (fun hc_5 => ?_) (fun hc_5 => ?_)
    · refine WP_seq ?_
      refine WP_region ?_
      refine S_v E rfl (R_assign E rfl) rfl ?_
      clear E a; intro a E
      refine WL_nil ?_
      refine T_n ?_
      refine WP_ret ?_
      refine T_r ?_
      exact F_ret1 E Try.results4 rfl ⟨_, rfl, M_4, (hM_2.trans hM_4), rfl, S⟩
    · refine WP_skip ?_
      refine T_n ?_
      refine WP_seq ?_
      refine WP_seq ?_
      refine WP_region ?_
      refine S_x (X_buildI (ys := [1]) E S rfl T22 rfl rfl rfl ?_)
      clear E a S; rintro a w v_6 E S
      refine S_v E rfl (R_build (u := .agg #[.int .i64 4, .int .i64 0, .slice none 0 0]) (vs := [.int .i64 4]) E rfl (fun w => FB36_0_i 4 w)) rfl ?_
      clear E a; intro a E
      have S0 := S; clear S
      obtain ⟨M_7, hM_7, hz_8, S⟩ := S0.freezeI (by (first | omega | (simp; omega) | (simp; done) | (simp_all; omega) | grind))
      clear S0
      replace h0 := h0.le hM_7
      replace hw1 := hw1.le hM_7
      replace hb_1 := hM_7.2 _ _ hb_1
      refine S_x (X_pu E S rfl rfl rfl (impl_SomeBy hz_8 (RdS.nil _) (by omega)) (Hp.le.refl _) ?_)
      clear E a S; rintro a _ w M_9 hM_9 rfl S E
      replace h0 := h0.le hM_9
      replace hw1 := hw1.le hM_9
      replace hb_1 := hM_9.2 _ _ hb_1
      replace hz_8 := hz_8.le hM_9
      refine S_v E rfl (R_not E rfl) rfl ?_
      clear E a; intro a E
      refine WL_nil ?_
      refine T_n ?_
      have hc_10 : (!(([1]).any (fun x => predAt 4 0 ([] : List Int) x 0))) = false := by (clear S E; first | (simp; done) | decide | (simp [predAt]; done) | (rw [hg0]; first | done | rfl | (simp; done)) | (simp only [etk]; first | (simp; done) | (rw [beq_iff_eq.1 (law_any _ _)]; simp; done) | (rw [beq_iff_eq.1 (law_all _ _)]; simp; done) | (rw [fi_any_neg]; simp; done)) | (simp only [etk] at *; first | (rw [getE_inj hv1 (by assumption)]; simp; done) | (rw [getE_inj hv2 (by assumption)]; simp; done)))
      refine WP_condF E rfl hc_10 ?_
      refine WP_skip ?_
      refine T_n ?_
      refine WP_seq ?_
      refine WP_seq ?_
      refine WP_region ?_
      refine S_v E rfl (R_move E rfl) rfl ?_
      clear E a; intro a E
      refine S_x (X_buildM (R := RSl 1 RInt) (vs := [v0]) (xs := [l0]) (RSl_mono RInt_mono) E S rfl T98 rfl rfl rfl (by intro u hu; simp only [List.mem_cons, List.not_mem_nil, or_false] at hu; rcases hu with rfl <;> first | exact RdI.one h0 | rfl) rfl (rowsC (R := RSl 1 RInt) (RdI.row h0) rowsN) ?_)
      clear E a S; rintro a v_11 w M_12 hM_12 hv_11 S E
      replace hv_11 : RdII M_12 v_11 [l0] := hv_11
      replace h0 := h0.le hM_12
      replace hw1 := hw1.le hM_12
      replace hb_1 := hM_12.2 _ _ hb_1
      replace hz_8 := hz_8.le hM_12
      refine S_x (X_pu E S rfl rfl rfl (laws_few hv_11) (Hp.le.refl _) ?_)
      clear E a S; rintro a _ w M_13 hM_13 rfl S E
      replace h0 := h0.le hM_13
      replace hw1 := hw1.le hM_13
      replace hb_1 := hM_13.2 _ _ hb_1
      replace hz_8 := hz_8.le hM_13
      replace hv_11 := hv_11.le hM_13
      refine S_v E rfl (R_not E rfl) rfl ?_
      clear E a; intro a E
      refine S_v E rfl (R_move E rfl) rfl ?_
      clear E a; intro a E
      refine split_bool (!(decide (∀ x ∈ [l0], x.length ≤ 300))) (fun hc_14 => ?_) (fun hc_14 => ?_)
      · replace E := E.val (t := 50) rfl hc_14
        replace E := E.val (t := 51) rfl hc_14
        refine WL_guard_no E rfl rfl rfl rfl fun a E => ?_
        refine WL_guard_no E rfl rfl rfl rfl fun a E => ?_
        refine WL_guard_no E rfl rfl rfl rfl fun a E => ?_
        refine S_v E rfl (R_pickT E rfl rfl) rfl ?_
        clear E a; intro a E
        refine WL_nil ?_
        refine T_n ?_
        refine WP_condT E rfl rfl ?_
        refine WP_seq ?_
        refine WP_region ?_
        refine S_v E rfl (R_assign E rfl) rfl ?_
        clear E a; intro a E
        refine WL_nil ?_
        refine T_n ?_
        refine WP_ret ?_
        refine T_r ?_
        exact F_ret1 E Try.results4 rfl ⟨_, rfl, M_13, (hM_2.trans (hM_4.trans (hM_7.trans (hM_9.trans (hM_12.trans hM_13))))), rfl, S⟩
      · replace E := E.val (t := 50) rfl hc_14
        replace E := E.val (t := 51) rfl hc_14
        refine WL_guard_yes E rfl rfl ?_
        refine S_v E rfl (R_loadGM E rfl (Try.isAgg36 _) (Try.sizeOf36 _) S.imm hb_1) rfl ?_
        clear E a; intro a E
        refine WL_guard_yes E rfl rfl ?_
        refine S_x (X_pu E S rfl rfl rfl (laws_fair hw1 (by omega)) (Hp.le.refl _) ?_)
        clear E a S; rintro a _ w M_15 hM_15 rfl S E
        replace h0 := h0.le hM_15
        replace hw1 := hw1.le hM_15
        replace hb_1 := hM_15.2 _ _ hb_1
        replace hz_8 := hz_8.le hM_15
        replace hv_11 := hv_11.le hM_15
        refine WL_guard_yes E rfl rfl ?_
        refine S_v E rfl (R_not E rfl) rfl ?_
        clear E a; intro a E
        refine S_v E rfl (R_pickF E rfl rfl) rfl ?_
        clear E a; intro a E
        refine WL_nil ?_
        refine T_n ?_
        refine WP_cond E rfl (fun hc_16 => ?_) (fun hc_16 => ?_)
        · refine WP_seq ?_
          refine WP_region ?_
          refine S_v E rfl (R_assign E rfl) rfl ?_
          clear E a; intro a E
          refine WL_nil ?_
          refine T_n ?_
          refine WP_ret ?_
          refine T_r ?_
          exact F_ret1 E Try.results4 rfl ⟨_, rfl, M_15, (hM_2.trans (hM_4.trans (hM_7.trans (hM_9.trans (hM_12.trans (hM_13.trans hM_15)))))), rfl, S⟩
        · have hkp : -1099511627776 < pn1 ∧ pn1 < 1099511627776 := (by simp_all)
          refine WP_skip ?_
          refine T_n ?_
          refine WP_seq ?_
          refine WP_region ?_
          refine S_v E rfl (R_assign E rfl) rfl ?_
          clear E a; intro a E
          refine S_v E rfl (R_assign E rfl) rfl ?_
          clear E a; intro a E
          refine S_v E rfl (R_assign E rfl) rfl ?_
          clear E a; intro a E
          refine WL_nil ?_
          refine T_n ?_
          refine WP_seq ?_
          refine WP_seq ?_
          refine WP_region ?_
          refine S_v E rfl (R_move E rfl) rfl ?_
          clear E a; intro a E
          refine S_v E rfl (R_lenV E rfl T22 h0.len) rfl ?_
          clear E a; intro a E
          refine S_v E rfl (R_move E rfl) rfl ?_
          clear E a; intro a E
          refine WL_nil ?_
          refine T_n ?_
          refine WP_block ?_
          refine WP_loop (γ := Nat) (fun (k : Nat) a w => ∃ (M_17 : Hp), Hp.le M_15 M_17 ∧ St w M_17 (H) ∧ Env a 361 [] [(0, v0), (3, .pointer (some ⟨b_1, 0, none⟩)), (5, .int .i64 (fiI (fun x => predAt pk1 pn1 pl1 x 0) (l0.take k))), (6, .int .i64 (laI (fun x => predAt pk1 pn1 pl1 x 0) (l0.take k))), (7, .int .i64 (((l0.take k).countP (fun x => predAt pk1 pn1 pl1 x 0) : Nat) : Int)), (56, v0), (57, .int .i64 (((l0).length : Nat) : Int)), (58, .int .i64 ((k : Nat) : Int))] ∧ (k ≤ (l0).length)) (fun k => ((l0).length) - k) 0 ⟨M_15, Hp.le.refl _, S, E.keep ⟨rfl, rfl, look_int (i := (-1)) rfl (by (rfl)), look_int (i := (-1)) rfl (by (rfl)), look_nat (i := 0) rfl (by (simp)), rfl, rfl, rfl, trivial⟩, by ((try clear S); (try clear E); first | assumption | omega | rfl | (simp; done) | (simp_all; done) | (simp [List.take_add_one, *]; done) | grind [List.take_add_one])⟩ ?_
          try clear E
          try clear S
          try clear a
          try clear w
          rintro k a w ⟨M_17, hM_17, S, E, hL0_0⟩
          replace h0 := h0.le hM_17
          replace hw1 := hw1.le hM_17
          replace hb_1 := hM_17.2 _ _ hb_1
          replace hz_8 := hz_8.le hM_17
          replace hv_11 := hv_11.le hM_17
          have ck := List.countP_le_length (p := fun x => predAt pk1 pn1 pl1 x 0) (l := l0.take k); simp only [List.length_take] at ck
          refine WP_seq ?_
          refine WP_region ?_
          refine S_v E rfl (R_lss E rfl rfl) rfl ?_
          clear E a; intro a E
          refine WL_nil ?_
          refine T_n ?_
          refine WP_seq ?_
          refine WP_cond E rfl (fun hc_18 => ?_) (fun hc_18 => ?_)
          · replace hc_18 := of_decide_eq_true hc_18
            refine WP_skip ?_
            refine T_n ?_
            refine WP_seq ?_
            refine WP_block ?_
            refine WP_seq ?_
            refine WP_region ?_
            refine S_v E rfl (R_move E rfl) rfl ?_
            clear E a; intro a E
            obtain ⟨x_19, hx_19⟩ : ∃ x, (l0)[k]? = some x := ⟨_, List.getElem?_eq_getElem (by first | omega | (simp; done) | (simp; omega) | (simp_all; omega))⟩
            obtain ⟨p_20, hp_20, qp_20⟩ := h0.at hx_19
            refine S_v E rfl (R_idx E rfl rfl T22 hp_20 rfl) rfl ?_
            clear E a; intro a E
            refine S_v E rfl (R_loadM E rfl Try.isAgg3 S.imm qp_20) rfl ?_
            clear E a; intro a E
            refine S_v E rfl (R_assign E rfl) rfl ?_
            clear E a; intro a E
            refine S_v E rfl (R_assign E rfl) rfl ?_
            clear E a; intro a E
            refine WL_nil ?_
            refine T_n ?_
            refine WP_seq ?_
            refine WP_region ?_
            refine S_v E rfl (R_loadGM E rfl (Try.isAgg36 _) (Try.sizeOf36 _) S.imm hb_1) rfl ?_
            clear E a; intro a E
            refine S_v E rfl (R_move E rfl) rfl ?_
            clear E a; intro a E
            refine S_x (X_pu E S rfl rfl rfl (laws_holds hw1 (by omega)) (Hp.le.refl _) ?_)
            clear E a S; rintro a _ w M_21 hM_21 rfl S E
            replace h0 := h0.le hM_21
            replace hw1 := hw1.le hM_21
            replace hb_1 := hM_21.2 _ _ hb_1
            replace hz_8 := hz_8.le hM_21
            replace hv_11 := hv_11.le hM_21
            refine WL_nil ?_
            refine T_n ?_
            refine WP_cond E rfl (fun hc_22 => ?_) (fun hc_22 => ?_)
            · refine WP_seq ?_
              refine WP_region ?_
              refine S_v E rfl (R_move E rfl) rfl ?_
              clear E a; intro a E
              refine S_v E rfl (R_assign E rfl) rfl ?_
              clear E a; intro a E
              refine WL_nil ?_
              refine T_n ?_
              refine WP_seq ?_
              refine WP_seq ?_
              refine WP_region ?_
              refine S_v E rfl (R_move E rfl) rfl ?_
              clear E a; intro a E
              refine S_v E rfl (R_lss E rfl rfl) rfl ?_
              clear E a; intro a E
              refine WL_nil ?_
              refine T_n ?_
              refine WP_cond E rfl (fun hc_23 => ?_) (fun hc_23 => ?_)
              · replace hc_23 := of_decide_eq_true hc_23
                refine WP_region ?_
                refine S_v E rfl (R_move E rfl) rfl ?_
                clear E a; intro a E
                refine S_v E rfl (R_assign E rfl) rfl ?_
                clear E a; intro a E
                refine WL_nil ?_
                refine T_n ?_
                refine WP_region ?_
                refine S_v E rfl (R_move E rfl) rfl ?_
                clear E a; intro a E
                refine S_v E rfl (R_addx (m := (((l0.take k).countP (fun x => predAt pk1 pn1 pl1 x 0) + 1 : Nat) : Int)) E rfl rfl (by omega) (by omega)) rfl ?_
                clear E a; intro a E
                refine S_v E rfl (R_assign E rfl) rfl ?_
                clear E a; intro a E
                refine WL_nil ?_
                refine B_n ?_
                refine T_n ?_
                refine WP_region ?_
                refine S_v E rfl (R_addx (m := ((k + 1 : Nat) : Int)) E rfl rfl (by omega) (by omega)) rfl ?_
                clear E a; intro a E
                refine S_v E rfl (R_move E rfl) rfl ?_
                clear E a; intro a E
                refine WL_nil ?_
                refine T_n ?_
                exact ⟨k + 1, ⟨M_21, (hM_17.trans hM_21), S, E.keep ⟨rfl, rfl, look_int (i := ((k : Nat) : Int)) rfl (by (first | (rw [fiI_take (by assumption)]; simp only [*]; first | (simp; done) | (rw [if_pos (by assumption)]; simp; done) | (rw [if_neg (by assumption)]; done)) | (rw [fiI_take (by assumption), if_pos (by assumption), if_pos (by assumption)]) | (rw [fiI_take (by assumption), if_neg (by assumption)]) | (rw [fiI_take (by assumption)]; split <;> first | rfl | (rw [if_neg (by simp [*])]; exact fiI_neg (by assumption)) | (exact fiI_neg (by assumption)) | simp_all))), look_int (i := ((k : Nat) : Int)) rfl (by (rw [laI_take (by assumption)]; first | (rw [if_pos (by assumption)]) | (rw [if_neg (by simp [*])]))), look_nat (i := (l0.take k).countP (fun x => predAt pk1 pn1 pl1 x 0) + 1) rfl (by (rw [List.take_add_one, show l0[k]? = some _ by assumption, List.countP_append]; simp_all [List.countP_cons])), rfl, rfl, rfl, trivial⟩, by ((try clear S); (try clear E); first | assumption | omega | rfl | (simp; done) | (simp_all; done) | (simp [List.take_add_one, *]; done) | grind [List.take_add_one])⟩, by omega⟩
              · replace hc_23 := of_decide_eq_false hc_23
                refine WP_skip ?_
                refine T_n ?_
                refine WP_region ?_
                refine S_v E rfl (R_move E rfl) rfl ?_
                clear E a; intro a E
                refine S_v E rfl (R_addx (m := (((l0.take k).countP (fun x => predAt pk1 pn1 pl1 x 0) + 1 : Nat) : Int)) E rfl rfl (by omega) (by omega)) rfl ?_
                clear E a; intro a E
                refine S_v E rfl (R_assign E rfl) rfl ?_
                clear E a; intro a E
                refine WL_nil ?_
                refine B_n ?_
                refine T_n ?_
                refine WP_region ?_
                refine S_v E rfl (R_addx (m := ((k + 1 : Nat) : Int)) E rfl rfl (by omega) (by omega)) rfl ?_
                clear E a; intro a E
                refine S_v E rfl (R_move E rfl) rfl ?_
                clear E a; intro a E
                refine WL_nil ?_
                refine T_n ?_
                exact ⟨k + 1, ⟨M_21, (hM_17.trans hM_21), S, E.keep ⟨rfl, rfl, look_int (i := fiI (fun x => predAt pk1 pn1 pl1 x 0) (l0.take k)) rfl (by (first | (rw [fiI_take (by assumption)]; simp only [*]; first | (simp; done) | (rw [if_pos (by assumption)]; simp; done) | (rw [if_neg (by assumption)]; done)) | (rw [fiI_take (by assumption), if_pos (by assumption), if_pos (by assumption)]) | (rw [fiI_take (by assumption), if_neg (by assumption)]) | (rw [fiI_take (by assumption)]; split <;> first | rfl | (rw [if_neg (by simp [*])]; exact fiI_neg (by assumption)) | (exact fiI_neg (by assumption)) | simp_all))), look_int (i := ((k : Nat) : Int)) rfl (by (rw [laI_take (by assumption)]; first | (rw [if_pos (by assumption)]) | (rw [if_neg (by simp [*])]))), look_nat (i := (l0.take k).countP (fun x => predAt pk1 pn1 pl1 x 0) + 1) rfl (by (rw [List.take_add_one, show l0[k]? = some _ by assumption, List.countP_append]; simp_all [List.countP_cons])), rfl, rfl, rfl, trivial⟩, by ((try clear S); (try clear E); first | assumption | omega | rfl | (simp; done) | (simp_all; done) | (simp [List.take_add_one, *]; done) | grind [List.take_add_one])⟩, by omega⟩
            · refine WP_skip ?_
              refine B_n ?_
              refine T_n ?_
              refine WP_region ?_
              refine S_v E rfl (R_addx (m := ((k + 1 : Nat) : Int)) E rfl rfl (by omega) (by omega)) rfl ?_
              clear E a; intro a E
              refine S_v E rfl (R_move E rfl) rfl ?_
              clear E a; intro a E
              refine WL_nil ?_
              refine T_n ?_
              exact ⟨k + 1, ⟨M_21, (hM_17.trans hM_21), S, E.keep ⟨rfl, rfl, look_int (i := fiI (fun x => predAt pk1 pn1 pl1 x 0) (l0.take k)) rfl (by (first | (rw [fiI_take (by assumption)]; simp only [*]; first | (simp; done) | (rw [if_pos (by assumption)]; simp; done) | (rw [if_neg (by assumption)]; done)) | (rw [fiI_take (by assumption), if_pos (by assumption), if_pos (by assumption)]) | (rw [fiI_take (by assumption), if_neg (by assumption)]) | (rw [fiI_take (by assumption)]; split <;> first | rfl | (rw [if_neg (by simp [*])]; exact fiI_neg (by assumption)) | (exact fiI_neg (by assumption)) | simp_all))), look_int (i := laI (fun x => predAt pk1 pn1 pl1 x 0) (l0.take k)) rfl (by (rw [laI_take (by assumption)]; first | (rw [if_pos (by assumption)]) | (rw [if_neg (by simp [*])]))), look_nat (i := (l0.take k).countP (fun x => predAt pk1 pn1 pl1 x 0)) rfl (by (rw [List.take_add_one, show l0[k]? = some _ by assumption, List.countP_append]; simp_all [List.countP_cons])), rfl, rfl, rfl, trivial⟩, by ((try clear S); (try clear E); first | assumption | omega | rfl | (simp; done) | (simp_all; done) | (simp [List.take_add_one, *]; done) | grind [List.take_add_one])⟩, by omega⟩
          · replace hc_18 := of_decide_eq_false hc_18
            have etk : l0.take k = l0 := List.take_of_length_le (by omega)
            refine WP_exit ?_
            refine T_x ?_
            refine T_x ?_
            refine B_x ?_
            refine T_n ?_
            refine WP_seq ?_
            refine WP_region ?_
            refine S_v E rfl (R_move E rfl) rfl ?_
            clear E a; intro a E
            refine S_v E rfl (R_loadGM E rfl (Try.isAgg36 _) (Try.sizeOf36 _) S.imm hb_1) rfl ?_
            clear E a; intro a E
            refine S_x (X_pu E S rfl rfl rfl (impl_FindIndexOf h0 hw1 (by omega)) (Hp.le.refl _) ?_)
            clear E a S; rintro a _ w M_24 hM_24 rfl S E
            replace h0 := h0.le hM_24
            replace hw1 := hw1.le hM_24
            replace hb_1 := hM_24.2 _ _ hb_1
            replace hz_8 := hz_8.le hM_24
            replace hv_11 := hv_11.le hM_24
            refine S_v E rfl (R_move E rfl) rfl ?_
            clear E a; intro a E
            refine S_v E rfl (R_extract E rfl rfl) rfl ?_
            clear E a; intro a E
            refine S_v E rfl (R_extract E rfl rfl) rfl ?_
            clear E a; intro a E
            refine S_v E rfl (R_extract E rfl rfl) rfl ?_
            clear E a; intro a E
            refine S_v E rfl (R_assign E rfl) rfl ?_
            clear E a; intro a E
            refine S_v E rfl (R_assign E rfl) rfl ?_
            clear E a; intro a E
            refine S_v E rfl (R_assign E rfl) rfl ?_
            clear E a; intro a E
            refine WL_nil ?_
            refine T_n ?_
            refine WP_seq ?_
            refine WP_region ?_
            refine S_v E rfl (R_move E rfl) rfl ?_
            clear E a; intro a E
            refine S_v E rfl (R_loadGM E rfl (Try.isAgg36 _) (Try.sizeOf36 _) S.imm hb_1) rfl ?_
            clear E a; intro a E
            refine S_x (X_pu E S rfl rfl rfl (impl_FindLastIndexOf h0 hw1 (by omega)) (Hp.le.refl _) ?_)
            clear E a S; rintro a _ w M_25 hM_25 rfl S E
            replace h0 := h0.le hM_25
            replace hw1 := hw1.le hM_25
            replace hb_1 := hM_25.2 _ _ hb_1
            replace hz_8 := hz_8.le hM_25
            replace hv_11 := hv_11.le hM_25
            refine S_v E rfl (R_move E rfl) rfl ?_
            clear E a; intro a E
            refine S_v E rfl (R_extract E rfl rfl) rfl ?_
            clear E a; intro a E
            refine S_v E rfl (R_extract E rfl rfl) rfl ?_
            clear E a; intro a E
            refine S_v E rfl (R_extract E rfl rfl) rfl ?_
            clear E a; intro a E
            refine S_v E rfl (R_assign E rfl) rfl ?_
            clear E a; intro a E
            refine S_v E rfl (R_assign E rfl) rfl ?_
            clear E a; intro a E
            refine S_v E rfl (R_assign E rfl) rfl ?_
            clear E a; intro a E
            refine WL_nil ?_
            refine T_n ?_
            refine WP_seq ?_
            refine WP_region ?_
            refine S_v E rfl (R_move E rfl) rfl ?_
            clear E a; intro a E
            refine S_v E rfl (R_loadGM E rfl (Try.isAgg36 _) (Try.sizeOf36 _) S.imm hb_1) rfl ?_
            clear E a; intro a E
            refine S_x (X_pu E S rfl rfl rfl (impl_Find h0 hw1 (by omega)) (Hp.le.refl _) ?_)
            clear E a S; rintro a _ w M_26 hM_26 rfl S E
            replace h0 := h0.le hM_26
            replace hw1 := hw1.le hM_26
            replace hb_1 := hM_26.2 _ _ hb_1
            replace hz_8 := hz_8.le hM_26
            replace hv_11 := hv_11.le hM_26
            refine S_v E rfl (R_move E rfl) rfl ?_
            clear E a; intro a E
            refine S_v E rfl (R_extract E rfl rfl) rfl ?_
            clear E a; intro a E
            refine S_v E rfl (R_extract E rfl rfl) rfl ?_
            clear E a; intro a E
            refine S_v E rfl (R_assign E rfl) rfl ?_
            clear E a; intro a E
            refine S_v E rfl (R_assign E rfl) rfl ?_
            clear E a; intro a E
            refine WL_nil ?_
            refine T_n ?_
            refine WP_seq ?_
            refine WP_region ?_
            refine S_v E rfl (R_move E rfl) rfl ?_
            clear E a; intro a E
            refine S_v E rfl (R_loadGM E rfl (Try.isAgg36 _) (Try.sizeOf36 _) S.imm hb_1) rfl ?_
            clear E a; intro a E
            refine S_x (X_pu E S rfl rfl rfl (impl_FindIndexOfSeq h0 hw1 (by omega)) (Hp.le.refl _) ?_)
            clear E a S; rintro a _ w M_27 hM_27 rfl S E
            replace h0 := h0.le hM_27
            replace hw1 := hw1.le hM_27
            replace hb_1 := hM_27.2 _ _ hb_1
            replace hz_8 := hz_8.le hM_27
            replace hv_11 := hv_11.le hM_27
            refine S_v E rfl (R_move E rfl) rfl ?_
            clear E a; intro a E
            refine S_v E rfl (R_extract E rfl rfl) rfl ?_
            clear E a; intro a E
            refine S_v E rfl (R_extract E rfl rfl) rfl ?_
            clear E a; intro a E
            refine S_v E rfl (R_extract E rfl rfl) rfl ?_
            clear E a; intro a E
            refine S_v E rfl (R_assign E rfl) rfl ?_
            clear E a; intro a E
            refine S_v E rfl (R_assign E rfl) rfl ?_
            clear E a; intro a E
            refine S_v E rfl (R_assign E rfl) rfl ?_
            clear E a; intro a E
            refine WL_nil ?_
            refine T_n ?_
            refine WP_seq ?_
            refine WP_region ?_
            refine S_v E rfl (R_move E rfl) rfl ?_
            clear E a; intro a E
            refine S_v E rfl (R_loadGM E rfl (Try.isAgg36 _) (Try.sizeOf36 _) S.imm hb_1) rfl ?_
            clear E a; intro a E
            refine S_x (X_pu E S rfl rfl rfl (impl_FindLastIndexOfSeq h0 hw1 (by omega)) (Hp.le.refl _) ?_)
            clear E a S; rintro a _ w M_28 hM_28 rfl S E
            replace h0 := h0.le hM_28
            replace hw1 := hw1.le hM_28
            replace hb_1 := hM_28.2 _ _ hb_1
            replace hz_8 := hz_8.le hM_28
            replace hv_11 := hv_11.le hM_28
            refine S_v E rfl (R_move E rfl) rfl ?_
            clear E a; intro a E
            refine S_v E rfl (R_extract E rfl rfl) rfl ?_
            clear E a; intro a E
            refine S_v E rfl (R_extract E rfl rfl) rfl ?_
            clear E a; intro a E
            refine S_v E rfl (R_extract E rfl rfl) rfl ?_
            clear E a; intro a E
            refine S_v E rfl (R_assign E rfl) rfl ?_
            clear E a; intro a E
            refine S_v E rfl (R_assign E rfl) rfl ?_
            clear E a; intro a E
            refine S_v E rfl (R_assign E rfl) rfl ?_
            clear E a; intro a E
            refine WL_nil ?_
            refine T_n ?_
            refine WP_seq ?_
            refine WP_region ?_
            refine S_v E rfl (R_move E rfl) rfl ?_
            clear E a; intro a E
            refine S_v E rfl (R_loadGM E rfl (Try.isAgg36 _) (Try.sizeOf36 _) S.imm hb_1) rfl ?_
            clear E a; intro a E
            refine S_x (X_pu E S rfl rfl rfl (impl_FindSeq h0 hw1 (by omega)) (Hp.le.refl _) ?_)
            clear E a S; rintro a _ w M_29 hM_29 rfl S E
            replace h0 := h0.le hM_29
            replace hw1 := hw1.le hM_29
            replace hb_1 := hM_29.2 _ _ hb_1
            replace hz_8 := hz_8.le hM_29
            replace hv_11 := hv_11.le hM_29
            refine S_v E rfl (R_move E rfl) rfl ?_
            clear E a; intro a E
            refine S_v E rfl (R_extract E rfl rfl) rfl ?_
            clear E a; intro a E
            refine S_v E rfl (R_extract E rfl rfl) rfl ?_
            clear E a; intro a E
            refine S_v E rfl (R_assign E rfl) rfl ?_
            clear E a; intro a E
            refine S_v E rfl (R_assign E rfl) rfl ?_
            clear E a; intro a E
            refine WL_nil ?_
            refine T_n ?_
            refine WP_seq ?_
            refine WP_seq ?_
            refine WP_region ?_
            refine S_v E rfl (R_move E rfl) rfl ?_
            clear E a; intro a E
            refine S_v E rfl (R_move E rfl) rfl ?_
            clear E a; intro a E
            refine S_v E rfl (R_neq E rfl rfl) rfl ?_
            clear E a; intro a E
            refine S_v E rfl (R_move E rfl) rfl ?_
            clear E a; intro a E
            have hc_30 : (decide (fiI (fun x => predAt pk1 pn1 pl1 x 0) l0 ≠ fiI (fun x => predAt pk1 pn1 pl1 x 0) (l0.take k))) = false := by (clear S E; first | (simp; done) | decide | (simp [predAt]; done) | (rw [hg0]; first | done | rfl | (simp; done)) | (simp only [etk]; first | (simp; done) | (rw [beq_iff_eq.1 (law_any _ _)]; simp; done) | (rw [beq_iff_eq.1 (law_all _ _)]; simp; done) | (rw [fi_any_neg]; simp; done)) | (simp only [etk] at *; first | (rw [getE_inj hv1 (by assumption)]; simp; done) | (rw [getE_inj hv2 (by assumption)]; simp; done)))
            replace E := E.val (t := 115) rfl hc_30
            replace E := E.val (t := 116) rfl hc_30
            refine WL_guard_yes E rfl rfl ?_
            refine S_v E rfl (R_move E rfl) rfl ?_
            clear E a; intro a E
            refine WL_guard_yes E rfl rfl ?_
            refine S_v E rfl (R_move E rfl) rfl ?_
            clear E a; intro a E
            refine WL_guard_yes E rfl rfl ?_
            refine S_v E rfl (R_neq E rfl rfl) rfl ?_
            clear E a; intro a E
            refine S_v E rfl (R_pickF E rfl rfl) rfl ?_
            clear E a; intro a E
            refine S_v E rfl (R_move E rfl) rfl ?_
            clear E a; intro a E
            have hc_31 : (decide (fiI (fun x => predAt pk1 pn1 pl1 x 0) l0 ≠ fiI (fun x => predAt pk1 pn1 pl1 x 0) (l0.take k))) = false := by (clear S E; first | (simp; done) | decide | (simp [predAt]; done) | (rw [hg0]; first | done | rfl | (simp; done)) | (simp only [etk]; first | (simp; done) | (rw [beq_iff_eq.1 (law_any _ _)]; simp; done) | (rw [beq_iff_eq.1 (law_all _ _)]; simp; done) | (rw [fi_any_neg]; simp; done)) | (simp only [etk] at *; first | (rw [getE_inj hv1 (by assumption)]; simp; done) | (rw [getE_inj hv2 (by assumption)]; simp; done)))
            replace E := E.val (t := 119) rfl hc_31
            replace E := E.val (t := 120) rfl hc_31
            replace E := E.val (t := 121) rfl hc_31
            refine WL_guard_yes E rfl rfl ?_
            refine S_v E rfl (R_move E rfl) rfl ?_
            clear E a; intro a E
            refine WL_guard_yes E rfl rfl ?_
            refine S_v E rfl (R_move E rfl) rfl ?_
            clear E a; intro a E
            refine WL_guard_yes E rfl rfl ?_
            refine S_v E rfl (R_neq E rfl rfl) rfl ?_
            clear E a; intro a E
            refine S_v E rfl (R_pickF E rfl rfl) rfl ?_
            clear E a; intro a E
            refine S_v E rfl (R_move E rfl) rfl ?_
            clear E a; intro a E
            have hc_32 : (decide (laI (fun x => predAt pk1 pn1 pl1 x 0) l0 ≠ laI (fun x => predAt pk1 pn1 pl1 x 0) (l0.take k))) = false := by (clear S E; first | (simp; done) | decide | (simp [predAt]; done) | (rw [hg0]; first | done | rfl | (simp; done)) | (simp only [etk]; first | (simp; done) | (rw [beq_iff_eq.1 (law_any _ _)]; simp; done) | (rw [beq_iff_eq.1 (law_all _ _)]; simp; done) | (rw [fi_any_neg]; simp; done)) | (simp only [etk] at *; first | (rw [getE_inj hv1 (by assumption)]; simp; done) | (rw [getE_inj hv2 (by assumption)]; simp; done)))
            replace E := E.val (t := 124) rfl hc_32
            replace E := E.val (t := 125) rfl hc_32
            replace E := E.val (t := 126) rfl hc_32
            refine WL_guard_yes E rfl rfl ?_
            refine S_v E rfl (R_move E rfl) rfl ?_
            clear E a; intro a E
            refine WL_guard_yes E rfl rfl ?_
            refine S_v E rfl (R_move E rfl) rfl ?_
            clear E a; intro a E
            refine WL_guard_yes E rfl rfl ?_
            refine S_v E rfl (R_neq E rfl rfl) rfl ?_
            clear E a; intro a E
            refine S_v E rfl (R_pickF E rfl rfl) rfl ?_
            clear E a; intro a E
            refine S_v E rfl (R_move E rfl) rfl ?_
            clear E a; intro a E
            have hc_33 : (decide (laI (fun x => predAt pk1 pn1 pl1 x 0) l0 ≠ laI (fun x => predAt pk1 pn1 pl1 x 0) (l0.take k))) = false := by (clear S E; first | (simp; done) | decide | (simp [predAt]; done) | (rw [hg0]; first | done | rfl | (simp; done)) | (simp only [etk]; first | (simp; done) | (rw [beq_iff_eq.1 (law_any _ _)]; simp; done) | (rw [beq_iff_eq.1 (law_all _ _)]; simp; done) | (rw [fi_any_neg]; simp; done)) | (simp only [etk] at *; first | (rw [getE_inj hv1 (by assumption)]; simp; done) | (rw [getE_inj hv2 (by assumption)]; simp; done)))
            replace E := E.val (t := 129) rfl hc_33
            replace E := E.val (t := 130) rfl hc_33
            replace E := E.val (t := 131) rfl hc_33
            refine WL_guard_yes E rfl rfl ?_
            refine S_v E rfl (R_move E rfl) rfl ?_
            clear E a; intro a E
            refine WL_guard_yes E rfl rfl ?_
            refine S_v E rfl (R_move E rfl) rfl ?_
            clear E a; intro a E
            refine WL_guard_yes E rfl rfl ?_
            refine S_v E rfl (R_gtr E rfl rfl) rfl ?_
            clear E a; intro a E
            refine WL_guard_yes E rfl rfl ?_
            refine S_v E rfl (R_neqB E rfl rfl Try.underlying4) rfl ?_
            clear E a; intro a E
            refine S_v E rfl (R_pickF E rfl rfl) rfl ?_
            clear E a; intro a E
            refine S_v E rfl (R_move E rfl) rfl ?_
            clear E a; intro a E
            have hc_34 : (!(((l0).any (fun x => predAt pk1 pn1 pl1 x 0)) == (decide (0 < (((l0.take k).countP (fun x => predAt pk1 pn1 pl1 x 0) : Nat) : Int))))) = false := by (clear S E; first | (simp; done) | decide | (simp [predAt]; done) | (rw [hg0]; first | done | rfl | (simp; done)) | (simp only [etk]; first | (simp; done) | (rw [beq_iff_eq.1 (law_any _ _)]; simp; done) | (rw [beq_iff_eq.1 (law_all _ _)]; simp; done) | (rw [fi_any_neg]; simp; done)) | (simp only [etk] at *; first | (rw [getE_inj hv1 (by assumption)]; simp; done) | (rw [getE_inj hv2 (by assumption)]; simp; done)))
            replace E := E.val (t := 135) rfl hc_34
            replace E := E.val (t := 136) rfl hc_34
            replace E := E.val (t := 137) rfl hc_34
            refine WL_guard_yes E rfl rfl ?_
            refine S_v E rfl (R_move E rfl) rfl ?_
            clear E a; intro a E
            refine WL_guard_yes E rfl rfl ?_
            refine S_v E rfl (R_move E rfl) rfl ?_
            clear E a; intro a E
            refine WL_guard_yes E rfl rfl ?_
            refine S_v E rfl (R_neqB E rfl rfl Try.underlying4) rfl ?_
            clear E a; intro a E
            refine S_v E rfl (R_pickF E rfl rfl) rfl ?_
            clear E a; intro a E
            refine S_v E rfl (R_move E rfl) rfl ?_
            clear E a; intro a E
            have hc_35 : (!(((l0).any (fun x => predAt pk1 pn1 pl1 x 0)) == ((l0).any (fun x => predAt pk1 pn1 pl1 x 0)))) = false := by (clear S E; first | (simp; done) | decide | (simp [predAt]; done) | (rw [hg0]; first | done | rfl | (simp; done)) | (simp only [etk]; first | (simp; done) | (rw [beq_iff_eq.1 (law_any _ _)]; simp; done) | (rw [beq_iff_eq.1 (law_all _ _)]; simp; done) | (rw [fi_any_neg]; simp; done)) | (simp only [etk] at *; first | (rw [getE_inj hv1 (by assumption)]; simp; done) | (rw [getE_inj hv2 (by assumption)]; simp; done)))
            replace E := E.val (t := 140) rfl hc_35
            replace E := E.val (t := 141) rfl hc_35
            replace E := E.val (t := 142) rfl hc_35
            refine WL_guard_yes E rfl rfl ?_
            refine S_v E rfl (R_move E rfl) rfl ?_
            clear E a; intro a E
            refine WL_guard_yes E rfl rfl ?_
            refine S_v E rfl (R_move E rfl) rfl ?_
            clear E a; intro a E
            refine WL_guard_yes E rfl rfl ?_
            refine S_v E rfl (R_neqB E rfl rfl Try.underlying4) rfl ?_
            clear E a; intro a E
            refine S_v E rfl (R_pickF E rfl rfl) rfl ?_
            clear E a; intro a E
            refine S_v E rfl (R_move E rfl) rfl ?_
            clear E a; intro a E
            have hc_36 : (!(((l0).any (fun x => predAt pk1 pn1 pl1 x 0)) == ((l0).any (fun x => predAt pk1 pn1 pl1 x 0)))) = false := by (clear S E; first | (simp; done) | decide | (simp [predAt]; done) | (rw [hg0]; first | done | rfl | (simp; done)) | (simp only [etk]; first | (simp; done) | (rw [beq_iff_eq.1 (law_any _ _)]; simp; done) | (rw [beq_iff_eq.1 (law_all _ _)]; simp; done) | (rw [fi_any_neg]; simp; done)) | (simp only [etk] at *; first | (rw [getE_inj hv1 (by assumption)]; simp; done) | (rw [getE_inj hv2 (by assumption)]; simp; done)))
            replace E := E.val (t := 145) rfl hc_36
            replace E := E.val (t := 146) rfl hc_36
            replace E := E.val (t := 147) rfl hc_36
            refine WL_guard_yes E rfl rfl ?_
            refine S_v E rfl (R_move E rfl) rfl ?_
            clear E a; intro a E
            refine WL_guard_yes E rfl rfl ?_
            refine S_v E rfl (R_move E rfl) rfl ?_
            clear E a; intro a E
            refine WL_guard_yes E rfl rfl ?_
            refine S_v E rfl (R_neqB E rfl rfl Try.underlying4) rfl ?_
            clear E a; intro a E
            refine S_v E rfl (R_pickF E rfl rfl) rfl ?_
            clear E a; intro a E
            refine S_v E rfl (R_move E rfl) rfl ?_
            clear E a; intro a E
            have hc_37 : (!(((l0).any (fun x => predAt pk1 pn1 pl1 x 0)) == ((l0).any (fun x => predAt pk1 pn1 pl1 x 0)))) = false := by (clear S E; first | (simp; done) | decide | (simp [predAt]; done) | (rw [hg0]; first | done | rfl | (simp; done)) | (simp only [etk]; first | (simp; done) | (rw [beq_iff_eq.1 (law_any _ _)]; simp; done) | (rw [beq_iff_eq.1 (law_all _ _)]; simp; done) | (rw [fi_any_neg]; simp; done)) | (simp only [etk] at *; first | (rw [getE_inj hv1 (by assumption)]; simp; done) | (rw [getE_inj hv2 (by assumption)]; simp; done)))
            replace E := E.val (t := 150) rfl hc_37
            replace E := E.val (t := 151) rfl hc_37
            replace E := E.val (t := 152) rfl hc_37
            refine WL_guard_yes E rfl rfl ?_
            refine S_v E rfl (R_move E rfl) rfl ?_
            clear E a; intro a E
            refine WL_guard_yes E rfl rfl ?_
            refine S_v E rfl (R_move E rfl) rfl ?_
            clear E a; intro a E
            refine WL_guard_yes E rfl rfl ?_
            refine S_v E rfl (R_neqB E rfl rfl Try.underlying4) rfl ?_
            clear E a; intro a E
            refine S_v E rfl (R_pickF E rfl rfl) rfl ?_
            clear E a; intro a E
            refine S_v E rfl (R_move E rfl) rfl ?_
            clear E a; intro a E
            have hc_38 : (!(((l0).any (fun x => predAt pk1 pn1 pl1 x 0)) == ((l0).any (fun x => predAt pk1 pn1 pl1 x 0)))) = false := by (clear S E; first | (simp; done) | decide | (simp [predAt]; done) | (rw [hg0]; first | done | rfl | (simp; done)) | (simp only [etk]; first | (simp; done) | (rw [beq_iff_eq.1 (law_any _ _)]; simp; done) | (rw [beq_iff_eq.1 (law_all _ _)]; simp; done) | (rw [fi_any_neg]; simp; done)) | (simp only [etk] at *; first | (rw [getE_inj hv1 (by assumption)]; simp; done) | (rw [getE_inj hv2 (by assumption)]; simp; done)))
            replace E := E.val (t := 155) rfl hc_38
            replace E := E.val (t := 156) rfl hc_38
            replace E := E.val (t := 157) rfl hc_38
            refine WL_guard_yes E rfl rfl ?_
            refine S_v E rfl (R_move E rfl) rfl ?_
            clear E a; intro a E
            refine WL_guard_yes E rfl rfl ?_
            refine S_v E rfl (R_move E rfl) rfl ?_
            clear E a; intro a E
            refine WL_guard_yes E rfl rfl ?_
            refine S_v E rfl (R_neqB E rfl rfl Try.underlying4) rfl ?_
            clear E a; intro a E
            refine S_v E rfl (R_pickF E rfl rfl) rfl ?_
            clear E a; intro a E
            refine WL_nil ?_
            refine T_n ?_
            have hc_39 : (!(((l0).any (fun x => predAt pk1 pn1 pl1 x 0)) == ((l0).any (fun x => predAt pk1 pn1 pl1 x 0)))) = false := by (clear S E; first | (simp; done) | decide | (simp [predAt]; done) | (rw [hg0]; first | done | rfl | (simp; done)) | (simp only [etk]; first | (simp; done) | (rw [beq_iff_eq.1 (law_any _ _)]; simp; done) | (rw [beq_iff_eq.1 (law_all _ _)]; simp; done) | (rw [fi_any_neg]; simp; done)) | (simp only [etk] at *; first | (rw [getE_inj hv1 (by assumption)]; simp; done) | (rw [getE_inj hv2 (by assumption)]; simp; done)))
            refine WP_condF E rfl hc_39 ?_
            refine WP_skip ?_
            refine T_n ?_
            refine WP_seq ?_
            refine WP_seq ?_
            refine WP_region ?_
            refine S_v E rfl (R_move E rfl) rfl ?_
            clear E a; intro a E
            refine S_v E rfl (R_move E rfl) rfl ?_
            clear E a; intro a E
            refine split_bool ((l0).any (fun x => predAt pk1 pn1 pl1 x 0)) (fun hc_40 => ?_) (fun hc_40 => ?_)
            · replace E := E.val (t := 79) rfl hc_40
              replace E := E.val (t := 12) rfl hc_40
              replace E := E.val (t := 86) rfl hc_40
              replace E := E.val (t := 15) rfl hc_40
              replace E := E.val (t := 92) rfl hc_40
              replace E := E.val (t := 17) rfl hc_40
              replace E := E.val (t := 99) rfl hc_40
              replace E := E.val (t := 20) rfl hc_40
              replace E := E.val (t := 106) rfl hc_40
              replace E := E.val (t := 23) rfl hc_40
              replace E := E.val (t := 112) rfl hc_40
              replace E := E.val (t := 25) rfl hc_40
              replace E := E.val (t := 132) rfl hc_40
              replace E := E.val (t := 138) rfl hc_40
              replace E := E.val (t := 139) rfl hc_40
              replace E := E.val (t := 143) rfl hc_40
              replace E := E.val (t := 144) rfl hc_40
              replace E := E.val (t := 148) rfl hc_40
              replace E := E.val (t := 149) rfl hc_40
              replace E := E.val (t := 153) rfl hc_40
              replace E := E.val (t := 154) rfl hc_40
              replace E := E.val (t := 158) rfl hc_40
              replace E := E.val (t := 159) rfl hc_40
              replace E := E.val (t := 162) rfl hc_40
              replace E := E.val (t := 163) rfl hc_40
              have hg0 := hc_40
              have hg1 : 0 ≤ fiI (fun x => predAt pk1 pn1 pl1 x 0) (l0.take k) ∧ (fiI (fun x => predAt pk1 pn1 pl1 x 0) (l0.take k)).toNat < l0.length := (by rw [etk]; exact ⟨(fi_at hc_40).1, (fi_at hc_40).2.1⟩)
              have hg2 : 0 ≤ laI (fun x => predAt pk1 pn1 pl1 x 0) (l0.take k) ∧ (laI (fun x => predAt pk1 pn1 pl1 x 0) (l0.take k)).toNat < l0.length := (by rw [etk]; exact ⟨(la_at hc_40).1, (la_at hc_40).2.1⟩)
              have hv1 := (fi_at hc_40).2.2
              have hv2 := (la_at hc_40).2.2
              refine WL_guard_yes E rfl rfl ?_
              refine S_v E rfl (R_move E rfl) rfl ?_
              clear E a; intro a E
              refine WL_guard_yes E rfl rfl ?_
              refine S_v E rfl (R_move E rfl) rfl ?_
              clear E a; intro a E
              refine WL_guard_yes E rfl rfl ?_
              refine S_v E rfl (R_move E rfl) rfl ?_
              clear E a; intro a E
              obtain ⟨x_41, hx_41⟩ : ∃ x, (l0)[(fiI (fun x => predAt pk1 pn1 pl1 x 0) (l0.take k)).toNat]? = some x := ⟨_, List.getElem?_eq_getElem (by first | omega | (simp; done) | (simp; omega) | (simp_all; omega))⟩
              obtain ⟨p_42, hp_42, qp_42⟩ := h0.at hx_41
              refine WL_guard_yes E rfl rfl ?_
              refine S_v E rfl (R_idx E rfl rfl T22 hp_42 (by omega)) rfl ?_
              clear E a; intro a E
              refine WL_guard_yes E rfl rfl ?_
              refine S_v E rfl (R_loadM E rfl Try.isAgg3 S.imm qp_42) rfl ?_
              clear E a; intro a E
              refine WL_guard_yes E rfl rfl ?_
              refine S_v E rfl (R_neq E rfl rfl) rfl ?_
              clear E a; intro a E
              refine WL_guard_yes E rfl rfl ?_
              refine S_v E rfl (R_move E rfl) rfl ?_
              clear E a; intro a E
              have hc_43 : (decide (fiV (fun x => predAt pk1 pn1 pl1 x 0) l0 ≠ x_41)) = false := by (clear S E; first | (simp; done) | decide | (simp [predAt]; done) | (rw [hg0]; first | done | rfl | (simp; done)) | (simp only [etk]; first | (simp; done) | (rw [beq_iff_eq.1 (law_any _ _)]; simp; done) | (rw [beq_iff_eq.1 (law_all _ _)]; simp; done) | (rw [fi_any_neg]; simp; done)) | (simp only [etk] at *; first | (rw [getE_inj hv1 (by assumption)]; simp; done) | (rw [getE_inj hv2 (by assumption)]; simp; done)))
              replace E := E.val (t := 169) rfl hc_43
              replace E := E.val (t := 170) rfl hc_43
              refine WL_guard_yes E rfl rfl ?_
              refine S_v E rfl (R_move E rfl) rfl ?_
              clear E a; intro a E
              refine WL_guard_yes E rfl rfl ?_
              refine S_v E rfl (R_move E rfl) rfl ?_
              clear E a; intro a E
              refine WL_guard_yes E rfl rfl ?_
              refine S_v E rfl (R_neq E rfl rfl) rfl ?_
              clear E a; intro a E
              refine WL_guard_yes E rfl rfl ?_
              refine S_v E rfl (R_pickF E rfl rfl) rfl ?_
              clear E a; intro a E
              refine WL_guard_yes E rfl rfl ?_
              refine S_v E rfl (R_move E rfl) rfl ?_
              clear E a; intro a E
              have hc_44 : (decide (fiV (fun x => predAt pk1 pn1 pl1 x 0) l0 ≠ fiV (fun x => predAt pk1 pn1 pl1 x 0) l0)) = false := by (clear S E; first | (simp; done) | decide | (simp [predAt]; done) | (rw [hg0]; first | done | rfl | (simp; done)) | (simp only [etk]; first | (simp; done) | (rw [beq_iff_eq.1 (law_any _ _)]; simp; done) | (rw [beq_iff_eq.1 (law_all _ _)]; simp; done) | (rw [fi_any_neg]; simp; done)) | (simp only [etk] at *; first | (rw [getE_inj hv1 (by assumption)]; simp; done) | (rw [getE_inj hv2 (by assumption)]; simp; done)))
              replace E := E.val (t := 173) rfl hc_44
              replace E := E.val (t := 174) rfl hc_44
              replace E := E.val (t := 175) rfl hc_44
              refine WL_guard_yes E rfl rfl ?_
              refine S_v E rfl (R_move E rfl) rfl ?_
              clear E a; intro a E
              refine WL_guard_yes E rfl rfl ?_
              refine S_v E rfl (R_move E rfl) rfl ?_
              clear E a; intro a E
              refine WL_guard_yes E rfl rfl ?_
              refine S_v E rfl (R_neq E rfl rfl) rfl ?_
              clear E a; intro a E
              refine WL_guard_yes E rfl rfl ?_
              refine S_v E rfl (R_pickF E rfl rfl) rfl ?_
              clear E a; intro a E
              refine WL_guard_yes E rfl rfl ?_
              refine S_v E rfl (R_move E rfl) rfl ?_
              clear E a; intro a E
              have hc_45 : (decide (fiV (fun x => predAt pk1 pn1 pl1 x 0) l0 ≠ fiV (fun x => predAt pk1 pn1 pl1 x 0) l0)) = false := by (clear S E; first | (simp; done) | decide | (simp [predAt]; done) | (rw [hg0]; first | done | rfl | (simp; done)) | (simp only [etk]; first | (simp; done) | (rw [beq_iff_eq.1 (law_any _ _)]; simp; done) | (rw [beq_iff_eq.1 (law_all _ _)]; simp; done) | (rw [fi_any_neg]; simp; done)) | (simp only [etk] at *; first | (rw [getE_inj hv1 (by assumption)]; simp; done) | (rw [getE_inj hv2 (by assumption)]; simp; done)))
              replace E := E.val (t := 178) rfl hc_45
              replace E := E.val (t := 179) rfl hc_45
              replace E := E.val (t := 180) rfl hc_45
              refine WL_guard_yes E rfl rfl ?_
              refine S_v E rfl (R_move E rfl) rfl ?_
              clear E a; intro a E
              refine WL_guard_yes E rfl rfl ?_
              refine S_v E rfl (R_move E rfl) rfl ?_
              clear E a; intro a E
              refine WL_guard_yes E rfl rfl ?_
              refine S_v E rfl (R_neq E rfl rfl) rfl ?_
              clear E a; intro a E
              refine WL_guard_yes E rfl rfl ?_
              refine S_v E rfl (R_pickF E rfl rfl) rfl ?_
              clear E a; intro a E
              refine WL_guard_yes E rfl rfl ?_
              refine S_v E rfl (R_move E rfl) rfl ?_
              clear E a; intro a E
              have hc_46 : (decide (fiV (fun x => predAt pk1 pn1 pl1 x 0) l0 ≠ fiV (fun x => predAt pk1 pn1 pl1 x 0) l0)) = false := by (clear S E; first | (simp; done) | decide | (simp [predAt]; done) | (rw [hg0]; first | done | rfl | (simp; done)) | (simp only [etk]; first | (simp; done) | (rw [beq_iff_eq.1 (law_any _ _)]; simp; done) | (rw [beq_iff_eq.1 (law_all _ _)]; simp; done) | (rw [fi_any_neg]; simp; done)) | (simp only [etk] at *; first | (rw [getE_inj hv1 (by assumption)]; simp; done) | (rw [getE_inj hv2 (by assumption)]; simp; done)))
              replace E := E.val (t := 183) rfl hc_46
              replace E := E.val (t := 184) rfl hc_46
              replace E := E.val (t := 185) rfl hc_46
              refine WL_guard_yes E rfl rfl ?_
              refine S_v E rfl (R_move E rfl) rfl ?_
              clear E a; intro a E
              refine WL_guard_yes E rfl rfl ?_
              refine S_v E rfl (R_move E rfl) rfl ?_
              clear E a; intro a E
              refine WL_guard_yes E rfl rfl ?_
              refine S_v E rfl (R_move E rfl) rfl ?_
              clear E a; intro a E
              obtain ⟨x_47, hx_47⟩ : ∃ x, (l0)[(laI (fun x => predAt pk1 pn1 pl1 x 0) (l0.take k)).toNat]? = some x := ⟨_, List.getElem?_eq_getElem (by first | omega | (simp; done) | (simp; omega) | (simp_all; omega))⟩
              obtain ⟨p_48, hp_48, qp_48⟩ := h0.at hx_47
              refine WL_guard_yes E rfl rfl ?_
              refine S_v E rfl (R_idx E rfl rfl T22 hp_48 (by omega)) rfl ?_
              clear E a; intro a E
              refine WL_guard_yes E rfl rfl ?_
              refine S_v E rfl (R_loadM E rfl Try.isAgg3 S.imm qp_48) rfl ?_
              clear E a; intro a E
              refine WL_guard_yes E rfl rfl ?_
              refine S_v E rfl (R_neq E rfl rfl) rfl ?_
              clear E a; intro a E
              refine WL_guard_yes E rfl rfl ?_
              refine S_v E rfl (R_pickF E rfl rfl) rfl ?_
              clear E a; intro a E
              refine WL_guard_yes E rfl rfl ?_
              refine S_v E rfl (R_move E rfl) rfl ?_
              clear E a; intro a E
              have hc_49 : (decide (laV (fun x => predAt pk1 pn1 pl1 x 0) l0 ≠ x_47)) = false := by (clear S E; first | (simp; done) | decide | (simp [predAt]; done) | (rw [hg0]; first | done | rfl | (simp; done)) | (simp only [etk]; first | (simp; done) | (rw [beq_iff_eq.1 (law_any _ _)]; simp; done) | (rw [beq_iff_eq.1 (law_all _ _)]; simp; done) | (rw [fi_any_neg]; simp; done)) | (simp only [etk] at *; first | (rw [getE_inj hv1 (by assumption)]; simp; done) | (rw [getE_inj hv2 (by assumption)]; simp; done)))
              replace E := E.val (t := 191) rfl hc_49
              replace E := E.val (t := 192) rfl hc_49
              replace E := E.val (t := 193) rfl hc_49
              refine WL_guard_yes E rfl rfl ?_
              refine S_v E rfl (R_move E rfl) rfl ?_
              clear E a; intro a E
              refine WL_guard_yes E rfl rfl ?_
              refine S_v E rfl (R_move E rfl) rfl ?_
              clear E a; intro a E
              refine WL_guard_yes E rfl rfl ?_
              refine S_v E rfl (R_neq E rfl rfl) rfl ?_
              clear E a; intro a E
              refine WL_guard_yes E rfl rfl ?_
              refine S_v E rfl (R_pickF E rfl rfl) rfl ?_
              clear E a; intro a E
              refine S_v E rfl (R_pickT E rfl rfl) rfl ?_
              clear E a; intro a E
              refine WL_nil ?_
              refine T_n ?_
              have hc_50 : (decide (laV (fun x => predAt pk1 pn1 pl1 x 0) l0 ≠ laV (fun x => predAt pk1 pn1 pl1 x 0) l0)) = false := by (clear S E; first | (simp; done) | decide | (simp [predAt]; done) | (rw [hg0]; first | done | rfl | (simp; done)) | (simp only [etk]; first | (simp; done) | (rw [beq_iff_eq.1 (law_any _ _)]; simp; done) | (rw [beq_iff_eq.1 (law_all _ _)]; simp; done) | (rw [fi_any_neg]; simp; done)) | (simp only [etk] at *; first | (rw [getE_inj hv1 (by assumption)]; simp; done) | (rw [getE_inj hv2 (by assumption)]; simp; done)))
              refine WP_condF E rfl hc_50 ?_
              refine WP_skip ?_
              refine T_n ?_
              refine WP_seq ?_
              refine WP_region ?_
              refine S_v E rfl (R_loadGM E rfl (Try.isAgg36 _) (Try.sizeOf36 _) S.imm hb_1) rfl ?_
              clear E a; intro a E
              refine S_x (X_alloc (cs := #[.int .i64 0, .int .i64 0, .slice none 0 0]) E S rfl Try.zeroValue44 rfl ?_)
              clear E a S; rintro a w b_51 E S
              refine S_x0 (X_storeG (us := [.int .i64 pk1, .int .i64 pn1, w1]) E S rfl rfl (Try.sizeOf44 _) rfl (by intro u hu; simp only [List.mem_cons, List.not_mem_nil, or_false] at hu; rcases hu with rfl | rfl | rfl <;> first | exact rfl | exact rfl | exact (RdS.one' hw1)) ?_)
              clear E a S; rintro a w E S
              replace S : St w M_29 (blk b_51 (.cells #[.int .i64 pk1, .int .i64 pn1, w1] 44) :: _) := S
              have S0 := S; clear S
              obtain ⟨M_52, hM_52, hb_53, S⟩ := S0.freezeB
              clear S0
              replace h0 := h0.le hM_52
              replace hw1 := hw1.le hM_52
              replace hb_1 := hM_52.2 _ _ hb_1
              replace hz_8 := hz_8.le hM_52
              replace hv_11 := hv_11.le hM_52
              refine WL_nil ?_
              refine T_n ?_
              refine WP_seq ?_
              refine WP_region ?_
              refine S_v E rfl (R_move E rfl) rfl ?_
              clear E a; intro a E
              refine S_v E rfl (R_loadGM E rfl (Try.isAgg44 _) (Try.sizeOf44 _) S.imm hb_53) rfl ?_
              clear E a; intro a E
              refine S_x (X_pu E S rfl rfl rfl (spec_FindIndexOf h0 hw1 (by omega) (by assumption)) (Hp.le.refl _) ?_)
              clear E a S; rintro a _ w M_54 hM_54 rfl S E
              replace h0 := h0.le hM_54
              replace hw1 := hw1.le hM_54
              replace hb_1 := hM_54.2 _ _ hb_1
              replace hz_8 := hz_8.le hM_54
              replace hv_11 := hv_11.le hM_54
              replace hb_53 := hM_54.2 _ _ hb_53
              refine S_v E rfl (R_move E rfl) rfl ?_
              clear E a; intro a E
              refine S_v E rfl (R_extract E rfl rfl) rfl ?_
              clear E a; intro a E
              refine S_v E rfl (R_extract E rfl rfl) rfl ?_
              clear E a; intro a E
              refine S_v E rfl (R_extract E rfl rfl) rfl ?_
              clear E a; intro a E
              refine S_v E rfl (R_assign E rfl) rfl ?_
              clear E a; intro a E
              refine S_v E rfl (R_assign E rfl) rfl ?_
              clear E a; intro a E
              refine S_v E rfl (R_assign E rfl) rfl ?_
              clear E a; intro a E
              refine WL_nil ?_
              refine T_n ?_
              refine WP_seq ?_
              refine WP_region ?_
              refine S_v E rfl (R_move E rfl) rfl ?_
              clear E a; intro a E
              refine S_v E rfl (R_loadGM E rfl (Try.isAgg44 _) (Try.sizeOf44 _) S.imm hb_53) rfl ?_
              clear E a; intro a E
              refine S_x (X_pu E S rfl rfl rfl (spec_FindLastIndexOf h0 hw1 (by omega) (by assumption)) (Hp.le.refl _) ?_)
              clear E a S; rintro a _ w M_55 hM_55 rfl S E
              replace h0 := h0.le hM_55
              replace hw1 := hw1.le hM_55
              replace hb_1 := hM_55.2 _ _ hb_1
              replace hz_8 := hz_8.le hM_55
              replace hv_11 := hv_11.le hM_55
              replace hb_53 := hM_55.2 _ _ hb_53
              refine S_v E rfl (R_move E rfl) rfl ?_
              clear E a; intro a E
              refine S_v E rfl (R_extract E rfl rfl) rfl ?_
              clear E a; intro a E
              refine S_v E rfl (R_extract E rfl rfl) rfl ?_
              clear E a; intro a E
              refine S_v E rfl (R_extract E rfl rfl) rfl ?_
              clear E a; intro a E
              refine S_v E rfl (R_assign E rfl) rfl ?_
              clear E a; intro a E
              refine S_v E rfl (R_assign E rfl) rfl ?_
              clear E a; intro a E
              refine S_v E rfl (R_assign E rfl) rfl ?_
              clear E a; intro a E
              refine WL_nil ?_
              refine T_n ?_
              refine WP_seq ?_
              refine WP_region ?_
              refine S_v E rfl (R_move E rfl) rfl ?_
              clear E a; intro a E
              refine S_v E rfl (R_loadGM E rfl (Try.isAgg44 _) (Try.sizeOf44 _) S.imm hb_53) rfl ?_
              clear E a; intro a E
              refine S_x (X_pu E S rfl rfl rfl (spec_Find h0 hw1 (by omega) (by assumption)) (Hp.le.refl _) ?_)
              clear E a S; rintro a _ w M_56 hM_56 rfl S E
              replace h0 := h0.le hM_56
              replace hw1 := hw1.le hM_56
              replace hb_1 := hM_56.2 _ _ hb_1
              replace hz_8 := hz_8.le hM_56
              replace hv_11 := hv_11.le hM_56
              replace hb_53 := hM_56.2 _ _ hb_53
              refine S_v E rfl (R_move E rfl) rfl ?_
              clear E a; intro a E
              refine S_v E rfl (R_extract E rfl rfl) rfl ?_
              clear E a; intro a E
              refine S_v E rfl (R_extract E rfl rfl) rfl ?_
              clear E a; intro a E
              refine S_v E rfl (R_assign E rfl) rfl ?_
              clear E a; intro a E
              refine S_v E rfl (R_assign E rfl) rfl ?_
              clear E a; intro a E
              refine WL_nil ?_
              refine T_n ?_
              refine WP_seq ?_
              refine WP_seq ?_
              refine WP_region ?_
              refine S_v E rfl (R_move E rfl) rfl ?_
              clear E a; intro a E
              refine S_v E rfl (R_move E rfl) rfl ?_
              clear E a; intro a E
              refine S_v E rfl (R_neq E rfl rfl) rfl ?_
              clear E a; intro a E
              refine S_v E rfl (R_move E rfl) rfl ?_
              clear E a; intro a E
              have hc_57 : (decide (fiI (fun x => predAt pk1 pn1 pl1 x 0) l0 ≠ fiI (fun x => predAt pk1 pn1 pl1 x 0) (l0.take k))) = false := by (clear S E; first | (simp; done) | decide | (simp [predAt]; done) | (rw [hg0]; first | done | rfl | (simp; done)) | (simp only [etk]; first | (simp; done) | (rw [beq_iff_eq.1 (law_any _ _)]; simp; done) | (rw [beq_iff_eq.1 (law_all _ _)]; simp; done) | (rw [fi_any_neg]; simp; done)) | (simp only [etk] at *; first | (rw [getE_inj hv1 (by assumption)]; simp; done) | (rw [getE_inj hv2 (by assumption)]; simp; done)))
              replace E := E.val (t := 222) rfl hc_57
              replace E := E.val (t := 223) rfl hc_57
              refine WL_guard_yes E rfl rfl ?_
              refine S_v E rfl (R_move E rfl) rfl ?_
              clear E a; intro a E
              refine WL_guard_yes E rfl rfl ?_
              refine S_v E rfl (R_move E rfl) rfl ?_
              clear E a; intro a E
              refine WL_guard_yes E rfl rfl ?_
              refine S_v E rfl (R_neq E rfl rfl) rfl ?_
              clear E a; intro a E
              refine S_v E rfl (R_pickF E rfl rfl) rfl ?_
              clear E a; intro a E
              refine S_v E rfl (R_move E rfl) rfl ?_
              clear E a; intro a E
              have hc_58 : (decide (laI (fun x => predAt pk1 pn1 pl1 x 0) l0 ≠ laI (fun x => predAt pk1 pn1 pl1 x 0) (l0.take k))) = false := by (clear S E; first | (simp; done) | decide | (simp [predAt]; done) | (rw [hg0]; first | done | rfl | (simp; done)) | (simp only [etk]; first | (simp; done) | (rw [beq_iff_eq.1 (law_any _ _)]; simp; done) | (rw [beq_iff_eq.1 (law_all _ _)]; simp; done) | (rw [fi_any_neg]; simp; done)) | (simp only [etk] at *; first | (rw [getE_inj hv1 (by assumption)]; simp; done) | (rw [getE_inj hv2 (by assumption)]; simp; done)))
              replace E := E.val (t := 226) rfl hc_58
              replace E := E.val (t := 227) rfl hc_58
              replace E := E.val (t := 228) rfl hc_58
              refine WL_guard_yes E rfl rfl ?_
              refine S_v E rfl (R_move E rfl) rfl ?_
              clear E a; intro a E
              refine WL_guard_yes E rfl rfl ?_
              refine S_v E rfl (R_move E rfl) rfl ?_
              clear E a; intro a E
              refine WL_guard_yes E rfl rfl ?_
              refine S_v E rfl (R_neqB E rfl rfl Try.underlying4) rfl ?_
              clear E a; intro a E
              refine S_v E rfl (R_pickF E rfl rfl) rfl ?_
              clear E a; intro a E
              refine S_v E rfl (R_move E rfl) rfl ?_
              clear E a; intro a E
              have hc_59 : (!(((l0).any (fun x => predAt pk1 pn1 pl1 x 0)) == true)) = false := by (clear S E; first | (simp; done) | decide | (simp [predAt]; done) | (rw [hg0]; first | done | rfl | (simp; done)) | (simp only [etk]; first | (simp; done) | (rw [beq_iff_eq.1 (law_any _ _)]; simp; done) | (rw [beq_iff_eq.1 (law_all _ _)]; simp; done) | (rw [fi_any_neg]; simp; done)) | (simp only [etk] at *; first | (rw [getE_inj hv1 (by assumption)]; simp; done) | (rw [getE_inj hv2 (by assumption)]; simp; done)))
              replace E := E.val (t := 231) rfl hc_59
              replace E := E.val (t := 232) rfl hc_59
              replace E := E.val (t := 233) rfl hc_59
              refine WL_guard_yes E rfl rfl ?_
              refine S_v E rfl (R_move E rfl) rfl ?_
              clear E a; intro a E
              refine WL_guard_yes E rfl rfl ?_
              refine S_v E rfl (R_move E rfl) rfl ?_
              clear E a; intro a E
              refine WL_guard_yes E rfl rfl ?_
              refine S_v E rfl (R_neqB E rfl rfl Try.underlying4) rfl ?_
              clear E a; intro a E
              refine S_v E rfl (R_pickF E rfl rfl) rfl ?_
              clear E a; intro a E
              refine S_v E rfl (R_move E rfl) rfl ?_
              clear E a; intro a E
              have hc_60 : (!(((l0).any (fun x => predAt pk1 pn1 pl1 x 0)) == true)) = false := by (clear S E; first | (simp; done) | decide | (simp [predAt]; done) | (rw [hg0]; first | done | rfl | (simp; done)) | (simp only [etk]; first | (simp; done) | (rw [beq_iff_eq.1 (law_any _ _)]; simp; done) | (rw [beq_iff_eq.1 (law_all _ _)]; simp; done) | (rw [fi_any_neg]; simp; done)) | (simp only [etk] at *; first | (rw [getE_inj hv1 (by assumption)]; simp; done) | (rw [getE_inj hv2 (by assumption)]; simp; done)))
              replace E := E.val (t := 236) rfl hc_60
              replace E := E.val (t := 237) rfl hc_60
              replace E := E.val (t := 238) rfl hc_60
              refine WL_guard_yes E rfl rfl ?_
              refine S_v E rfl (R_move E rfl) rfl ?_
              clear E a; intro a E
              refine WL_guard_yes E rfl rfl ?_
              refine S_v E rfl (R_move E rfl) rfl ?_
              clear E a; intro a E
              refine WL_guard_yes E rfl rfl ?_
              refine S_v E rfl (R_neqB E rfl rfl Try.underlying4) rfl ?_
              clear E a; intro a E
              refine S_v E rfl (R_pickF E rfl rfl) rfl ?_
              clear E a; intro a E
              refine S_v E rfl (R_move E rfl) rfl ?_
              clear E a; intro a E
              have hc_61 : (!(((l0).any (fun x => predAt pk1 pn1 pl1 x 0)) == true)) = false := by (clear S E; first | (simp; done) | decide | (simp [predAt]; done) | (rw [hg0]; first | done | rfl | (simp; done)) | (simp only [etk]; first | (simp; done) | (rw [beq_iff_eq.1 (law_any _ _)]; simp; done) | (rw [beq_iff_eq.1 (law_all _ _)]; simp; done) | (rw [fi_any_neg]; simp; done)) | (simp only [etk] at *; first | (rw [getE_inj hv1 (by assumption)]; simp; done) | (rw [getE_inj hv2 (by assumption)]; simp; done)))
              replace E := E.val (t := 241) rfl hc_61
              replace E := E.val (t := 242) rfl hc_61
              replace E := E.val (t := 243) rfl hc_61
              refine WL_guard_yes E rfl rfl ?_
              refine S_v E rfl (R_move E rfl) rfl ?_
              clear E a; intro a E
              refine WL_guard_yes E rfl rfl ?_
              refine S_v E rfl (R_move E rfl) rfl ?_
              clear E a; intro a E
              refine WL_guard_yes E rfl rfl ?_
              refine S_v E rfl (R_move E rfl) rfl ?_
              clear E a; intro a E
              refine WL_guard_yes E rfl rfl ?_
              refine S_v E rfl (R_move E rfl) rfl ?_
              clear E a; intro a E
              refine WL_guard_yes E rfl rfl ?_
              refine S_v E rfl (R_move E rfl) rfl ?_
              clear E a; intro a E
              obtain ⟨p_62, hp_62, qp_62⟩ := h0.at hx_41
              refine WL_guard_yes E rfl rfl ?_
              refine S_v E rfl (R_idx E rfl rfl T22 hp_62 (by omega)) rfl ?_
              clear E a; intro a E
              refine WL_guard_yes E rfl rfl ?_
              refine S_v E rfl (R_loadM E rfl Try.isAgg3 S.imm qp_62) rfl ?_
              clear E a; intro a E
              refine WL_guard_yes E rfl rfl ?_
              refine S_v E rfl (R_neq E rfl rfl) rfl ?_
              clear E a; intro a E
              refine WL_guard_yes E rfl rfl ?_
              refine S_v E rfl (R_move E rfl) rfl ?_
              clear E a; intro a E
              have hc_63 : (decide (fiV (fun x => predAt pk1 pn1 pl1 x 0) l0 ≠ x_41)) = false := by (clear S E; first | (simp; done) | decide | (simp [predAt]; done) | (rw [hg0]; first | done | rfl | (simp; done)) | (simp only [etk]; first | (simp; done) | (rw [beq_iff_eq.1 (law_any _ _)]; simp; done) | (rw [beq_iff_eq.1 (law_all _ _)]; simp; done) | (rw [fi_any_neg]; simp; done)) | (simp only [etk] at *; first | (rw [getE_inj hv1 (by assumption)]; simp; done) | (rw [getE_inj hv2 (by assumption)]; simp; done)))
              replace E := E.val (t := 251) rfl hc_63
              replace E := E.val (t := 252) rfl hc_63
              refine WL_guard_yes E rfl rfl ?_
              refine S_v E rfl (R_move E rfl) rfl ?_
              clear E a; intro a E
              refine WL_guard_yes E rfl rfl ?_
              refine S_v E rfl (R_move E rfl) rfl ?_
              clear E a; intro a E
              refine WL_guard_yes E rfl rfl ?_
              refine S_v E rfl (R_move E rfl) rfl ?_
              clear E a; intro a E
              obtain ⟨p_64, hp_64, qp_64⟩ := h0.at hx_47
              refine WL_guard_yes E rfl rfl ?_
              refine S_v E rfl (R_idx E rfl rfl T22 hp_64 (by omega)) rfl ?_
              clear E a; intro a E
              refine WL_guard_yes E rfl rfl ?_
              refine S_v E rfl (R_loadM E rfl Try.isAgg3 S.imm qp_64) rfl ?_
              clear E a; intro a E
              refine WL_guard_yes E rfl rfl ?_
              refine S_v E rfl (R_neq E rfl rfl) rfl ?_
              clear E a; intro a E
              refine WL_guard_yes E rfl rfl ?_
              refine S_v E rfl (R_pickF E rfl rfl) rfl ?_
              clear E a; intro a E
              refine WL_guard_yes E rfl rfl ?_
              refine S_v E rfl (R_move E rfl) rfl ?_
              clear E a; intro a E
              have hc_65 : (decide (laV (fun x => predAt pk1 pn1 pl1 x 0) l0 ≠ x_47)) = false := by (clear S E; first | (simp; done) | decide | (simp [predAt]; done) | (rw [hg0]; first | done | rfl | (simp; done)) | (simp only [etk]; first | (simp; done) | (rw [beq_iff_eq.1 (law_any _ _)]; simp; done) | (rw [beq_iff_eq.1 (law_all _ _)]; simp; done) | (rw [fi_any_neg]; simp; done)) | (simp only [etk] at *; first | (rw [getE_inj hv1 (by assumption)]; simp; done) | (rw [getE_inj hv2 (by assumption)]; simp; done)))
              replace E := E.val (t := 258) rfl hc_65
              replace E := E.val (t := 259) rfl hc_65
              replace E := E.val (t := 260) rfl hc_65
              refine WL_guard_yes E rfl rfl ?_
              refine S_v E rfl (R_move E rfl) rfl ?_
              clear E a; intro a E
              refine WL_guard_yes E rfl rfl ?_
              refine S_v E rfl (R_move E rfl) rfl ?_
              clear E a; intro a E
              refine WL_guard_yes E rfl rfl ?_
              refine S_v E rfl (R_neq E rfl rfl) rfl ?_
              clear E a; intro a E
              refine WL_guard_yes E rfl rfl ?_
              refine S_v E rfl (R_pickF E rfl rfl) rfl ?_
              clear E a; intro a E
              refine WL_guard_yes E rfl rfl ?_
              refine S_v E rfl (R_pickT E rfl rfl) rfl ?_
              clear E a; intro a E
              refine S_v E rfl (R_pickF E rfl rfl) rfl ?_
              clear E a; intro a E
              refine WL_nil ?_
              refine T_n ?_
              have hc_66 : (decide (fiV (fun x => predAt pk1 pn1 pl1 x 0) l0 ≠ fiV (fun x => predAt pk1 pn1 pl1 x 0) l0)) = false := by (clear S E; first | (simp; done) | decide | (simp [predAt]; done) | (rw [hg0]; first | done | rfl | (simp; done)) | (simp only [etk]; first | (simp; done) | (rw [beq_iff_eq.1 (law_any _ _)]; simp; done) | (rw [beq_iff_eq.1 (law_all _ _)]; simp; done) | (rw [fi_any_neg]; simp; done)) | (simp only [etk] at *; first | (rw [getE_inj hv1 (by assumption)]; simp; done) | (rw [getE_inj hv2 (by assumption)]; simp; done)))
              refine WP_condF E rfl hc_66 ?_
              refine WP_skip ?_
              refine T_n ?_
              refine WP_seq ?_
              refine WP_region ?_
              refine S_v E rfl (R_move E rfl) rfl ?_
              clear E a; intro a E
              refine S_v E rfl (R_loadGM E rfl (Try.isAgg44 _) (Try.sizeOf44 _) S.imm hb_53) rfl ?_
              clear E a; intro a E
              refine S_x (X_pu E S rfl rfl rfl (spec_CountBy h0 hw1 (by omega) (by assumption)) (Hp.le.refl _) ?_)
              clear E a S; rintro a _ w M_67 hM_67 rfl S E
              replace h0 := h0.le hM_67
              replace hw1 := hw1.le hM_67
              replace hb_1 := hM_67.2 _ _ hb_1
              replace hz_8 := hz_8.le hM_67
              replace hv_11 := hv_11.le hM_67
              replace hb_53 := hM_67.2 _ _ hb_53
              refine S_v E rfl (R_move E rfl) rfl ?_
              clear E a; intro a E
              refine S_v E rfl (R_eql E rfl rfl) rfl ?_
              clear E a; intro a E
              refine S_v E rfl (R_move E rfl) rfl ?_
              clear E a; intro a E
              have hc_68 : (decide ((((l0).countP (fun x => predAt pk1 pn1 pl1 x 0) : Nat) : Int) = (((l0.take k).countP (fun x => predAt pk1 pn1 pl1 x 0) : Nat) : Int))) = true := by (clear S E; first | (simp; done) | decide | (simp [predAt]; done) | (rw [hg0]; first | done | rfl | (simp; done)) | (simp only [etk]; first | (simp; done) | (rw [beq_iff_eq.1 (law_any _ _)]; simp; done) | (rw [beq_iff_eq.1 (law_all _ _)]; simp; done) | (rw [fi_any_neg]; simp; done)) | (simp only [etk] at *; first | (rw [getE_inj hv1 (by assumption)]; simp; done) | (rw [getE_inj hv2 (by assumption)]; simp; done)))
              replace E := E.val (t := 271) rfl hc_68
              replace E := E.val (t := 272) rfl hc_68
              refine WL_guard_yes E rfl rfl ?_
              refine S_v E rfl (R_move E rfl) rfl ?_
              clear E a; intro a E
              refine WL_guard_yes E rfl rfl ?_
              refine S_v E rfl (R_loadGM E rfl (Try.isAgg44 _) (Try.sizeOf44 _) S.imm hb_53) rfl ?_
              clear E a; intro a E
              refine WL_guard_yes E rfl rfl ?_
              refine S_x (X_pu E S rfl rfl rfl (spec_EveryBy h0 hw1 (by omega) (by assumption)) (Hp.le.refl _) ?_)
              clear E a S; rintro a _ w M_69 hM_69 rfl S E
              replace h0 := h0.le hM_69
              replace hw1 := hw1.le hM_69
              replace hb_1 := hM_69.2 _ _ hb_1
              replace hz_8 := hz_8.le hM_69
              replace hv_11 := hv_11.le hM_69
              replace hb_53 := hM_69.2 _ _ hb_53
              refine WL_guard_yes E rfl rfl ?_
              refine S_v E rfl (R_move E rfl) rfl ?_
              clear E a; intro a E
              refine WL_guard_yes E rfl rfl ?_
              refine S_v E rfl (R_move E rfl) rfl ?_
              clear E a; intro a E
              refine WL_guard_yes E rfl rfl ?_
              refine S_v E rfl (R_lenV E rfl T22 h0.len) rfl ?_
              clear E a; intro a E
              refine WL_guard_yes E rfl rfl ?_
              refine S_v E rfl (R_eql E rfl rfl) rfl ?_
              clear E a; intro a E
              refine WL_guard_yes E rfl rfl ?_
              refine S_v E rfl (R_eqlB E rfl rfl Try.underlying4) rfl ?_
              clear E a; intro a E
              refine S_v E rfl (R_pickT E rfl rfl) rfl ?_
              clear E a; intro a E
              refine S_v E rfl (R_move E rfl) rfl ?_
              clear E a; intro a E
              have hc_70 : (((l0).all (fun x => predAt pk1 pn1 pl1 x 0)) == (decide ((((l0.take k).countP (fun x => predAt pk1 pn1 pl1 x 0) : Nat) : Int) = (((l0).length : Nat) : Int)))) = true := by (clear S E; first | (simp; done) | decide | (simp [predAt]; done) | (rw [hg0]; first | done | rfl | (simp; done)) | (simp only [etk]; first | (simp; done) | (rw [beq_iff_eq.1 (law_any _ _)]; simp; done) | (rw [beq_iff_eq.1 (law_all _ _)]; simp; done) | (rw [fi_any_neg]; simp; done)) | (simp only [etk] at *; first | (rw [getE_inj hv1 (by assumption)]; simp; done) | (rw [getE_inj hv2 (by assumption)]; simp; done)))
              replace E := E.val (t := 280) rfl hc_70
              replace E := E.val (t := 281) rfl hc_70
              replace E := E.val (t := 282) rfl hc_70
              refine WL_guard_yes E rfl rfl ?_
              refine S_v E rfl (R_move E rfl) rfl ?_
              clear E a; intro a E
              refine WL_guard_yes E rfl rfl ?_
              refine S_v E rfl (R_loadGM E rfl (Try.isAgg44 _) (Try.sizeOf44 _) S.imm hb_53) rfl ?_
              clear E a; intro a E
              refine WL_guard_yes E rfl rfl ?_
              refine S_x (X_pu E S rfl rfl rfl (spec_SomeBy h0 hw1 (by omega) (by assumption)) (Hp.le.refl _) ?_)
              clear E a S; rintro a _ w M_71 hM_71 rfl S E
              replace h0 := h0.le hM_71
              replace hw1 := hw1.le hM_71
              replace hb_1 := hM_71.2 _ _ hb_1
              replace hz_8 := hz_8.le hM_71
              replace hv_11 := hv_11.le hM_71
              replace hb_53 := hM_71.2 _ _ hb_53
              refine WL_guard_yes E rfl rfl ?_
              refine S_v E rfl (R_move E rfl) rfl ?_
              clear E a; intro a E
              refine WL_guard_yes E rfl rfl ?_
              refine S_v E rfl (R_eqlB E rfl rfl Try.underlying4) rfl ?_
              clear E a; intro a E
              refine S_v E rfl (R_pickT E rfl rfl) rfl ?_
              clear E a; intro a E
              refine S_v E rfl (R_move E rfl) rfl ?_
              clear E a; intro a E
              have hc_72 : (((l0).any (fun x => predAt pk1 pn1 pl1 x 0)) == true) = true := by (clear S E; first | (simp; done) | decide | (simp [predAt]; done) | (rw [hg0]; first | done | rfl | (simp; done)) | (simp only [etk]; first | (simp; done) | (rw [beq_iff_eq.1 (law_any _ _)]; simp; done) | (rw [beq_iff_eq.1 (law_all _ _)]; simp; done) | (rw [fi_any_neg]; simp; done)) | (simp only [etk] at *; first | (rw [getE_inj hv1 (by assumption)]; simp; done) | (rw [getE_inj hv2 (by assumption)]; simp; done)))
              replace E := E.val (t := 287) rfl hc_72
              replace E := E.val (t := 288) rfl hc_72
              replace E := E.val (t := 289) rfl hc_72
              refine WL_guard_yes E rfl rfl ?_
              refine S_v E rfl (R_move E rfl) rfl ?_
              clear E a; intro a E
              refine WL_guard_yes E rfl rfl ?_
              refine S_v E rfl (R_loadGM E rfl (Try.isAgg44 _) (Try.sizeOf44 _) S.imm hb_53) rfl ?_
              clear E a; intro a E
              refine WL_guard_yes E rfl rfl ?_
              refine S_x (X_pu E S rfl rfl rfl (spec_NoneBy h0 hw1 (by omega) (by assumption)) (Hp.le.refl _) ?_)
              clear E a S; rintro a _ w M_73 hM_73 rfl S E
              replace h0 := h0.le hM_73
              replace hw1 := hw1.le hM_73
              replace hb_1 := hM_73.2 _ _ hb_1
              replace hz_8 := hz_8.le hM_73
              replace hv_11 := hv_11.le hM_73
              replace hb_53 := hM_73.2 _ _ hb_53
              refine WL_guard_yes E rfl rfl ?_
              refine S_v E rfl (R_move E rfl) rfl ?_
              clear E a; intro a E
              refine WL_guard_yes E rfl rfl ?_
              refine S_v E rfl (R_not E rfl) rfl ?_
              clear E a; intro a E
              refine WL_guard_yes E rfl rfl ?_
              refine S_v E rfl (R_eqlB E rfl rfl Try.underlying4) rfl ?_
              clear E a; intro a E
              refine S_v E rfl (R_pickT E rfl rfl) rfl ?_
              clear E a; intro a E
              refine S_v E rfl (R_move E rfl) rfl ?_
              clear E a; intro a E
              have hc_74 : ((!((l0).any (fun x => predAt pk1 pn1 pl1 x 0))) == (!true)) = true := by (clear S E; first | (simp; done) | decide | (simp [predAt]; done) | (rw [hg0]; first | done | rfl | (simp; done)) | (simp only [etk]; first | (simp; done) | (rw [beq_iff_eq.1 (law_any _ _)]; simp; done) | (rw [beq_iff_eq.1 (law_all _ _)]; simp; done) | (rw [fi_any_neg]; simp; done)) | (simp only [etk] at *; first | (rw [getE_inj hv1 (by assumption)]; simp; done) | (rw [getE_inj hv2 (by assumption)]; simp; done)))
              replace E := E.val (t := 295) rfl hc_74
              replace E := E.val (t := 296) rfl hc_74
              replace E := E.val (t := 297) rfl hc_74
              refine WL_guard_yes E rfl rfl ?_
              refine S_v E rfl (R_move E rfl) rfl ?_
              clear E a; intro a E
              refine WL_guard_yes E rfl rfl ?_
              refine S_v E rfl (R_loadGM E rfl (Try.isAgg36 _) (Try.sizeOf36 _) S.imm hb_1) rfl ?_
              clear E a; intro a E
              refine WL_guard_yes E rfl rfl ?_
              refine S_x (X_pu E S rfl rfl rfl (impl_CountBy h0 hw1 (by omega)) (Hp.le.refl _) ?_)
              clear E a S; rintro a _ w M_75 hM_75 rfl S E
              replace h0 := h0.le hM_75
              replace hw1 := hw1.le hM_75
              replace hb_1 := hM_75.2 _ _ hb_1
              replace hz_8 := hz_8.le hM_75
              replace hv_11 := hv_11.le hM_75
              replace hb_53 := hM_75.2 _ _ hb_53
              refine WL_guard_yes E rfl rfl ?_
              refine S_v E rfl (R_move E rfl) rfl ?_
              clear E a; intro a E
              refine WL_guard_yes E rfl rfl ?_
              refine S_v E rfl (R_eql E rfl rfl) rfl ?_
              clear E a; intro a E
              refine S_v E rfl (R_pickT E rfl rfl) rfl ?_
              clear E a; intro a E
              refine S_v E rfl (R_move E rfl) rfl ?_
              clear E a; intro a E
              have hc_76 : (decide ((((l0).countP (fun x => predAt pk1 pn1 pl1 x 0) : Nat) : Int) = (((l0.take k).countP (fun x => predAt pk1 pn1 pl1 x 0) : Nat) : Int))) = true := by (clear S E; first | (simp; done) | decide | (simp [predAt]; done) | (rw [hg0]; first | done | rfl | (simp; done)) | (simp only [etk]; first | (simp; done) | (rw [beq_iff_eq.1 (law_any _ _)]; simp; done) | (rw [beq_iff_eq.1 (law_all _ _)]; simp; done) | (rw [fi_any_neg]; simp; done)) | (simp only [etk] at *; first | (rw [getE_inj hv1 (by assumption)]; simp; done) | (rw [getE_inj hv2 (by assumption)]; simp; done)))
              replace E := E.val (t := 302) rfl hc_76
              replace E := E.val (t := 303) rfl hc_76
              replace E := E.val (t := 304) rfl hc_76
              refine WL_guard_yes E rfl rfl ?_
              refine S_v E rfl (R_move E rfl) rfl ?_
              clear E a; intro a E
              refine WL_guard_yes E rfl rfl ?_
              refine S_v E rfl (R_loadGM E rfl (Try.isAgg36 _) (Try.sizeOf36 _) S.imm hb_1) rfl ?_
              clear E a; intro a E
              refine WL_guard_yes E rfl rfl ?_
              refine S_x (X_pu E S rfl rfl rfl (impl_CountBySeq h0 hw1 (by omega) (by (first | omega | (simp; omega) | (simp; done) | (simp_all; omega) | grind))) (Hp.le.refl _) ?_)
              clear E a S; rintro a _ w M_77 hM_77 rfl S E
              replace h0 := h0.le hM_77
              replace hw1 := hw1.le hM_77
              replace hb_1 := hM_77.2 _ _ hb_1
              replace hz_8 := hz_8.le hM_77
              replace hv_11 := hv_11.le hM_77
              replace hb_53 := hM_77.2 _ _ hb_53
              refine WL_guard_yes E rfl rfl ?_
              refine S_v E rfl (R_move E rfl) rfl ?_
              clear E a; intro a E
              refine WL_guard_yes E rfl rfl ?_
              refine S_v E rfl (R_eql E rfl rfl) rfl ?_
              clear E a; intro a E
              refine S_v E rfl (R_pickT E rfl rfl) rfl ?_
              clear E a; intro a E
              refine S_v E rfl (R_move E rfl) rfl ?_
              clear E a; intro a E
              have hc_78 : (decide ((((l0).countP (fun x => predAt pk1 pn1 pl1 x 0) : Nat) : Int) = (((l0.take k).countP (fun x => predAt pk1 pn1 pl1 x 0) : Nat) : Int))) = true := by (clear S E; first | (simp; done) | decide | (simp [predAt]; done) | (rw [hg0]; first | done | rfl | (simp; done)) | (simp only [etk]; first | (simp; done) | (rw [beq_iff_eq.1 (law_any _ _)]; simp; done) | (rw [beq_iff_eq.1 (law_all _ _)]; simp; done) | (rw [fi_any_neg]; simp; done)) | (simp only [etk] at *; first | (rw [getE_inj hv1 (by assumption)]; simp; done) | (rw [getE_inj hv2 (by assumption)]; simp; done)))
              replace E := E.val (t := 309) rfl hc_78
              replace E := E.val (t := 310) rfl hc_78
              replace E := E.val (t := 311) rfl hc_78
              refine WL_guard_yes E rfl rfl ?_
              refine S_v E rfl (R_move E rfl) rfl ?_
              clear E a; intro a E
              refine WL_guard_yes E rfl rfl ?_
              refine S_v E rfl (R_loadGM E rfl (Try.isAgg36 _) (Try.sizeOf36 _) S.imm hb_1) rfl ?_
              clear E a; intro a E
              refine WL_guard_yes E rfl rfl ?_
              refine S_x (X_pu E S rfl rfl rfl (impl_EveryBy h0 hw1 (by omega)) (Hp.le.refl _) ?_)
              clear E a S; rintro a _ w M_79 hM_79 rfl S E
              replace h0 := h0.le hM_79
              replace hw1 := hw1.le hM_79
              replace hb_1 := hM_79.2 _ _ hb_1
              replace hz_8 := hz_8.le hM_79
              replace hv_11 := hv_11.le hM_79
              replace hb_53 := hM_79.2 _ _ hb_53
              refine WL_guard_yes E rfl rfl ?_
              refine S_v E rfl (R_move E rfl) rfl ?_
              clear E a; intro a E
              refine WL_guard_yes E rfl rfl ?_
              refine S_v E rfl (R_move E rfl) rfl ?_
              clear E a; intro a E
              refine WL_guard_yes E rfl rfl ?_
              refine S_v E rfl (R_lenV E rfl T22 h0.len) rfl ?_
              clear E a; intro a E
              refine WL_guard_yes E rfl rfl ?_
              refine S_v E rfl (R_eql E rfl rfl) rfl ?_
              clear E a; intro a E
              refine WL_guard_yes E rfl rfl ?_
              refine S_v E rfl (R_eqlB E rfl rfl Try.underlying4) rfl ?_
              clear E a; intro a E
              refine S_v E rfl (R_pickT E rfl rfl) rfl ?_
              clear E a; intro a E
              refine S_v E rfl (R_move E rfl) rfl ?_
              clear E a; intro a E
              have hc_80 : (((l0).all (fun x => predAt pk1 pn1 pl1 x 0)) == (decide ((((l0.take k).countP (fun x => predAt pk1 pn1 pl1 x 0) : Nat) : Int) = (((l0).length : Nat) : Int)))) = true := by (clear S E; first | (simp; done) | decide | (simp [predAt]; done) | (rw [hg0]; first | done | rfl | (simp; done)) | (simp only [etk]; first | (simp; done) | (rw [beq_iff_eq.1 (law_any _ _)]; simp; done) | (rw [beq_iff_eq.1 (law_all _ _)]; simp; done) | (rw [fi_any_neg]; simp; done)) | (simp only [etk] at *; first | (rw [getE_inj hv1 (by assumption)]; simp; done) | (rw [getE_inj hv2 (by assumption)]; simp; done)))
              replace E := E.val (t := 319) rfl hc_80
              replace E := E.val (t := 320) rfl hc_80
              replace E := E.val (t := 321) rfl hc_80
              refine WL_guard_yes E rfl rfl ?_
              refine S_v E rfl (R_move E rfl) rfl ?_
              clear E a; intro a E
              refine WL_guard_yes E rfl rfl ?_
              refine S_v E rfl (R_loadGM E rfl (Try.isAgg36 _) (Try.sizeOf36 _) S.imm hb_1) rfl ?_
              clear E a; intro a E
              refine WL_guard_yes E rfl rfl ?_
              refine S_x (X_pu E S rfl rfl rfl (impl_SomeBy h0 hw1 (by omega)) (Hp.le.refl _) ?_)
              clear E a S; rintro a _ w M_81 hM_81 rfl S E
              replace h0 := h0.le hM_81
              replace hw1 := hw1.le hM_81
              replace hb_1 := hM_81.2 _ _ hb_1
              replace hz_8 := hz_8.le hM_81
              replace hv_11 := hv_11.le hM_81
              replace hb_53 := hM_81.2 _ _ hb_53
              refine WL_guard_yes E rfl rfl ?_
              refine S_v E rfl (R_move E rfl) rfl ?_
              clear E a; intro a E
              refine WL_guard_yes E rfl rfl ?_
              refine S_v E rfl (R_eqlB E rfl rfl Try.underlying4) rfl ?_
              clear E a; intro a E
              refine S_v E rfl (R_pickT E rfl rfl) rfl ?_
              clear E a; intro a E
              refine S_v E rfl (R_move E rfl) rfl ?_
              clear E a; intro a E
              have hc_82 : (((l0).any (fun x => predAt pk1 pn1 pl1 x 0)) == true) = true := by (clear S E; first | (simp; done) | decide | (simp [predAt]; done) | (rw [hg0]; first | done | rfl | (simp; done)) | (simp only [etk]; first | (simp; done) | (rw [beq_iff_eq.1 (law_any _ _)]; simp; done) | (rw [beq_iff_eq.1 (law_all _ _)]; simp; done) | (rw [fi_any_neg]; simp; done)) | (simp only [etk] at *; first | (rw [getE_inj hv1 (by assumption)]; simp; done) | (rw [getE_inj hv2 (by assumption)]; simp; done)))
              replace E := E.val (t := 326) rfl hc_82
              replace E := E.val (t := 327) rfl hc_82
              replace E := E.val (t := 328) rfl hc_82
              refine WL_guard_yes E rfl rfl ?_
              refine S_v E rfl (R_move E rfl) rfl ?_
              clear E a; intro a E
              refine WL_guard_yes E rfl rfl ?_
              refine S_v E rfl (R_loadGM E rfl (Try.isAgg36 _) (Try.sizeOf36 _) S.imm hb_1) rfl ?_
              clear E a; intro a E
              refine WL_guard_yes E rfl rfl ?_
              refine S_x (X_pu E S rfl rfl rfl (impl_NoneBy h0 hw1 (by omega)) (Hp.le.refl _) ?_)
              clear E a S; rintro a _ w M_83 hM_83 rfl S E
              replace h0 := h0.le hM_83
              replace hw1 := hw1.le hM_83
              replace hb_1 := hM_83.2 _ _ hb_1
              replace hz_8 := hz_8.le hM_83
              replace hv_11 := hv_11.le hM_83
              replace hb_53 := hM_83.2 _ _ hb_53
              refine WL_guard_yes E rfl rfl ?_
              refine S_v E rfl (R_move E rfl) rfl ?_
              clear E a; intro a E
              refine WL_guard_yes E rfl rfl ?_
              refine S_v E rfl (R_not E rfl) rfl ?_
              clear E a; intro a E
              refine WL_guard_yes E rfl rfl ?_
              refine S_v E rfl (R_eqlB E rfl rfl Try.underlying4) rfl ?_
              clear E a; intro a E
              refine S_v E rfl (R_pickT E rfl rfl) rfl ?_
              clear E a; intro a E
              refine S_v E rfl (R_move E rfl) rfl ?_
              clear E a; intro a E
              have hc_84 : ((!((l0).any (fun x => predAt pk1 pn1 pl1 x 0))) == (!true)) = true := by (clear S E; first | (simp; done) | decide | (simp [predAt]; done) | (rw [hg0]; first | done | rfl | (simp; done)) | (simp only [etk]; first | (simp; done) | (rw [beq_iff_eq.1 (law_any _ _)]; simp; done) | (rw [beq_iff_eq.1 (law_all _ _)]; simp; done) | (rw [fi_any_neg]; simp; done)) | (simp only [etk] at *; first | (rw [getE_inj hv1 (by assumption)]; simp; done) | (rw [getE_inj hv2 (by assumption)]; simp; done)))
              replace E := E.val (t := 334) rfl hc_84
              replace E := E.val (t := 335) rfl hc_84
              replace E := E.val (t := 336) rfl hc_84
              refine WL_guard_yes E rfl rfl ?_
              refine S_v E rfl (R_move E rfl) rfl ?_
              clear E a; intro a E
              refine WL_guard_yes E rfl rfl ?_
              refine S_v E rfl (R_loadGM E rfl (Try.isAgg36 _) (Try.sizeOf36 _) S.imm hb_1) rfl ?_
              clear E a; intro a E
              refine WL_guard_yes E rfl rfl ?_
              refine S_x (X_pu E S rfl rfl rfl (impl_EveryBySeq h0 hw1 (by omega)) (Hp.le.refl _) ?_)
              clear E a S; rintro a _ w M_85 hM_85 rfl S E
              replace h0 := h0.le hM_85
              replace hw1 := hw1.le hM_85
              replace hb_1 := hM_85.2 _ _ hb_1
              replace hz_8 := hz_8.le hM_85
              replace hv_11 := hv_11.le hM_85
              replace hb_53 := hM_85.2 _ _ hb_53
              refine WL_guard_yes E rfl rfl ?_
              refine S_v E rfl (R_move E rfl) rfl ?_
              clear E a; intro a E
              refine WL_guard_yes E rfl rfl ?_
              refine S_v E rfl (R_move E rfl) rfl ?_
              clear E a; intro a E
              refine WL_guard_yes E rfl rfl ?_
              refine S_v E rfl (R_lenV E rfl T22 h0.len) rfl ?_
              clear E a; intro a E
              refine WL_guard_yes E rfl rfl ?_
              refine S_v E rfl (R_eql E rfl rfl) rfl ?_
              clear E a; intro a E
              refine WL_guard_yes E rfl rfl ?_
              refine S_v E rfl (R_eqlB E rfl rfl Try.underlying4) rfl ?_
              clear E a; intro a E
              refine S_v E rfl (R_pickT E rfl rfl) rfl ?_
              clear E a; intro a E
              refine S_v E rfl (R_move E rfl) rfl ?_
              clear E a; intro a E
              have hc_86 : (((l0).all (fun x => predAt pk1 pn1 pl1 x 0)) == (decide ((((l0.take k).countP (fun x => predAt pk1 pn1 pl1 x 0) : Nat) : Int) = (((l0).length : Nat) : Int)))) = true := by (clear S E; first | (simp; done) | decide | (simp [predAt]; done) | (rw [hg0]; first | done | rfl | (simp; done)) | (simp only [etk]; first | (simp; done) | (rw [beq_iff_eq.1 (law_any _ _)]; simp; done) | (rw [beq_iff_eq.1 (law_all _ _)]; simp; done) | (rw [fi_any_neg]; simp; done)) | (simp only [etk] at *; first | (rw [getE_inj hv1 (by assumption)]; simp; done) | (rw [getE_inj hv2 (by assumption)]; simp; done)))
              replace E := E.val (t := 344) rfl hc_86
              replace E := E.val (t := 345) rfl hc_86
              replace E := E.val (t := 346) rfl hc_86
              refine WL_guard_yes E rfl rfl ?_
              refine S_v E rfl (R_move E rfl) rfl ?_
              clear E a; intro a E
              refine WL_guard_yes E rfl rfl ?_
              refine S_v E rfl (R_loadGM E rfl (Try.isAgg36 _) (Try.sizeOf36 _) S.imm hb_1) rfl ?_
              clear E a; intro a E
              refine WL_guard_yes E rfl rfl ?_
              refine S_x (X_pu E S rfl rfl rfl (impl_SomeBySeq h0 hw1 (by omega)) (Hp.le.refl _) ?_)
              clear E a S; rintro a _ w M_87 hM_87 rfl S E
              replace h0 := h0.le hM_87
              replace hw1 := hw1.le hM_87
              replace hb_1 := hM_87.2 _ _ hb_1
              replace hz_8 := hz_8.le hM_87
              replace hv_11 := hv_11.le hM_87
              replace hb_53 := hM_87.2 _ _ hb_53
              refine WL_guard_yes E rfl rfl ?_
              refine S_v E rfl (R_move E rfl) rfl ?_
              clear E a; intro a E
              refine WL_guard_yes E rfl rfl ?_
              refine S_v E rfl (R_eqlB E rfl rfl Try.underlying4) rfl ?_
              clear E a; intro a E
              refine S_v E rfl (R_pickT E rfl rfl) rfl ?_
              clear E a; intro a E
              refine S_v E rfl (R_move E rfl) rfl ?_
              clear E a; intro a E
              have hc_88 : (((l0).any (fun x => predAt pk1 pn1 pl1 x 0)) == true) = true := by (clear S E; first | (simp; done) | decide | (simp [predAt]; done) | (rw [hg0]; first | done | rfl | (simp; done)) | (simp only [etk]; first | (simp; done) | (rw [beq_iff_eq.1 (law_any _ _)]; simp; done) | (rw [beq_iff_eq.1 (law_all _ _)]; simp; done) | (rw [fi_any_neg]; simp; done)) | (simp only [etk] at *; first | (rw [getE_inj hv1 (by assumption)]; simp; done) | (rw [getE_inj hv2 (by assumption)]; simp; done)))
              replace E := E.val (t := 351) rfl hc_88
              replace E := E.val (t := 352) rfl hc_88
              replace E := E.val (t := 353) rfl hc_88
              refine WL_guard_yes E rfl rfl ?_
              refine S_v E rfl (R_move E rfl) rfl ?_
              clear E a; intro a E
              refine WL_guard_yes E rfl rfl ?_
              refine S_v E rfl (R_loadGM E rfl (Try.isAgg36 _) (Try.sizeOf36 _) S.imm hb_1) rfl ?_
              clear E a; intro a E
              refine WL_guard_yes E rfl rfl ?_
              refine S_x (X_pu E S rfl rfl rfl (impl_NoneBySeq h0 hw1 (by omega)) (Hp.le.refl _) ?_)
              clear E a S; rintro a _ w M_89 hM_89 rfl S E
              replace h0 := h0.le hM_89
              replace hw1 := hw1.le hM_89
              replace hb_1 := hM_89.2 _ _ hb_1
              replace hz_8 := hz_8.le hM_89
              replace hv_11 := hv_11.le hM_89
              replace hb_53 := hM_89.2 _ _ hb_53
              refine WL_guard_yes E rfl rfl ?_
              refine S_v E rfl (R_move E rfl) rfl ?_
              clear E a; intro a E
              refine WL_guard_yes E rfl rfl ?_
              refine S_v E rfl (R_not E rfl) rfl ?_
              clear E a; intro a E
              refine WL_guard_yes E rfl rfl ?_
              refine S_v E rfl (R_eqlB E rfl rfl Try.underlying4) rfl ?_
              clear E a; intro a E
              refine S_v E rfl (R_pickT E rfl rfl) rfl ?_
              clear E a; intro a E
              refine S_v E rfl (R_assign E rfl) rfl ?_
              clear E a; intro a E
              refine WL_nil ?_
              refine T_n ?_
              refine WP_ret ?_
              exact F_ret1 E Try.results4 rfl ⟨_, rfl, M_89, (hM_2.trans (hM_4.trans (hM_7.trans (hM_9.trans (hM_12.trans (hM_13.trans (hM_15.trans (hM_17.trans (hM_24.trans (hM_25.trans (hM_26.trans (hM_27.trans (hM_28.trans (hM_29.trans (hM_52.trans (hM_54.trans (hM_55.trans (hM_56.trans (hM_67.trans (hM_69.trans (hM_71.trans (hM_73.trans (hM_75.trans (hM_77.trans (hM_79.trans (hM_81.trans (hM_83.trans (hM_85.trans (hM_87.trans hM_89))))))))))))))))))))))))))))), (congrArg Value.bool (by (clear S E; first | (simp; done) | decide | (simp [predAt]; done) | (rw [hg0]; first | done | rfl | (simp; done)) | (simp only [etk]; first | (simp; done) | (rw [beq_iff_eq.1 (law_any _ _)]; simp; done) | (rw [beq_iff_eq.1 (law_all _ _)]; simp; done) | (rw [fi_any_neg]; simp; done)) | (simp only [etk] at *; first | (rw [getE_inj hv1 (by assumption)]; simp; done) | (rw [getE_inj hv2 (by assumption)]; simp; done))))), S⟩
            · replace E := E.val (t := 79) rfl hc_40
              replace E := E.val (t := 12) rfl hc_40
              replace E := E.val (t := 86) rfl hc_40
              replace E := E.val (t := 15) rfl hc_40
              replace E := E.val (t := 92) rfl hc_40
              replace E := E.val (t := 17) rfl hc_40
              replace E := E.val (t := 99) rfl hc_40
              replace E := E.val (t := 20) rfl hc_40
              replace E := E.val (t := 106) rfl hc_40
              replace E := E.val (t := 23) rfl hc_40
              replace E := E.val (t := 112) rfl hc_40
              replace E := E.val (t := 25) rfl hc_40
              replace E := E.val (t := 132) rfl hc_40
              replace E := E.val (t := 138) rfl hc_40
              replace E := E.val (t := 139) rfl hc_40
              replace E := E.val (t := 143) rfl hc_40
              replace E := E.val (t := 144) rfl hc_40
              replace E := E.val (t := 148) rfl hc_40
              replace E := E.val (t := 149) rfl hc_40
              replace E := E.val (t := 153) rfl hc_40
              replace E := E.val (t := 154) rfl hc_40
              replace E := E.val (t := 158) rfl hc_40
              replace E := E.val (t := 159) rfl hc_40
              replace E := E.val (t := 162) rfl hc_40
              replace E := E.val (t := 163) rfl hc_40
              have hg0 := hc_40
              refine WL_guard_no E rfl rfl rfl rfl fun a E => ?_
              refine WL_guard_no E rfl rfl rfl rfl fun a E => ?_
              refine WL_guard_no E rfl rfl rfl rfl fun a E => ?_
              refine WL_guard_no E rfl rfl rfl rfl fun a E => ?_
              refine WL_guard_no E rfl rfl rfl rfl fun a E => ?_
              refine WL_guard_no E rfl rfl rfl rfl fun a E => ?_
              refine WL_guard_no E rfl rfl rfl rfl fun a E => ?_
              refine WL_guard_un E rfl rfl rfl fun a E => ?_
              refine WL_guard_un E rfl rfl rfl fun a E => ?_
              refine WL_guard_un E rfl rfl rfl fun a E => ?_
              refine WL_guard_no E rfl rfl rfl rfl fun a E => ?_
              refine WL_guard_no E rfl rfl rfl rfl fun a E => ?_
              refine WL_guard_un E rfl rfl rfl fun a E => ?_
              refine WL_guard_un E rfl rfl rfl fun a E => ?_
              refine WL_guard_un E rfl rfl rfl fun a E => ?_
              refine WL_guard_no E rfl rfl rfl rfl fun a E => ?_
              refine WL_guard_no E rfl rfl rfl rfl fun a E => ?_
              refine WL_guard_un E rfl rfl rfl fun a E => ?_
              refine WL_guard_un E rfl rfl rfl fun a E => ?_
              refine WL_guard_un E rfl rfl rfl fun a E => ?_
              refine WL_guard_no E rfl rfl rfl rfl fun a E => ?_
              refine WL_guard_no E rfl rfl rfl rfl fun a E => ?_
              refine WL_guard_un E rfl rfl rfl fun a E => ?_
              refine WL_guard_un E rfl rfl rfl fun a E => ?_
              refine WL_guard_un E rfl rfl rfl fun a E => ?_
              refine WL_guard_un E rfl rfl rfl fun a E => ?_
              refine WL_guard_un E rfl rfl rfl fun a E => ?_
              refine WL_guard_un E rfl rfl rfl fun a E => ?_
              refine WL_guard_no E rfl rfl rfl rfl fun a E => ?_
              refine WL_guard_no E rfl rfl rfl rfl fun a E => ?_
              refine WL_guard_un E rfl rfl rfl fun a E => ?_
              refine WL_guard_un E rfl rfl rfl fun a E => ?_
              refine WL_guard_un E rfl rfl rfl fun a E => ?_
              refine WL_guard_no E rfl rfl rfl rfl fun a E => ?_
              refine S_v E rfl (R_pickF E rfl rfl) rfl ?_
              clear E a; intro a E
              refine WL_nil ?_
              refine T_n ?_
              refine WP_condF E rfl rfl ?_
              refine WP_skip ?_
              refine T_n ?_
              refine WP_seq ?_
              refine WP_region ?_
              refine S_v E rfl (R_loadGM E rfl (Try.isAgg36 _) (Try.sizeOf36 _) S.imm hb_1) rfl ?_
              clear E a; intro a E
              refine S_x (X_alloc (cs := #[.int .i64 0, .int .i64 0, .slice none 0 0]) E S rfl Try.zeroValue44 rfl ?_)
              clear E a S; rintro a w b_90 E S
              refine S_x0 (X_storeG (us := [.int .i64 pk1, .int .i64 pn1, w1]) E S rfl rfl (Try.sizeOf44 _) rfl (by intro u hu; simp only [List.mem_cons, List.not_mem_nil, or_false] at hu; rcases hu with rfl | rfl | rfl <;> first | exact rfl | exact rfl | exact (RdS.one' hw1)) ?_)
              clear E a S; rintro a w E S
              replace S : St w M_29 (blk b_90 (.cells #[.int .i64 pk1, .int .i64 pn1, w1] 44) :: _) := S
              have S0 := S; clear S
              obtain ⟨M_91, hM_91, hb_92, S⟩ := S0.freezeB
              clear S0
              replace h0 := h0.le hM_91
              replace hw1 := hw1.le hM_91
              replace hb_1 := hM_91.2 _ _ hb_1
              replace hz_8 := hz_8.le hM_91
              replace hv_11 := hv_11.le hM_91
              refine WL_nil ?_
              refine T_n ?_
              refine WP_seq ?_
              refine WP_region ?_
              refine S_v E rfl (R_move E rfl) rfl ?_
              clear E a; intro a E
              refine S_v E rfl (R_loadGM E rfl (Try.isAgg44 _) (Try.sizeOf44 _) S.imm hb_92) rfl ?_
              clear E a; intro a E
              refine S_x (X_pu E S rfl rfl rfl (spec_FindIndexOf h0 hw1 (by omega) (by assumption)) (Hp.le.refl _) ?_)
              clear E a S; rintro a _ w M_93 hM_93 rfl S E
              replace h0 := h0.le hM_93
              replace hw1 := hw1.le hM_93
              replace hb_1 := hM_93.2 _ _ hb_1
              replace hz_8 := hz_8.le hM_93
              replace hv_11 := hv_11.le hM_93
              replace hb_92 := hM_93.2 _ _ hb_92
              refine S_v E rfl (R_move E rfl) rfl ?_
              clear E a; intro a E
              refine S_v E rfl (R_extract E rfl rfl) rfl ?_
              clear E a; intro a E
              refine S_v E rfl (R_extract E rfl rfl) rfl ?_
              clear E a; intro a E
              refine S_v E rfl (R_extract E rfl rfl) rfl ?_
              clear E a; intro a E
              refine S_v E rfl (R_assign E rfl) rfl ?_
              clear E a; intro a E
              refine S_v E rfl (R_assign E rfl) rfl ?_
              clear E a; intro a E
              refine S_v E rfl (R_assign E rfl) rfl ?_
              clear E a; intro a E
              refine WL_nil ?_
              refine T_n ?_
              refine WP_seq ?_
              refine WP_region ?_
              refine S_v E rfl (R_move E rfl) rfl ?_
              clear E a; intro a E
              refine S_v E rfl (R_loadGM E rfl (Try.isAgg44 _) (Try.sizeOf44 _) S.imm hb_92) rfl ?_
              clear E a; intro a E
              refine S_x (X_pu E S rfl rfl rfl (spec_FindLastIndexOf h0 hw1 (by omega) (by assumption)) (Hp.le.refl _) ?_)
              clear E a S; rintro a _ w M_94 hM_94 rfl S E
              replace h0 := h0.le hM_94
              replace hw1 := hw1.le hM_94
              replace hb_1 := hM_94.2 _ _ hb_1
              replace hz_8 := hz_8.le hM_94
              replace hv_11 := hv_11.le hM_94
              replace hb_92 := hM_94.2 _ _ hb_92
              refine S_v E rfl (R_move E rfl) rfl ?_
              clear E a; intro a E
              refine S_v E rfl (R_extract E rfl rfl) rfl ?_
              clear E a; intro a E
              refine S_v E rfl (R_extract E rfl rfl) rfl ?_
              clear E a; intro a E
              refine S_v E rfl (R_extract E rfl rfl) rfl ?_
              clear E a; intro a E
              refine S_v E rfl (R_assign E rfl) rfl ?_
              clear E a; intro a E
              refine S_v E rfl (R_assign E rfl) rfl ?_
              clear E a; intro a E
              refine S_v E rfl (R_assign E rfl) rfl ?_
              clear E a; intro a E
              refine WL_nil ?_
              refine T_n ?_
              refine WP_seq ?_
              refine WP_region ?_
              refine S_v E rfl (R_move E rfl) rfl ?_
              clear E a; intro a E
              refine S_v E rfl (R_loadGM E rfl (Try.isAgg44 _) (Try.sizeOf44 _) S.imm hb_92) rfl ?_
              clear E a; intro a E
              refine S_x (X_pu E S rfl rfl rfl (spec_Find h0 hw1 (by omega) (by assumption)) (Hp.le.refl _) ?_)
              clear E a S; rintro a _ w M_95 hM_95 rfl S E
              replace h0 := h0.le hM_95
              replace hw1 := hw1.le hM_95
              replace hb_1 := hM_95.2 _ _ hb_1
              replace hz_8 := hz_8.le hM_95
              replace hv_11 := hv_11.le hM_95
              replace hb_92 := hM_95.2 _ _ hb_92
              refine S_v E rfl (R_move E rfl) rfl ?_
              clear E a; intro a E
              refine S_v E rfl (R_extract E rfl rfl) rfl ?_
              clear E a; intro a E
              refine S_v E rfl (R_extract E rfl rfl) rfl ?_
              clear E a; intro a E
              refine S_v E rfl (R_assign E rfl) rfl ?_
              clear E a; intro a E
              refine S_v E rfl (R_assign E rfl) rfl ?_
              clear E a; intro a E
              refine WL_nil ?_
              refine T_n ?_
              refine WP_seq ?_
              refine WP_seq ?_
              refine WP_region ?_
              refine S_v E rfl (R_move E rfl) rfl ?_
              clear E a; intro a E
              refine S_v E rfl (R_move E rfl) rfl ?_
              clear E a; intro a E
              refine S_v E rfl (R_neq E rfl rfl) rfl ?_
              clear E a; intro a E
              refine S_v E rfl (R_move E rfl) rfl ?_
              clear E a; intro a E
              have hc_96 : (decide (fiI (fun x => predAt pk1 pn1 pl1 x 0) l0 ≠ fiI (fun x => predAt pk1 pn1 pl1 x 0) (l0.take k))) = false := by (clear S E; first | (simp; done) | decide | (simp [predAt]; done) | (rw [hg0]; first | done | rfl | (simp; done)) | (simp only [etk]; first | (simp; done) | (rw [beq_iff_eq.1 (law_any _ _)]; simp; done) | (rw [beq_iff_eq.1 (law_all _ _)]; simp; done) | (rw [fi_any_neg]; simp; done)) | (simp only [etk] at *; first | (rw [getE_inj hv1 (by assumption)]; simp; done) | (rw [getE_inj hv2 (by assumption)]; simp; done)))
              replace E := E.val (t := 222) rfl hc_96
              replace E := E.val (t := 223) rfl hc_96
              refine WL_guard_yes E rfl rfl ?_
              refine S_v E rfl (R_move E rfl) rfl ?_
              clear E a; intro a E
              refine WL_guard_yes E rfl rfl ?_
              refine S_v E rfl (R_move E rfl) rfl ?_
              clear E a; intro a E
              refine WL_guard_yes E rfl rfl ?_
              refine S_v E rfl (R_neq E rfl rfl) rfl ?_
              clear E a; intro a E
              refine S_v E rfl (R_pickF E rfl rfl) rfl ?_
              clear E a; intro a E
              refine S_v E rfl (R_move E rfl) rfl ?_
              clear E a; intro a E
              have hc_97 : (decide (laI (fun x => predAt pk1 pn1 pl1 x 0) l0 ≠ laI (fun x => predAt pk1 pn1 pl1 x 0) (l0.take k))) = false := by (clear S E; first | (simp; done) | decide | (simp [predAt]; done) | (rw [hg0]; first | done | rfl | (simp; done)) | (simp only [etk]; first | (simp; done) | (rw [beq_iff_eq.1 (law_any _ _)]; simp; done) | (rw [beq_iff_eq.1 (law_all _ _)]; simp; done) | (rw [fi_any_neg]; simp; done)) | (simp only [etk] at *; first | (rw [getE_inj hv1 (by assumption)]; simp; done) | (rw [getE_inj hv2 (by assumption)]; simp; done)))
              replace E := E.val (t := 226) rfl hc_97
              replace E := E.val (t := 227) rfl hc_97
              replace E := E.val (t := 228) rfl hc_97
              refine WL_guard_yes E rfl rfl ?_
              refine S_v E rfl (R_move E rfl) rfl ?_
              clear E a; intro a E
              refine WL_guard_yes E rfl rfl ?_
              refine S_v E rfl (R_move E rfl) rfl ?_
              clear E a; intro a E
              refine WL_guard_yes E rfl rfl ?_
              refine S_v E rfl (R_neqB E rfl rfl Try.underlying4) rfl ?_
              clear E a; intro a E
              refine S_v E rfl (R_pickF E rfl rfl) rfl ?_
              clear E a; intro a E
              refine S_v E rfl (R_move E rfl) rfl ?_
              clear E a; intro a E
              have hc_98 : (!(((l0).any (fun x => predAt pk1 pn1 pl1 x 0)) == false)) = false := by (clear S E; first | (simp; done) | decide | (simp [predAt]; done) | (rw [hg0]; first | done | rfl | (simp; done)) | (simp only [etk]; first | (simp; done) | (rw [beq_iff_eq.1 (law_any _ _)]; simp; done) | (rw [beq_iff_eq.1 (law_all _ _)]; simp; done) | (rw [fi_any_neg]; simp; done)) | (simp only [etk] at *; first | (rw [getE_inj hv1 (by assumption)]; simp; done) | (rw [getE_inj hv2 (by assumption)]; simp; done)))
              replace E := E.val (t := 231) rfl hc_98
              replace E := E.val (t := 232) rfl hc_98
              replace E := E.val (t := 233) rfl hc_98
              refine WL_guard_yes E rfl rfl ?_
              refine S_v E rfl (R_move E rfl) rfl ?_
              clear E a; intro a E
              refine WL_guard_yes E rfl rfl ?_
              refine S_v E rfl (R_move E rfl) rfl ?_
              clear E a; intro a E
              refine WL_guard_yes E rfl rfl ?_
              refine S_v E rfl (R_neqB E rfl rfl Try.underlying4) rfl ?_
              clear E a; intro a E
              refine S_v E rfl (R_pickF E rfl rfl) rfl ?_
              clear E a; intro a E
              refine S_v E rfl (R_move E rfl) rfl ?_
              clear E a; intro a E
              have hc_99 : (!(((l0).any (fun x => predAt pk1 pn1 pl1 x 0)) == false)) = false := by (clear S E; first | (simp; done) | decide | (simp [predAt]; done) | (rw [hg0]; first | done | rfl | (simp; done)) | (simp only [etk]; first | (simp; done) | (rw [beq_iff_eq.1 (law_any _ _)]; simp; done) | (rw [beq_iff_eq.1 (law_all _ _)]; simp; done) | (rw [fi_any_neg]; simp; done)) | (simp only [etk] at *; first | (rw [getE_inj hv1 (by assumption)]; simp; done) | (rw [getE_inj hv2 (by assumption)]; simp; done)))
              replace E := E.val (t := 236) rfl hc_99
              replace E := E.val (t := 237) rfl hc_99
              replace E := E.val (t := 238) rfl hc_99
              refine WL_guard_yes E rfl rfl ?_
              refine S_v E rfl (R_move E rfl) rfl ?_
              clear E a; intro a E
              refine WL_guard_yes E rfl rfl ?_
              refine S_v E rfl (R_move E rfl) rfl ?_
              clear E a; intro a E
              refine WL_guard_yes E rfl rfl ?_
              refine S_v E rfl (R_neqB E rfl rfl Try.underlying4) rfl ?_
              clear E a; intro a E
              refine S_v E rfl (R_pickF E rfl rfl) rfl ?_
              clear E a; intro a E
              refine S_v E rfl (R_move E rfl) rfl ?_
              clear E a; intro a E
              have hc_100 : (!(((l0).any (fun x => predAt pk1 pn1 pl1 x 0)) == false)) = false := by (clear S E; first | (simp; done) | decide | (simp [predAt]; done) | (rw [hg0]; first | done | rfl | (simp; done)) | (simp only [etk]; first | (simp; done) | (rw [beq_iff_eq.1 (law_any _ _)]; simp; done) | (rw [beq_iff_eq.1 (law_all _ _)]; simp; done) | (rw [fi_any_neg]; simp; done)) | (simp only [etk] at *; first | (rw [getE_inj hv1 (by assumption)]; simp; done) | (rw [getE_inj hv2 (by assumption)]; simp; done)))
              replace E := E.val (t := 241) rfl hc_100
              replace E := E.val (t := 242) rfl hc_100
              replace E := E.val (t := 243) rfl hc_100
              refine WL_guard_yes E rfl rfl ?_
              refine S_v E rfl (R_move E rfl) rfl ?_
              clear E a; intro a E
              refine WL_guard_yes E rfl rfl ?_
              refine S_v E rfl (R_move E rfl) rfl ?_
              clear E a; intro a E
              refine WL_guard_no E rfl rfl rfl rfl fun a E => ?_
              refine WL_guard_no E rfl rfl rfl rfl fun a E => ?_
              refine WL_guard_no E rfl rfl rfl rfl fun a E => ?_
              refine WL_guard_no E rfl rfl rfl rfl fun a E => ?_
              refine WL_guard_no E rfl rfl rfl rfl fun a E => ?_
              refine WL_guard_no E rfl rfl rfl rfl fun a E => ?_
              refine WL_guard_no E rfl rfl rfl rfl fun a E => ?_
              refine WL_guard_un E rfl rfl rfl fun a E => ?_
              refine WL_guard_un E rfl rfl rfl fun a E => ?_
              refine WL_guard_un E rfl rfl rfl fun a E => ?_
              refine WL_guard_un E rfl rfl rfl fun a E => ?_
              refine WL_guard_un E rfl rfl rfl fun a E => ?_
              refine WL_guard_un E rfl rfl rfl fun a E => ?_
              refine WL_guard_no E rfl rfl rfl rfl fun a E => ?_
              refine WL_guard_no E rfl rfl rfl rfl fun a E => ?_
              refine WL_guard_un E rfl rfl rfl fun a E => ?_
              refine WL_guard_un E rfl rfl rfl fun a E => ?_
              refine WL_guard_un E rfl rfl rfl fun a E => ?_
              refine WL_guard_no E rfl rfl rfl rfl fun a E => ?_
              refine WL_guard_yes E rfl rfl ?_
              refine S_v E rfl (R_pickF E rfl rfl) rfl ?_
              clear E a; intro a E
              refine S_v E rfl (R_pickF E rfl rfl) rfl ?_
              clear E a; intro a E
              refine WL_nil ?_
              refine T_n ?_
              refine WP_condF E rfl rfl ?_
              refine WP_skip ?_
              refine T_n ?_
              refine WP_seq ?_
              refine WP_region ?_
              refine S_v E rfl (R_move E rfl) rfl ?_
              clear E a; intro a E
              refine S_v E rfl (R_loadGM E rfl (Try.isAgg44 _) (Try.sizeOf44 _) S.imm hb_92) rfl ?_
              clear E a; intro a E
              refine S_x (X_pu E S rfl rfl rfl (spec_CountBy h0 hw1 (by omega) (by assumption)) (Hp.le.refl _) ?_)
              clear E a S; rintro a _ w M_101 hM_101 rfl S E
              replace h0 := h0.le hM_101
              replace hw1 := hw1.le hM_101
              replace hb_1 := hM_101.2 _ _ hb_1
              replace hz_8 := hz_8.le hM_101
              replace hv_11 := hv_11.le hM_101
              replace hb_92 := hM_101.2 _ _ hb_92
              refine S_v E rfl (R_move E rfl) rfl ?_
              clear E a; intro a E
              refine S_v E rfl (R_eql E rfl rfl) rfl ?_
              clear E a; intro a E
              refine S_v E rfl (R_move E rfl) rfl ?_
              clear E a; intro a E
              have hc_102 : (decide ((((l0).countP (fun x => predAt pk1 pn1 pl1 x 0) : Nat) : Int) = (((l0.take k).countP (fun x => predAt pk1 pn1 pl1 x 0) : Nat) : Int))) = true := by (clear S E; first | (simp; done) | decide | (simp [predAt]; done) | (rw [hg0]; first | done | rfl | (simp; done)) | (simp only [etk]; first | (simp; done) | (rw [beq_iff_eq.1 (law_any _ _)]; simp; done) | (rw [beq_iff_eq.1 (law_all _ _)]; simp; done) | (rw [fi_any_neg]; simp; done)) | (simp only [etk] at *; first | (rw [getE_inj hv1 (by assumption)]; simp; done) | (rw [getE_inj hv2 (by assumption)]; simp; done)))
              replace E := E.val (t := 271) rfl hc_102
              replace E := E.val (t := 272) rfl hc_102
              refine WL_guard_yes E rfl rfl ?_
              refine S_v E rfl (R_move E rfl) rfl ?_
              clear E a; intro a E
              refine WL_guard_yes E rfl rfl ?_
              refine S_v E rfl (R_loadGM E rfl (Try.isAgg44 _) (Try.sizeOf44 _) S.imm hb_92) rfl ?_
              clear E a; intro a E
              refine WL_guard_yes E rfl rfl ?_
              refine S_x (X_pu E S rfl rfl rfl (spec_EveryBy h0 hw1 (by omega) (by assumption)) (Hp.le.refl _) ?_)
              clear E a S; rintro a _ w M_103 hM_103 rfl S E
              replace h0 := h0.le hM_103
              replace hw1 := hw1.le hM_103
              replace hb_1 := hM_103.2 _ _ hb_1
              replace hz_8 := hz_8.le hM_103
              replace hv_11 := hv_11.le hM_103
              replace hb_92 := hM_103.2 _ _ hb_92
              refine WL_guard_yes E rfl rfl ?_
              refine S_v E rfl (R_move E rfl) rfl ?_
              clear E a; intro a E
              refine WL_guard_yes E rfl rfl ?_
              refine S_v E rfl (R_move E rfl) rfl ?_
              clear E a; intro a E
              refine WL_guard_yes E rfl rfl ?_
              refine S_v E rfl (R_lenV E rfl T22 h0.len) rfl ?_
              clear E a; intro a E
              refine WL_guard_yes E rfl rfl ?_
              refine S_v E rfl (R_eql E rfl rfl) rfl ?_
              clear E a; intro a E
              refine WL_guard_yes E rfl rfl ?_
              refine S_v E rfl (R_eqlB E rfl rfl Try.underlying4) rfl ?_
              clear E a; intro a E
              refine S_v E rfl (R_pickT E rfl rfl) rfl ?_
              clear E a; intro a E
              refine S_v E rfl (R_move E rfl) rfl ?_
              clear E a; intro a E
              have hc_104 : (((l0).all (fun x => predAt pk1 pn1 pl1 x 0)) == (decide ((((l0.take k).countP (fun x => predAt pk1 pn1 pl1 x 0) : Nat) : Int) = (((l0).length : Nat) : Int)))) = true := by (clear S E; first | (simp; done) | decide | (simp [predAt]; done) | (rw [hg0]; first | done | rfl | (simp; done)) | (simp only [etk]; first | (simp; done) | (rw [beq_iff_eq.1 (law_any _ _)]; simp; done) | (rw [beq_iff_eq.1 (law_all _ _)]; simp; done) | (rw [fi_any_neg]; simp; done)) | (simp only [etk] at *; first | (rw [getE_inj hv1 (by assumption)]; simp; done) | (rw [getE_inj hv2 (by assumption)]; simp; done)))
              replace E := E.val (t := 280) rfl hc_104
              replace E := E.val (t := 281) rfl hc_104
              replace E := E.val (t := 282) rfl hc_104
              refine WL_guard_yes E rfl rfl ?_
              refine S_v E rfl (R_move E rfl) rfl ?_
              clear E a; intro a E
              refine WL_guard_yes E rfl rfl ?_
              refine S_v E rfl (R_loadGM E rfl (Try.isAgg44 _) (Try.sizeOf44 _) S.imm hb_92) rfl ?_
              clear E a; intro a E
              refine WL_guard_yes E rfl rfl ?_
              refine S_x (X_pu E S rfl rfl rfl (spec_SomeBy h0 hw1 (by omega) (by assumption)) (Hp.le.refl _) ?_)
              clear E a S; rintro a _ w M_105 hM_105 rfl S E
              replace h0 := h0.le hM_105
              replace hw1 := hw1.le hM_105
              replace hb_1 := hM_105.2 _ _ hb_1
              replace hz_8 := hz_8.le hM_105
              replace hv_11 := hv_11.le hM_105
              replace hb_92 := hM_105.2 _ _ hb_92
              refine WL_guard_yes E rfl rfl ?_
              refine S_v E rfl (R_move E rfl) rfl ?_
              clear E a; intro a E
              refine WL_guard_yes E rfl rfl ?_
              refine S_v E rfl (R_eqlB E rfl rfl Try.underlying4) rfl ?_
              clear E a; intro a E
              refine S_v E rfl (R_pickT E rfl rfl) rfl ?_
              clear E a; intro a E
              refine S_v E rfl (R_move E rfl) rfl ?_
              clear E a; intro a E
              have hc_106 : (((l0).any (fun x => predAt pk1 pn1 pl1 x 0)) == false) = true := by (clear S E; first | (simp; done) | decide | (simp [predAt]; done) | (rw [hg0]; first | done | rfl | (simp; done)) | (simp only [etk]; first | (simp; done) | (rw [beq_iff_eq.1 (law_any _ _)]; simp; done) | (rw [beq_iff_eq.1 (law_all _ _)]; simp; done) | (rw [fi_any_neg]; simp; done)) | (simp only [etk] at *; first | (rw [getE_inj hv1 (by assumption)]; simp; done) | (rw [getE_inj hv2 (by assumption)]; simp; done)))
              replace E := E.val (t := 287) rfl hc_106
              replace E := E.val (t := 288) rfl hc_106
              replace E := E.val (t := 289) rfl hc_106
              refine WL_guard_yes E rfl rfl ?_
              refine S_v E rfl (R_move E rfl) rfl ?_
              clear E a; intro a E
              refine WL_guard_yes E rfl rfl ?_
              refine S_v E rfl (R_loadGM E rfl (Try.isAgg44 _) (Try.sizeOf44 _) S.imm hb_92) rfl ?_
              clear E a; intro a E
              refine WL_guard_yes E rfl rfl ?_
              refine S_x (X_pu E S rfl rfl rfl (spec_NoneBy h0 hw1 (by omega) (by assumption)) (Hp.le.refl _) ?_)
              clear E a S; rintro a _ w M_107 hM_107 rfl S E
              replace h0 := h0.le hM_107
              replace hw1 := hw1.le hM_107
              replace hb_1 := hM_107.2 _ _ hb_1
              replace hz_8 := hz_8.le hM_107
              replace hv_11 := hv_11.le hM_107
              replace hb_92 := hM_107.2 _ _ hb_92
              refine WL_guard_yes E rfl rfl ?_
              refine S_v E rfl (R_move E rfl) rfl ?_
              clear E a; intro a E
              refine WL_guard_yes E rfl rfl ?_
              refine S_v E rfl (R_not E rfl) rfl ?_
              clear E a; intro a E
              refine WL_guard_yes E rfl rfl ?_
              refine S_v E rfl (R_eqlB E rfl rfl Try.underlying4) rfl ?_
              clear E a; intro a E
              refine S_v E rfl (R_pickT E rfl rfl) rfl ?_
              clear E a; intro a E
              refine S_v E rfl (R_move E rfl) rfl ?_
              clear E a; intro a E
              have hc_108 : ((!((l0).any (fun x => predAt pk1 pn1 pl1 x 0))) == (!false)) = true := by (clear S E; first | (simp; done) | decide | (simp [predAt]; done) | (rw [hg0]; first | done | rfl | (simp; done)) | (simp only [etk]; first | (simp; done) | (rw [beq_iff_eq.1 (law_any _ _)]; simp; done) | (rw [beq_iff_eq.1 (law_all _ _)]; simp; done) | (rw [fi_any_neg]; simp; done)) | (simp only [etk] at *; first | (rw [getE_inj hv1 (by assumption)]; simp; done) | (rw [getE_inj hv2 (by assumption)]; simp; done)))
              replace E := E.val (t := 295) rfl hc_108
              replace E := E.val (t := 296) rfl hc_108
              replace E := E.val (t := 297) rfl hc_108
              refine WL_guard_yes E rfl rfl ?_
              refine S_v E rfl (R_move E rfl) rfl ?_
              clear E a; intro a E
              refine WL_guard_yes E rfl rfl ?_
              refine S_v E rfl (R_loadGM E rfl (Try.isAgg36 _) (Try.sizeOf36 _) S.imm hb_1) rfl ?_
              clear E a; intro a E
              refine WL_guard_yes E rfl rfl ?_
              refine S_x (X_pu E S rfl rfl rfl (impl_CountBy h0 hw1 (by omega)) (Hp.le.refl _) ?_)
              clear E a S; rintro a _ w M_109 hM_109 rfl S E
              replace h0 := h0.le hM_109
              replace hw1 := hw1.le hM_109
              replace hb_1 := hM_109.2 _ _ hb_1
              replace hz_8 := hz_8.le hM_109
              replace hv_11 := hv_11.le hM_109
              replace hb_92 := hM_109.2 _ _ hb_92
              refine WL_guard_yes E rfl rfl ?_
              refine S_v E rfl (R_move E rfl) rfl ?_
              clear E a; intro a E
              refine WL_guard_yes E rfl rfl ?_
              refine S_v E rfl (R_eql E rfl rfl) rfl ?_
              clear E a; intro a E
              refine S_v E rfl (R_pickT E rfl rfl) rfl ?_
              clear E a; intro a E
              refine S_v E rfl (R_move E rfl) rfl ?_
              clear E a; intro a E
              have hc_110 : (decide ((((l0).countP (fun x => predAt pk1 pn1 pl1 x 0) : Nat) : Int) = (((l0.take k).countP (fun x => predAt pk1 pn1 pl1 x 0) : Nat) : Int))) = true := by (clear S E; first | (simp; done) | decide | (simp [predAt]; done) | (rw [hg0]; first | done | rfl | (simp; done)) | (simp only [etk]; first | (simp; done) | (rw [beq_iff_eq.1 (law_any _ _)]; simp; done) | (rw [beq_iff_eq.1 (law_all _ _)]; simp; done) | (rw [fi_any_neg]; simp; done)) | (simp only [etk] at *; first | (rw [getE_inj hv1 (by assumption)]; simp; done) | (rw [getE_inj hv2 (by assumption)]; simp; done)))
              replace E := E.val (t := 302) rfl hc_110
              replace E := E.val (t := 303) rfl hc_110
              replace E := E.val (t := 304) rfl hc_110
              refine WL_guard_yes E rfl rfl ?_
              refine S_v E rfl (R_move E rfl) rfl ?_
              clear E a; intro a E
              refine WL_guard_yes E rfl rfl ?_
              refine S_v E rfl (R_loadGM E rfl (Try.isAgg36 _) (Try.sizeOf36 _) S.imm hb_1) rfl ?_
              clear E a; intro a E
              refine WL_guard_yes E rfl rfl ?_
              refine S_x (X_pu E S rfl rfl rfl (impl_CountBySeq h0 hw1 (by omega) (by (first | omega | (simp; omega) | (simp; done) | (simp_all; omega) | grind))) (Hp.le.refl _) ?_)
              clear E a S; rintro a _ w M_111 hM_111 rfl S E
              replace h0 := h0.le hM_111
              replace hw1 := hw1.le hM_111
              replace hb_1 := hM_111.2 _ _ hb_1
              replace hz_8 := hz_8.le hM_111
              replace hv_11 := hv_11.le hM_111
              replace hb_92 := hM_111.2 _ _ hb_92
              refine WL_guard_yes E rfl rfl ?_
              refine S_v E rfl (R_move E rfl) rfl ?_
              clear E a; intro a E
              refine WL_guard_yes E rfl rfl ?_
              refine S_v E rfl (R_eql E rfl rfl) rfl ?_
              clear E a; intro a E
              refine S_v E rfl (R_pickT E rfl rfl) rfl ?_
              clear E a; intro a E
              refine S_v E rfl (R_move E rfl) rfl ?_
              clear E a; intro a E
              have hc_112 : (decide ((((l0).countP (fun x => predAt pk1 pn1 pl1 x 0) : Nat) : Int) = (((l0.take k).countP (fun x => predAt pk1 pn1 pl1 x 0) : Nat) : Int))) = true := by (clear S E; first | (simp; done) | decide | (simp [predAt]; done) | (rw [hg0]; first | done | rfl | (simp; done)) | (simp only [etk]; first | (simp; done) | (rw [beq_iff_eq.1 (law_any _ _)]; simp; done) | (rw [beq_iff_eq.1 (law_all _ _)]; simp; done) | (rw [fi_any_neg]; simp; done)) | (simp only [etk] at *; first | (rw [getE_inj hv1 (by assumption)]; simp; done) | (rw [getE_inj hv2 (by assumption)]; simp; done)))
              replace E := E.val (t := 309) rfl hc_112
              replace E := E.val (t := 310) rfl hc_112
              replace E := E.val (t := 311) rfl hc_112
              refine WL_guard_yes E rfl rfl ?_
              refine S_v E rfl (R_move E rfl) rfl ?_
              clear E a; intro a E
              refine WL_guard_yes E rfl rfl ?_
              refine S_v E rfl (R_loadGM E rfl (Try.isAgg36 _) (Try.sizeOf36 _) S.imm hb_1) rfl ?_
              clear E a; intro a E
              refine WL_guard_yes E rfl rfl ?_
              refine S_x (X_pu E S rfl rfl rfl (impl_EveryBy h0 hw1 (by omega)) (Hp.le.refl _) ?_)
              clear E a S; rintro a _ w M_113 hM_113 rfl S E
              replace h0 := h0.le hM_113
              replace hw1 := hw1.le hM_113
              replace hb_1 := hM_113.2 _ _ hb_1
              replace hz_8 := hz_8.le hM_113
              replace hv_11 := hv_11.le hM_113
              replace hb_92 := hM_113.2 _ _ hb_92
              refine WL_guard_yes E rfl rfl ?_
              refine S_v E rfl (R_move E rfl) rfl ?_
              clear E a; intro a E
              refine WL_guard_yes E rfl rfl ?_
              refine S_v E rfl (R_move E rfl) rfl ?_
              clear E a; intro a E
              refine WL_guard_yes E rfl rfl ?_
              refine S_v E rfl (R_lenV E rfl T22 h0.len) rfl ?_
              clear E a; intro a E
              refine WL_guard_yes E rfl rfl ?_
              refine S_v E rfl (R_eql E rfl rfl) rfl ?_
              clear E a; intro a E
              refine WL_guard_yes E rfl rfl ?_
              refine S_v E rfl (R_eqlB E rfl rfl Try.underlying4) rfl ?_
              clear E a; intro a E
              refine S_v E rfl (R_pickT E rfl rfl) rfl ?_
              clear E a; intro a E
              refine S_v E rfl (R_move E rfl) rfl ?_
              clear E a; intro a E
              have hc_114 : (((l0).all (fun x => predAt pk1 pn1 pl1 x 0)) == (decide ((((l0.take k).countP (fun x => predAt pk1 pn1 pl1 x 0) : Nat) : Int) = (((l0).length : Nat) : Int)))) = true := by (clear S E; first | (simp; done) | decide | (simp [predAt]; done) | (rw [hg0]; first | done | rfl | (simp; done)) | (simp only [etk]; first | (simp; done) | (rw [beq_iff_eq.1 (law_any _ _)]; simp; done) | (rw [beq_iff_eq.1 (law_all _ _)]; simp; done) | (rw [fi_any_neg]; simp; done)) | (simp only [etk] at *; first | (rw [getE_inj hv1 (by assumption)]; simp; done) | (rw [getE_inj hv2 (by assumption)]; simp; done)))
              replace E := E.val (t := 319) rfl hc_114
              replace E := E.val (t := 320) rfl hc_114
              replace E := E.val (t := 321) rfl hc_114
              refine WL_guard_yes E rfl rfl ?_
              refine S_v E rfl (R_move E rfl) rfl ?_
              clear E a; intro a E
              refine WL_guard_yes E rfl rfl ?_
              refine S_v E rfl (R_loadGM E rfl (Try.isAgg36 _) (Try.sizeOf36 _) S.imm hb_1) rfl ?_
              clear E a; intro a E
              refine WL_guard_yes E rfl rfl ?_
              refine S_x (X_pu E S rfl rfl rfl (impl_SomeBy h0 hw1 (by omega)) (Hp.le.refl _) ?_)
              clear E a S; rintro a _ w M_115 hM_115 rfl S E
              replace h0 := h0.le hM_115
              replace hw1 := hw1.le hM_115
              replace hb_1 := hM_115.2 _ _ hb_1
              replace hz_8 := hz_8.le hM_115
              replace hv_11 := hv_11.le hM_115
              replace hb_92 := hM_115.2 _ _ hb_92
              refine WL_guard_yes E rfl rfl ?_
              refine S_v E rfl (R_move E rfl) rfl ?_
              clear E a; intro a E
              refine WL_guard_yes E rfl rfl ?_
              refine S_v E rfl (R_eqlB E rfl rfl Try.underlying4) rfl ?_
              clear E a; intro a E
              refine S_v E rfl (R_pickT E rfl rfl) rfl ?_
              clear E a; intro a E
              refine S_v E rfl (R_move E rfl) rfl ?_
              clear E a; intro a E
              have hc_116 : (((l0).any (fun x => predAt pk1 pn1 pl1 x 0)) == false) = true := by (clear S E; first | (simp; done) | decide | (simp [predAt]; done) | (rw [hg0]; first | done | rfl | (simp; done)) | (simp only [etk]; first | (simp; done) | (rw [beq_iff_eq.1 (law_any _ _)]; simp; done) | (rw [beq_iff_eq.1 (law_all _ _)]; simp; done) | (rw [fi_any_neg]; simp; done)) | (simp only [etk] at *; first | (rw [getE_inj hv1 (by assumption)]; simp; done) | (rw [getE_inj hv2 (by assumption)]; simp; done)))
              replace E := E.val (t := 326) rfl hc_116
              replace E := E.val (t := 327) rfl hc_116
              replace E := E.val (t := 328) rfl hc_116
              refine WL_guard_yes E rfl rfl ?_
              refine S_v E rfl (R_move E rfl) rfl ?_
              clear E a; intro a E
              refine WL_guard_yes E rfl rfl ?_
              refine S_v E rfl (R_loadGM E rfl (Try.isAgg36 _) (Try.sizeOf36 _) S.imm hb_1) rfl ?_
              clear E a; intro a E
              refine WL_guard_yes E rfl rfl ?_
              refine S_x (X_pu E S rfl rfl rfl (impl_NoneBy h0 hw1 (by omega)) (Hp.le.refl _) ?_)
              clear E a S; rintro a _ w M_117 hM_117 rfl S E
              replace h0 := h0.le hM_117
              replace hw1 := hw1.le hM_117
              replace hb_1 := hM_117.2 _ _ hb_1
              replace hz_8 := hz_8.le hM_117
              replace hv_11 := hv_11.le hM_117
              replace hb_92 := hM_117.2 _ _ hb_92
              refine WL_guard_yes E rfl rfl ?_
              refine S_v E rfl (R_move E rfl) rfl ?_
              clear E a; intro a E
              refine WL_guard_yes E rfl rfl ?_
              refine S_v E rfl (R_not E rfl) rfl ?_
              clear E a; intro a E
              refine WL_guard_yes E rfl rfl ?_
              refine S_v E rfl (R_eqlB E rfl rfl Try.underlying4) rfl ?_
              clear E a; intro a E
              refine S_v E rfl (R_pickT E rfl rfl) rfl ?_
              clear E a; intro a E
              refine S_v E rfl (R_move E rfl) rfl ?_
              clear E a; intro a E
              have hc_118 : ((!((l0).any (fun x => predAt pk1 pn1 pl1 x 0))) == (!false)) = true := by (clear S E; first | (simp; done) | decide | (simp [predAt]; done) | (rw [hg0]; first | done | rfl | (simp; done)) | (simp only [etk]; first | (simp; done) | (rw [beq_iff_eq.1 (law_any _ _)]; simp; done) | (rw [beq_iff_eq.1 (law_all _ _)]; simp; done) | (rw [fi_any_neg]; simp; done)) | (simp only [etk] at *; first | (rw [getE_inj hv1 (by assumption)]; simp; done) | (rw [getE_inj hv2 (by assumption)]; simp; done)))
              replace E := E.val (t := 334) rfl hc_118
              replace E := E.val (t := 335) rfl hc_118
              replace E := E.val (t := 336) rfl hc_118
              refine WL_guard_yes E rfl rfl ?_
              refine S_v E rfl (R_move E rfl) rfl ?_
              clear E a; intro a E
              refine WL_guard_yes E rfl rfl ?_
              refine S_v E rfl (R_loadGM E rfl (Try.isAgg36 _) (Try.sizeOf36 _) S.imm hb_1) rfl ?_
              clear E a; intro a E
              refine WL_guard_yes E rfl rfl ?_
              refine S_x (X_pu E S rfl rfl rfl (impl_EveryBySeq h0 hw1 (by omega)) (Hp.le.refl _) ?_)
              clear E a S; rintro a _ w M_119 hM_119 rfl S E
              replace h0 := h0.le hM_119
              replace hw1 := hw1.le hM_119
              replace hb_1 := hM_119.2 _ _ hb_1
              replace hz_8 := hz_8.le hM_119
              replace hv_11 := hv_11.le hM_119
              replace hb_92 := hM_119.2 _ _ hb_92
              refine WL_guard_yes E rfl rfl ?_
              refine S_v E rfl (R_move E rfl) rfl ?_
              clear E a; intro a E
              refine WL_guard_yes E rfl rfl ?_
              refine S_v E rfl (R_move E rfl) rfl ?_
              clear E a; intro a E
              refine WL_guard_yes E rfl rfl ?_
              refine S_v E rfl (R_lenV E rfl T22 h0.len) rfl ?_
              clear E a; intro a E
              refine WL_guard_yes E rfl rfl ?_
              refine S_v E rfl (R_eql E rfl rfl) rfl ?_
              clear E a; intro a E
              refine WL_guard_yes E rfl rfl ?_
              refine S_v E rfl (R_eqlB E rfl rfl Try.underlying4) rfl ?_
              clear E a; intro a E
              refine S_v E rfl (R_pickT E rfl rfl) rfl ?_
              clear E a; intro a E
              refine S_v E rfl (R_move E rfl) rfl ?_
              clear E a; intro a E
              have hc_120 : (((l0).all (fun x => predAt pk1 pn1 pl1 x 0)) == (decide ((((l0.take k).countP (fun x => predAt pk1 pn1 pl1 x 0) : Nat) : Int) = (((l0).length : Nat) : Int)))) = true := by (clear S E; first | (simp; done) | decide | (simp [predAt]; done) | (rw [hg0]; first | done | rfl | (simp; done)) | (simp only [etk]; first | (simp; done) | (rw [beq_iff_eq.1 (law_any _ _)]; simp; done) | (rw [beq_iff_eq.1 (law_all _ _)]; simp; done) | (rw [fi_any_neg]; simp; done)) | (simp only [etk] at *; first | (rw [getE_inj hv1 (by assumption)]; simp; done) | (rw [getE_inj hv2 (by assumption)]; simp; done)))
              replace E := E.val (t := 344) rfl hc_120
              replace E := E.val (t := 345) rfl hc_120
              replace E := E.val (t := 346) rfl hc_120
              refine WL_guard_yes E rfl rfl ?_
              refine S_v E rfl (R_move E rfl) rfl ?_
              clear E a; intro a E
              refine WL_guard_yes E rfl rfl ?_
              refine S_v E rfl (R_loadGM E rfl (Try.isAgg36 _) (Try.sizeOf36 _) S.imm hb_1) rfl ?_
              clear E a; intro a E
              refine WL_guard_yes E rfl rfl ?_
              refine S_x (X_pu E S rfl rfl rfl (impl_SomeBySeq h0 hw1 (by omega)) (Hp.le.refl _) ?_)
              clear E a S; rintro a _ w M_121 hM_121 rfl S E
              replace h0 := h0.le hM_121
              replace hw1 := hw1.le hM_121
              replace hb_1 := hM_121.2 _ _ hb_1
              replace hz_8 := hz_8.le hM_121
              replace hv_11 := hv_11.le hM_121
              replace hb_92 := hM_121.2 _ _ hb_92
              refine WL_guard_yes E rfl rfl ?_
              refine S_v E rfl (R_move E rfl) rfl ?_
              clear E a; intro a E
              refine WL_guard_yes E rfl rfl ?_
              refine S_v E rfl (R_eqlB E rfl rfl Try.underlying4) rfl ?_
              clear E a; intro a E
              refine S_v E rfl (R_pickT E rfl rfl) rfl ?_
              clear E a; intro a E
              refine S_v E rfl (R_move E rfl) rfl ?_
              clear E a; intro a E
              have hc_122 : (((l0).any (fun x => predAt pk1 pn1 pl1 x 0)) == false) = true := by (clear S E; first | (simp; done) | decide | (simp [predAt]; done) | (rw [hg0]; first | done | rfl | (simp; done)) | (simp only [etk]; first | (simp; done) | (rw [beq_iff_eq.1 (law_any _ _)]; simp; done) | (rw [beq_iff_eq.1 (law_all _ _)]; simp; done) | (rw [fi_any_neg]; simp; done)) | (simp only [etk] at *; first | (rw [getE_inj hv1 (by assumption)]; simp; done) | (rw [getE_inj hv2 (by assumption)]; simp; done)))
              replace E := E.val (t := 351) rfl hc_122
              replace E := E.val (t := 352) rfl hc_122
              replace E := E.val (t := 353) rfl hc_122
              refine WL_guard_yes E rfl rfl ?_
              refine S_v E rfl (R_move E rfl) rfl ?_
              clear E a; intro a E
              refine WL_guard_yes E rfl rfl ?_
              refine S_v E rfl (R_loadGM E rfl (Try.isAgg36 _) (Try.sizeOf36 _) S.imm hb_1) rfl ?_
              clear E a; intro a E
              refine WL_guard_yes E rfl rfl ?_
              refine S_x (X_pu E S rfl rfl rfl (impl_NoneBySeq h0 hw1 (by omega)) (Hp.le.refl _) ?_)
              clear E a S; rintro a _ w M_123 hM_123 rfl S E
              replace h0 := h0.le hM_123
              replace hw1 := hw1.le hM_123
              replace hb_1 := hM_123.2 _ _ hb_1
              replace hz_8 := hz_8.le hM_123
              replace hv_11 := hv_11.le hM_123
              replace hb_92 := hM_123.2 _ _ hb_92
              refine WL_guard_yes E rfl rfl ?_
              refine S_v E rfl (R_move E rfl) rfl ?_
              clear E a; intro a E
              refine WL_guard_yes E rfl rfl ?_
              refine S_v E rfl (R_not E rfl) rfl ?_
              clear E a; intro a E
              refine WL_guard_yes E rfl rfl ?_
              refine S_v E rfl (R_eqlB E rfl rfl Try.underlying4) rfl ?_
              clear E a; intro a E
              refine S_v E rfl (R_pickT E rfl rfl) rfl ?_
              clear E a; intro a E
              refine S_v E rfl (R_assign E rfl) rfl ?_
              clear E a; intro a E
              refine WL_nil ?_
              refine T_n ?_
              refine WP_ret ?_
              exact F_ret1 E Try.results4 rfl ⟨_, rfl, M_123, (hM_2.trans (hM_4.trans (hM_7.trans (hM_9.trans (hM_12.trans (hM_13.trans (hM_15.trans (hM_17.trans (hM_24.trans (hM_25.trans (hM_26.trans (hM_27.trans (hM_28.trans (hM_29.trans (hM_91.trans (hM_93.trans (hM_94.trans (hM_95.trans (hM_101.trans (hM_103.trans (hM_105.trans (hM_107.trans (hM_109.trans (hM_111.trans (hM_113.trans (hM_115.trans (hM_117.trans (hM_119.trans (hM_121.trans hM_123))))))))))))))))))))))))))))), (congrArg Value.bool (by (clear S E; first | (simp; done) | decide | (simp [predAt]; done) | (rw [hg0]; first | done | rfl | (simp; done)) | (simp only [etk]; first | (simp; done) | (rw [beq_iff_eq.1 (law_any _ _)]; simp; done) | (rw [beq_iff_eq.1 (law_all _ _)]; simp; done) | (rw [fi_any_neg]; simp; done)) | (simp only [etk] at *; first | (rw [getE_inj hv1 (by assumption)]; simp; done) | (rw [getE_inj hv2 (by assumption)]; simp; done))))), S⟩

end Go.Proofs.Ytgljcnmakpnamaa.wFnFound
