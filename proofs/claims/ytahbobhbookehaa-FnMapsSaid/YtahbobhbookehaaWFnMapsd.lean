/- Walks through the functions that laws.FnMaps reaches: what each computes; no conditions beyond what each theorem states. -/
import Derived.Test.YtahbobhbookehaaWFnMapsc
set_option linter.unusedVariables false
set_option linter.unusedSimpArgs false
namespace Go.Proofs.Ytahbobhbookehaa.wFnMaps
open Go Go.Sl
set_option maxRecDepth 100000 in
set_option maxHeartbeats 4000000 in
theorem impl_AssociateSeq1 {M : Hp} {kk8 kn8 : Int} (gk8 : -9223372036854775808 ≤ kn8 ∧ kn8 ≤ 9223372036854775807) {bx8 : Nat} (hbx8 : M bx8 = some (.cells #[.int .i64 kk8, .int .i64 kn8] 24)) {kk9 kn9 : Int} (gk9 : -9223372036854775808 ≤ kn9 ∧ kn9 ≤ 9223372036854775807) {bx9 : Nat} (hbx9 : M bx9 = some (.cells #[.int .i64 kk9, .int .i64 kn9] 24)) {x0 x1 : Int} :
    Pu Try.prog (.func (.func 123) #[] #[.pointer (some ⟨bx8, 0, none⟩), .pointer (some ⟨bx9, 0, none⟩)]) M [.int .i64 x0, .int .i64 x1] (fun r M' => r = .tuple #[.int .i64 (keyAt kk8 kn8 x0 x1), .int .i64 (keyAt kk9 kn9 x0 x1)]) := by
  refine Pu_enter Try.func123 rfl Try.ntmps123 rfl Try.call123 ?_
  intro a w M1 H hM1 S E
  replace hbx8 := hM1.2 _ _ hbx8
  replace hbx9 := hM1.2 _ _ hbx9
  refine WP_seq ?_
  refine WP_region ?_
  refine S_v E rfl (R_assign E rfl) rfl ?_
  clear E a; intro a E
  refine S_v E rfl (R_assign E rfl) rfl ?_
  clear E a; intro a E
  refine WL_nil ?_
  refine T_n ?_
  refine WP_seq ?_
  have hbx8k0 := hbx8
  have hbx9k0 := hbx9
  replace S := S.mono_heap (w' := World.drew _) rfl
  refine WP_drawn (C := fun x w => agree M1 w) (bf := (fun i => [])) [0, 1, 2, 4, 5, 6, 8, 9] [0, 1, 2, 4, 5, 6, 3, 7, 8, 9] Try.mixed (by kernel_rfl) (fun x hq => S.imm) ?_
  refine D_v E rfl rfl rfl (fun w hC => (R_loadGM E rfl (Try.isAgg24 _) (Try.sizeOf24 _) hC hbx8k0)) ?_
  clear E a; intro a E
  refine D_v E rfl rfl rfl (fun w hC => (R_move E rfl)) ?_
  clear E a; intro a E
  refine D_v E rfl rfl rfl (fun w hC => (R_move E rfl)) ?_
  clear E a; intro a E
  refine D_v E rfl rfl rfl (fun w hC => (R_loadGM E rfl (Try.isAgg24 _) (Try.sizeOf24 _) hC hbx9k0)) ?_
  clear E a; intro a E
  refine D_v E rfl rfl rfl (fun w hC => (R_move E rfl)) ?_
  clear E a; intro a E
  refine D_v E rfl rfl rfl (fun w hC => (R_move E rfl)) ?_
  clear E a; intro a E
  refine D_x rfl rfl rfl (X_pu E S rfl rfl rfl (Key_at_d (by omega)) (Hp.le.refl _) ?_)
  clear E a S; rintro a _ w M_1 hM_1 rfl S E
  replace hbx8 := hM_1.2 _ _ hbx8
  replace hbx9 := hM_1.2 _ _ hbx9
  refine ⟨fun x hq hb => (agree_le hM_1 S.imm), ?_⟩
  refine D_x rfl rfl rfl (X_pu E S rfl rfl rfl (Key_at_d (by omega)) (Hp.le.refl _) ?_)
  clear E a S; rintro a _ w M_2 hM_2 rfl S E
  replace hbx8 := hM_2.2 _ _ hbx8
  replace hbx9 := hM_2.2 _ _ hbx9
  refine ⟨fun x hq hb => (agree_le (hM_1.trans hM_2) S.imm), ?_⟩
  refine D_v E rfl rfl rfl (fun w hC => (R_assign E rfl)) ?_
  clear E a; intro a E
  refine D_v E rfl rfl rfl (fun w hC => (R_assign E rfl)) ?_
  clear E a; intro a E
  refine D_end (NoP_n ?_)
  refine T_n ?_
  refine WP_ret ?_
  exact F_ret2 E Try.results123 rfl rfl ⟨_, rfl, M_2, (hM_1.trans hM_2), (by first | rfl | (simp; done) | (simp_all; done)), S⟩

set_option maxRecDepth 100000 in
set_option maxHeartbeats 4000000 in
theorem impl_AssociateSeq {M : Hp} {v0 : Value} {l0 : List Int} (h0 : RdI M v0 l0){kk1 kn1 : Int} (gk1 : -9223372036854775808 ≤ kn1 ∧ kn1 ≤ 9223372036854775807) {kk2 kn2 : Int} (gk2 : -9223372036854775808 ≤ kn2 ∧ kn2 ≤ 9223372036854775807) (hb : l0.length ≤ 1000000000000) :
    Pu Try.prog (.func (.func 52) #[] #[]) M [v0, .agg #[.int .i64 kk1, .int .i64 kn1], .agg #[.int .i64 kk2, .int .i64 kn2]] (fun r M' => RdS 2 RP2 M' r (entE (ixm (fun x i => (keyAt kk1 kn1 x i, keyAt kk2 kn2 x i)) 0 l0))) := by
  refine Pu_enter Try.func52 rfl Try.ntmps52 rfl Try.call52 ?_
  intro a w M1 H hM1 S E
  replace h0 := h0.le hM1
  have b0 := h0.bound
  refine WP_seq ?_
  refine WP_region ?_
  refine S_x (X_box (cs := #[.int .i64 kk1, .int .i64 kn1]) E S rfl rfl rfl ?_)
  clear E a S; rintro a w b_1 E S
  obtain ⟨M_2, hM_2, hb_1, S⟩ := S.freezeB
  replace h0 := h0.le hM_2
  refine S_x (X_box (cs := #[.int .i64 kk2, .int .i64 kn2]) E S rfl rfl rfl ?_)
  clear E a S; rintro a w b_3 E S
  obtain ⟨M_4, hM_4, hb_3, S⟩ := S.freezeB
  replace h0 := h0.le hM_4
  replace hb_1 := hM_4.2 _ _ hb_1
  refine S_v E rfl (R_assign E rfl) rfl ?_
  clear E a; intro a E
  refine WL_nil ?_
  refine T_n ?_
  refine WP_seq ?_
  refine WP_region ?_
  refine S_v E rfl (R_move E rfl) rfl ?_
  clear E a; intro a E
  refine S_x (X_pu E S rfl rfl rfl (slices_Values h0) (Hp.le.refl _) ?_)
  clear E a S; rintro a v_6 w M_5 hM_5 hv_6 S E
  replace h0 := h0.le hM_5
  replace hb_1 := hM_5.2 _ _ hb_1
  replace hb_3 := hM_5.2 _ _ hb_3
  refine S_v E rfl (R_makeFunc E rfl rfl) rfl ?_
  clear E a; intro a E
  refine S_x (X_pu E S rfl rfl rfl (it_AssociateI hv_6 (f1 := (fun x i => (keyAt kk1 kn1 x i, keyAt kk2 kn2 x i))) ⟨rfl, fun zx0 zx1 => impl_AssociateSeq1 (x0 := zx0) (x1 := zx1) (by omega) hb_1 (by omega) hb_3⟩ (by (first | omega | (simp; omega) | (simp; done) | (simp_all; omega) | grind))) (Hp.le.refl _) ?_)
  clear E a S; rintro a v_8 w M_7 hM_7 hv_8 S E
  replace h0 := h0.le hM_7
  replace hb_1 := hM_7.2 _ _ hb_1
  replace hb_3 := hM_7.2 _ _ hb_3
  replace hv_6 := hv_6.le hM_7
  refine S_x (X_pu E S rfl rfl rfl (impl_pairs hv_8 (by first | omega | (exact bigE _ l0 (by first | (rw [ixm_len]; exact Nat.le_refl _) | exact kpix_len _ _ _ | (rw [List.length_map]; exact Nat.le_refl _)) (by omega)) | (first | omega | (simp; omega) | (simp; done) | (simp_all; omega) | grind))) (Hp.le.refl _) ?_)
  clear E a S; rintro a v_10 w M_9 hM_9 hv_10 S E
  replace h0 := h0.le hM_9
  replace hb_1 := hM_9.2 _ _ hb_1
  replace hb_3 := hM_9.2 _ _ hb_3
  replace hv_6 := hv_6.le hM_9
  replace hv_8 := hv_8.le hM_9
  refine S_v E rfl (R_assign E rfl) rfl ?_
  clear E a; intro a E
  refine WL_nil ?_
  refine T_n ?_
  refine WP_ret ?_
  exact F_ret1 E Try.results52 rfl ⟨_, rfl, M_9, (hM_2.trans (hM_4.trans (hM_5.trans (hM_7.trans hM_9)))), (by rw [show (entE (ixm (fun x i => (keyAt kk1 kn1 x i, keyAt kk2 kn2 x i)) 0 l0)) = (srtK Prod.fst (mkE (ixm (fun x i => (keyAt kk1 kn1 x i, keyAt kk2 kn2 x i)) 0 l0))) from by rfl]; exact hv_10), S⟩

set_option maxRecDepth 100000 in
set_option maxHeartbeats 4000000 in
theorem lo_FilterSliceToMapI {M : Hp} {v0 : Value} {l0 : List Int} (h0 : RdI M v0 l0){v1 : Value} {f1 : Int → Int → Int × Int × Bool} (h1 : PF2V Try.prog v1 M f1) :
    Pu Try.prog (.func (.func 124) #[] #[]) M [v0, v1] (fun r M' => RdM M' r (encE (Value.int .i64) (mkE (kpE (ixm f1 0 l0))))) := by
  refine Pu_enter Try.func124 rfl Try.ntmps124 rfl Try.call124 ?_
  intro a w M1 H hM1 S E
  replace h0 := h0.le hM1
  replace h1 := h1.le hM1
  have b0 := h0.bound
  refine WP_seq ?_
  refine WP_region ?_
  refine S_v E rfl (R_assign E rfl) rfl ?_
  clear E a; intro a E
  refine WL_nil ?_
  refine T_n ?_
  refine WP_seq ?_
  refine WP_region ?_
  refine S_v E rfl (R_move E rfl) rfl ?_
  clear E a; intro a E
  refine S_v E rfl (R_lenV E rfl T22 h0.len) rfl ?_
  clear E a; intro a E
  refine S_x (X_makeMapR E S rfl MT103 rfl ?_)
  clear E a S; rintro a w b_1 E S
  replace S : St w M1 (OwnE (Value.int .i64) b_1 ([] : List (Int × Int)) :: _) := S
  refine S_v E rfl (R_assign E rfl) rfl ?_
  clear E a; intro a E
  refine WL_nil ?_
  refine T_n ?_
  refine WP_seq ?_
  refine WP_seq ?_
  refine WP_region ?_
  refine S_v E rfl (R_move E rfl) rfl ?_
  clear E a; intro a E
  refine S_v E rfl (R_lenV E rfl T22 h0.len) rfl ?_
  clear E a; intro a E
  refine S_v E rfl (R_move E rfl) rfl ?_
  clear E a; intro a E
  refine WL_nil ?_
  refine T_n ?_
  refine WP_block ?_
  replace S := S.reM (L' := (encE (Value.int .i64) (mkE (kpE (ixm f1 0 (l0.take 0)))))) (congrArg (encE (Value.int .i64)) (show ([] : List (Int × Int)) = mkE (kpE (ixm f1 0 (l0.take 0))) by first | rfl | (simp [mkE, ixm, kpE]; done) | exact mkE_kp (by assumption) (by assumption) | exact mkE_kpn (by assumption) (by simp_all)))
  refine WP_loop (γ := Nat) (fun (k : Nat) a w => ∃ (M_2 : Hp), Hp.le M1 M_2 ∧ St w M_2 (OwnE (Value.int .i64) b_1 (mkE (kpE (ixm f1 0 (l0.take k)))) :: H) ∧ Env a 35 [] [(1, v1), (5, .map (some b_1)), (14, v0), (15, .int .i64 (((l0).length : Nat) : Int)), (16, .int .i64 ((k : Nat) : Int))] ∧ (k ≤ (l0).length)) (fun k => ((l0).length) - k) 0 ⟨M1, Hp.le.refl _, S, E.keep ⟨rfl, rfl, rfl, rfl, rfl, trivial⟩, by ((try clear S); (try clear E); first | assumption | omega | rfl | (simp; done) | (simp_all; done) | (simp [List.take_add_one, *]; done) | grind [List.take_add_one])⟩ ?_
  try clear E
  try clear S
  try clear a
  try clear w
  rintro k a w ⟨M_2, hM_2, S, E, hL0_0⟩
  replace h0 := h0.le hM_2
  replace h1 := h1.le hM_2
  refine WP_seq ?_
  refine WP_region ?_
  refine S_v E rfl (R_lss E rfl rfl) rfl ?_
  clear E a; intro a E
  refine WL_nil ?_
  refine T_n ?_
  refine WP_seq ?_
  refine WP_cond E rfl (fun hc_3 => ?_) (fun hc_3 => ?_)
  · replace hc_3 := of_decide_eq_true hc_3
    refine WP_skip ?_
    refine T_n ?_
    refine WP_seq ?_
    refine WP_block ?_
    refine WP_seq ?_
    refine WP_region ?_
    refine S_v E rfl (R_move E rfl) rfl ?_
    clear E a; intro a E
    obtain ⟨x_4, hx_4⟩ : ∃ x, (l0)[k]? = some x := ⟨_, List.getElem?_eq_getElem (by first | omega | (simp; done) | (simp; omega) | (simp_all; omega))⟩
    obtain ⟨p_5, hp_5, qp_5⟩ := h0.at hx_4
    refine S_v E rfl (R_idx E rfl rfl T22 hp_5 rfl) rfl ?_
    clear E a; intro a E
    refine S_v E rfl (R_loadM E rfl Try.isAgg3 S.imm qp_5) rfl ?_
    clear E a; intro a E
    refine S_v E rfl (R_assign E rfl) rfl ?_
    clear E a; intro a E
    refine S_v E rfl (R_assign E rfl) rfl ?_
    clear E a; intro a E
    refine WL_nil ?_
    refine T_n ?_
    refine WP_seq ?_
    refine WP_region ?_
    refine S_v E rfl (R_move E rfl) rfl ?_
    clear E a; intro a E
    refine S_v E rfl (R_move E rfl) rfl ?_
    clear E a; intro a E
    refine S_v E rfl (R_move E rfl) rfl ?_
    clear E a; intro a E
    refine S_x (X_pu E S rfl rfl rfl (h1.2 x_4 ((k : Nat) : Int)) (Hp.le.refl _) ?_)
    clear E a S; rintro a _ w M_6 hM_6 rfl S E
    replace h0 := h0.le hM_6
    replace h1 := h1.le hM_6
    refine S_v E rfl (R_move E rfl) rfl ?_
    clear E a; intro a E
    refine S_v E rfl (R_extract E rfl rfl) rfl ?_
    clear E a; intro a E
    refine S_v E rfl (R_extract E rfl rfl) rfl ?_
    clear E a; intro a E
    refine S_v E rfl (R_extract E rfl rfl) rfl ?_
    clear E a; intro a E
    refine S_v E rfl (R_assign E rfl) rfl ?_
    clear E a; intro a E
    refine S_v E rfl (R_assign E rfl) rfl ?_
    clear E a; intro a E
    refine S_v E rfl (R_assign E rfl) rfl ?_
    clear E a; intro a E
    refine WL_nil ?_
    refine T_n ?_
    refine WP_seq ?_
    refine WP_region ?_
    refine S_v E rfl (R_move E rfl) rfl ?_
    clear E a; intro a E
    refine WL_nil ?_
    refine T_n ?_
    refine WP_cond E rfl (fun hc_7 => ?_) (fun hc_7 => ?_)
    · refine WP_region ?_
      refine S_v E rfl (R_move E rfl) rfl ?_
      clear E a; intro a E
      refine S_v E rfl (R_move E rfl) rfl ?_
      clear E a; intro a E
      refine S_v E rfl (R_move E rfl) rfl ?_
      clear E a; intro a E
      refine S_x0 (X_updateE (vf := (Value.int .i64)) (u := (f1 x_4 ((k : Nat) : Int)).2.1) E S MT103 rfl rfl rfl ?_)
      clear E a S; rintro a w E S
      refine WL_nil ?_
      refine B_n ?_
      refine T_n ?_
      refine WP_region ?_
      refine S_v E rfl (R_addx (m := ((k + 1 : Nat) : Int)) E rfl rfl (by omega) (by omega)) rfl ?_
      clear E a; intro a E
      refine S_v E rfl (R_move E rfl) rfl ?_
      clear E a; intro a E
      refine WL_nil ?_
      refine T_n ?_
      replace S := S.reM (L' := (encE (Value.int .i64) (mkE (kpE (ixm f1 0 (l0.take (k + 1))))))) (congrArg (encE (Value.int .i64)) (show putK (mkE (kpE (ixm f1 0 (l0.take k)))) ((f1 x_4 ((k : Nat) : Int)).1) ((f1 x_4 ((k : Nat) : Int)).2.1) = mkE (kpE (ixm f1 0 (l0.take (k + 1)))) by first | rfl | (simp [mkE, ixm, kpE]; done) | exact mkE_kp (by assumption) (by assumption) | exact mkE_kpn (by assumption) (by simp_all)))
      exact ⟨k + 1, ⟨M_6, (hM_2.trans hM_6), S, E.keep ⟨rfl, rfl, rfl, rfl, rfl, trivial⟩, by ((try clear S); (try clear E); first | assumption | omega | rfl | (simp; done) | (simp_all; done) | (simp [List.take_add_one, *]; done) | grind [List.take_add_one])⟩, by omega⟩
    · refine WP_skip ?_
      refine B_n ?_
      refine T_n ?_
      refine WP_region ?_
      refine S_v E rfl (R_addx (m := ((k + 1 : Nat) : Int)) E rfl rfl (by omega) (by omega)) rfl ?_
      clear E a; intro a E
      refine S_v E rfl (R_move E rfl) rfl ?_
      clear E a; intro a E
      refine WL_nil ?_
      refine T_n ?_
      replace S := S.reM (L' := (encE (Value.int .i64) (mkE (kpE (ixm f1 0 (l0.take (k + 1))))))) (congrArg (encE (Value.int .i64)) (show mkE (kpE (ixm f1 0 (l0.take k))) = mkE (kpE (ixm f1 0 (l0.take (k + 1)))) by first | rfl | (simp [mkE, ixm, kpE]; done) | exact mkE_kp (by assumption) (by assumption) | exact mkE_kpn (by assumption) (by simp_all)))
      exact ⟨k + 1, ⟨M_6, (hM_2.trans hM_6), S, E.keep ⟨rfl, rfl, rfl, rfl, rfl, trivial⟩, by ((try clear S); (try clear E); first | assumption | omega | rfl | (simp; done) | (simp_all; done) | (simp [List.take_add_one, *]; done) | grind [List.take_add_one])⟩, by omega⟩
  · replace hc_3 := of_decide_eq_false hc_3
    refine WP_exit ?_
    refine T_x ?_
    refine T_x ?_
    refine B_x ?_
    refine T_n ?_
    refine WP_seq ?_
    refine WP_region ?_
    refine S_v E rfl (R_move E rfl) rfl ?_
    clear E a; intro a E
    refine S_v E rfl (R_assign E rfl) rfl ?_
    clear E a; intro a E
    refine WL_nil ?_
    refine T_n ?_
    refine WP_ret ?_
    have S0 := S; clear S
    obtain ⟨M_8, hM_8, hm_9, S⟩ := S0.freezeM
    clear S0
    replace h0 := h0.le hM_8
    replace h1 := h1.le hM_8
    exact F_ret1 E Try.results124 rfl ⟨_, rfl, M_8, (hM_2.trans hM_8), (by rw [show (mkE (kpE (ixm f1 0 l0))) = (mkE (kpE (ixm f1 0 (l0.take k)))) from by (rw [List.take_of_length_le (by omega)])]; exact hm_9), S⟩

set_option maxRecDepth 100000 in
set_option maxHeartbeats 4000000 in
theorem slices_Index {M : Hp} {v0 : Value} {l0 : List Int} (h0 : RdI M v0 l0){x1 : Int} :
    Pu Try.prog (.func (.func 180) #[] #[]) M [v0, .int .i64 x1] (fun r M' => r = .int .i64 (idxOf l0 x1)) := by
  refine Pu_enter Try.func180 rfl Try.ntmps180 rfl Try.call180 ?_
  intro a w M1 H hM1 S E
  replace h0 := h0.le hM1
  have b0 := h0.bound
  refine WP_seq ?_
  refine WP_region ?_
  refine S_v E rfl (R_assign E rfl) rfl ?_
  clear E a; intro a E
  refine WL_nil ?_
  refine T_n ?_
  refine WP_seq ?_
  refine WP_seq ?_
  refine WP_region ?_
  refine S_v E rfl (R_move E rfl) rfl ?_
  clear E a; intro a E
  refine S_v E rfl (R_lenV E rfl T22 h0.len) rfl ?_
  clear E a; intro a E
  refine S_v E rfl (R_move E rfl) rfl ?_
  clear E a; intro a E
  refine WL_nil ?_
  refine T_n ?_
  refine WP_block ?_
  refine WP_loop (γ := Nat) (fun (k : Nat) a w => ∃ (M_1 : Hp), Hp.le M1 M_1 ∧ St w M_1 (H) ∧ Env a 19 [] [(0, v0), (1, .int .i64 x1), (7, .int .i64 (((l0).length : Nat) : Int)), (8, .int .i64 ((k : Nat) : Int))] ∧ (k ≤ (l0).length) ∧ (∀ j, j < k → l0[j]? ≠ some x1)) (fun k => ((l0).length) - k) 0 ⟨M1, Hp.le.refl _, S, E.keep ⟨rfl, rfl, rfl, rfl, trivial⟩, by ((try clear S); (try clear E); first | assumption | omega | rfl | (simp; done) | (simp_all; done) | (simp [List.take_add_one, *]; done) | grind [List.take_add_one]), by ((try clear S); (try clear E); first | assumption | omega | rfl | (simp; done) | (simp_all; done) | (simp [List.take_add_one, *]; done) | grind [List.take_add_one])⟩ ?_
  try clear E
  try clear S
  try clear a
  try clear w
  rintro k a w ⟨M_1, hM_1, S, E, hL0_0, hL0_1⟩
  replace h0 := h0.le hM_1
  refine WP_seq ?_
  refine WP_region ?_
  refine S_v E rfl (R_lss E rfl rfl) rfl ?_
  clear E a; intro a E
  refine WL_nil ?_
  refine T_n ?_
  refine WP_seq ?_
  refine WP_cond E rfl (fun hc_2 => ?_) (fun hc_2 => ?_)
  · replace hc_2 := of_decide_eq_true hc_2
    refine WP_skip ?_
    refine T_n ?_
    refine WP_seq ?_
    refine WP_block ?_
    refine WP_seq ?_
    refine WP_region ?_
    refine S_v E rfl (R_move E rfl) rfl ?_
    clear E a; intro a E
    refine S_v E rfl (R_assign E rfl) rfl ?_
    clear E a; intro a E
    refine WL_nil ?_
    refine T_n ?_
    refine WP_seq ?_
    refine WP_region ?_
    refine S_v E rfl (R_move E rfl) rfl ?_
    clear E a; intro a E
    refine S_v E rfl (R_move E rfl) rfl ?_
    clear E a; intro a E
    refine S_v E rfl (R_move E rfl) rfl ?_
    clear E a; intro a E
    obtain ⟨x_3, hx_3⟩ : ∃ x, (l0)[k]? = some x := ⟨_, List.getElem?_eq_getElem (by first | omega | (simp; done) | (simp; omega) | (simp_all; omega))⟩
    obtain ⟨p_4, hp_4, qp_4⟩ := h0.at hx_3
    refine S_v E rfl (R_idx E rfl rfl T22 hp_4 rfl) rfl ?_
    clear E a; intro a E
    refine S_v E rfl (R_loadM E rfl Try.isAgg3 S.imm qp_4) rfl ?_
    clear E a; intro a E
    refine S_v E rfl (R_eql E rfl rfl) rfl ?_
    clear E a; intro a E
    refine WL_nil ?_
    refine T_n ?_
    refine WP_cond E rfl (fun hc_5 => ?_) (fun hc_5 => ?_)
    · replace hc_5 := of_decide_eq_true hc_5
      refine WP_seq ?_
      refine WP_region ?_
      refine S_v E rfl (R_move E rfl) rfl ?_
      clear E a; intro a E
      refine S_v E rfl (R_assign E rfl) rfl ?_
      clear E a; intro a E
      refine WL_nil ?_
      refine T_n ?_
      refine WP_ret ?_
      refine B_r ?_
      refine T_r ?_
      refine T_r ?_
      refine B_r ?_
      refine T_r ?_
      exact F_ret1 E Try.results180 rfl ⟨_, rfl, M_1, hM_1, (congrArg (Value.int .i64) (by (rw [idxOf_some (k := k) (by simp_all) hL0_1]))), S⟩
    · replace hc_5 := of_decide_eq_false hc_5
      refine WP_skip ?_
      refine B_n ?_
      refine T_n ?_
      refine WP_region ?_
      refine S_v E rfl (R_addx (m := ((k + 1 : Nat) : Int)) E rfl rfl (by omega) (by omega)) rfl ?_
      clear E a; intro a E
      refine S_v E rfl (R_move E rfl) rfl ?_
      clear E a; intro a E
      refine WL_nil ?_
      refine T_n ?_
      exact ⟨k + 1, ⟨M_1, hM_1, S, E.keep ⟨rfl, rfl, rfl, rfl, trivial⟩, by ((try clear S); (try clear E); first | assumption | omega | rfl | (simp; done) | (simp_all; done) | (simp [List.take_add_one, *]; done) | grind [List.take_add_one]), by ((try clear S); (try clear E); first | assumption | omega | rfl | (simp; done) | (simp_all; done) | (simp [List.take_add_one, *]; done) | grind [List.take_add_one])⟩, by omega⟩
  · replace hc_2 := of_decide_eq_false hc_2
    refine WP_exit ?_
    refine T_x ?_
    refine T_x ?_
    refine B_x ?_
    refine T_n ?_
    refine WP_seq ?_
    refine WP_region ?_
    refine S_v E rfl (R_assign E rfl) rfl ?_
    clear E a; intro a E
    refine WL_nil ?_
    refine T_n ?_
    refine WP_ret ?_
    exact F_ret1 E Try.results180 rfl ⟨_, rfl, M_1, hM_1, (congrArg (Value.int .i64) (by (rw [idxOf_none (fun j e => by have := (List.getElem?_eq_some_iff.1 e).1; exact hL0_1 j (by omega) e)]))), S⟩

set_option maxRecDepth 100000 in
set_option maxHeartbeats 4000000 in
theorem slices_Contains {M : Hp} {v0 : Value} {l0 : List Int} (h0 : RdI M v0 l0){x1 : Int} :
    Pu Try.prog (.func (.func 171) #[] #[]) M [v0, .int .i64 x1] (fun r M' => r = .bool (decide (x1 ∈ l0))) := by
  refine Pu_enter Try.func171 rfl Try.ntmps171 rfl Try.call171 ?_
  intro a w M1 H hM1 S E
  replace h0 := h0.le hM1
  have b0 := h0.bound
  refine WP_seq ?_
  refine WP_region ?_
  refine S_v E rfl (R_assign E rfl) rfl ?_
  clear E a; intro a E
  refine WL_nil ?_
  refine T_n ?_
  refine WP_seq ?_
  refine WP_region ?_
  refine S_v E rfl (R_move E rfl) rfl ?_
  clear E a; intro a E
  refine S_v E rfl (R_move E rfl) rfl ?_
  clear E a; intro a E
  refine S_x (X_pu E S rfl rfl rfl (slices_Index h0) (Hp.le.refl _) ?_)
  clear E a S; rintro a _ w M_1 hM_1 rfl S E
  replace h0 := h0.le hM_1
  refine S_v E rfl (R_geq E rfl rfl) rfl ?_
  clear E a; intro a E
  refine S_v E rfl (R_assign E rfl) rfl ?_
  clear E a; intro a E
  refine WL_nil ?_
  refine T_n ?_
  refine WP_ret ?_
  exact F_ret1 E Try.results171 rfl ⟨_, rfl, M_1, hM_1, (congrArg Value.bool (by (first | exact idxOf_mem _ _ | rfl))), S⟩

set_option maxRecDepth 100000 in
set_option maxHeartbeats 4000000 in
theorem Pred_at_c {M : Hp} {pk0 pn0 : Int} {w0 : Value} {pl0 : List Int} (hw0 : RdI M w0 pl0) (gn0 : -9223372036854775808 ≤ pn0 ∧ pn0 ≤ 9223372036854775807){x1 x2 : Int} :
    PuC Try.prog 126 M [.agg #[.int .i64 pk0, .int .i64 pn0, w0], .int .i64 x1, .int .i64 x2] (fun r M' => r = .bool (predAt pk0 pn0 pl0 x1 x2)) := by
  refine PuC_enter Try.func126 rfl Try.ntmps126 rfl ?_
  intro a w M1 H hM1 S E
  replace hw0 := hw0.le hM1
  have bw0 := hw0.bound
  refine WP_seq ?_
  refine WP_region ?_
  refine S_x (X_box (cs := #[.int .i64 pk0, .int .i64 pn0, w0]) E S rfl rfl rfl ?_)
  clear E a S; rintro a w b_1 E S
  obtain ⟨M_2, hM_2, hb_1, S⟩ := S.freezeB
  replace hw0 := hw0.le hM_2
  refine S_v E rfl (R_assign E rfl) rfl ?_
  clear E a; intro a E
  refine WL_nil ?_
  refine T_n ?_
  refine WP_seq ?_
  refine WP_seq ?_
  refine WP_region ?_
  refine S_v E rfl (R_fieldAddr E rfl (FA54_0 _)) rfl ?_
  clear E a; intro a E
  refine S_v E rfl (R_loadM E rfl Try.isAgg3 S.imm (cellM_boxo hb_1 rfl)) rfl ?_
  clear E a; intro a E
  refine WL_nil ?_
  refine T_n ?_
  refine WP_block ?_
  refine WP_seq ?_
  refine WP_region ?_
  refine S_v E rfl (R_eql E rfl rfl) rfl ?_
  clear E a; intro a E
  refine S_v E rfl (R_assign E rfl) rfl ?_
  clear E a; intro a E
  refine WL_nil ?_
  refine T_n ?_
  refine WP_cond E rfl (fun hc_3 => ?_) (fun hc_3 => ?_)
  · replace hc_3 := of_decide_eq_true hc_3
    refine WP_seq ?_
    refine WP_region ?_
    refine S_v E rfl (R_move E rfl) rfl ?_
    clear E a; intro a E
    refine S_v E rfl (R_fieldAddr E rfl (FA54_1 _)) rfl ?_
    clear E a; intro a E
    refine S_v E rfl (R_loadM E rfl Try.isAgg3 S.imm (cellM_boxo hb_1 rfl)) rfl ?_
    clear E a; intro a E
    refine S_v E rfl (R_lss E rfl rfl) rfl ?_
    clear E a; intro a E
    refine S_v E rfl (R_assign E rfl) rfl ?_
    clear E a; intro a E
    refine WL_nil ?_
    refine T_n ?_
    refine WP_ret ?_
    refine B_r ?_
    refine T_r ?_
    exact F_ret1 E Try.results126 rfl ⟨_, rfl, M_2, hM_2, (congrArg Value.bool (by (clear E S; unfold predAt; first | (have e := (first_eq (l := pl0) (by assumption)).1; simp_all; done) | (have e : pl0 = [] := List.eq_nil_of_length_eq_zero (by omega); simp_all; done) | (simp_all; done)))), S⟩
  · replace hc_3 := of_decide_eq_false hc_3
    refine WP_seq ?_
    refine WP_region ?_
    refine S_v E rfl (R_eql E rfl rfl) rfl ?_
    clear E a; intro a E
    refine S_v E rfl (R_assign E rfl) rfl ?_
    clear E a; intro a E
    refine WL_nil ?_
    refine T_n ?_
    refine WP_cond E rfl (fun hc_4 => ?_) (fun hc_4 => ?_)
    · replace hc_4 := of_decide_eq_true hc_4
      refine WP_seq ?_
      refine WP_region ?_
      refine S_v E rfl (R_assign E rfl) rfl ?_
      clear E a; intro a E
      refine WL_nil ?_
      refine T_n ?_
      refine WP_seq ?_
      refine WP_seq ?_
      refine WP_region ?_
      refine S_v E rfl (R_fieldAddr E rfl (FA54_2 _)) rfl ?_
      clear E a; intro a E
      refine S_v E rfl (R_loadM E rfl Try.isAgg22 S.imm (cellM_boxo hb_1 rfl)) rfl ?_
      clear E a; intro a E
      refine S_v E rfl (R_lenV E rfl T22 hw0.len) rfl ?_
      clear E a; intro a E
      refine S_v E rfl (R_gtr E rfl rfl) rfl ?_
      clear E a; intro a E
      refine WL_nil ?_
      refine T_n ?_
      refine WP_cond E rfl (fun hc_5 => ?_) (fun hc_5 => ?_)
      · replace hc_5 := of_decide_eq_true hc_5
        refine WP_region ?_
        refine S_v E rfl (R_fieldAddr E rfl (FA54_2 _)) rfl ?_
        clear E a; intro a E
        refine S_v E rfl (R_loadM E rfl Try.isAgg22 S.imm (cellM_boxo hb_1 rfl)) rfl ?_
        clear E a; intro a E
        obtain ⟨x_6, hx_6⟩ : ∃ x, (pl0)[0]? = some x := ⟨_, List.getElem?_eq_getElem (by first | omega | (simp; done) | (simp; omega) | (simp_all; omega))⟩
        obtain ⟨p_7, hp_7, qp_7⟩ := hw0.at hx_6
        refine S_v E rfl (R_idx E rfl rfl T22 hp_7 (by omega)) rfl ?_
        clear E a; intro a E
        refine S_v E rfl (R_loadM E rfl Try.isAgg3 S.imm qp_7) rfl ?_
        clear E a; intro a E
        refine S_v E rfl (R_assign E rfl) rfl ?_
        clear E a; intro a E
        refine WL_nil ?_
        refine T_n ?_
        refine WP_seq ?_
        refine WP_region ?_
        refine S_v E rfl (R_fieldAddr E rfl (FA54_1 _)) rfl ?_
        clear E a; intro a E
        refine S_v E rfl (R_loadM E rfl Try.isAgg3 S.imm (cellM_boxo hb_1 rfl)) rfl ?_
        clear E a; intro a E
        refine S_v E rfl (R_neq E rfl rfl) rfl ?_
        clear E a; intro a E
        refine S_v E rfl (R_move E rfl) rfl ?_
        clear E a; intro a E
        refine split_bool (decide (pn0 ≠ 0)) (fun hc_8 => ?_) (fun hc_8 => ?_)
        · replace E := E.val (t := 28) rfl hc_8
          replace E := E.val (t := 29) rfl hc_8
          replace hc_8 := of_decide_eq_true hc_8
          refine WL_guard_yes E rfl rfl ?_
          refine S_v E rfl (R_move E rfl) rfl ?_
          clear E a; intro a E
          refine WL_guard_yes E rfl rfl ?_
          refine S_v E rfl (R_fieldAddr E rfl (FA54_1 _)) rfl ?_
          clear E a; intro a E
          refine WL_guard_yes E rfl rfl ?_
          refine S_v E rfl (R_loadM E rfl Try.isAgg3 S.imm (cellM_boxo hb_1 rfl)) rfl ?_
          clear E a; intro a E
          refine WL_guard_yes E rfl rfl ?_
          refine S_x (X_pu E S rfl rfl rfl (impl_mod (by first | omega | assumption) (by omega)) (Hp.le.refl _) ?_)
          clear E a S; rintro a _ w M_9 hM_9 rfl S E
          replace hw0 := hw0.le hM_9
          replace hb_1 := hM_9.2 _ _ hb_1
          refine WL_guard_yes E rfl rfl ?_
          refine S_v E rfl (R_move E rfl) rfl ?_
          clear E a; intro a E
          refine WL_guard_yes E rfl rfl ?_
          refine S_v E rfl (R_eql E rfl rfl) rfl ?_
          clear E a; intro a E
          refine S_v E rfl (R_pickT E rfl rfl) rfl ?_
          clear E a; intro a E
          refine S_v E rfl (R_assign E rfl) rfl ?_
          clear E a; intro a E
          refine WL_nil ?_
          refine T_n ?_
          refine WP_ret ?_
          refine B_r ?_
          refine T_r ?_
          exact F_ret1 E Try.results126 rfl ⟨_, rfl, M_9, (hM_2.trans hM_9), (congrArg Value.bool (by (clear E S; unfold predAt; first | (have e := (first_eq (l := pl0) (by assumption)).1; simp_all; done) | (have e : pl0 = [] := List.eq_nil_of_length_eq_zero (by omega); simp_all; done) | (simp_all; done)))), S⟩
        · replace E := E.val (t := 28) rfl hc_8
          replace E := E.val (t := 29) rfl hc_8
          replace hc_8 := of_decide_eq_false hc_8
          refine WL_guard_no E rfl rfl rfl rfl fun a E => ?_
          refine WL_guard_no E rfl rfl rfl rfl fun a E => ?_
          refine WL_guard_no E rfl rfl rfl rfl fun a E => ?_
          refine WL_guard_no E rfl rfl rfl rfl fun a E => ?_
          refine WL_guard_no E rfl rfl rfl rfl fun a E => ?_
          refine WL_guard_no E rfl rfl rfl rfl fun a E => ?_
          refine S_v E rfl (R_pickF E rfl rfl) rfl ?_
          clear E a; intro a E
          refine S_v E rfl (R_assign E rfl) rfl ?_
          clear E a; intro a E
          refine WL_nil ?_
          refine T_n ?_
          refine WP_ret ?_
          refine B_r ?_
          refine T_r ?_
          exact F_ret1 E Try.results126 rfl ⟨_, rfl, M_2, hM_2, (congrArg Value.bool (by (clear E S; unfold predAt; first | (have e := (first_eq (l := pl0) (by assumption)).1; simp_all; done) | (have e : pl0 = [] := List.eq_nil_of_length_eq_zero (by omega); simp_all; done) | (simp_all; done)))), S⟩
      · replace hc_5 := of_decide_eq_false hc_5
        refine WP_skip ?_
        refine T_n ?_
        refine WP_seq ?_
        refine WP_region ?_
        refine S_v E rfl (R_fieldAddr E rfl (FA54_1 _)) rfl ?_
        clear E a; intro a E
        refine S_v E rfl (R_loadM E rfl Try.isAgg3 S.imm (cellM_boxo hb_1 rfl)) rfl ?_
        clear E a; intro a E
        refine S_v E rfl (R_neq E rfl rfl) rfl ?_
        clear E a; intro a E
        refine S_v E rfl (R_move E rfl) rfl ?_
        clear E a; intro a E
        refine split_bool (decide (pn0 ≠ 0)) (fun hc_10 => ?_) (fun hc_10 => ?_)
        · replace E := E.val (t := 28) rfl hc_10
          replace E := E.val (t := 29) rfl hc_10
          replace hc_10 := of_decide_eq_true hc_10
          refine WL_guard_yes E rfl rfl ?_
          refine S_v E rfl (R_move E rfl) rfl ?_
          clear E a; intro a E
          refine WL_guard_yes E rfl rfl ?_
          refine S_v E rfl (R_fieldAddr E rfl (FA54_1 _)) rfl ?_
          clear E a; intro a E
          refine WL_guard_yes E rfl rfl ?_
          refine S_v E rfl (R_loadM E rfl Try.isAgg3 S.imm (cellM_boxo hb_1 rfl)) rfl ?_
          clear E a; intro a E
          refine WL_guard_yes E rfl rfl ?_
          refine S_x (X_pu E S rfl rfl rfl (impl_mod (by first | omega | assumption) (by omega)) (Hp.le.refl _) ?_)
          clear E a S; rintro a _ w M_11 hM_11 rfl S E
          replace hw0 := hw0.le hM_11
          replace hb_1 := hM_11.2 _ _ hb_1
          refine WL_guard_yes E rfl rfl ?_
          refine S_v E rfl (R_move E rfl) rfl ?_
          clear E a; intro a E
          refine WL_guard_yes E rfl rfl ?_
          refine S_v E rfl (R_eql E rfl rfl) rfl ?_
          clear E a; intro a E
          refine S_v E rfl (R_pickT E rfl rfl) rfl ?_
          clear E a; intro a E
          refine S_v E rfl (R_assign E rfl) rfl ?_
          clear E a; intro a E
          refine WL_nil ?_
          refine T_n ?_
          refine WP_ret ?_
          refine B_r ?_
          refine T_r ?_
          exact F_ret1 E Try.results126 rfl ⟨_, rfl, M_11, (hM_2.trans hM_11), (congrArg Value.bool (by (clear E S; unfold predAt; first | (have e := (first_eq (l := pl0) (by assumption)).1; simp_all; done) | (have e : pl0 = [] := List.eq_nil_of_length_eq_zero (by omega); simp_all; done) | (simp_all; done)))), S⟩
        · replace E := E.val (t := 28) rfl hc_10
          replace E := E.val (t := 29) rfl hc_10
          replace hc_10 := of_decide_eq_false hc_10
          refine WL_guard_no E rfl rfl rfl rfl fun a E => ?_
          refine WL_guard_no E rfl rfl rfl rfl fun a E => ?_
          refine WL_guard_no E rfl rfl rfl rfl fun a E => ?_
          refine WL_guard_no E rfl rfl rfl rfl fun a E => ?_
          refine WL_guard_no E rfl rfl rfl rfl fun a E => ?_
          refine WL_guard_no E rfl rfl rfl rfl fun a E => ?_
          refine S_v E rfl (R_pickF E rfl rfl) rfl ?_
          clear E a; intro a E
          refine S_v E rfl (R_assign E rfl) rfl ?_
          clear E a; intro a E
          refine WL_nil ?_
          refine T_n ?_
          refine WP_ret ?_
          refine B_r ?_
          refine T_r ?_
          exact F_ret1 E Try.results126 rfl ⟨_, rfl, M_2, hM_2, (congrArg Value.bool (by (clear E S; unfold predAt; first | (have e := (first_eq (l := pl0) (by assumption)).1; simp_all; done) | (have e : pl0 = [] := List.eq_nil_of_length_eq_zero (by omega); simp_all; done) | (simp_all; done)))), S⟩
    · replace hc_4 := of_decide_eq_false hc_4
      refine WP_seq ?_
      refine WP_region ?_
      refine S_v E rfl (R_eql E rfl rfl) rfl ?_
      clear E a; intro a E
      refine S_v E rfl (R_assign E rfl) rfl ?_
      clear E a; intro a E
      refine WL_nil ?_
      refine T_n ?_
      refine WP_cond E rfl (fun hc_12 => ?_) (fun hc_12 => ?_)
      · replace hc_12 := of_decide_eq_true hc_12
        refine WP_seq ?_
        refine WP_region ?_
        refine S_v E rfl (R_fieldAddr E rfl (FA54_2 _)) rfl ?_
        clear E a; intro a E
        refine S_v E rfl (R_loadM E rfl Try.isAgg22 S.imm (cellM_boxo hb_1 rfl)) rfl ?_
        clear E a; intro a E
        refine S_v E rfl (R_move E rfl) rfl ?_
        clear E a; intro a E
        refine S_x (X_pu E S rfl rfl rfl (slices_Contains hw0) (Hp.le.refl _) ?_)
        clear E a S; rintro a _ w M_13 hM_13 rfl S E
        replace hw0 := hw0.le hM_13
        replace hb_1 := hM_13.2 _ _ hb_1
        refine S_v E rfl (R_assign E rfl) rfl ?_
        clear E a; intro a E
        refine WL_nil ?_
        refine T_n ?_
        refine WP_ret ?_
        refine B_r ?_
        refine T_r ?_
        exact F_ret1 E Try.results126 rfl ⟨_, rfl, M_13, (hM_2.trans hM_13), (congrArg Value.bool (by (clear E S; unfold predAt; first | (have e := (first_eq (l := pl0) (by assumption)).1; simp_all; done) | (have e : pl0 = [] := List.eq_nil_of_length_eq_zero (by omega); simp_all; done) | (simp_all; done)))), S⟩
      · replace hc_12 := of_decide_eq_false hc_12
        refine WP_seq ?_
        refine WP_region ?_
        refine S_v E rfl (R_eql E rfl rfl) rfl ?_
        clear E a; intro a E
        refine S_v E rfl (R_assign E rfl) rfl ?_
        clear E a; intro a E
        refine WL_nil ?_
        refine T_n ?_
        refine WP_cond E rfl (fun hc_14 => ?_) (fun hc_14 => ?_)
        · replace hc_14 := of_decide_eq_true hc_14
          refine WP_seq ?_
          refine WP_region ?_
          refine S_v E rfl (R_move E rfl) rfl ?_
          clear E a; intro a E
          refine S_v E rfl (R_rem E rfl rfl (by first | decide | omega)) rfl ?_
          clear E a; intro a E
          refine S_v E rfl (R_eql E rfl rfl) rfl ?_
          clear E a; intro a E
          refine S_v E rfl (R_assign E rfl) rfl ?_
          clear E a; intro a E
          refine WL_nil ?_
          refine T_n ?_
          refine WP_ret ?_
          refine B_r ?_
          refine T_r ?_
          exact F_ret1 E Try.results126 rfl ⟨_, rfl, M_2, hM_2, (congrArg Value.bool (by (clear E S; unfold predAt; first | (have e := (first_eq (l := pl0) (by assumption)).1; simp_all; done) | (have e : pl0 = [] := List.eq_nil_of_length_eq_zero (by omega); simp_all; done) | (simp_all; done)))), S⟩
        · replace hc_14 := of_decide_eq_false hc_14
          refine WP_skip ?_
          refine B_n ?_
          refine T_n ?_
          refine WP_seq ?_
          refine WP_region ?_
          refine S_v E rfl (R_fieldAddr E rfl (FA54_0 _)) rfl ?_
          clear E a; intro a E
          refine S_v E rfl (R_loadM E rfl Try.isAgg3 S.imm (cellM_boxo hb_1 rfl)) rfl ?_
          clear E a; intro a E
          refine S_v E rfl (R_eql E rfl rfl) rfl ?_
          clear E a; intro a E
          refine S_v E rfl (R_assign E rfl) rfl ?_
          clear E a; intro a E
          refine WL_nil ?_
          refine T_n ?_
          refine WP_ret ?_
          exact F_ret1 E Try.results126 rfl ⟨_, rfl, M_2, hM_2, (congrArg Value.bool (by (clear E S; unfold predAt; first | (have e := (first_eq (l := pl0) (by assumption)).1; simp_all; done) | (have e : pl0 = [] := List.eq_nil_of_length_eq_zero (by omega); simp_all; done) | (simp_all; done)))), S⟩
theorem Pred_at {M : Hp} {pk0 pn0 : Int} {w0 : Value} {pl0 : List Int} (hw0 : RdI M w0 pl0) (gn0 : -9223372036854775808 ≤ pn0 ∧ pn0 ≤ 9223372036854775807){x1 x2 : Int} :
    Pu Try.prog (.func (.func 126) #[.agg #[.int .i64 pk0, .int .i64 pn0, w0]] #[]) M [.int .i64 x1, .int .i64 x2] (fun r M' => r = .bool (predAt pk0 pn0 pl0 x1 x2)) := PuC.pu Try.call126 rfl (Pred_at_c hw0 gn0)
theorem Pred_at_d {M : Hp} {pk0 pn0 : Int} {w0 : Value} {pl0 : List Int} (hw0 : RdI M w0 pl0) (gn0 : -9223372036854775808 ≤ pn0 ∧ pn0 ≤ 9223372036854775807){x1 x2 : Int} :
    Pu Try.prog (.func (.func 126) #[] #[]) M [.agg #[.int .i64 pk0, .int .i64 pn0, w0], .int .i64 x1, .int .i64 x2] (fun r M' => r = .bool (predAt pk0 pn0 pl0 x1 x2)) := PuC.pu Try.call126 rfl (Pred_at_c hw0 gn0)

set_option maxRecDepth 100000 in
set_option maxHeartbeats 4000000 in
theorem impl_FilterToMap1 {M : Hp} {kk7 kn7 : Int} (gk7 : -9223372036854775808 ≤ kn7 ∧ kn7 ≤ 9223372036854775807) {bx7 : Nat} (hbx7 : M bx7 = some (.cells #[.int .i64 kk7, .int .i64 kn7] 24)) {kk8 kn8 : Int} (gk8 : -9223372036854775808 ≤ kn8 ∧ kn8 ≤ 9223372036854775807) {bx8 : Nat} (hbx8 : M bx8 = some (.cells #[.int .i64 kk8, .int .i64 kn8] 24)) {pk9 pn9 : Int} {w9 : Value} {pl9 : List Int} (hw9 : RdI M w9 pl9) (gn9 : -9223372036854775808 ≤ pn9 ∧ pn9 ≤ 9223372036854775807) {bx9 : Nat} (hbx9 : M bx9 = some (.cells #[.int .i64 pk9, .int .i64 pn9, w9] 54)) {x0 x1 : Int} :
    Pu Try.prog (.func (.func 125) #[] #[.pointer (some ⟨bx7, 0, none⟩), .pointer (some ⟨bx8, 0, none⟩), .pointer (some ⟨bx9, 0, none⟩)]) M [.int .i64 x0, .int .i64 x1] (fun r M' => r = .tuple #[.int .i64 (keyAt kk7 kn7 x0 x1), .int .i64 (keyAt kk8 kn8 x0 x1), .bool (predAt pk9 pn9 pl9 x0 x1)]) := by
  refine Pu_enter Try.func125 rfl Try.ntmps125 rfl Try.call125 ?_
  intro a w M1 H hM1 S E
  replace hbx7 := hM1.2 _ _ hbx7
  replace hbx8 := hM1.2 _ _ hbx8
  replace hbx9 := hM1.2 _ _ hbx9
  replace hw9 := hw9.le hM1
  refine WP_seq ?_
  refine WP_region ?_
  refine S_v E rfl (R_assign E rfl) rfl ?_
  clear E a; intro a E
  refine S_v E rfl (R_assign E rfl) rfl ?_
  clear E a; intro a E
  refine S_v E rfl (R_assign E rfl) rfl ?_
  clear E a; intro a E
  refine WL_nil ?_
  refine T_n ?_
  refine WP_seq ?_
  have hbx7k0 := hbx7
  have hbx8k0 := hbx8
  have hbx9k0 := hbx9
  replace S := S.mono_heap (w' := World.drew _) rfl
  refine WP_drawn (C := fun x w => agree M1 w) (bf := (fun i => [])) [0, 1, 2, 4, 5, 6, 8, 9, 10, 12, 13, 14] [0, 1, 2, 4, 5, 6, 8, 9, 10, 3, 7, 11, 12, 13, 14] Try.mixed (by kernel_rfl) (fun x hq => S.imm) ?_
  refine D_v E rfl rfl rfl (fun w hC => (R_loadGM E rfl (Try.isAgg24 _) (Try.sizeOf24 _) hC hbx7k0)) ?_
  clear E a; intro a E
  refine D_v E rfl rfl rfl (fun w hC => (R_move E rfl)) ?_
  clear E a; intro a E
  refine D_v E rfl rfl rfl (fun w hC => (R_move E rfl)) ?_
  clear E a; intro a E
  refine D_v E rfl rfl rfl (fun w hC => (R_loadGM E rfl (Try.isAgg24 _) (Try.sizeOf24 _) hC hbx8k0)) ?_
  clear E a; intro a E
  refine D_v E rfl rfl rfl (fun w hC => (R_move E rfl)) ?_
  clear E a; intro a E
  refine D_v E rfl rfl rfl (fun w hC => (R_move E rfl)) ?_
  clear E a; intro a E
  refine D_v E rfl rfl rfl (fun w hC => (R_loadGM E rfl (Try.isAgg54 _) (Try.sizeOf54 _) hC hbx9k0)) ?_
  clear E a; intro a E
  refine D_v E rfl rfl rfl (fun w hC => (R_move E rfl)) ?_
  clear E a; intro a E
  refine D_v E rfl rfl rfl (fun w hC => (R_move E rfl)) ?_
  clear E a; intro a E
  refine D_x rfl rfl rfl (X_pu E S rfl rfl rfl (Key_at_d (by omega)) (Hp.le.refl _) ?_)
  clear E a S; rintro a _ w M_1 hM_1 rfl S E
  replace hbx7 := hM_1.2 _ _ hbx7
  replace hbx8 := hM_1.2 _ _ hbx8
  replace hbx9 := hM_1.2 _ _ hbx9
  replace hw9 := hw9.le hM_1
  refine ⟨fun x hq hb => (agree_le hM_1 S.imm), ?_⟩
  refine D_x rfl rfl rfl (X_pu E S rfl rfl rfl (Key_at_d (by omega)) (Hp.le.refl _) ?_)
  clear E a S; rintro a _ w M_2 hM_2 rfl S E
  replace hbx7 := hM_2.2 _ _ hbx7
  replace hbx8 := hM_2.2 _ _ hbx8
  replace hbx9 := hM_2.2 _ _ hbx9
  replace hw9 := hw9.le hM_2
  refine ⟨fun x hq hb => (agree_le (hM_1.trans hM_2) S.imm), ?_⟩
  refine D_x rfl rfl rfl (X_pu E S rfl rfl rfl (Pred_at_d hw9 (by omega)) (Hp.le.refl _) ?_)
  clear E a S; rintro a _ w M_3 hM_3 rfl S E
  replace hbx7 := hM_3.2 _ _ hbx7
  replace hbx8 := hM_3.2 _ _ hbx8
  replace hbx9 := hM_3.2 _ _ hbx9
  replace hw9 := hw9.le hM_3
  refine ⟨fun x hq hb => (agree_le (hM_1.trans (hM_2.trans hM_3)) S.imm), ?_⟩
  refine D_v E rfl rfl rfl (fun w hC => (R_assign E rfl)) ?_
  clear E a; intro a E
  refine D_v E rfl rfl rfl (fun w hC => (R_assign E rfl)) ?_
  clear E a; intro a E
  refine D_v E rfl rfl rfl (fun w hC => (R_assign E rfl)) ?_
  clear E a; intro a E
  refine D_end (NoP_n ?_)
  refine T_n ?_
  refine WP_ret ?_
  exact F_ret3 E Try.results125 rfl rfl rfl ⟨_, rfl, M_3, (hM_1.trans (hM_2.trans hM_3)), (by first | rfl | (simp; done) | (simp_all; done)), S⟩

set_option maxRecDepth 100000 in
set_option maxHeartbeats 4000000 in
theorem impl_FilterToMap {M : Hp} {v0 : Value} {l0 : List Int} (h0 : RdI M v0 l0){pk1 pn1 : Int} {w1 : Value} {pl1 : List Int} (hw1 : RdI M w1 pl1) (gn1 : -9223372036854775808 ≤ pn1 ∧ pn1 ≤ 9223372036854775807) {kk2 kn2 : Int} (gk2 : -9223372036854775808 ≤ kn2 ∧ kn2 ≤ 9223372036854775807) {kk3 kn3 : Int} (gk3 : -9223372036854775808 ≤ kn3 ∧ kn3 ≤ 9223372036854775807) (hb : l0.length ≤ 1000000000000) :
    Pu Try.prog (.func (.func 53) #[] #[]) M [v0, .agg #[.int .i64 pk1, .int .i64 pn1, w1], .agg #[.int .i64 kk2, .int .i64 kn2], .agg #[.int .i64 kk3, .int .i64 kn3]] (fun r M' => RdS 2 RP2 M' r (entE (kpE (ixm (fun x i => (keyAt kk2 kn2 x i, keyAt kk3 kn3 x i, predAt pk1 pn1 pl1 x i)) 0 l0)))) := by
  refine Pu_enter Try.func53 rfl Try.ntmps53 rfl Try.call53 ?_
  intro a w M1 H hM1 S E
  replace h0 := h0.le hM1
  replace hw1 := hw1.le hM1
  have b0 := h0.bound
  refine WP_seq ?_
  refine WP_region ?_
  refine S_x (X_box (cs := #[.int .i64 pk1, .int .i64 pn1, w1]) E S rfl rfl rfl ?_)
  clear E a S; rintro a w b_1 E S
  obtain ⟨M_2, hM_2, hb_1, S⟩ := S.freezeB
  replace h0 := h0.le hM_2
  replace hw1 := hw1.le hM_2
  refine S_x (X_box (cs := #[.int .i64 kk2, .int .i64 kn2]) E S rfl rfl rfl ?_)
  clear E a S; rintro a w b_3 E S
  obtain ⟨M_4, hM_4, hb_3, S⟩ := S.freezeB
  replace h0 := h0.le hM_4
  replace hw1 := hw1.le hM_4
  replace hb_1 := hM_4.2 _ _ hb_1
  refine S_x (X_box (cs := #[.int .i64 kk3, .int .i64 kn3]) E S rfl rfl rfl ?_)
  clear E a S; rintro a w b_5 E S
  obtain ⟨M_6, hM_6, hb_5, S⟩ := S.freezeB
  replace h0 := h0.le hM_6
  replace hw1 := hw1.le hM_6
  replace hb_1 := hM_6.2 _ _ hb_1
  replace hb_3 := hM_6.2 _ _ hb_3
  refine S_v E rfl (R_assign E rfl) rfl ?_
  clear E a; intro a E
  refine WL_nil ?_
  refine T_n ?_
  refine WP_seq ?_
  refine WP_region ?_
  refine S_v E rfl (R_move E rfl) rfl ?_
  clear E a; intro a E
  refine S_v E rfl (R_makeFunc E rfl rfl) rfl ?_
  clear E a; intro a E
  refine S_x (X_pu E S rfl rfl rfl (lo_FilterSliceToMapI h0 (f1 := (fun x i => (keyAt kk2 kn2 x i, keyAt kk3 kn3 x i, predAt pk1 pn1 pl1 x i))) ⟨rfl, fun zx0 zx1 => impl_FilterToMap1 (x0 := zx0) (x1 := zx1) (by omega) hb_3 (by omega) hb_5 hw1 (by omega) hb_1⟩) (Hp.le.refl _) ?_)
  clear E a S; rintro a v_8 w M_7 hM_7 hv_8 S E
  replace h0 := h0.le hM_7
  replace hw1 := hw1.le hM_7
  replace hb_1 := hM_7.2 _ _ hb_1
  replace hb_3 := hM_7.2 _ _ hb_3
  replace hb_5 := hM_7.2 _ _ hb_5
  refine S_x (X_pu E S rfl rfl rfl (impl_pairs hv_8 (by first | omega | (exact bigE _ l0 (by first | (rw [ixm_len]; exact Nat.le_refl _) | exact kpix_len _ _ _ | (rw [List.length_map]; exact Nat.le_refl _)) (by omega)) | (first | omega | (simp; omega) | (simp; done) | (simp_all; omega) | grind))) (Hp.le.refl _) ?_)
  clear E a S; rintro a v_10 w M_9 hM_9 hv_10 S E
  replace h0 := h0.le hM_9
  replace hw1 := hw1.le hM_9
  replace hb_1 := hM_9.2 _ _ hb_1
  replace hb_3 := hM_9.2 _ _ hb_3
  replace hb_5 := hM_9.2 _ _ hb_5
  replace hv_8 := hv_8.le hM_9
  refine S_v E rfl (R_assign E rfl) rfl ?_
  clear E a; intro a E
  refine WL_nil ?_
  refine T_n ?_
  refine WP_ret ?_
  exact F_ret1 E Try.results53 rfl ⟨_, rfl, M_9, (hM_2.trans (hM_4.trans (hM_6.trans (hM_7.trans hM_9)))), (by rw [show (entE (kpE (ixm (fun x i => (keyAt kk2 kn2 x i, keyAt kk3 kn3 x i, predAt pk1 pn1 pl1 x i)) 0 l0))) = (srtK Prod.fst (mkE (kpE (ixm (fun x i => (keyAt kk2 kn2 x i, keyAt kk3 kn3 x i, predAt pk1 pn1 pl1 x i)) 0 l0)))) from by rfl]; exact hv_10), S⟩

set_option maxRecDepth 100000 in
set_option maxHeartbeats 4000000 in
theorem it_FilterSeqToMapI {M : Hp} {v0 : Value} {l0 : List Int} (h0 : SeqV Try.prog v0 M (RInt) l0){v1 : Value} {f1 : Int → Int → Int × Int × Bool} (h1 : PF2V Try.prog v1 M f1) (hb : l0.length ≤ 1000000000000) :
    Pu Try.prog (.func (.func 127) #[] #[]) M [v0, v1] (fun r M' => RdM M' r (encE (Value.int .i64) (mkE (kpE (ixm f1 0 l0))))) := by
  refine Pu_enter Try.func127 rfl Try.ntmps127 rfl Try.call127 ?_
  intro a w M1 H hM1 S E
  replace h0 := h0.le hM1
  replace h1 := h1.le hM1
  replace S : St w M1 (mks [] :: _) := S.empty
  replace E : Env a 29 (([] : List Nat).map mk) _ := E
  refine WP_seq ?_
  refine WP_region ?_
  refine S_x (X_box (cs := #[v1]) E S rfl rfl (cells_one h1.1) ?_)
  clear E a S; rintro a w b_1 E S
  obtain ⟨M_2, hM_2, hb_1, S⟩ := S.freezeB
  replace h0 := h0.le hM_2
  replace h1 := h1.le hM_2
  refine S_v E rfl (R_assign E rfl) rfl ?_
  clear E a; intro a E
  refine WL_nil ?_
  refine T_n ?_
  refine WP_seq ?_
  refine WP_region ?_
  refine S_x (X_makeMap E S rfl ?_)
  clear E a S; rintro a w b_3 E S
  replace S : St w M_2 (OwnE (Value.int .i64) b_3 ([] : List (Int × Int)) :: _) := S
  refine S_x (X_alloc (cs := #[.map none]) E S rfl Try.zeroValue103 rfl ?_)
  clear E a S; rintro a w b_4 E S
  refine S_x0 (X_store E S rfl rfl (Try.sizeOf103 _) rfl ?_)
  clear E a S; rintro a w E S
  refine WL_nil ?_
  refine T_n ?_
  refine WP_seq ?_
  refine WP_region ?_
  refine S_x (X_alloc (cs := #[.int .i64 0]) E S rfl Try.zeroValue3 rfl ?_)
  clear E a S; rintro a w b_5 E S
  refine WL_nil ?_
  refine T_n ?_
  refine WP_seq ?_
  refine WP_seq ?_
  refine WP_region ?_
  refine S_v E rfl (R_move E rfl) rfl ?_
  clear E a; intro a E
  refine WL_nil ?_
  refine T_n ?_
  refine WP_block ?_
  replace S := S.front1
  replace S := S.front2
  replace S := S.front2
  replace S := S.front2
  replace E := E.keep (l' := [(3, .pointer (some ⟨b_1, 0, none⟩)), (5, .pointer (some ⟨b_4, 0, none⟩)), (6, .pointer (some ⟨b_5, 0, none⟩)), (12, v0)]) ⟨rfl, rfl, rfl, rfl, trivial⟩
  replace S := S.front2
  replace S := S.reM (L' := (encE (Value.int .i64) (mkE (kpE (ixm f1 0 (([] : List Int))))))) (congrArg (encE (Value.int .i64)) (show ([] : List (Int × Int)) = mkE (kpE (ixm f1 0 (([] : List Int)))) by first | rfl | (simp [mkE, ixm, kpE]; done) | exact mkE_kp1 (by assumption) | exact mkE_kpn1 (by simp_all)))
  replace S := S.front2
  replace S := S.blk_int (j := ((([] : List Int)).length : Int)) (by (first | (simp; done) | omega))
  replace S := S.front2
  have S0 := S; clear S; have S := St.pack [blk b_4 (.cells #[.map (some b_3)] 103), blk b_5 (.cells #[.int .i64 ((([] : List Int)).length : Int)] 3), OwnE (Value.int .i64) b_3 (mkE (kpE (ixm f1 0 (([] : List Int)))))] S0; clear S0
  refine WP_range (RV := RInt) (l := l0) (fun pre M c => c = bigs [blk b_4 (.cells #[.map (some b_3)] 103), blk b_5 (.cells #[.int .i64 ((pre).length : Int)] 3), OwnE (Value.int .i64) b_3 (mkE (kpE (ixm f1 0 (pre))))]) (fun _ _ _ _ => False) E S rfl h0 (Hp.le.refl _) (fun _ _ _ h => by rw [h]; rfl) (by decide) (by rintro _ M M' c hM rfl; exact rfl) rfl ?_ ?_ ?_
  clear E S
  · rintro lb_7 rec_8 pre x _ a w M_6 _ G hM_6 hp_9 rfl rfl E S
    replace E : Env a 29 [] [(13, .int .i64 x), (3, .pointer (some ⟨b_1, 0, none⟩)), (5, .pointer (some ⟨b_4, 0, none⟩)), (6, .pointer (some ⟨b_5, 0, none⟩)), (12, v0)] := E
    replace S := S.swap.unpack3
    have hq0 := prefix_lt hp_9
    replace h0 := h0.le hM_6
    replace h1 := h1.le hM_6
    replace hb_1 := hM_6.2 _ _ hb_1
    refine WP_region ?_
    refine S_v E rfl (R_assign E rfl) rfl ?_
    clear E a; intro a E
    refine WL_nil ?_
    refine T_n ?_
    replace S := S.front3
    refine rb S ?_
    clear S; intro w S
    refine WP_block ?_
    refine WP_seq ?_
    refine WP_seq ?_
    refine WP_region ?_
    refine S_v E rfl (R_loadM E rfl Try.isAgg124 S.imm (cellM_box hb_1)) rfl ?_
    clear E a; intro a E
    refine S_v E rfl (R_move E rfl) rfl ?_
    clear E a; intro a E
    refine S_v E rfl (R_load E rfl (Try.isAgg3 _) (cell_blk (S.mem (.tail _ (.tail _ (.head _)))))) rfl ?_
    clear E a; intro a E
    refine S_x (X_pu E S rfl rfl rfl (h1.2 x ((pre).length : Int)) (Hp.le.refl _) ?_)
    clear E a S; rintro a _ w M_11 hM_11 rfl S E
    replace h0 := h0.le hM_11
    replace h1 := h1.le hM_11
    replace hb_1 := hM_11.2 _ _ hb_1
    refine S_v E rfl (R_move E rfl) rfl ?_
    clear E a; intro a E
    refine S_v E rfl (R_extract E rfl rfl) rfl ?_
    clear E a; intro a E
    refine S_v E rfl (R_extract E rfl rfl) rfl ?_
    clear E a; intro a E
    refine S_v E rfl (R_extract E rfl rfl) rfl ?_
    clear E a; intro a E
    refine S_v E rfl (R_assign E rfl) rfl ?_
    clear E a; intro a E
    refine S_v E rfl (R_assign E rfl) rfl ?_
    clear E a; intro a E
    refine S_v E rfl (R_assign E rfl) rfl ?_
    clear E a; intro a E
    refine WL_nil ?_
    refine T_n ?_
    refine WP_seq ?_
    refine WP_region ?_
    refine S_v E rfl (R_move E rfl) rfl ?_
    clear E a; intro a E
    refine WL_nil ?_
    refine T_n ?_
    refine WP_cond E rfl (fun hc_12 => ?_) (fun hc_12 => ?_)
    · refine WP_region ?_
      refine S_v E rfl (R_load E rfl (Try.isAgg103 _) (cell_blk (S.mem (.tail _ (.head _))))) rfl ?_
      clear E a; intro a E
      refine S_v E rfl (R_move E rfl) rfl ?_
      clear E a; intro a E
      refine S_v E rfl (R_move E rfl) rfl ?_
      clear E a; intro a E
      replace S := S.front3
      refine S_x0 (X_updateE (vf := (Value.int .i64)) (u := (f1 x ((pre).length : Int)).2.1) E S MT103 rfl rfl rfl ?_)
      clear E a S; rintro a w E S
      refine WL_nil ?_
      refine T_n ?_
      refine WP_region ?_
      refine S_v E rfl (R_load E rfl (Try.isAgg3 _) (cell_blk (S.mem (.tail _ (.tail _ (.tail _ (.head _))))))) rfl ?_
      clear E a; intro a E
      refine S_v E rfl (R_addx (m := (((pre).length + 1 : Nat) : Int)) E rfl rfl (by omega) (by omega)) rfl ?_
      clear E a; intro a E
      replace S := S.front3
      refine S_x0 (X_store E S rfl rfl (Try.sizeOf3 _) rfl ?_)
      clear E a S; rintro a w E S
      refine WL_nil ?_
      refine B_n ?_
      replace S := S.front1
      replace S := S.front1
      replace S := S.front3
      replace S := S.front2
      replace S := S.reM (L' := (encE (Value.int .i64) (mkE (kpE (ixm f1 0 ((pre ++ [x]))))))) (congrArg (encE (Value.int .i64)) (show putK (mkE (kpE (ixm f1 0 (pre)))) ((f1 x ((pre).length : Int)).1) ((f1 x ((pre).length : Int)).2.1) = mkE (kpE (ixm f1 0 ((pre ++ [x])))) by first | rfl | (simp [mkE, ixm, kpE]; done) | exact mkE_kp1 (by assumption) | exact mkE_kpn1 (by simp_all)))
      replace S := S.front2
      replace S := S.blk_int (j := (((pre ++ [x])).length : Int)) (by (first | (simp; done) | omega))
      replace S := S.front2
      have S0 := S; clear S; have S := (St.pack [blk b_4 (.cells #[.map (some b_3)] 103), blk b_5 (.cells #[.int .i64 (((pre ++ [x])).length : Int)] 3), OwnE (Value.int .i64) b_3 (mkE (kpE (ixm f1 0 ((pre ++ [x])))))] S0).swap; clear S0
      exact ⟨M_11, _, hM_11, rfl, S⟩
    · refine WP_skip ?_
      refine T_n ?_
      refine WP_region ?_
      refine S_v E rfl (R_load E rfl (Try.isAgg3 _) (cell_blk (S.mem (.tail _ (.tail _ (.head _)))))) rfl ?_
      clear E a; intro a E
      refine S_v E rfl (R_addx (m := (((pre).length + 1 : Nat) : Int)) E rfl rfl (by omega) (by omega)) rfl ?_
      clear E a; intro a E
      replace S := S.front2
      refine S_x0 (X_store E S rfl rfl (Try.sizeOf3 _) rfl ?_)
      clear E a S; rintro a w E S
      refine WL_nil ?_
      refine B_n ?_
      replace S := S.front3
      replace S := S.front1
      replace S := S.front3
      replace S := S.front2
      replace S := S.reM (L' := (encE (Value.int .i64) (mkE (kpE (ixm f1 0 ((pre ++ [x]))))))) (congrArg (encE (Value.int .i64)) (show mkE (kpE (ixm f1 0 (pre))) = mkE (kpE (ixm f1 0 ((pre ++ [x])))) by first | rfl | (simp [mkE, ixm, kpE]; done) | exact mkE_kp1 (by assumption) | exact mkE_kpn1 (by simp_all)))
      replace S := S.front2
      replace S := S.blk_int (j := (((pre ++ [x])).length : Int)) (by (first | (simp; done) | omega))
      replace S := S.front2
      have S0 := S; clear S; have S := (St.pack [blk b_4 (.cells #[.map (some b_3)] 103), blk b_5 (.cells #[.int .i64 (((pre ++ [x])).length : Int)] 3), OwnE (Value.int .i64) b_3 (mkE (kpE (ixm f1 0 ((pre ++ [x])))))] S0).swap; clear S0
      exact ⟨M_11, _, hM_11, rfl, S⟩
  · rintro a w M_13 _ D_14 hM_13 rfl S E
    replace S := S.unpack3
    replace h0 := h0.le hM_13
    replace h1 := h1.le hM_13
    replace hb_1 := hM_13.2 _ _ hb_1
    refine B_n ?_
    refine T_n ?_
    refine WP_seq ?_
    refine WP_region ?_
    refine S_v E rfl (R_load E rfl (Try.isAgg103 _) (cell_blk (S.mem (.head _)))) rfl ?_
    clear E a; intro a E
    refine S_v E rfl (R_assign E rfl) rfl ?_
    clear E a; intro a E
    refine WL_nil ?_
    refine T_n ?_
    refine WP_ret ?_
    replace S := S.front2
    have S0 := S; clear S
    obtain ⟨M_15, hM_15, hm_16, S⟩ := S0.freezeM
    clear S0
    replace h0 := h0.le hM_15
    replace h1 := h1.le hM_15
    replace hb_1 := hM_15.2 _ _ hb_1
    replace S := S.drop
    replace S := S.drop
    exact F_retM1 E S Try.results127 rfl (fun w S => ⟨_, rfl, M_15, (hM_2.trans (hM_13.trans hM_15)), (by rw [show (mkE (kpE (ixm f1 0 l0))) = (mkE (kpE (ixm f1 0 (l0)))) from by ((try clear S); (try clear E); first | rfl | (simp; done) | (simp_all; done) | grind [List.take_add_one])]; exact hm_16), S⟩)
  · rintro _ _ _ _ _ _ _ _ _ hX; exact hX.elim

set_option maxRecDepth 100000 in
set_option maxHeartbeats 4000000 in
theorem impl_FilterToMapSeq1 {M : Hp} {kk7 kn7 : Int} (gk7 : -9223372036854775808 ≤ kn7 ∧ kn7 ≤ 9223372036854775807) {bx7 : Nat} (hbx7 : M bx7 = some (.cells #[.int .i64 kk7, .int .i64 kn7] 24)) {kk8 kn8 : Int} (gk8 : -9223372036854775808 ≤ kn8 ∧ kn8 ≤ 9223372036854775807) {bx8 : Nat} (hbx8 : M bx8 = some (.cells #[.int .i64 kk8, .int .i64 kn8] 24)) {pk9 pn9 : Int} {w9 : Value} {pl9 : List Int} (hw9 : RdI M w9 pl9) (gn9 : -9223372036854775808 ≤ pn9 ∧ pn9 ≤ 9223372036854775807) {bx9 : Nat} (hbx9 : M bx9 = some (.cells #[.int .i64 pk9, .int .i64 pn9, w9] 54)) {x0 x1 : Int} :
    Pu Try.prog (.func (.func 128) #[] #[.pointer (some ⟨bx7, 0, none⟩), .pointer (some ⟨bx8, 0, none⟩), .pointer (some ⟨bx9, 0, none⟩)]) M [.int .i64 x0, .int .i64 x1] (fun r M' => r = .tuple #[.int .i64 (keyAt kk7 kn7 x0 x1), .int .i64 (keyAt kk8 kn8 x0 x1), .bool (predAt pk9 pn9 pl9 x0 x1)]) := by
  refine Pu_enter Try.func128 rfl Try.ntmps128 rfl Try.call128 ?_
  intro a w M1 H hM1 S E
  replace hbx7 := hM1.2 _ _ hbx7
  replace hbx8 := hM1.2 _ _ hbx8
  replace hbx9 := hM1.2 _ _ hbx9
  replace hw9 := hw9.le hM1
  refine WP_seq ?_
  refine WP_region ?_
  refine S_v E rfl (R_assign E rfl) rfl ?_
  clear E a; intro a E
  refine S_v E rfl (R_assign E rfl) rfl ?_
  clear E a; intro a E
  refine S_v E rfl (R_assign E rfl) rfl ?_
  clear E a; intro a E
  refine WL_nil ?_
  refine T_n ?_
  refine WP_seq ?_
  have hbx7k0 := hbx7
  have hbx8k0 := hbx8
  have hbx9k0 := hbx9
  replace S := S.mono_heap (w' := World.drew _) rfl
  refine WP_drawn (C := fun x w => agree M1 w) (bf := (fun i => [])) [0, 1, 2, 4, 5, 6, 8, 9, 10, 12, 13, 14] [0, 1, 2, 4, 5, 6, 8, 9, 10, 3, 7, 11, 12, 13, 14] Try.mixed (by kernel_rfl) (fun x hq => S.imm) ?_
  refine D_v E rfl rfl rfl (fun w hC => (R_loadGM E rfl (Try.isAgg24 _) (Try.sizeOf24 _) hC hbx7k0)) ?_
  clear E a; intro a E
  refine D_v E rfl rfl rfl (fun w hC => (R_move E rfl)) ?_
  clear E a; intro a E
  refine D_v E rfl rfl rfl (fun w hC => (R_move E rfl)) ?_
  clear E a; intro a E
  refine D_v E rfl rfl rfl (fun w hC => (R_loadGM E rfl (Try.isAgg24 _) (Try.sizeOf24 _) hC hbx8k0)) ?_
  clear E a; intro a E
  refine D_v E rfl rfl rfl (fun w hC => (R_move E rfl)) ?_
  clear E a; intro a E
  refine D_v E rfl rfl rfl (fun w hC => (R_move E rfl)) ?_
  clear E a; intro a E
  refine D_v E rfl rfl rfl (fun w hC => (R_loadGM E rfl (Try.isAgg54 _) (Try.sizeOf54 _) hC hbx9k0)) ?_
  clear E a; intro a E
  refine D_v E rfl rfl rfl (fun w hC => (R_move E rfl)) ?_
  clear E a; intro a E
  refine D_v E rfl rfl rfl (fun w hC => (R_move E rfl)) ?_
  clear E a; intro a E
  refine D_x rfl rfl rfl (X_pu E S rfl rfl rfl (Key_at_d (by omega)) (Hp.le.refl _) ?_)
  clear E a S; rintro a _ w M_1 hM_1 rfl S E
  replace hbx7 := hM_1.2 _ _ hbx7
  replace hbx8 := hM_1.2 _ _ hbx8
  replace hbx9 := hM_1.2 _ _ hbx9
  replace hw9 := hw9.le hM_1
  refine ⟨fun x hq hb => (agree_le hM_1 S.imm), ?_⟩
  refine D_x rfl rfl rfl (X_pu E S rfl rfl rfl (Key_at_d (by omega)) (Hp.le.refl _) ?_)
  clear E a S; rintro a _ w M_2 hM_2 rfl S E
  replace hbx7 := hM_2.2 _ _ hbx7
  replace hbx8 := hM_2.2 _ _ hbx8
  replace hbx9 := hM_2.2 _ _ hbx9
  replace hw9 := hw9.le hM_2
  refine ⟨fun x hq hb => (agree_le (hM_1.trans hM_2) S.imm), ?_⟩
  refine D_x rfl rfl rfl (X_pu E S rfl rfl rfl (Pred_at_d hw9 (by omega)) (Hp.le.refl _) ?_)
  clear E a S; rintro a _ w M_3 hM_3 rfl S E
  replace hbx7 := hM_3.2 _ _ hbx7
  replace hbx8 := hM_3.2 _ _ hbx8
  replace hbx9 := hM_3.2 _ _ hbx9
  replace hw9 := hw9.le hM_3
  refine ⟨fun x hq hb => (agree_le (hM_1.trans (hM_2.trans hM_3)) S.imm), ?_⟩
  refine D_v E rfl rfl rfl (fun w hC => (R_assign E rfl)) ?_
  clear E a; intro a E
  refine D_v E rfl rfl rfl (fun w hC => (R_assign E rfl)) ?_
  clear E a; intro a E
  refine D_v E rfl rfl rfl (fun w hC => (R_assign E rfl)) ?_
  clear E a; intro a E
  refine D_end (NoP_n ?_)
  refine T_n ?_
  refine WP_ret ?_
  exact F_ret3 E Try.results128 rfl rfl rfl ⟨_, rfl, M_3, (hM_1.trans (hM_2.trans hM_3)), (by first | rfl | (simp; done) | (simp_all; done)), S⟩

set_option maxRecDepth 100000 in
set_option maxHeartbeats 4000000 in
theorem impl_FilterToMapSeq {M : Hp} {v0 : Value} {l0 : List Int} (h0 : RdI M v0 l0){pk1 pn1 : Int} {w1 : Value} {pl1 : List Int} (hw1 : RdI M w1 pl1) (gn1 : -9223372036854775808 ≤ pn1 ∧ pn1 ≤ 9223372036854775807) {kk2 kn2 : Int} (gk2 : -9223372036854775808 ≤ kn2 ∧ kn2 ≤ 9223372036854775807) {kk3 kn3 : Int} (gk3 : -9223372036854775808 ≤ kn3 ∧ kn3 ≤ 9223372036854775807) (hb : l0.length ≤ 1000000000000) :
    Pu Try.prog (.func (.func 54) #[] #[]) M [v0, .agg #[.int .i64 pk1, .int .i64 pn1, w1], .agg #[.int .i64 kk2, .int .i64 kn2], .agg #[.int .i64 kk3, .int .i64 kn3]] (fun r M' => RdS 2 RP2 M' r (entE (kpE (ixm (fun x i => (keyAt kk2 kn2 x i, keyAt kk3 kn3 x i, predAt pk1 pn1 pl1 x i)) 0 l0)))) := by
  refine Pu_enter Try.func54 rfl Try.ntmps54 rfl Try.call54 ?_
  intro a w M1 H hM1 S E
  replace h0 := h0.le hM1
  replace hw1 := hw1.le hM1
  have b0 := h0.bound
  refine WP_seq ?_
  refine WP_region ?_
  refine S_x (X_box (cs := #[.int .i64 pk1, .int .i64 pn1, w1]) E S rfl rfl rfl ?_)
  clear E a S; rintro a w b_1 E S
  obtain ⟨M_2, hM_2, hb_1, S⟩ := S.freezeB
  replace h0 := h0.le hM_2
  replace hw1 := hw1.le hM_2
  refine S_x (X_box (cs := #[.int .i64 kk2, .int .i64 kn2]) E S rfl rfl rfl ?_)
  clear E a S; rintro a w b_3 E S
  obtain ⟨M_4, hM_4, hb_3, S⟩ := S.freezeB
  replace h0 := h0.le hM_4
  replace hw1 := hw1.le hM_4
  replace hb_1 := hM_4.2 _ _ hb_1
  refine S_x (X_box (cs := #[.int .i64 kk3, .int .i64 kn3]) E S rfl rfl rfl ?_)
  clear E a S; rintro a w b_5 E S
  obtain ⟨M_6, hM_6, hb_5, S⟩ := S.freezeB
  replace h0 := h0.le hM_6
  replace hw1 := hw1.le hM_6
  replace hb_1 := hM_6.2 _ _ hb_1
  replace hb_3 := hM_6.2 _ _ hb_3
  refine S_v E rfl (R_assign E rfl) rfl ?_
  clear E a; intro a E
  refine WL_nil ?_
  refine T_n ?_
  refine WP_seq ?_
  refine WP_region ?_
  refine S_v E rfl (R_move E rfl) rfl ?_
  clear E a; intro a E
  refine S_x (X_pu E S rfl rfl rfl (slices_Values h0) (Hp.le.refl _) ?_)
  clear E a S; rintro a v_8 w M_7 hM_7 hv_8 S E
  replace h0 := h0.le hM_7
  replace hw1 := hw1.le hM_7
  replace hb_1 := hM_7.2 _ _ hb_1
  replace hb_3 := hM_7.2 _ _ hb_3
  replace hb_5 := hM_7.2 _ _ hb_5
  refine S_v E rfl (R_makeFunc E rfl rfl) rfl ?_
  clear E a; intro a E
  refine S_x (X_pu E S rfl rfl rfl (it_FilterSeqToMapI hv_8 (f1 := (fun x i => (keyAt kk2 kn2 x i, keyAt kk3 kn3 x i, predAt pk1 pn1 pl1 x i))) ⟨rfl, fun zx0 zx1 => impl_FilterToMapSeq1 (x0 := zx0) (x1 := zx1) (by omega) hb_3 (by omega) hb_5 hw1 (by omega) hb_1⟩ (by (first | omega | (simp; omega) | (simp; done) | (simp_all; omega) | grind))) (Hp.le.refl _) ?_)
  clear E a S; rintro a v_10 w M_9 hM_9 hv_10 S E
  replace h0 := h0.le hM_9
  replace hw1 := hw1.le hM_9
  replace hb_1 := hM_9.2 _ _ hb_1
  replace hb_3 := hM_9.2 _ _ hb_3
  replace hb_5 := hM_9.2 _ _ hb_5
  replace hv_8 := hv_8.le hM_9
  refine S_x (X_pu E S rfl rfl rfl (impl_pairs hv_10 (by first | omega | (exact bigE _ l0 (by first | (rw [ixm_len]; exact Nat.le_refl _) | exact kpix_len _ _ _ | (rw [List.length_map]; exact Nat.le_refl _)) (by omega)) | (first | omega | (simp; omega) | (simp; done) | (simp_all; omega) | grind))) (Hp.le.refl _) ?_)
  clear E a S; rintro a v_12 w M_11 hM_11 hv_12 S E
  replace h0 := h0.le hM_11
  replace hw1 := hw1.le hM_11
  replace hb_1 := hM_11.2 _ _ hb_1
  replace hb_3 := hM_11.2 _ _ hb_3
  replace hb_5 := hM_11.2 _ _ hb_5
  replace hv_8 := hv_8.le hM_11
  replace hv_10 := hv_10.le hM_11
  refine S_v E rfl (R_assign E rfl) rfl ?_
  clear E a; intro a E
  refine WL_nil ?_
  refine T_n ?_
  refine WP_ret ?_
  exact F_ret1 E Try.results54 rfl ⟨_, rfl, M_11, (hM_2.trans (hM_4.trans (hM_6.trans (hM_7.trans (hM_9.trans hM_11))))), (by rw [show (entE (kpE (ixm (fun x i => (keyAt kk2 kn2 x i, keyAt kk3 kn3 x i, predAt pk1 pn1 pl1 x i)) 0 l0))) = (srtK Prod.fst (mkE (kpE (ixm (fun x i => (keyAt kk2 kn2 x i, keyAt kk3 kn3 x i, predAt pk1 pn1 pl1 x i)) 0 l0)))) from by rfl]; exact hv_12), S⟩

set_option maxRecDepth 100000 in
set_option maxHeartbeats 4000000 in
theorem it_KeyBy {M : Hp} {v0 : Value} {l0 : List Int} (h0 : SeqV Try.prog v0 M (RInt) l0){v1 : Value} {f1 : Int → Int} (h1 : PF1I Try.prog v1 M f1) :
    Pu Try.prog (.func (.func 129) #[] #[]) M [v0, v1] (fun r M' => RdM M' r (encE (Value.int .i64) (mkE ((l0).map fun x => (f1 x, x))))) := by
  refine Pu_enter Try.func129 rfl Try.ntmps129 rfl Try.call129 ?_
  intro a w M1 H hM1 S E
  replace h0 := h0.le hM1
  replace h1 := h1.le hM1
  replace S : St w M1 (mks [] :: _) := S.empty
  replace E : Env a 18 (([] : List Nat).map mk) _ := E
  refine WP_seq ?_
  refine WP_region ?_
  refine S_x (X_box (cs := #[v1]) E S rfl rfl (cells_one h1.1) ?_)
  clear E a S; rintro a w b_1 E S
  obtain ⟨M_2, hM_2, hb_1, S⟩ := S.freezeB
  replace h0 := h0.le hM_2
  replace h1 := h1.le hM_2
  refine S_v E rfl (R_assign E rfl) rfl ?_
  clear E a; intro a E
  refine WL_nil ?_
  refine T_n ?_
  refine WP_seq ?_
  refine WP_region ?_
  refine S_x (X_makeMap E S rfl ?_)
  clear E a S; rintro a w b_3 E S
  replace S : St w M_2 (OwnE (Value.int .i64) b_3 ([] : List (Int × Int)) :: _) := S
  refine S_x (X_alloc (cs := #[.map none]) E S rfl Try.zeroValue103 rfl ?_)
  clear E a S; rintro a w b_4 E S
  refine S_x0 (X_store E S rfl rfl (Try.sizeOf103 _) rfl ?_)
  clear E a S; rintro a w E S
  refine WL_nil ?_
  refine T_n ?_
  refine WP_seq ?_
  refine WP_seq ?_
  refine WP_region ?_
  refine S_v E rfl (R_move E rfl) rfl ?_
  clear E a; intro a E
  refine WL_nil ?_
  refine T_n ?_
  refine WP_block ?_
  replace S := S.front1
  replace S := S.front1
  replace E := E.keep (l' := [(3, .pointer (some ⟨b_1, 0, none⟩)), (5, .pointer (some ⟨b_4, 0, none⟩)), (9, v0)]) ⟨rfl, rfl, rfl, trivial⟩
  replace S := S.front1
  replace S := S.reM (L' := (encE (Value.int .i64) (mkE ((([] : List Int)).map fun x => (f1 x, x))))) (congrArg (encE (Value.int .i64)) (show ([] : List (Int × Int)) = mkE ((([] : List Int)).map fun x => (f1 x, x)) by first | rfl | (simp [mkE]; done) | exact mkE_by1))
  replace S := S.front1
  have S0 := S; clear S; have S := St.pack [blk b_4 (.cells #[.map (some b_3)] 103), OwnE (Value.int .i64) b_3 (mkE ((([] : List Int)).map fun x => (f1 x, x)))] S0; clear S0
  refine WP_range (RV := RInt) (l := l0) (fun pre M c => c = bigs [blk b_4 (.cells #[.map (some b_3)] 103), OwnE (Value.int .i64) b_3 (mkE ((pre).map fun x => (f1 x, x)))]) (fun _ _ _ _ => False) E S rfl h0 (Hp.le.refl _) (fun _ _ _ h => by rw [h]; rfl) (by decide) (by rintro _ M M' c hM rfl; exact rfl) rfl ?_ ?_ ?_
  clear E S
  · rintro lb_6 rec_7 pre x _ a w M_5 _ G hM_5 hp_8 rfl rfl E S
    replace E : Env a 18 [] [(10, .int .i64 x), (3, .pointer (some ⟨b_1, 0, none⟩)), (5, .pointer (some ⟨b_4, 0, none⟩)), (9, v0)] := E
    replace S := S.swap.unpack2
    have hq0 := prefix_lt hp_8
    replace h0 := h0.le hM_5
    replace h1 := h1.le hM_5
    replace hb_1 := hM_5.2 _ _ hb_1
    refine WP_region ?_
    refine S_v E rfl (R_assign E rfl) rfl ?_
    clear E a; intro a E
    refine WL_nil ?_
    refine T_n ?_
    replace S := S.front2
    refine rb S ?_
    clear S; intro w S
    refine WP_block ?_
    refine WP_seq ?_
    refine WP_region ?_
    refine S_v E rfl (R_loadM E rfl Try.isAgg94 S.imm (cellM_box hb_1)) rfl ?_
    clear E a; intro a E
    refine S_v E rfl (R_move E rfl) rfl ?_
    clear E a; intro a E
    refine S_x (X_pu E S rfl rfl rfl (h1.2 x) (Hp.le.refl _) ?_)
    clear E a S; rintro a _ w M_10 hM_10 rfl S E
    replace h0 := h0.le hM_10
    replace h1 := h1.le hM_10
    replace hb_1 := hM_10.2 _ _ hb_1
    refine S_v E rfl (R_assign E rfl) rfl ?_
    clear E a; intro a E
    refine WL_nil ?_
    refine T_n ?_
    refine WP_region ?_
    refine S_v E rfl (R_load E rfl (Try.isAgg103 _) (cell_blk (S.mem (.tail _ (.head _))))) rfl ?_
    clear E a; intro a E
    refine S_v E rfl (R_move E rfl) rfl ?_
    clear E a; intro a E
    refine S_v E rfl (R_move E rfl) rfl ?_
    clear E a; intro a E
    replace S := S.front2
    refine S_x0 (X_updateE (vf := (Value.int .i64)) (u := x) E S MT103 rfl rfl rfl ?_)
    clear E a S; rintro a w E S
    refine WL_nil ?_
    refine B_n ?_
    replace S := S.front2
    replace S := S.front1
    replace S := S.reM (L' := (encE (Value.int .i64) (mkE (((pre ++ [x])).map fun x => (f1 x, x))))) (congrArg (encE (Value.int .i64)) (show putK (mkE ((pre).map fun x => (f1 x, x))) (f1 x) x = mkE (((pre ++ [x])).map fun x => (f1 x, x)) by first | rfl | (simp [mkE]; done) | exact mkE_by1))
    replace S := S.front1
    have S0 := S; clear S; have S := (St.pack [blk b_4 (.cells #[.map (some b_3)] 103), OwnE (Value.int .i64) b_3 (mkE (((pre ++ [x])).map fun x => (f1 x, x)))] S0).swap; clear S0
    exact ⟨M_10, _, hM_10, rfl, S⟩
  · rintro a w M_11 _ D_12 hM_11 rfl S E
    replace S := S.unpack2
    replace h0 := h0.le hM_11
    replace h1 := h1.le hM_11
    replace hb_1 := hM_11.2 _ _ hb_1
    refine B_n ?_
    refine T_n ?_
    refine WP_seq ?_
    refine WP_region ?_
    refine S_v E rfl (R_load E rfl (Try.isAgg103 _) (cell_blk (S.mem (.head _)))) rfl ?_
    clear E a; intro a E
    refine S_v E rfl (R_assign E rfl) rfl ?_
    clear E a; intro a E
    refine WL_nil ?_
    refine T_n ?_
    refine WP_ret ?_
    replace S := S.front1
    have S0 := S; clear S
    obtain ⟨M_13, hM_13, hm_14, S⟩ := S0.freezeM
    clear S0
    replace h0 := h0.le hM_13
    replace h1 := h1.le hM_13
    replace hb_1 := hM_13.2 _ _ hb_1
    replace S := S.drop
    exact F_retM1 E S Try.results129 rfl (fun w S => ⟨_, rfl, M_13, (hM_2.trans (hM_11.trans hM_13)), hm_14, S⟩)
  · rintro _ _ _ _ _ _ _ _ _ hX; exact hX.elim

set_option maxRecDepth 100000 in
set_option maxHeartbeats 4000000 in
theorem impl_KeyBySeq {M : Hp} {v0 : Value} {l0 : List Int} (h0 : RdI M v0 l0){kk1 kn1 : Int} (gk1 : -9223372036854775808 ≤ kn1 ∧ kn1 ≤ 9223372036854775807) (hb : l0.length ≤ 1000000000000) :
    Pu Try.prog (.func (.func 55) #[] #[]) M [v0, .agg #[.int .i64 kk1, .int .i64 kn1]] (fun r M' => RdS 2 RP2 M' r (entE ((l0).map fun x => (keyAt kk1 kn1 x 0, x)))) := by
  refine Pu_enter Try.func55 rfl Try.ntmps55 rfl Try.call55 ?_
  intro a w M1 H hM1 S E
  replace h0 := h0.le hM1
  have b0 := h0.bound
  refine WP_seq ?_
  refine WP_region ?_
  refine S_x (X_box (cs := #[.int .i64 kk1, .int .i64 kn1]) E S rfl rfl rfl ?_)
  clear E a S; rintro a w b_1 E S
  obtain ⟨M_2, hM_2, hb_1, S⟩ := S.freezeB
  replace h0 := h0.le hM_2
  refine S_v E rfl (R_assign E rfl) rfl ?_
  clear E a; intro a E
  refine WL_nil ?_
  refine T_n ?_
  refine WP_seq ?_
  have hb_1k2 := hb_1
  replace S := S.mono_heap (w' := World.drew _) rfl
  refine WP_drawn (C := fun x w => agree M_2 w) (bf := (fun i => [])) [0, 2, 3, 6] [0, 2, 3, 1, 4, 5, 6] Try.mixed (by kernel_rfl) (fun x hq => S.imm) ?_
  refine D_v E rfl rfl rfl (fun w hC => (R_move E rfl)) ?_
  clear E a; intro a E
  refine D_v E rfl rfl rfl (fun w hC => (R_loadGM E rfl (Try.isAgg24 _) (Try.sizeOf24 _) hC hb_1k2)) ?_
  clear E a; intro a E
  refine D_v E rfl rfl rfl (fun w hC => (R_makeFunc E rfl rfl)) ?_
  clear E a; intro a E
  refine D_x rfl rfl rfl (X_pu E S rfl rfl rfl (slices_Values h0) (Hp.le.refl _) ?_)
  clear E a S; rintro a v_4 w M_3 hM_3 hv_4 S E
  replace h0 := h0.le hM_3
  replace hb_1 := hM_3.2 _ _ hb_1
  refine ⟨fun x hq hb => (agree_le hM_3 S.imm), ?_⟩
  refine D_x rfl rfl rfl (X_pu E S rfl rfl rfl (it_KeyBy hv_4 ⟨rfl, fun zx1 => Key_of (x1 := zx1) (by omega)⟩) (Hp.le.refl _) ?_)
  clear E a S; rintro a v_6 w M_5 hM_5 hv_6 S E
  replace h0 := h0.le hM_5
  replace hb_1 := hM_5.2 _ _ hb_1
  replace hv_4 := hv_4.le hM_5
  refine ⟨fun x hq hb => (agree_le (hM_3.trans hM_5) S.imm), ?_⟩
  refine D_x rfl rfl rfl (X_pu E S rfl rfl rfl (impl_pairs hv_6 (by first | omega | (exact bigE _ l0 (by first | (rw [ixm_len]; exact Nat.le_refl _) | exact kpix_len _ _ _ | (rw [List.length_map]; exact Nat.le_refl _)) (by omega)) | (first | omega | (simp; omega) | (simp; done) | (simp_all; omega) | grind))) (Hp.le.refl _) ?_)
  clear E a S; rintro a v_8 w M_7 hM_7 hv_8 S E
  replace h0 := h0.le hM_7
  replace hb_1 := hM_7.2 _ _ hb_1
  replace hv_4 := hv_4.le hM_7
  replace hv_6 := hv_6.le hM_7
  refine ⟨fun x hq hb => (agree_le (hM_3.trans (hM_5.trans hM_7)) S.imm), ?_⟩
  refine D_v E rfl rfl rfl (fun w hC => (R_assign E rfl)) ?_
  clear E a; intro a E
  refine D_end (NoP_n ?_)
  refine T_n ?_
  refine WP_ret ?_
  exact F_ret1 E Try.results55 rfl ⟨_, rfl, M_7, (hM_2.trans (hM_3.trans (hM_5.trans hM_7))), (by rw [show (entE ((l0).map fun x => (keyAt kk1 kn1 x 0, x))) = (srtK Prod.fst (mkE ((l0).map fun x => ((fun x => keyAt kk1 kn1 x 0) x, x)))) from by rfl]; exact hv_8), S⟩

set_option maxRecDepth 100000 in
set_option maxHeartbeats 4000000 in
theorem laws_FnMaps {M : Hp} {v0 : Value} {l0 : List Int} (h0 : RdI M v0 l0){pk1 pn1 : Int} {w1 : Value} {pl1 : List Int} (hw1 : RdI M w1 pl1) (gn1 : -9223372036854775808 ≤ pn1 ∧ pn1 ≤ 9223372036854775807) {kk2 kn2 : Int} (gk2 : -9223372036854775808 ≤ kn2 ∧ kn2 ≤ 9223372036854775807) {kk3 kn3 : Int} (gk3 : -9223372036854775808 ≤ kn3 ∧ kn3 ≤ 9223372036854775807) (hr0 : (∀ x ∈ l0, -9223372036854775808 ≤ x ∧ x ≤ 9223372036854775807)) :
    PuC Try.prog 6 M [v0, .agg #[.int .i64 pk1, .int .i64 pn1, w1], .agg #[.int .i64 kk2, .int .i64 kn2], .agg #[.int .i64 kk3, .int .i64 kn3]] (fun r M' => r = .bool true) := by
  refine PuC_enter Try.func6 rfl Try.ntmps6 rfl ?_
  intro a w M1 H hM1 S E
  replace h0 := h0.le hM1
  replace hw1 := hw1.le hM1
  have b0 := h0.bound
  refine WP_seq ?_
  refine WP_region ?_
  refine S_x (X_box (cs := #[.int .i64 pk1, .int .i64 pn1, w1]) E S rfl rfl rfl ?_)
  clear E a S; rintro a w b_1 E S
  obtain ⟨M_2, hM_2, hb_1, S⟩ := S.freezeB
  replace h0 := h0.le hM_2
  replace hw1 := hw1.le hM_2
  refine S_x (X_box (cs := #[.int .i64 kk2, .int .i64 kn2]) E S rfl rfl rfl ?_)
  clear E a S; rintro a w b_3 E S
  obtain ⟨M_4, hM_4, hb_3, S⟩ := S.freezeB
  replace h0 := h0.le hM_4
  replace hw1 := hw1.le hM_4
  replace hb_1 := hM_4.2 _ _ hb_1
  refine S_x (X_box (cs := #[.int .i64 kk3, .int .i64 kn3]) E S rfl rfl rfl ?_)
  clear E a S; rintro a w b_5 E S
  obtain ⟨M_6, hM_6, hb_5, S⟩ := S.freezeB
  replace h0 := h0.le hM_6
  replace hw1 := hw1.le hM_6
  replace hb_1 := hM_6.2 _ _ hb_1
  replace hb_3 := hM_6.2 _ _ hb_3
  refine S_v E rfl (R_assign E rfl) rfl ?_
  clear E a; intro a E
  refine WL_nil ?_
  refine T_n ?_
  refine WP_seq ?_
  refine WP_seq ?_
  refine WP_region ?_
  refine S_v E rfl (R_move E rfl) rfl ?_
  clear E a; intro a E
  refine S_v E rfl (R_lenV E rfl T22 h0.len) rfl ?_
  clear E a; intro a E
  refine S_v E rfl (R_gtr E rfl rfl) rfl ?_
  clear E a; intro a E
  refine S_v E rfl (R_move E rfl) rfl ?_
  clear E a; intro a E
  refine split_bool (decide (2147483647 < (((l0).length : Nat) : Int))) (fun hc_7 => ?_) (fun hc_7 => ?_)
  · replace E := E.val (t := 27) rfl hc_7
    replace E := E.val (t := 28) rfl hc_7
    replace hc_7 := of_decide_eq_true hc_7
    refine WL_guard_no E rfl rfl rfl rfl fun a E => ?_
    refine WL_guard_no E rfl rfl rfl rfl fun a E => ?_
    refine WL_guard_no E rfl rfl rfl rfl fun a E => ?_
    refine S_v E rfl (R_pickT E rfl rfl) rfl ?_
    clear E a; intro a E
    refine WL_nil ?_
    refine T_n ?_
    refine WP_condT E rfl rfl ?_
    refine WP_seq ?_
    refine WP_region ?_
    refine S_v E rfl (R_assign E rfl) rfl ?_
    clear E a; intro a E
    refine WL_nil ?_
    refine T_n ?_
    refine WP_ret ?_
    refine T_r ?_
    exact F_ret1 E Try.results6 rfl ⟨_, rfl, M_6, (hM_2.trans (hM_4.trans hM_6)), rfl, S⟩
  · replace E := E.val (t := 27) rfl hc_7
    replace E := E.val (t := 28) rfl hc_7
    replace hc_7 := of_decide_eq_false hc_7
    refine WL_guard_yes E rfl rfl ?_
    refine S_v E rfl (R_loadGM E rfl (Try.isAgg54 _) (Try.sizeOf54 _) S.imm hb_1) rfl ?_
    clear E a; intro a E
    refine WL_guard_yes E rfl rfl ?_
    refine S_x (X_pu E S rfl rfl rfl (laws_zzFits1 hw1 (by omega)) (Hp.le.refl _) ?_)
    clear E a S; rintro a _ w M_8 hM_8 rfl S E
    replace h0 := h0.le hM_8
    replace hw1 := hw1.le hM_8
    replace hb_1 := hM_8.2 _ _ hb_1
    replace hb_3 := hM_8.2 _ _ hb_3
    replace hb_5 := hM_8.2 _ _ hb_5
    refine WL_guard_yes E rfl rfl ?_
    refine S_v E rfl (R_not E rfl) rfl ?_
    clear E a; intro a E
    refine S_v E rfl (R_pickF E rfl rfl) rfl ?_
    clear E a; intro a E
    refine WL_nil ?_
    refine T_n ?_
    refine WP_cond E rfl (fun hc_9 => ?_) (fun hc_9 => ?_)
    · refine WP_seq ?_
      refine WP_region ?_
      refine S_v E rfl (R_assign E rfl) rfl ?_
      clear E a; intro a E
      refine WL_nil ?_
      refine T_n ?_
      refine WP_ret ?_
      refine T_r ?_
      exact F_ret1 E Try.results6 rfl ⟨_, rfl, M_8, (hM_2.trans (hM_4.trans (hM_6.trans hM_8))), rfl, S⟩
    · refine WP_skip ?_
      refine T_n ?_
      refine WP_seq ?_
      refine WP_seq ?_
      refine WP_region ?_
      refine S_x (X_buildI (ys := [1]) E S rfl T22 rfl rfl rfl ?_)
      clear E a S; rintro a w v_10 E S
      refine S_v E rfl (R_build (u := .agg #[.int .i64 0, .int .i64 0]) (vs := []) E rfl (fun w => FB24__  w)) rfl ?_
      clear E a; intro a E
      refine S_v E rfl (R_build (u := .agg #[.int .i64 0, .int .i64 0]) (vs := []) E rfl (fun w => FB24__  w)) rfl ?_
      clear E a; intro a E
      have S0 := S; clear S
      obtain ⟨M_11, hM_11, hz_12, S⟩ := S0.freezeI (by (first | omega | (simp; done) | (simp; omega) | (simp only [List.length_map, List.length_take] at *; omega)))
      clear S0
      replace h0 := h0.le hM_11
      replace hw1 := hw1.le hM_11
      replace hb_1 := hM_11.2 _ _ hb_1
      replace hb_3 := hM_11.2 _ _ hb_3
      replace hb_5 := hM_11.2 _ _ hb_5
      refine S_x (X_pu E S rfl rfl rfl (impl_Associate hz_12 (by omega) (by omega) (by (first | omega | (simp; omega) | (simp; done) | (simp_all; omega) | grind))) (Hp.le.refl _) ?_)
      clear E a S; rintro a v_14 w M_13 hM_13 hv_14 S E
      replace h0 := h0.le hM_13
      replace hw1 := hw1.le hM_13
      replace hb_1 := hM_13.2 _ _ hb_1
      replace hb_3 := hM_13.2 _ _ hb_3
      replace hb_5 := hM_13.2 _ _ hb_5
      replace hz_12 := hz_12.le hM_13
      refine S_v E rfl (R_lenV E rfl T33 hv_14.len) rfl ?_
      clear E a; intro a E
      refine S_v E rfl (R_neq E rfl rfl) rfl ?_
      clear E a; intro a E
      refine WL_nil ?_
      refine T_n ?_
      have hc_15 : (decide ((((entE (ixm (fun x i => (keyAt 0 0 x i, keyAt 0 0 x i)) 0 [1])).length : Nat) : Int) ≠ 1)) = false := by (clear S E; first | (simp only [ixm, entE_one]; decide) | (simp; done) | decide | (simp [entE, mkE, ixm, srtK]; done) | (rw [eall]; simp; done) | (rw [esome]; simp; done) | (rw [keyBy_ix (by assumption) hr0]; simp; done) | (simp only [eall, esome]; simp; done))
      refine WP_condF E rfl hc_15 ?_
      refine WP_skip ?_
      refine T_n ?_
      refine WP_seq ?_
      refine WP_seq ?_
      refine WP_region ?_
      refine S_v E rfl (R_move E rfl) rfl ?_
      clear E a; intro a E
      refine S_x (X_buildM (R := RSl 1 RInt) (vs := [v0]) (xs := [l0]) (RSl_mono RInt_mono) E S rfl T39 rfl rfl rfl (by intro u hu; simp only [List.mem_cons, List.not_mem_nil, or_false] at hu; rcases hu with rfl <;> first | exact RdI.one h0 | rfl) rfl (rowsC (R := RSl 1 RInt) (RdI.row h0) rowsN) ?_)
      clear E a S; rintro a v_16 w M_17 hM_17 hv_16 S E
      replace hv_16 : RdII M_17 v_16 [l0] := hv_16
      replace h0 := h0.le hM_17
      replace hw1 := hw1.le hM_17
      replace hb_1 := hM_17.2 _ _ hb_1
      replace hb_3 := hM_17.2 _ _ hb_3
      replace hb_5 := hM_17.2 _ _ hb_5
      replace hz_12 := hz_12.le hM_17
      replace hv_14 := hv_14.le RP2_mono hM_17
      refine S_x (X_pu E S rfl rfl rfl (laws_few hv_16) (Hp.le.refl _) ?_)
      clear E a S; rintro a _ w M_18 hM_18 rfl S E
      replace h0 := h0.le hM_18
      replace hw1 := hw1.le hM_18
      replace hb_1 := hM_18.2 _ _ hb_1
      replace hb_3 := hM_18.2 _ _ hb_3
      replace hb_5 := hM_18.2 _ _ hb_5
      replace hz_12 := hz_12.le hM_18
      replace hv_14 := hv_14.le RP2_mono hM_18
      replace hv_16 := hv_16.le hM_18
      refine S_v E rfl (R_not E rfl) rfl ?_
      clear E a; intro a E
      refine S_v E rfl (R_move E rfl) rfl ?_
      clear E a; intro a E
      refine split_bool (!(decide (∀ x ∈ [l0], x.length ≤ 300))) (fun hc_19 => ?_) (fun hc_19 => ?_)
      · replace E := E.val (t := 42) rfl hc_19
        replace E := E.val (t := 43) rfl hc_19
        refine WL_guard_no E rfl rfl rfl rfl fun a E => ?_
        refine WL_guard_no E rfl rfl rfl rfl fun a E => ?_
        refine WL_guard_no E rfl rfl rfl rfl fun a E => ?_
        refine S_v E rfl (R_pickT E rfl rfl) rfl ?_
        clear E a; intro a E
        refine S_v E rfl (R_move E rfl) rfl ?_
        clear E a; intro a E
        refine WL_guard_no E rfl rfl rfl rfl fun a E => ?_
        refine WL_guard_no E rfl rfl rfl rfl fun a E => ?_
        refine WL_guard_no E rfl rfl rfl rfl fun a E => ?_
        refine S_v E rfl (R_pickT E rfl rfl) rfl ?_
        clear E a; intro a E
        refine S_v E rfl (R_move E rfl) rfl ?_
        clear E a; intro a E
        refine WL_guard_no E rfl rfl rfl rfl fun a E => ?_
        refine WL_guard_no E rfl rfl rfl rfl fun a E => ?_
        refine WL_guard_no E rfl rfl rfl rfl fun a E => ?_
        refine S_v E rfl (R_pickT E rfl rfl) rfl ?_
        clear E a; intro a E
        refine WL_nil ?_
        refine T_n ?_
        refine WP_condT E rfl rfl ?_
        refine WP_seq ?_
        refine WP_region ?_
        refine S_v E rfl (R_assign E rfl) rfl ?_
        clear E a; intro a E
        refine WL_nil ?_
        refine T_n ?_
        refine WP_ret ?_
        refine T_r ?_
        exact F_ret1 E Try.results6 rfl ⟨_, rfl, M_18, (hM_2.trans (hM_4.trans (hM_6.trans (hM_8.trans (hM_11.trans (hM_13.trans (hM_17.trans hM_18))))))), rfl, S⟩
      · replace E := E.val (t := 42) rfl hc_19
        replace E := E.val (t := 43) rfl hc_19
        refine WL_guard_yes E rfl rfl ?_
        refine S_v E rfl (R_loadGM E rfl (Try.isAgg54 _) (Try.sizeOf54 _) S.imm hb_1) rfl ?_
        clear E a; intro a E
        refine WL_guard_yes E rfl rfl ?_
        refine S_x (X_pu E S rfl rfl rfl (laws_fair hw1 (by omega)) (Hp.le.refl _) ?_)
        clear E a S; rintro a _ w M_20 hM_20 rfl S E
        replace h0 := h0.le hM_20
        replace hw1 := hw1.le hM_20
        replace hb_1 := hM_20.2 _ _ hb_1
        replace hb_3 := hM_20.2 _ _ hb_3
        replace hb_5 := hM_20.2 _ _ hb_5
        replace hz_12 := hz_12.le hM_20
        replace hv_14 := hv_14.le RP2_mono hM_20
        replace hv_16 := hv_16.le hM_20
        refine WL_guard_yes E rfl rfl ?_
        refine S_v E rfl (R_not E rfl) rfl ?_
        clear E a; intro a E
        refine S_v E rfl (R_pickF E rfl rfl) rfl ?_
        clear E a; intro a E
        refine S_v E rfl (R_move E rfl) rfl ?_
        clear E a; intro a E
        refine split_bool (!(decide ((-1099511627776 < pn1 ∧ pn1 < 1099511627776) ∧ (pl1).length ≤ 300))) (fun hc_21 => ?_) (fun hc_21 => ?_)
        · replace E := E.val (t := 46) rfl hc_21
          replace E := E.val (t := 47) rfl hc_21
          replace E := E.val (t := 48) rfl hc_21
          refine WL_guard_no E rfl rfl rfl rfl fun a E => ?_
          refine WL_guard_no E rfl rfl rfl rfl fun a E => ?_
          refine WL_guard_no E rfl rfl rfl rfl fun a E => ?_
          refine S_v E rfl (R_pickT E rfl rfl) rfl ?_
          clear E a; intro a E
          refine S_v E rfl (R_move E rfl) rfl ?_
          clear E a; intro a E
          refine WL_guard_no E rfl rfl rfl rfl fun a E => ?_
          refine WL_guard_no E rfl rfl rfl rfl fun a E => ?_
          refine WL_guard_no E rfl rfl rfl rfl fun a E => ?_
          refine S_v E rfl (R_pickT E rfl rfl) rfl ?_
          clear E a; intro a E
          refine WL_nil ?_
          refine T_n ?_
          refine WP_condT E rfl rfl ?_
          refine WP_seq ?_
          refine WP_region ?_
          refine S_v E rfl (R_assign E rfl) rfl ?_
          clear E a; intro a E
          refine WL_nil ?_
          refine T_n ?_
          refine WP_ret ?_
          refine T_r ?_
          exact F_ret1 E Try.results6 rfl ⟨_, rfl, M_20, (hM_2.trans (hM_4.trans (hM_6.trans (hM_8.trans (hM_11.trans (hM_13.trans (hM_17.trans (hM_18.trans hM_20)))))))), rfl, S⟩
        · replace E := E.val (t := 46) rfl hc_21
          replace E := E.val (t := 47) rfl hc_21
          replace E := E.val (t := 48) rfl hc_21
          refine WL_guard_yes E rfl rfl ?_
          refine S_v E rfl (R_loadGM E rfl (Try.isAgg24 _) (Try.sizeOf24 _) S.imm hb_3) rfl ?_
          clear E a; intro a E
          refine WL_guard_yes E rfl rfl ?_
          refine S_x (X_pu E S rfl rfl rfl (laws_just (by omega)) (Hp.le.refl _) ?_)
          clear E a S; rintro a _ w M_22 hM_22 rfl S E
          replace h0 := h0.le hM_22
          replace hw1 := hw1.le hM_22
          replace hb_1 := hM_22.2 _ _ hb_1
          replace hb_3 := hM_22.2 _ _ hb_3
          replace hb_5 := hM_22.2 _ _ hb_5
          replace hz_12 := hz_12.le hM_22
          replace hv_14 := hv_14.le RP2_mono hM_22
          replace hv_16 := hv_16.le hM_22
          refine WL_guard_yes E rfl rfl ?_
          refine S_v E rfl (R_not E rfl) rfl ?_
          clear E a; intro a E
          refine S_v E rfl (R_pickF E rfl rfl) rfl ?_
          clear E a; intro a E
          refine S_v E rfl (R_move E rfl) rfl ?_
          clear E a; intro a E
          refine split_bool (!(decide (-1099511627776 < kn2 ∧ kn2 < 1099511627776))) (fun hc_23 => ?_) (fun hc_23 => ?_)
          · replace E := E.val (t := 51) rfl hc_23
            replace E := E.val (t := 52) rfl hc_23
            replace E := E.val (t := 53) rfl hc_23
            refine WL_guard_no E rfl rfl rfl rfl fun a E => ?_
            refine WL_guard_no E rfl rfl rfl rfl fun a E => ?_
            refine WL_guard_no E rfl rfl rfl rfl fun a E => ?_
            refine S_v E rfl (R_pickT E rfl rfl) rfl ?_
            clear E a; intro a E
            refine WL_nil ?_
            refine T_n ?_
            refine WP_condT E rfl rfl ?_
            refine WP_seq ?_
            refine WP_region ?_
            refine S_v E rfl (R_assign E rfl) rfl ?_
            clear E a; intro a E
            refine WL_nil ?_
            refine T_n ?_
            refine WP_ret ?_
            refine T_r ?_
            exact F_ret1 E Try.results6 rfl ⟨_, rfl, M_22, (hM_2.trans (hM_4.trans (hM_6.trans (hM_8.trans (hM_11.trans (hM_13.trans (hM_17.trans (hM_18.trans (hM_20.trans hM_22))))))))), rfl, S⟩
          · replace E := E.val (t := 51) rfl hc_23
            replace E := E.val (t := 52) rfl hc_23
            replace E := E.val (t := 53) rfl hc_23
            refine WL_guard_yes E rfl rfl ?_
            refine S_v E rfl (R_loadGM E rfl (Try.isAgg24 _) (Try.sizeOf24 _) S.imm hb_5) rfl ?_
            clear E a; intro a E
            refine WL_guard_yes E rfl rfl ?_
            refine S_x (X_pu E S rfl rfl rfl (laws_just (by omega)) (Hp.le.refl _) ?_)
            clear E a S; rintro a _ w M_24 hM_24 rfl S E
            replace h0 := h0.le hM_24
            replace hw1 := hw1.le hM_24
            replace hb_1 := hM_24.2 _ _ hb_1
            replace hb_3 := hM_24.2 _ _ hb_3
            replace hb_5 := hM_24.2 _ _ hb_5
            replace hz_12 := hz_12.le hM_24
            replace hv_14 := hv_14.le RP2_mono hM_24
            replace hv_16 := hv_16.le hM_24
            refine WL_guard_yes E rfl rfl ?_
            refine S_v E rfl (R_not E rfl) rfl ?_
            clear E a; intro a E
            refine S_v E rfl (R_pickF E rfl rfl) rfl ?_
            clear E a; intro a E
            refine WL_nil ?_
            refine T_n ?_
            refine WP_cond E rfl (fun hc_25 => ?_) (fun hc_25 => ?_)
            · refine WP_seq ?_
              refine WP_region ?_
              refine S_v E rfl (R_assign E rfl) rfl ?_
              clear E a; intro a E
              refine WL_nil ?_
              refine T_n ?_
              refine WP_ret ?_
              refine T_r ?_
              exact F_ret1 E Try.results6 rfl ⟨_, rfl, M_24, (hM_2.trans (hM_4.trans (hM_6.trans (hM_8.trans (hM_11.trans (hM_13.trans (hM_17.trans (hM_18.trans (hM_20.trans (hM_22.trans hM_24)))))))))), rfl, S⟩
            · have hln : l0.length ≤ 300 := (by simp_all)
              have hkj : -1099511627776 < kn2 ∧ kn2 < 1099511627776 := (by simp_all)
              have hkk : -1099511627776 < kn3 ∧ kn3 < 1099511627776 := (by simp_all)
              have hkp : -1099511627776 < pn1 ∧ pn1 < 1099511627776 := (by simp_all)
              refine WP_skip ?_
              refine T_n ?_
              refine WP_seq ?_
              refine WP_region ?_
              refine S_v E rfl (R_assign E rfl) rfl ?_
              clear E a; intro a E
              refine S_v E rfl (R_assign E rfl) rfl ?_
              clear E a; intro a E
              refine WL_nil ?_
              refine T_n ?_
              refine WP_seq ?_
              refine WP_seq ?_
              refine WP_region ?_
              refine S_v E rfl (R_move E rfl) rfl ?_
              clear E a; intro a E
              refine S_v E rfl (R_lenV E rfl T22 h0.len) rfl ?_
              clear E a; intro a E
              refine S_v E rfl (R_move E rfl) rfl ?_
              clear E a; intro a E
              refine WL_nil ?_
              refine T_n ?_
              refine WP_block ?_
              replace S := (S.ownNil (e := 3) (sz := 1)).made0
              replace S := (S.ownNil (e := 3) (sz := 1)).made0
              replace S := S.front1
              replace S := S.re1 (l' := (kpE (ixm (fun x i => (keyAt kk2 kn2 x i, keyAt kk3 kn3 x i, predAt pk1 pn1 pl1 x i)) 0 (l0.take 0))).map Prod.fst) (by first | (simp [ixm]; done) | (simp [kpE, ixm]; done) | (rw [ixm_succ (by assumption)]; simp; done) | (rw [ixm_succ (by assumption), kpE_app1]; simp_all; done))
              replace S := S.front1
              replace S := S.re1 (l' := (ixm (fun x i => (keyAt kk2 kn2 x i, keyAt kk3 kn3 x i)) 0 (l0.take 0)).map Prod.fst) (by first | (simp [ixm]; done) | (simp [kpE, ixm]; done) | (rw [ixm_succ (by assumption)]; simp; done) | (rw [ixm_succ (by assumption), kpE_app1]; simp_all; done))
              refine WP_loop (γ := Nat) (fun (k : Nat) a w => ∃ (M_28 : Hp) (u9 : Value) (u10 : Value), Hp.le M_24 M_28 ∧ St w M_28 (OwnI 3 u9 ((ixm (fun x i => (keyAt kk2 kn2 x i, keyAt kk3 kn3 x i)) 0 (l0.take k)).map Prod.fst) :: OwnI 3 u10 ((kpE (ixm (fun x i => (keyAt kk2 kn2 x i, keyAt kk3 kn3 x i, predAt pk1 pn1 pl1 x i)) 0 (l0.take k))).map Prod.fst) :: H) ∧ Env a 235 [] [(0, v0), (5, .pointer (some ⟨b_1, 0, none⟩)), (6, .pointer (some ⟨b_3, 0, none⟩)), (7, .pointer (some ⟨b_5, 0, none⟩)), (9, u9), (10, u10), (58, v0), (59, .int .i64 (((l0).length : Nat) : Int)), (60, .int .i64 ((k : Nat) : Int))] ∧ (k ≤ (l0).length)) (fun k => ((l0).length) - k) 0 ⟨M_24, _, _, Hp.le.refl _, S, E.keep ⟨rfl, rfl, rfl, rfl, rfl, rfl, rfl, rfl, rfl, trivial⟩, by ((try clear S); (try clear E); first | assumption | omega | rfl | (simp; done) | (simp_all; done) | (simp [List.take_add_one, *]; done) | grind [List.take_add_one])⟩ ?_
              try clear E
              try clear S
              try clear a
              try clear w
              rintro k a w ⟨M_28, u9, u10, hM_28, S, E, hL0_0⟩
              replace h0 := h0.le hM_28
              replace hw1 := hw1.le hM_28
              replace hb_1 := hM_28.2 _ _ hb_1
              replace hb_3 := hM_28.2 _ _ hb_3
              replace hb_5 := hM_28.2 _ _ hb_5
              replace hz_12 := hz_12.le hM_28
              replace hv_14 := hv_14.le RP2_mono hM_28
              replace hv_16 := hv_16.le hM_28
              have hil := ixm_len (fun x i => (keyAt kk2 kn2 x i, keyAt kk3 kn3 x i)) (l0.take k) 0; rw [List.length_take] at hil
              have hpl := kpix_len (fun x i => (keyAt kk2 kn2 x i, keyAt kk3 kn3 x i, predAt pk1 pn1 pl1 x i)) (l0.take k) 0; rw [List.length_take] at hpl
              refine WP_seq ?_
              refine WP_region ?_
              refine S_v E rfl (R_lss E rfl rfl) rfl ?_
              clear E a; intro a E
              refine WL_nil ?_
              refine T_n ?_
              refine WP_seq ?_
              refine WP_cond E rfl (fun hc_29 => ?_) (fun hc_29 => ?_)
              · replace hc_29 := of_decide_eq_true hc_29
                refine WP_skip ?_
                refine T_n ?_
                refine WP_seq ?_
                refine WP_block ?_
                refine WP_seq ?_
                refine WP_region ?_
                refine S_v E rfl (R_move E rfl) rfl ?_
                clear E a; intro a E
                obtain ⟨x_30, hx_30⟩ : ∃ x, (l0)[k]? = some x := ⟨_, List.getElem?_eq_getElem (by first | omega | (simp; done) | (simp; omega) | (simp_all; omega))⟩
                obtain ⟨p_31, hp_31, qp_31⟩ := h0.at hx_30
                refine S_v E rfl (R_idx E rfl rfl T22 hp_31 rfl) rfl ?_
                clear E a; intro a E
                refine S_v E rfl (R_loadM E rfl Try.isAgg3 S.imm qp_31) rfl ?_
                clear E a; intro a E
                refine S_v E rfl (R_assign E rfl) rfl ?_
                clear E a; intro a E
                refine S_v E rfl (R_assign E rfl) rfl ?_
                clear E a; intro a E
                refine WL_nil ?_
                refine T_n ?_
                refine WP_seq ?_
                refine WP_region ?_
                refine S_v E rfl (R_move E rfl) rfl ?_
                clear E a; intro a E
                refine S_v E rfl (R_loadGM E rfl (Try.isAgg24 _) (Try.sizeOf24 _) S.imm hb_3) rfl ?_
                clear E a; intro a E
                refine S_v E rfl (R_move E rfl) rfl ?_
                clear E a; intro a E
                refine S_v E rfl (R_move E rfl) rfl ?_
                clear E a; intro a E
                refine S_x (X_pu E S rfl rfl rfl (laws_stands (by omega)) (Hp.le.refl _) ?_)
                clear E a S; rintro a _ w M_32 hM_32 rfl S E
                replace h0 := h0.le hM_32
                replace hw1 := hw1.le hM_32
                replace hb_1 := hM_32.2 _ _ hb_1
                replace hb_3 := hM_32.2 _ _ hb_3
                replace hb_5 := hM_32.2 _ _ hb_5
                replace hz_12 := hz_12.le hM_32
                replace hv_14 := hv_14.le RP2_mono hM_32
                replace hv_16 := hv_16.le hM_32
                refine S_x (X_buildI (ys := [keyAt kk2 kn2 x_30 ((k : Nat) : Int)]) E S rfl T22 rfl rfl rfl ?_)
                clear E a S; rintro a w v_33 E S
                replace S := S.front1
                replace S := S.front1
                refine S_x (X_appendB (xs := (ixm (fun x i => (keyAt kk2 kn2 x i, keyAt kk3 kn3 x i)) 0 (l0.take k)).map Prod.fst) (ys := [keyAt kk2 kn2 x_30 ((k : Nat) : Int)]) E S rfl rfl rfl T22 (by (first | omega | (simp; done) | (simp; omega) | (simp only [List.length_cons, List.length_nil, List.length_map, List.length_take] at *; omega))) ?_)
                clear E a S; rintro a w v_34 E S
                refine S_v E rfl (R_assign E rfl) rfl ?_
                clear E a; intro a E
                refine WL_nil ?_
                refine T_n ?_
                refine WP_seq ?_
                refine WP_region ?_
                refine S_v E rfl (R_loadGM E rfl (Try.isAgg54 _) (Try.sizeOf54 _) S.imm hb_1) rfl ?_
                clear E a; intro a E
                refine S_v E rfl (R_move E rfl) rfl ?_
                clear E a; intro a E
                refine S_v E rfl (R_move E rfl) rfl ?_
                clear E a; intro a E
                refine S_x (X_pu E S rfl rfl rfl (laws_holds hw1 (by omega)) (Hp.le.refl _) ?_)
                clear E a S; rintro a _ w M_35 hM_35 rfl S E
                replace h0 := h0.le hM_35
                replace hw1 := hw1.le hM_35
                replace hb_1 := hM_35.2 _ _ hb_1
                replace hb_3 := hM_35.2 _ _ hb_3
                replace hb_5 := hM_35.2 _ _ hb_5
                replace hz_12 := hz_12.le hM_35
                replace hv_14 := hv_14.le RP2_mono hM_35
                replace hv_16 := hv_16.le hM_35
                refine WL_nil ?_
                refine T_n ?_
                refine WP_cond E rfl (fun hc_36 => ?_) (fun hc_36 => ?_)
                · refine WP_region ?_
                  refine S_v E rfl (R_move E rfl) rfl ?_
                  clear E a; intro a E
                  refine S_v E rfl (R_loadGM E rfl (Try.isAgg24 _) (Try.sizeOf24 _) S.imm hb_3) rfl ?_
                  clear E a; intro a E
                  refine S_v E rfl (R_move E rfl) rfl ?_
                  clear E a; intro a E
                  refine S_v E rfl (R_move E rfl) rfl ?_
                  clear E a; intro a E
                  refine S_x (X_pu E S rfl rfl rfl (laws_stands (by omega)) (Hp.le.refl _) ?_)
                  clear E a S; rintro a _ w M_37 hM_37 rfl S E
                  replace h0 := h0.le hM_37
                  replace hw1 := hw1.le hM_37
                  replace hb_1 := hM_37.2 _ _ hb_1
                  replace hb_3 := hM_37.2 _ _ hb_3
                  replace hb_5 := hM_37.2 _ _ hb_5
                  replace hz_12 := hz_12.le hM_37
                  replace hv_14 := hv_14.le RP2_mono hM_37
                  replace hv_16 := hv_16.le hM_37
                  refine S_x (X_buildI (ys := [keyAt kk2 kn2 x_30 ((k : Nat) : Int)]) E S rfl T22 rfl rfl rfl ?_)
                  clear E a S; rintro a w v_38 E S
                  replace S := S.front2
                  replace S := S.front1
                  refine S_x (X_appendB (xs := (kpE (ixm (fun x i => (keyAt kk2 kn2 x i, keyAt kk3 kn3 x i, predAt pk1 pn1 pl1 x i)) 0 (l0.take k))).map Prod.fst) (ys := [keyAt kk2 kn2 x_30 ((k : Nat) : Int)]) E S rfl rfl rfl T22 (by (first | omega | (simp; done) | (simp; omega) | (simp only [List.length_cons, List.length_nil, List.length_map, List.length_take] at *; omega))) ?_)
                  clear E a S; rintro a w v_39 E S
                  refine S_v E rfl (R_assign E rfl) rfl ?_
                  clear E a; intro a E
                  refine WL_nil ?_
                  refine B_n ?_
                  refine T_n ?_
                  refine WP_region ?_
                  refine S_v E rfl (R_addx (m := ((k + 1 : Nat) : Int)) E rfl rfl (by omega) (by omega)) rfl ?_
                  clear E a; intro a E
                  refine S_v E rfl (R_move E rfl) rfl ?_
                  clear E a; intro a E
                  refine WL_nil ?_
                  refine T_n ?_
                  replace S := S.front1
                  replace S := S.front1
                  replace S := S.re1 (l' := (kpE (ixm (fun x i => (keyAt kk2 kn2 x i, keyAt kk3 kn3 x i, predAt pk1 pn1 pl1 x i)) 0 (l0.take (k + 1)))).map Prod.fst) (by first | (simp [ixm]; done) | (simp [kpE, ixm]; done) | (rw [ixm_succ (by assumption)]; simp; done) | (rw [ixm_succ (by assumption), kpE_app1]; simp_all; done))
                  replace S := S.front1
                  replace S := S.re1 (l' := (ixm (fun x i => (keyAt kk2 kn2 x i, keyAt kk3 kn3 x i)) 0 (l0.take (k + 1))).map Prod.fst) (by first | (simp [ixm]; done) | (simp [kpE, ixm]; done) | (rw [ixm_succ (by assumption)]; simp; done) | (rw [ixm_succ (by assumption), kpE_app1]; simp_all; done))
                  exact ⟨k + 1, ⟨M_37, _, _, (hM_28.trans (hM_32.trans (hM_35.trans hM_37))), S, E.keep ⟨rfl, rfl, rfl, rfl, rfl, rfl, rfl, rfl, rfl, trivial⟩, by ((try clear S); (try clear E); first | assumption | omega | rfl | (simp; done) | (simp_all; done) | (simp [List.take_add_one, *]; done) | grind [List.take_add_one])⟩, by omega⟩
                · refine WP_skip ?_
                  refine B_n ?_
                  refine T_n ?_
                  refine WP_region ?_
                  refine S_v E rfl (R_addx (m := ((k + 1 : Nat) : Int)) E rfl rfl (by omega) (by omega)) rfl ?_
                  clear E a; intro a E
                  refine S_v E rfl (R_move E rfl) rfl ?_
                  clear E a; intro a E
                  refine WL_nil ?_
                  refine T_n ?_
                  replace S := S.front1
                  replace S := S.re1 (l' := (kpE (ixm (fun x i => (keyAt kk2 kn2 x i, keyAt kk3 kn3 x i, predAt pk1 pn1 pl1 x i)) 0 (l0.take (k + 1)))).map Prod.fst) (by first | (simp [ixm]; done) | (simp [kpE, ixm]; done) | (rw [ixm_succ (by assumption)]; simp; done) | (rw [ixm_succ (by assumption), kpE_app1]; simp_all; done))
                  replace S := S.front1
                  replace S := S.re1 (l' := (ixm (fun x i => (keyAt kk2 kn2 x i, keyAt kk3 kn3 x i)) 0 (l0.take (k + 1))).map Prod.fst) (by first | (simp [ixm]; done) | (simp [kpE, ixm]; done) | (rw [ixm_succ (by assumption)]; simp; done) | (rw [ixm_succ (by assumption), kpE_app1]; simp_all; done))
                  exact ⟨k + 1, ⟨M_35, _, _, (hM_28.trans (hM_32.trans hM_35)), S, E.keep ⟨rfl, rfl, rfl, rfl, rfl, rfl, rfl, rfl, rfl, trivial⟩, by ((try clear S); (try clear E); first | assumption | omega | rfl | (simp; done) | (simp_all; done) | (simp [List.take_add_one, *]; done) | grind [List.take_add_one])⟩, by omega⟩
              · replace hc_29 := of_decide_eq_false hc_29
                have etk : l0.take k = l0 := List.take_of_length_le (by omega)
                have hkl : ((ixm (fun x i => (keyAt kk2 kn2 x i, keyAt kk3 kn3 x i)) 0 (l0.take k)).map Prod.fst).length ≤ 300 := by rw [etk, List.length_map, ixm_len]; omega
                have hpl := kpix_len (fun x i => (keyAt kk2 kn2 x i, keyAt kk3 kn3 x i, predAt pk1 pn1 pl1 x i)) l0 0
                have hkt : ((kpE (ixm (fun x i => (keyAt kk2 kn2 x i, keyAt kk3 kn3 x i, predAt pk1 pn1 pl1 x i)) 0 (l0.take k))).map Prod.fst).length ≤ 300 := by rw [etk, List.length_map]; omega
                have hs1 := (setI_spec ((ixm (fun x i => (keyAt kk2 kn2 x i, keyAt kk3 kn3 x i)) 0 (l0.take k)).map Prod.fst)).2.2
                have hs2 := (setI_spec ((kpE (ixm (fun x i => (keyAt kk2 kn2 x i, keyAt kk3 kn3 x i, predAt pk1 pn1 pl1 x i)) 0 (l0.take k))).map Prod.fst)).2.2
                refine WP_exit ?_
                refine T_x ?_
                refine T_x ?_
                refine B_x ?_
                refine T_n ?_
                refine WP_seq ?_
                refine WP_region ?_
                refine S_v E rfl (R_assign E rfl) rfl ?_
                clear E a; intro a E
                refine S_v E rfl (R_assign E rfl) rfl ?_
                clear E a; intro a E
                refine WL_nil ?_
                refine T_n ?_
                refine WP_seq ?_
                refine WP_seq ?_
                refine WP_region ?_
                refine S_v E rfl (R_move E rfl) rfl ?_
                clear E a; intro a E
                have S0 := S; clear S
                obtain ⟨M_40, hM_40, hz_41, S⟩ := S0.freezeI (by (first | omega | (simp; done) | (simp; omega) | (simp only [List.length_map, List.length_take] at *; omega)))
                clear S0
                replace h0 := h0.le hM_40
                replace hw1 := hw1.le hM_40
                replace hb_1 := hM_40.2 _ _ hb_1
                replace hb_3 := hM_40.2 _ _ hb_3
                replace hb_5 := hM_40.2 _ _ hb_5
                replace hz_12 := hz_12.le hM_40
                replace hv_14 := hv_14.le RP2_mono hM_40
                replace hv_16 := hv_16.le hM_40
                refine S_x (X_pu E S rfl rfl rfl (laws_sorted hz_41 (by (first | omega | (simp; omega) | (simp; done) | (simp_all; omega) | grind))) (Hp.le.refl _) ?_)
                clear E a S; rintro a v_43 w M_42 hM_42 hv_43 S E
                replace h0 := h0.le hM_42
                replace hw1 := hw1.le hM_42
                replace hb_1 := hM_42.2 _ _ hb_1
                replace hb_3 := hM_42.2 _ _ hb_3
                replace hb_5 := hM_42.2 _ _ hb_5
                replace hz_12 := hz_12.le hM_42
                replace hv_14 := hv_14.le RP2_mono hM_42
                replace hv_16 := hv_16.le hM_42
                replace hz_41 := hz_41.le hM_42
                refine S_v E rfl (R_lenV E rfl T22 hv_43.len) rfl ?_
                clear E a; intro a E
                refine S_v E rfl (R_move E rfl) rfl ?_
                clear E a; intro a E
                refine WL_nil ?_
                refine T_n ?_
                refine WP_block ?_
                replace S : St w M_42 (OwnC 59 2 (.slice none 0 0) ([] : List (Int × Int)).length [] :: _) := S.ownNil
                have hr_45 : RowsR RP2 2 M_42 ([] : List (Int × Int)) [] := RowsR.nil
                have hre : ([] : List (Int × Int)) = ((setI ((ixm (fun x i => (keyAt kk2 kn2 x i, keyAt kk3 kn3 x i)) 0 (l0.take k)).map Prod.fst)).take 0).map (fun key => (key, lstV (ixm (fun x i => (keyAt kk2 kn2 x i, keyAt kk3 kn3 x i)) 0 l0) key)) := by first | (simp; done) | exact mp_snoc (by assumption) (by rw [List.take_of_length_le (l := l0) (i := m) (by omega)])
                replace S := S.reR hre
                replace hr_45 := hr_45.eq hre
                clear hre
                refine WP_loop (γ := Nat) (fun (j : Nat) a w => ∃ (M_46 : Hp) (u13 : Value) (xs13 : List Value), Hp.le M_42 M_46 ∧ St w M_46 (OwnC 59 2 u13 (((setI ((ixm (fun x i => (keyAt kk2 kn2 x i, keyAt kk3 kn3 x i)) 0 (l0.take k)).map Prod.fst)).take j).map (fun key => (key, lstV (ixm (fun x i => (keyAt kk2 kn2 x i, keyAt kk3 kn3 x i)) 0 l0) key))).length xs13 :: OwnI 3 u10 ((kpE (ixm (fun x i => (keyAt kk2 kn2 x i, keyAt kk3 kn3 x i, predAt pk1 pn1 pl1 x i)) 0 (l0.take k))).map Prod.fst) :: H) ∧ Env a 235 [] [(0, v0), (5, .pointer (some ⟨b_1, 0, none⟩)), (6, .pointer (some ⟨b_3, 0, none⟩)), (7, .pointer (some ⟨b_5, 0, none⟩)), (10, u10), (13, u13), (14, .slice none 0 0), (85, v_43), (86, .int .i64 (((setI ((ixm (fun x i => (keyAt kk2 kn2 x i, keyAt kk3 kn3 x i)) 0 (l0.take k)).map Prod.fst)).length : Nat) : Int)), (87, .int .i64 ((j : Nat) : Int))] ∧ (j ≤ (setI ((ixm (fun x i => (keyAt kk2 kn2 x i, keyAt kk3 kn3 x i)) 0 (l0.take k)).map Prod.fst)).length) ∧ RowsR RP2 2 M_46 (((setI ((ixm (fun x i => (keyAt kk2 kn2 x i, keyAt kk3 kn3 x i)) 0 (l0.take k)).map Prod.fst)).take j).map (fun key => (key, lstV (ixm (fun x i => (keyAt kk2 kn2 x i, keyAt kk3 kn3 x i)) 0 l0) key))) xs13) (fun j => ((setI ((ixm (fun x i => (keyAt kk2 kn2 x i, keyAt kk3 kn3 x i)) 0 (l0.take k)).map Prod.fst)).length) - j) 0 ⟨M_42, _, _, Hp.le.refl _, S, E.keep ⟨rfl, rfl, rfl, rfl, rfl, rfl, rfl, rfl, rfl, rfl, trivial⟩, by ((try clear S); (try clear E); first | assumption | omega | rfl | (simp; done) | (simp_all; done) | (simp [List.take_add_one, *]; done) | grind [List.take_add_one]), hr_45⟩ ?_
                try clear E
                try clear S
                try clear a
                try clear w
                rintro j a w ⟨M_46, u13, xs13, hM_46, S, E, hL1_0, hr13⟩
                replace h0 := h0.le hM_46
                replace hw1 := hw1.le hM_46
                replace hb_1 := hM_46.2 _ _ hb_1
                replace hb_3 := hM_46.2 _ _ hb_3
                replace hb_5 := hM_46.2 _ _ hb_5
                replace hz_12 := hz_12.le hM_46
                replace hv_14 := hv_14.le RP2_mono hM_46
                replace hv_16 := hv_16.le hM_46
                replace hz_41 := hz_41.le hM_46
                replace hv_43 := hv_43.le hM_46
                refine WP_seq ?_
                refine WP_region ?_
                refine S_v E rfl (R_lss E rfl rfl) rfl ?_
                clear E a; intro a E
                refine WL_nil ?_
                refine T_n ?_
                refine WP_seq ?_
                refine WP_cond E rfl (fun hc_47 => ?_) (fun hc_47 => ?_)
                · replace hc_47 := of_decide_eq_true hc_47
                  refine WP_skip ?_
                  refine T_n ?_
                  refine WP_seq ?_
                  refine WP_block ?_
                  refine WP_seq ?_
                  refine WP_region ?_
                  obtain ⟨x_48, hx_48⟩ : ∃ x, (setI ((ixm (fun x i => (keyAt kk2 kn2 x i, keyAt kk3 kn3 x i)) 0 (l0.take k)).map Prod.fst))[j]? = some x := ⟨_, List.getElem?_eq_getElem (by first | omega | (simp; done) | (simp; omega) | (simp_all; omega))⟩
                  obtain ⟨p_49, hp_49, qp_49⟩ := hv_43.at hx_48
                  refine S_v E rfl (R_idx E rfl rfl T22 hp_49 rfl) rfl ?_
                  clear E a; intro a E
                  refine S_v E rfl (R_loadM E rfl Try.isAgg3 S.imm qp_49) rfl ?_
                  clear E a; intro a E
                  refine S_v E rfl (R_assign E rfl) rfl ?_
                  clear E a; intro a E
                  refine WL_nil ?_
                  refine T_n ?_
                  refine WP_seq ?_
                  refine WP_region ?_
                  refine S_v E rfl (R_assign E rfl) rfl ?_
                  clear E a; intro a E
                  refine WL_nil ?_
                  refine T_n ?_
                  refine WP_seq ?_
                  refine WP_seq ?_
                  refine WP_region ?_
                  refine S_v E rfl (R_move E rfl) rfl ?_
                  clear E a; intro a E
                  refine S_v E rfl (R_lenV E rfl T22 h0.len) rfl ?_
                  clear E a; intro a E
                  refine S_v E rfl (R_move E rfl) rfl ?_
                  clear E a; intro a E
                  refine WL_nil ?_
                  refine T_n ?_
                  refine WP_block ?_
                  refine WP_loop (γ := Nat) (fun (m : Nat) a w => ∃ (M_50 : Hp), Hp.le M_46 M_50 ∧ St w M_50 (OwnC 59 2 u13 (((setI ((ixm (fun x i => (keyAt kk2 kn2 x i, keyAt kk3 kn3 x i)) 0 (l0.take k)).map Prod.fst)).take j).map (fun key => (key, lstV (ixm (fun x i => (keyAt kk2 kn2 x i, keyAt kk3 kn3 x i)) 0 l0) key))).length xs13 :: OwnI 3 u10 ((kpE (ixm (fun x i => (keyAt kk2 kn2 x i, keyAt kk3 kn3 x i, predAt pk1 pn1 pl1 x i)) 0 (l0.take k))).map Prod.fst) :: H) ∧ Env a 235 [] [(0, v0), (5, .pointer (some ⟨b_1, 0, none⟩)), (6, .pointer (some ⟨b_3, 0, none⟩)), (7, .pointer (some ⟨b_5, 0, none⟩)), (10, u10), (13, u13), (14, .slice none 0 0), (16, .int .i64 x_48), (17, .int .i64 (lstV (ixm (fun x i => (keyAt kk2 kn2 x i, keyAt kk3 kn3 x i)) 0 (l0.take m)) x_48)), (85, v_43), (86, .int .i64 (((setI ((ixm (fun x i => (keyAt kk2 kn2 x i, keyAt kk3 kn3 x i)) 0 (l0.take k)).map Prod.fst)).length : Nat) : Int)), (87, .int .i64 ((j : Nat) : Int)), (91, v0), (92, .int .i64 (((l0).length : Nat) : Int)), (93, .int .i64 ((m : Nat) : Int))] ∧ (m ≤ (l0).length)) (fun m => ((l0).length) - m) 0 ⟨M_46, Hp.le.refl _, S, E.keep ⟨rfl, rfl, rfl, rfl, rfl, rfl, rfl, rfl, look_int (i := 0) rfl (by (simp [ixm, lstV])), rfl, rfl, rfl, rfl, rfl, rfl, trivial⟩, by ((try clear S); (try clear E); first | assumption | omega | rfl | (simp; done) | (simp_all; done) | (simp [List.take_add_one, *]; done) | grind [List.take_add_one])⟩ ?_
                  try clear E
                  try clear S
                  try clear a
                  try clear w
                  rintro m a w ⟨M_50, hM_50, S, E, hL2_0⟩
                  replace h0 := h0.le hM_50
                  replace hw1 := hw1.le hM_50
                  replace hb_1 := hM_50.2 _ _ hb_1
                  replace hb_3 := hM_50.2 _ _ hb_3
                  replace hb_5 := hM_50.2 _ _ hb_5
                  replace hz_12 := hz_12.le hM_50
                  replace hv_14 := hv_14.le RP2_mono hM_50
                  replace hv_16 := hv_16.le hM_50
                  replace hz_41 := hz_41.le hM_50
                  replace hv_43 := hv_43.le hM_50
                  replace hr13 := hr13.le RP2_mono hM_50
                  refine WP_seq ?_
                  refine WP_region ?_
                  refine S_v E rfl (R_lss E rfl rfl) rfl ?_
                  clear E a; intro a E
                  refine WL_nil ?_
                  refine T_n ?_
                  refine WP_seq ?_
                  refine WP_cond E rfl (fun hc_51 => ?_) (fun hc_51 => ?_)
                  · replace hc_51 := of_decide_eq_true hc_51
                    refine WP_skip ?_
                    refine T_n ?_
                    refine WP_seq ?_
                    refine WP_block ?_
                    refine WP_seq ?_
                    refine WP_region ?_
                    refine S_v E rfl (R_move E rfl) rfl ?_
                    clear E a; intro a E
                    obtain ⟨x_52, hx_52⟩ : ∃ x, (l0)[m]? = some x := ⟨_, List.getElem?_eq_getElem (by first | omega | (simp; done) | (simp; omega) | (simp_all; omega))⟩
                    obtain ⟨p_53, hp_53, qp_53⟩ := h0.at hx_52
                    refine S_v E rfl (R_idx E rfl rfl T22 hp_53 rfl) rfl ?_
                    clear E a; intro a E
                    refine S_v E rfl (R_loadM E rfl Try.isAgg3 S.imm qp_53) rfl ?_
                    clear E a; intro a E
                    refine S_v E rfl (R_assign E rfl) rfl ?_
                    clear E a; intro a E
                    refine S_v E rfl (R_assign E rfl) rfl ?_
                    clear E a; intro a E
                    refine WL_nil ?_
                    refine T_n ?_
                    refine WP_seq ?_
                    refine WP_region ?_
                    refine S_v E rfl (R_loadGM E rfl (Try.isAgg24 _) (Try.sizeOf24 _) S.imm hb_3) rfl ?_
                    clear E a; intro a E
                    refine S_v E rfl (R_move E rfl) rfl ?_
                    clear E a; intro a E
                    refine S_v E rfl (R_move E rfl) rfl ?_
                    clear E a; intro a E
                    refine S_x (X_pu E S rfl rfl rfl (laws_stands (by omega)) (Hp.le.refl _) ?_)
                    clear E a S; rintro a _ w M_54 hM_54 rfl S E
                    replace h0 := h0.le hM_54
                    replace hw1 := hw1.le hM_54
                    replace hb_1 := hM_54.2 _ _ hb_1
                    replace hb_3 := hM_54.2 _ _ hb_3
                    replace hb_5 := hM_54.2 _ _ hb_5
                    replace hz_12 := hz_12.le hM_54
                    replace hv_14 := hv_14.le RP2_mono hM_54
                    replace hv_16 := hv_16.le hM_54
                    replace hz_41 := hz_41.le hM_54
                    replace hv_43 := hv_43.le hM_54
                    replace hr13 := hr13.le RP2_mono hM_54
                    refine S_v E rfl (R_move E rfl) rfl ?_
                    clear E a; intro a E
                    refine S_v E rfl (R_eql E rfl rfl) rfl ?_
                    clear E a; intro a E
                    refine WL_nil ?_
                    refine T_n ?_
                    refine WP_cond E rfl (fun hc_55 => ?_) (fun hc_55 => ?_)
                    · replace hc_55 := of_decide_eq_true hc_55
                      refine WP_region ?_
                      refine S_v E rfl (R_loadGM E rfl (Try.isAgg24 _) (Try.sizeOf24 _) S.imm hb_5) rfl ?_
                      clear E a; intro a E
                      refine S_v E rfl (R_move E rfl) rfl ?_
                      clear E a; intro a E
                      refine S_v E rfl (R_move E rfl) rfl ?_
                      clear E a; intro a E
                      refine S_x (X_pu E S rfl rfl rfl (laws_stands (by omega)) (Hp.le.refl _) ?_)
                      clear E a S; rintro a _ w M_56 hM_56 rfl S E
                      replace h0 := h0.le hM_56
                      replace hw1 := hw1.le hM_56
                      replace hb_1 := hM_56.2 _ _ hb_1
                      replace hb_3 := hM_56.2 _ _ hb_3
                      replace hb_5 := hM_56.2 _ _ hb_5
                      replace hz_12 := hz_12.le hM_56
                      replace hv_14 := hv_14.le RP2_mono hM_56
                      replace hv_16 := hv_16.le hM_56
                      replace hz_41 := hz_41.le hM_56
                      replace hv_43 := hv_43.le hM_56
                      replace hr13 := hr13.le RP2_mono hM_56
                      refine S_v E rfl (R_assign E rfl) rfl ?_
                      clear E a; intro a E
                      refine WL_nil ?_
                      refine B_n ?_
                      refine T_n ?_
                      refine WP_region ?_
                      refine S_v E rfl (R_addx (m := ((m + 1 : Nat) : Int)) E rfl rfl (by omega) (by omega)) rfl ?_
                      clear E a; intro a E
                      refine S_v E rfl (R_move E rfl) rfl ?_
                      clear E a; intro a E
                      refine WL_nil ?_
                      refine T_n ?_
                      exact ⟨m + 1, ⟨M_56, (hM_50.trans (hM_54.trans hM_56)), S, E.keep ⟨rfl, rfl, rfl, rfl, rfl, rfl, rfl, rfl, look_int (i := keyAt kk3 kn3 x_52 ((m : Nat) : Int)) rfl (by (first | exact lst_hit (f := (fun x i => (keyAt kk2 kn2 x i, keyAt kk3 kn3 x i))) (by assumption) (by assumption) | exact lst_miss (f := (fun x i => (keyAt kk2 kn2 x i, keyAt kk3 kn3 x i))) (by assumption) (by assumption))), rfl, rfl, rfl, rfl, rfl, rfl, trivial⟩, by ((try clear S); (try clear E); first | assumption | omega | rfl | (simp; done) | (simp_all; done) | (simp [List.take_add_one, *]; done) | grind [List.take_add_one])⟩, by omega⟩
                    · replace hc_55 := of_decide_eq_false hc_55
                      refine WP_skip ?_
                      refine B_n ?_
                      refine T_n ?_
                      refine WP_region ?_
                      refine S_v E rfl (R_addx (m := ((m + 1 : Nat) : Int)) E rfl rfl (by omega) (by omega)) rfl ?_
                      clear E a; intro a E
                      refine S_v E rfl (R_move E rfl) rfl ?_
                      clear E a; intro a E
                      refine WL_nil ?_
                      refine T_n ?_
                      exact ⟨m + 1, ⟨M_54, (hM_50.trans hM_54), S, E.keep ⟨rfl, rfl, rfl, rfl, rfl, rfl, rfl, rfl, look_int (i := lstV (ixm (fun x i => (keyAt kk2 kn2 x i, keyAt kk3 kn3 x i)) 0 (l0.take m)) x_48) rfl (by (first | exact lst_hit (f := (fun x i => (keyAt kk2 kn2 x i, keyAt kk3 kn3 x i))) (by assumption) (by assumption) | exact lst_miss (f := (fun x i => (keyAt kk2 kn2 x i, keyAt kk3 kn3 x i))) (by assumption) (by assumption))), rfl, rfl, rfl, rfl, rfl, rfl, trivial⟩, by ((try clear S); (try clear E); first | assumption | omega | rfl | (simp; done) | (simp_all; done) | (simp [List.take_add_one, *]; done) | grind [List.take_add_one])⟩, by omega⟩
                  · replace hc_51 := of_decide_eq_false hc_51
                    refine WP_exit ?_
                    refine T_x ?_
                    refine T_x ?_
                    refine B_x ?_
                    refine T_n ?_
                    refine WP_region ?_
                    refine S_v E rfl (R_move E rfl) rfl ?_
                    clear E a; intro a E
                    refine S_v E rfl (R_move E rfl) rfl ?_
                    clear E a; intro a E
                    refine S_v E rfl (R_move E rfl) rfl ?_
                    clear E a; intro a E
                    refine S_v E rfl (R_build (u := .agg #[.int .i64 x_48, .int .i64 (lstV (ixm (fun x i => (keyAt kk2 kn2 x i, keyAt kk3 kn3 x i)) 0 (l0.take m)) x_48)]) (vs := [.int .i64 x_48, .int .i64 (lstV (ixm (fun x i => (keyAt kk2 kn2 x i, keyAt kk3 kn3 x i)) 0 (l0.take m)) x_48)]) E rfl (fun w => FB59_0_1_ii x_48 (lstV (ixm (fun x i => (keyAt kk2 kn2 x i, keyAt kk3 kn3 x i)) 0 (l0.take m)) x_48) w)) rfl ?_
                    clear E a; intro a E
                    refine S_x (X_buildA1 (R := RP2) (cs := [.int .i64 x_48, .int .i64 (lstV (ixm (fun x i => (keyAt kk2 kn2 x i, keyAt kk3 kn3 x i)) 0 (l0.take m)) x_48)]) (x0 := (x_48, lstV (ixm (fun x i => (keyAt kk2 kn2 x i, keyAt kk3 kn3 x i)) 0 (l0.take m)) x_48)) RP2_mono E S rfl T33 rfl rfl rfl rfl ?_)
                    clear E a S; rintro a v_57 w M_58 hM_58 hv_57 S E
                    replace h0 := h0.le hM_58
                    replace hw1 := hw1.le hM_58
                    replace hb_1 := hM_58.2 _ _ hb_1
                    replace hb_3 := hM_58.2 _ _ hb_3
                    replace hb_5 := hM_58.2 _ _ hb_5
                    replace hz_12 := hz_12.le hM_58
                    replace hv_14 := hv_14.le RP2_mono hM_58
                    replace hv_16 := hv_16.le hM_58
                    replace hz_41 := hz_41.le hM_58
                    replace hv_43 := hv_43.le hM_58
                    replace hr13 := hr13.le RP2_mono hM_58
                    refine S_x (X_appendR (R := RP2) (zs := ((setI ((ixm (fun x i => (keyAt kk2 kn2 x i, keyAt kk3 kn3 x i)) 0 (l0.take k)).map Prod.fst)).take j).map (fun key => (key, lstV (ixm (fun x i => (keyAt kk2 kn2 x i, keyAt kk3 kn3 x i)) 0 l0) key))) (ys := [(x_48, lstV (ixm (fun x i => (keyAt kk2 kn2 x i, keyAt kk3 kn3 x i)) 0 (l0.take m)) x_48)]) E S hr13 rfl rfl rfl T33 hv_57 one_RP2 (by (first | omega | (simp; done) | (simp; omega) | (simp only [List.length_cons, List.length_nil, List.length_map, List.length_take] at *; omega))) (by (first | omega | (simp; done) | (simp; omega) | (simp only [List.length_cons, List.length_nil, List.length_map, List.length_take] at *; omega))) ?_)
                    clear E a S; rintro a w v_59 xs_60 E hr_61 S
                    refine S_v E rfl (R_assign E rfl) rfl ?_
                    clear E a; intro a E
                    refine WL_nil ?_
                    refine B_n ?_
                    refine T_n ?_
                    refine WP_region ?_
                    refine S_v E rfl (R_addx (m := ((j + 1 : Nat) : Int)) E rfl rfl (by omega) (by omega)) rfl ?_
                    clear E a; intro a E
                    refine S_v E rfl (R_move E rfl) rfl ?_
                    clear E a; intro a E
                    refine WL_nil ?_
                    refine T_n ?_
                    have hre : (((setI ((ixm (fun x i => (keyAt kk2 kn2 x i, keyAt kk3 kn3 x i)) 0 (l0.take k)).map Prod.fst)).take j).map (fun key => (key, lstV (ixm (fun x i => (keyAt kk2 kn2 x i, keyAt kk3 kn3 x i)) 0 l0) key))) ++ [(x_48, lstV (ixm (fun x i => (keyAt kk2 kn2 x i, keyAt kk3 kn3 x i)) 0 (l0.take m)) x_48)] = ((setI ((ixm (fun x i => (keyAt kk2 kn2 x i, keyAt kk3 kn3 x i)) 0 (l0.take k)).map Prod.fst)).take (j + 1)).map (fun key => (key, lstV (ixm (fun x i => (keyAt kk2 kn2 x i, keyAt kk3 kn3 x i)) 0 l0) key)) := by first | (simp; done) | exact mp_snoc (by assumption) (by rw [List.take_of_length_le (l := l0) (i := m) (by omega)])
                    replace S := S.reR hre
                    replace hr_61 := hr_61.eq hre
                    clear hre
                    exact ⟨j + 1, ⟨M_58, _, _, (hM_46.trans (hM_50.trans hM_58)), S, E.keep ⟨rfl, rfl, rfl, rfl, rfl, rfl, rfl, rfl, rfl, rfl, trivial⟩, by ((try clear S); (try clear E); first | assumption | omega | rfl | (simp; done) | (simp_all; done) | (simp [List.take_add_one, *]; done) | grind [List.take_add_one]), hr_61⟩, by omega⟩
                · replace hc_47 := of_decide_eq_false hc_47
                  have eall : ((setI ((ixm (fun x i => (keyAt kk2 kn2 x i, keyAt kk3 kn3 x i)) 0 (l0.take k)).map Prod.fst)).take j).map (fun key => (key, lstV (ixm (fun x i => (keyAt kk2 kn2 x i, keyAt kk3 kn3 x i)) 0 l0) key)) = entE (ixm (fun x i => (keyAt kk2 kn2 x i, keyAt kk3 kn3 x i)) 0 l0) := by rw [List.take_of_length_le (by omega), etk]; exact entE_keys _
                  refine WP_exit ?_
                  refine T_x ?_
                  refine T_x ?_
                  refine B_x ?_
                  refine T_n ?_
                  refine WP_seq ?_
                  refine WP_seq ?_
                  refine WP_region ?_
                  refine S_v E rfl (R_move E rfl) rfl ?_
                  clear E a; intro a E
                  replace S := S.front1
                  have S0 := S; clear S
                  obtain ⟨M_62, hM_62, hz_63, S⟩ := S0.freezeI (by (first | omega | (simp; done) | (simp; omega) | (simp only [List.length_map, List.length_take] at *; omega)))
                  clear S0
                  replace h0 := h0.le hM_62
                  replace hw1 := hw1.le hM_62
                  replace hb_1 := hM_62.2 _ _ hb_1
                  replace hb_3 := hM_62.2 _ _ hb_3
                  replace hb_5 := hM_62.2 _ _ hb_5
                  replace hz_12 := hz_12.le hM_62
                  replace hv_14 := hv_14.le RP2_mono hM_62
                  replace hv_16 := hv_16.le hM_62
                  replace hz_41 := hz_41.le hM_62
                  replace hv_43 := hv_43.le hM_62
                  replace hr13 := hr13.le RP2_mono hM_62
                  refine S_x (X_pu E S rfl rfl rfl (laws_sorted hz_63 (by (first | omega | (simp; omega) | (simp; done) | (simp_all; omega) | grind))) (Hp.le.refl _) ?_)
                  clear E a S; rintro a v_65 w M_64 hM_64 hv_65 S E
                  replace h0 := h0.le hM_64
                  replace hw1 := hw1.le hM_64
                  replace hb_1 := hM_64.2 _ _ hb_1
                  replace hb_3 := hM_64.2 _ _ hb_3
                  replace hb_5 := hM_64.2 _ _ hb_5
                  replace hz_12 := hz_12.le hM_64
                  replace hv_14 := hv_14.le RP2_mono hM_64
                  replace hv_16 := hv_16.le hM_64
                  replace hz_41 := hz_41.le hM_64
                  replace hv_43 := hv_43.le hM_64
                  replace hr13 := hr13.le RP2_mono hM_64
                  replace hz_63 := hz_63.le hM_64
                  refine S_v E rfl (R_lenV E rfl T22 hv_65.len) rfl ?_
                  clear E a; intro a E
                  refine S_v E rfl (R_move E rfl) rfl ?_
                  clear E a; intro a E
                  refine WL_nil ?_
                  refine T_n ?_
                  refine WP_block ?_
                  replace S : St w M_64 (OwnC 59 2 (.slice none 0 0) ([] : List (Int × Int)).length [] :: _) := S.ownNil
                  have hr_67 : RowsR RP2 2 M_64 ([] : List (Int × Int)) [] := RowsR.nil
                  have hre : ([] : List (Int × Int)) = ((setI ((kpE (ixm (fun x i => (keyAt kk2 kn2 x i, keyAt kk3 kn3 x i, predAt pk1 pn1 pl1 x i)) 0 (l0.take k))).map Prod.fst)).take 0).map (fun key => (key, lstV (kpE (ixm (fun x i => (keyAt kk2 kn2 x i, keyAt kk3 kn3 x i, predAt pk1 pn1 pl1 x i)) 0 l0)) key)) := by first | (simp; done) | exact mp_snoc (by assumption) (by rw [List.take_of_length_le (l := l0) (i := m2) (by omega)])
                  replace S := S.reR hre
                  replace hr_67 := hr_67.eq hre
                  clear hre
                  refine WP_loop (γ := Nat) (fun (j2 : Nat) a w => ∃ (M_68 : Hp) (u14 : Value) (xs14 : List Value), Hp.le M_64 M_68 ∧ St w M_68 (OwnC 59 2 u14 (((setI ((kpE (ixm (fun x i => (keyAt kk2 kn2 x i, keyAt kk3 kn3 x i, predAt pk1 pn1 pl1 x i)) 0 (l0.take k))).map Prod.fst)).take j2).map (fun key => (key, lstV (kpE (ixm (fun x i => (keyAt kk2 kn2 x i, keyAt kk3 kn3 x i, predAt pk1 pn1 pl1 x i)) 0 l0)) key))).length xs14 :: OwnC 59 2 u13 (((setI ((ixm (fun x i => (keyAt kk2 kn2 x i, keyAt kk3 kn3 x i)) 0 (l0.take k)).map Prod.fst)).take j).map (fun key => (key, lstV (ixm (fun x i => (keyAt kk2 kn2 x i, keyAt kk3 kn3 x i)) 0 l0) key))).length xs13 :: H) ∧ Env a 235 [] [(0, v0), (5, .pointer (some ⟨b_1, 0, none⟩)), (6, .pointer (some ⟨b_3, 0, none⟩)), (7, .pointer (some ⟨b_5, 0, none⟩)), (13, u13), (14, u14), (117, v_65), (118, .int .i64 (((setI ((kpE (ixm (fun x i => (keyAt kk2 kn2 x i, keyAt kk3 kn3 x i, predAt pk1 pn1 pl1 x i)) 0 (l0.take k))).map Prod.fst)).length : Nat) : Int)), (119, .int .i64 ((j2 : Nat) : Int))] ∧ (j2 ≤ (setI ((kpE (ixm (fun x i => (keyAt kk2 kn2 x i, keyAt kk3 kn3 x i, predAt pk1 pn1 pl1 x i)) 0 (l0.take k))).map Prod.fst)).length) ∧ RowsR RP2 2 M_68 (((setI ((kpE (ixm (fun x i => (keyAt kk2 kn2 x i, keyAt kk3 kn3 x i, predAt pk1 pn1 pl1 x i)) 0 (l0.take k))).map Prod.fst)).take j2).map (fun key => (key, lstV (kpE (ixm (fun x i => (keyAt kk2 kn2 x i, keyAt kk3 kn3 x i, predAt pk1 pn1 pl1 x i)) 0 l0)) key))) xs14) (fun j2 => ((setI ((kpE (ixm (fun x i => (keyAt kk2 kn2 x i, keyAt kk3 kn3 x i, predAt pk1 pn1 pl1 x i)) 0 (l0.take k))).map Prod.fst)).length) - j2) 0 ⟨M_64, _, _, Hp.le.refl _, S, E.keep ⟨rfl, rfl, rfl, rfl, rfl, rfl, rfl, rfl, rfl, trivial⟩, by ((try clear S); (try clear E); first | assumption | omega | rfl | (simp; done) | (simp_all; done) | (simp [List.take_add_one, *]; done) | grind [List.take_add_one]), hr_67⟩ ?_
                  try clear E
                  try clear S
                  try clear a
                  try clear w
                  rintro j2 a w ⟨M_68, u14, xs14, hM_68, S, E, hL3_0, hr14⟩
                  replace h0 := h0.le hM_68
                  replace hw1 := hw1.le hM_68
                  replace hb_1 := hM_68.2 _ _ hb_1
                  replace hb_3 := hM_68.2 _ _ hb_3
                  replace hb_5 := hM_68.2 _ _ hb_5
                  replace hz_12 := hz_12.le hM_68
                  replace hv_14 := hv_14.le RP2_mono hM_68
                  replace hv_16 := hv_16.le hM_68
                  replace hz_41 := hz_41.le hM_68
                  replace hv_43 := hv_43.le hM_68
                  replace hr13 := hr13.le RP2_mono hM_68
                  replace hz_63 := hz_63.le hM_68
                  replace hv_65 := hv_65.le hM_68
                  refine WP_seq ?_
                  refine WP_region ?_
                  refine S_v E rfl (R_lss E rfl rfl) rfl ?_
                  clear E a; intro a E
                  refine WL_nil ?_
                  refine T_n ?_
                  refine WP_seq ?_
                  refine WP_cond E rfl (fun hc_69 => ?_) (fun hc_69 => ?_)
                  · replace hc_69 := of_decide_eq_true hc_69
                    refine WP_skip ?_
                    refine T_n ?_
                    refine WP_seq ?_
                    refine WP_block ?_
                    refine WP_seq ?_
                    refine WP_region ?_
                    obtain ⟨x_70, hx_70⟩ : ∃ x, (setI ((kpE (ixm (fun x i => (keyAt kk2 kn2 x i, keyAt kk3 kn3 x i, predAt pk1 pn1 pl1 x i)) 0 (l0.take k))).map Prod.fst))[j2]? = some x := ⟨_, List.getElem?_eq_getElem (by first | omega | (simp; done) | (simp; omega) | (simp_all; omega))⟩
                    obtain ⟨p_71, hp_71, qp_71⟩ := hv_65.at hx_70
                    refine S_v E rfl (R_idx E rfl rfl T22 hp_71 rfl) rfl ?_
                    clear E a; intro a E
                    refine S_v E rfl (R_loadM E rfl Try.isAgg3 S.imm qp_71) rfl ?_
                    clear E a; intro a E
                    refine S_v E rfl (R_assign E rfl) rfl ?_
                    clear E a; intro a E
                    refine WL_nil ?_
                    refine T_n ?_
                    refine WP_seq ?_
                    refine WP_region ?_
                    refine S_v E rfl (R_assign E rfl) rfl ?_
                    clear E a; intro a E
                    refine WL_nil ?_
                    refine T_n ?_
                    refine WP_seq ?_
                    refine WP_seq ?_
                    refine WP_region ?_
                    refine S_v E rfl (R_move E rfl) rfl ?_
                    clear E a; intro a E
                    refine S_v E rfl (R_lenV E rfl T22 h0.len) rfl ?_
                    clear E a; intro a E
                    refine S_v E rfl (R_move E rfl) rfl ?_
                    clear E a; intro a E
                    refine WL_nil ?_
                    refine T_n ?_
                    refine WP_block ?_
                    refine WP_loop (γ := Nat) (fun (m2 : Nat) a w => ∃ (M_72 : Hp), Hp.le M_68 M_72 ∧ St w M_72 (OwnC 59 2 u14 (((setI ((kpE (ixm (fun x i => (keyAt kk2 kn2 x i, keyAt kk3 kn3 x i, predAt pk1 pn1 pl1 x i)) 0 (l0.take k))).map Prod.fst)).take j2).map (fun key => (key, lstV (kpE (ixm (fun x i => (keyAt kk2 kn2 x i, keyAt kk3 kn3 x i, predAt pk1 pn1 pl1 x i)) 0 l0)) key))).length xs14 :: OwnC 59 2 u13 (((setI ((ixm (fun x i => (keyAt kk2 kn2 x i, keyAt kk3 kn3 x i)) 0 (l0.take k)).map Prod.fst)).take j).map (fun key => (key, lstV (ixm (fun x i => (keyAt kk2 kn2 x i, keyAt kk3 kn3 x i)) 0 l0) key))).length xs13 :: H) ∧ Env a 235 [] [(0, v0), (5, .pointer (some ⟨b_1, 0, none⟩)), (6, .pointer (some ⟨b_3, 0, none⟩)), (7, .pointer (some ⟨b_5, 0, none⟩)), (13, u13), (14, u14), (21, .int .i64 x_70), (22, .int .i64 (lstV (kpE (ixm (fun x i => (keyAt kk2 kn2 x i, keyAt kk3 kn3 x i, predAt pk1 pn1 pl1 x i)) 0 (l0.take m2))) x_70)), (117, v_65), (118, .int .i64 (((setI ((kpE (ixm (fun x i => (keyAt kk2 kn2 x i, keyAt kk3 kn3 x i, predAt pk1 pn1 pl1 x i)) 0 (l0.take k))).map Prod.fst)).length : Nat) : Int)), (119, .int .i64 ((j2 : Nat) : Int)), (123, v0), (124, .int .i64 (((l0).length : Nat) : Int)), (125, .int .i64 ((m2 : Nat) : Int))] ∧ (m2 ≤ (l0).length)) (fun m2 => ((l0).length) - m2) 0 ⟨M_68, Hp.le.refl _, S, E.keep ⟨rfl, rfl, rfl, rfl, rfl, rfl, rfl, look_int (i := 0) rfl (by (simp [ixm, lstV, kpE])), rfl, rfl, rfl, rfl, rfl, rfl, trivial⟩, by ((try clear S); (try clear E); first | assumption | omega | rfl | (simp; done) | (simp_all; done) | (simp [List.take_add_one, *]; done) | grind [List.take_add_one])⟩ ?_
                    try clear E
                    try clear S
                    try clear a
                    try clear w
                    rintro m2 a w ⟨M_72, hM_72, S, E, hL4_0⟩
                    replace h0 := h0.le hM_72
                    replace hw1 := hw1.le hM_72
                    replace hb_1 := hM_72.2 _ _ hb_1
                    replace hb_3 := hM_72.2 _ _ hb_3
                    replace hb_5 := hM_72.2 _ _ hb_5
                    replace hz_12 := hz_12.le hM_72
                    replace hv_14 := hv_14.le RP2_mono hM_72
                    replace hv_16 := hv_16.le hM_72
                    replace hz_41 := hz_41.le hM_72
                    replace hv_43 := hv_43.le hM_72
                    replace hr13 := hr13.le RP2_mono hM_72
                    replace hz_63 := hz_63.le hM_72
                    replace hv_65 := hv_65.le hM_72
                    replace hr14 := hr14.le RP2_mono hM_72
                    refine WP_seq ?_
                    refine WP_region ?_
                    refine S_v E rfl (R_lss E rfl rfl) rfl ?_
                    clear E a; intro a E
                    refine WL_nil ?_
                    refine T_n ?_
                    refine WP_seq ?_
                    refine WP_cond E rfl (fun hc_73 => ?_) (fun hc_73 => ?_)
                    · replace hc_73 := of_decide_eq_true hc_73
                      refine WP_skip ?_
                      refine T_n ?_
                      refine WP_seq ?_
                      refine WP_block ?_
                      refine WP_seq ?_
                      refine WP_region ?_
                      refine S_v E rfl (R_move E rfl) rfl ?_
                      clear E a; intro a E
                      obtain ⟨x_74, hx_74⟩ : ∃ x, (l0)[m2]? = some x := ⟨_, List.getElem?_eq_getElem (by first | omega | (simp; done) | (simp; omega) | (simp_all; omega))⟩
                      obtain ⟨p_75, hp_75, qp_75⟩ := h0.at hx_74
                      refine S_v E rfl (R_idx E rfl rfl T22 hp_75 rfl) rfl ?_
                      clear E a; intro a E
                      refine S_v E rfl (R_loadM E rfl Try.isAgg3 S.imm qp_75) rfl ?_
                      clear E a; intro a E
                      refine S_v E rfl (R_assign E rfl) rfl ?_
                      clear E a; intro a E
                      refine S_v E rfl (R_assign E rfl) rfl ?_
                      clear E a; intro a E
                      refine WL_nil ?_
                      refine T_n ?_
                      refine WP_seq ?_
                      refine WP_region ?_
                      refine S_v E rfl (R_loadGM E rfl (Try.isAgg24 _) (Try.sizeOf24 _) S.imm hb_3) rfl ?_
                      clear E a; intro a E
                      refine S_v E rfl (R_move E rfl) rfl ?_
                      clear E a; intro a E
                      refine S_v E rfl (R_move E rfl) rfl ?_
                      clear E a; intro a E
                      refine S_x (X_pu E S rfl rfl rfl (laws_stands (by omega)) (Hp.le.refl _) ?_)
                      clear E a S; rintro a _ w M_76 hM_76 rfl S E
                      replace h0 := h0.le hM_76
                      replace hw1 := hw1.le hM_76
                      replace hb_1 := hM_76.2 _ _ hb_1
                      replace hb_3 := hM_76.2 _ _ hb_3
                      replace hb_5 := hM_76.2 _ _ hb_5
                      replace hz_12 := hz_12.le hM_76
                      replace hv_14 := hv_14.le RP2_mono hM_76
                      replace hv_16 := hv_16.le hM_76
                      replace hz_41 := hz_41.le hM_76
                      replace hv_43 := hv_43.le hM_76
                      replace hr13 := hr13.le RP2_mono hM_76
                      replace hz_63 := hz_63.le hM_76
                      replace hv_65 := hv_65.le hM_76
                      replace hr14 := hr14.le RP2_mono hM_76
                      refine S_v E rfl (R_move E rfl) rfl ?_
                      clear E a; intro a E
                      refine S_v E rfl (R_eql E rfl rfl) rfl ?_
                      clear E a; intro a E
                      refine S_v E rfl (R_move E rfl) rfl ?_
                      clear E a; intro a E
                      refine split_bool (decide (keyAt kk2 kn2 x_74 ((m2 : Nat) : Int) = x_70)) (fun hc_77 => ?_) (fun hc_77 => ?_)
                      · replace E := E.val (t := 135) rfl hc_77
                        replace E := E.val (t := 136) rfl hc_77
                        replace hc_77 := of_decide_eq_true hc_77
                        refine WL_guard_yes E rfl rfl ?_
                        refine S_v E rfl (R_loadGM E rfl (Try.isAgg54 _) (Try.sizeOf54 _) S.imm hb_1) rfl ?_
                        clear E a; intro a E
                        refine WL_guard_yes E rfl rfl ?_
                        refine S_v E rfl (R_move E rfl) rfl ?_
                        clear E a; intro a E
                        refine WL_guard_yes E rfl rfl ?_
                        refine S_v E rfl (R_move E rfl) rfl ?_
                        clear E a; intro a E
                        refine WL_guard_yes E rfl rfl ?_
                        refine S_x (X_pu E S rfl rfl rfl (laws_holds hw1 (by omega)) (Hp.le.refl _) ?_)
                        clear E a S; rintro a _ w M_78 hM_78 rfl S E
                        replace h0 := h0.le hM_78
                        replace hw1 := hw1.le hM_78
                        replace hb_1 := hM_78.2 _ _ hb_1
                        replace hb_3 := hM_78.2 _ _ hb_3
                        replace hb_5 := hM_78.2 _ _ hb_5
                        replace hz_12 := hz_12.le hM_78
                        replace hv_14 := hv_14.le RP2_mono hM_78
                        replace hv_16 := hv_16.le hM_78
                        replace hz_41 := hz_41.le hM_78
                        replace hv_43 := hv_43.le hM_78
                        replace hr13 := hr13.le RP2_mono hM_78
                        replace hz_63 := hz_63.le hM_78
                        replace hv_65 := hv_65.le hM_78
                        replace hr14 := hr14.le RP2_mono hM_78
                        refine S_v E rfl (R_pickT E rfl rfl) rfl ?_
                        clear E a; intro a E
                        refine WL_nil ?_
                        refine T_n ?_
                        refine WP_cond E rfl (fun hc_79 => ?_) (fun hc_79 => ?_)
                        · refine WP_region ?_
                          refine S_v E rfl (R_loadGM E rfl (Try.isAgg24 _) (Try.sizeOf24 _) S.imm hb_5) rfl ?_
                          clear E a; intro a E
                          refine S_v E rfl (R_move E rfl) rfl ?_
                          clear E a; intro a E
                          refine S_v E rfl (R_move E rfl) rfl ?_
                          clear E a; intro a E
                          refine S_x (X_pu E S rfl rfl rfl (laws_stands (by omega)) (Hp.le.refl _) ?_)
                          clear E a S; rintro a _ w M_80 hM_80 rfl S E
                          replace h0 := h0.le hM_80
                          replace hw1 := hw1.le hM_80
                          replace hb_1 := hM_80.2 _ _ hb_1
                          replace hb_3 := hM_80.2 _ _ hb_3
                          replace hb_5 := hM_80.2 _ _ hb_5
                          replace hz_12 := hz_12.le hM_80
                          replace hv_14 := hv_14.le RP2_mono hM_80
                          replace hv_16 := hv_16.le hM_80
                          replace hz_41 := hz_41.le hM_80
                          replace hv_43 := hv_43.le hM_80
                          replace hr13 := hr13.le RP2_mono hM_80
                          replace hz_63 := hz_63.le hM_80
                          replace hv_65 := hv_65.le hM_80
                          replace hr14 := hr14.le RP2_mono hM_80
                          refine S_v E rfl (R_assign E rfl) rfl ?_
                          clear E a; intro a E
                          refine WL_nil ?_
                          refine B_n ?_
                          refine T_n ?_
                          refine WP_region ?_
                          refine S_v E rfl (R_addx (m := ((m2 + 1 : Nat) : Int)) E rfl rfl (by omega) (by omega)) rfl ?_
                          clear E a; intro a E
                          refine S_v E rfl (R_move E rfl) rfl ?_
                          clear E a; intro a E
                          refine WL_nil ?_
                          refine T_n ?_
                          exact ⟨m2 + 1, ⟨M_80, (hM_72.trans (hM_76.trans (hM_78.trans hM_80))), S, E.keep ⟨rfl, rfl, rfl, rfl, rfl, rfl, rfl, look_int (i := keyAt kk3 kn3 x_74 ((m2 : Nat) : Int)) rfl (by (first | exact lsk_hit (f := (fun x i => (keyAt kk2 kn2 x i, keyAt kk3 kn3 x i, predAt pk1 pn1 pl1 x i))) (by assumption) (by assumption) (by assumption) | exact lsk_miss (f := (fun x i => (keyAt kk2 kn2 x i, keyAt kk3 kn3 x i, predAt pk1 pn1 pl1 x i))) (by assumption) (by assumption) | exact lsk_no (f := (fun x i => (keyAt kk2 kn2 x i, keyAt kk3 kn3 x i, predAt pk1 pn1 pl1 x i))) (by assumption) (by simp_all))), rfl, rfl, rfl, rfl, rfl, rfl, trivial⟩, by ((try clear S); (try clear E); first | assumption | omega | rfl | (simp; done) | (simp_all; done) | (simp [List.take_add_one, *]; done) | grind [List.take_add_one])⟩, by omega⟩
                        · refine WP_skip ?_
                          refine B_n ?_
                          refine T_n ?_
                          refine WP_region ?_
                          refine S_v E rfl (R_addx (m := ((m2 + 1 : Nat) : Int)) E rfl rfl (by omega) (by omega)) rfl ?_
                          clear E a; intro a E
                          refine S_v E rfl (R_move E rfl) rfl ?_
                          clear E a; intro a E
                          refine WL_nil ?_
                          refine T_n ?_
                          exact ⟨m2 + 1, ⟨M_78, (hM_72.trans (hM_76.trans hM_78)), S, E.keep ⟨rfl, rfl, rfl, rfl, rfl, rfl, rfl, look_int (i := lstV (kpE (ixm (fun x i => (keyAt kk2 kn2 x i, keyAt kk3 kn3 x i, predAt pk1 pn1 pl1 x i)) 0 (l0.take m2))) x_70) rfl (by (first | exact lsk_hit (f := (fun x i => (keyAt kk2 kn2 x i, keyAt kk3 kn3 x i, predAt pk1 pn1 pl1 x i))) (by assumption) (by assumption) (by assumption) | exact lsk_miss (f := (fun x i => (keyAt kk2 kn2 x i, keyAt kk3 kn3 x i, predAt pk1 pn1 pl1 x i))) (by assumption) (by assumption) | exact lsk_no (f := (fun x i => (keyAt kk2 kn2 x i, keyAt kk3 kn3 x i, predAt pk1 pn1 pl1 x i))) (by assumption) (by simp_all))), rfl, rfl, rfl, rfl, rfl, rfl, trivial⟩, by ((try clear S); (try clear E); first | assumption | omega | rfl | (simp; done) | (simp_all; done) | (simp [List.take_add_one, *]; done) | grind [List.take_add_one])⟩, by omega⟩
                      · replace E := E.val (t := 135) rfl hc_77
                        replace E := E.val (t := 136) rfl hc_77
                        replace hc_77 := of_decide_eq_false hc_77
                        refine WL_guard_no E rfl rfl rfl rfl fun a E => ?_
                        refine WL_guard_no E rfl rfl rfl rfl fun a E => ?_
                        refine WL_guard_no E rfl rfl rfl rfl fun a E => ?_
                        refine WL_guard_no E rfl rfl rfl rfl fun a E => ?_
                        refine S_v E rfl (R_pickF E rfl rfl) rfl ?_
                        clear E a; intro a E
                        refine WL_nil ?_
                        refine T_n ?_
                        refine WP_condF E rfl rfl ?_
                        refine WP_skip ?_
                        refine B_n ?_
                        refine T_n ?_
                        refine WP_region ?_
                        refine S_v E rfl (R_addx (m := ((m2 + 1 : Nat) : Int)) E rfl rfl (by omega) (by omega)) rfl ?_
                        clear E a; intro a E
                        refine S_v E rfl (R_move E rfl) rfl ?_
                        clear E a; intro a E
                        refine WL_nil ?_
                        refine T_n ?_
                        exact ⟨m2 + 1, ⟨M_76, (hM_72.trans hM_76), S, E.keep ⟨rfl, rfl, rfl, rfl, rfl, rfl, rfl, look_int (i := lstV (kpE (ixm (fun x i => (keyAt kk2 kn2 x i, keyAt kk3 kn3 x i, predAt pk1 pn1 pl1 x i)) 0 (l0.take m2))) x_70) rfl (by (first | exact lsk_hit (f := (fun x i => (keyAt kk2 kn2 x i, keyAt kk3 kn3 x i, predAt pk1 pn1 pl1 x i))) (by assumption) (by assumption) (by assumption) | exact lsk_miss (f := (fun x i => (keyAt kk2 kn2 x i, keyAt kk3 kn3 x i, predAt pk1 pn1 pl1 x i))) (by assumption) (by assumption) | exact lsk_no (f := (fun x i => (keyAt kk2 kn2 x i, keyAt kk3 kn3 x i, predAt pk1 pn1 pl1 x i))) (by assumption) (by simp_all))), rfl, rfl, rfl, rfl, rfl, rfl, trivial⟩, by ((try clear S); (try clear E); first | assumption | omega | rfl | (simp; done) | (simp_all; done) | (simp [List.take_add_one, *]; done) | grind [List.take_add_one])⟩, by omega⟩
                    · replace hc_73 := of_decide_eq_false hc_73
                      refine WP_exit ?_
                      refine T_x ?_
                      refine T_x ?_
                      refine B_x ?_
                      refine T_n ?_
                      refine WP_region ?_
                      refine S_v E rfl (R_move E rfl) rfl ?_
                      clear E a; intro a E
                      refine S_v E rfl (R_move E rfl) rfl ?_
                      clear E a; intro a E
                      refine S_v E rfl (R_move E rfl) rfl ?_
                      clear E a; intro a E
                      refine S_v E rfl (R_build (u := .agg #[.int .i64 x_70, .int .i64 (lstV (kpE (ixm (fun x i => (keyAt kk2 kn2 x i, keyAt kk3 kn3 x i, predAt pk1 pn1 pl1 x i)) 0 (l0.take m2))) x_70)]) (vs := [.int .i64 x_70, .int .i64 (lstV (kpE (ixm (fun x i => (keyAt kk2 kn2 x i, keyAt kk3 kn3 x i, predAt pk1 pn1 pl1 x i)) 0 (l0.take m2))) x_70)]) E rfl (fun w => FB59_0_1_ii x_70 (lstV (kpE (ixm (fun x i => (keyAt kk2 kn2 x i, keyAt kk3 kn3 x i, predAt pk1 pn1 pl1 x i)) 0 (l0.take m2))) x_70) w)) rfl ?_
                      clear E a; intro a E
                      refine S_x (X_buildA1 (R := RP2) (cs := [.int .i64 x_70, .int .i64 (lstV (kpE (ixm (fun x i => (keyAt kk2 kn2 x i, keyAt kk3 kn3 x i, predAt pk1 pn1 pl1 x i)) 0 (l0.take m2))) x_70)]) (x0 := (x_70, lstV (kpE (ixm (fun x i => (keyAt kk2 kn2 x i, keyAt kk3 kn3 x i, predAt pk1 pn1 pl1 x i)) 0 (l0.take m2))) x_70)) RP2_mono E S rfl T33 rfl rfl rfl rfl ?_)
                      clear E a S; rintro a v_81 w M_82 hM_82 hv_81 S E
                      replace h0 := h0.le hM_82
                      replace hw1 := hw1.le hM_82
                      replace hb_1 := hM_82.2 _ _ hb_1
                      replace hb_3 := hM_82.2 _ _ hb_3
                      replace hb_5 := hM_82.2 _ _ hb_5
                      replace hz_12 := hz_12.le hM_82
                      replace hv_14 := hv_14.le RP2_mono hM_82
                      replace hv_16 := hv_16.le hM_82
                      replace hz_41 := hz_41.le hM_82
                      replace hv_43 := hv_43.le hM_82
                      replace hr13 := hr13.le RP2_mono hM_82
                      replace hz_63 := hz_63.le hM_82
                      replace hv_65 := hv_65.le hM_82
                      replace hr14 := hr14.le RP2_mono hM_82
                      refine S_x (X_appendR (R := RP2) (zs := ((setI ((kpE (ixm (fun x i => (keyAt kk2 kn2 x i, keyAt kk3 kn3 x i, predAt pk1 pn1 pl1 x i)) 0 (l0.take k))).map Prod.fst)).take j2).map (fun key => (key, lstV (kpE (ixm (fun x i => (keyAt kk2 kn2 x i, keyAt kk3 kn3 x i, predAt pk1 pn1 pl1 x i)) 0 l0)) key))) (ys := [(x_70, lstV (kpE (ixm (fun x i => (keyAt kk2 kn2 x i, keyAt kk3 kn3 x i, predAt pk1 pn1 pl1 x i)) 0 (l0.take m2))) x_70)]) E S hr14 rfl rfl rfl T33 hv_81 one_RP2 (by (first | omega | (simp; done) | (simp; omega) | (simp only [List.length_cons, List.length_nil, List.length_map, List.length_take] at *; omega))) (by (first | omega | (simp; done) | (simp; omega) | (simp only [List.length_cons, List.length_nil, List.length_map, List.length_take] at *; omega))) ?_)
                      clear E a S; rintro a w v_83 xs_84 E hr_85 S
                      refine S_v E rfl (R_assign E rfl) rfl ?_
                      clear E a; intro a E
                      refine WL_nil ?_
                      refine B_n ?_
                      refine T_n ?_
                      refine WP_region ?_
                      refine S_v E rfl (R_addx (m := ((j2 + 1 : Nat) : Int)) E rfl rfl (by omega) (by omega)) rfl ?_
                      clear E a; intro a E
                      refine S_v E rfl (R_move E rfl) rfl ?_
                      clear E a; intro a E
                      refine WL_nil ?_
                      refine T_n ?_
                      have hre : (((setI ((kpE (ixm (fun x i => (keyAt kk2 kn2 x i, keyAt kk3 kn3 x i, predAt pk1 pn1 pl1 x i)) 0 (l0.take k))).map Prod.fst)).take j2).map (fun key => (key, lstV (kpE (ixm (fun x i => (keyAt kk2 kn2 x i, keyAt kk3 kn3 x i, predAt pk1 pn1 pl1 x i)) 0 l0)) key))) ++ [(x_70, lstV (kpE (ixm (fun x i => (keyAt kk2 kn2 x i, keyAt kk3 kn3 x i, predAt pk1 pn1 pl1 x i)) 0 (l0.take m2))) x_70)] = ((setI ((kpE (ixm (fun x i => (keyAt kk2 kn2 x i, keyAt kk3 kn3 x i, predAt pk1 pn1 pl1 x i)) 0 (l0.take k))).map Prod.fst)).take (j2 + 1)).map (fun key => (key, lstV (kpE (ixm (fun x i => (keyAt kk2 kn2 x i, keyAt kk3 kn3 x i, predAt pk1 pn1 pl1 x i)) 0 l0)) key)) := by first | (simp; done) | exact mp_snoc (by assumption) (by rw [List.take_of_length_le (l := l0) (i := m2) (by omega)])
                      replace S := S.reR hre
                      replace hr_85 := hr_85.eq hre
                      clear hre
                      exact ⟨j2 + 1, ⟨M_82, _, _, (hM_68.trans (hM_72.trans hM_82)), S, E.keep ⟨rfl, rfl, rfl, rfl, rfl, rfl, rfl, rfl, rfl, trivial⟩, by ((try clear S); (try clear E); first | assumption | omega | rfl | (simp; done) | (simp_all; done) | (simp [List.take_add_one, *]; done) | grind [List.take_add_one]), hr_85⟩, by omega⟩
                  · replace hc_69 := of_decide_eq_false hc_69
                    have esome : ((setI ((kpE (ixm (fun x i => (keyAt kk2 kn2 x i, keyAt kk3 kn3 x i, predAt pk1 pn1 pl1 x i)) 0 (l0.take k))).map Prod.fst)).take j2).map (fun key => (key, lstV (kpE (ixm (fun x i => (keyAt kk2 kn2 x i, keyAt kk3 kn3 x i, predAt pk1 pn1 pl1 x i)) 0 l0)) key)) = entE (kpE (ixm (fun x i => (keyAt kk2 kn2 x i, keyAt kk3 kn3 x i, predAt pk1 pn1 pl1 x i)) 0 l0)) := by rw [List.take_of_length_le (by omega), etk]; exact entE_keys _
                    refine WP_exit ?_
                    refine T_x ?_
                    refine T_x ?_
                    refine B_x ?_
                    refine T_n ?_
                    refine WP_seq ?_
                    refine WP_seq ?_
                    have hb_1k85 := hb_1
                    have hb_3k85 := hb_3
                    have hb_5k85 := hb_5
                    replace S := S.mono_heap (w' := World.drew _) rfl
                    refine WP_drawn (C := fun x w => agree M_68 w) (bf := (fun i => [])) [0, 1, 2, 3, 4, 5, 7, 8, 9, 12, 13] [0, 1, 2, 3, 4, 5, 7, 8, 9, 6, 10, 11, 12, 13] Try.mixed (by kernel_rfl) (fun x hq => S.imm) ?_
                    refine D_v E rfl rfl rfl (fun w hC => (R_fieldAddr E rfl (FA24_0 _))) ?_
                    clear E a; intro a E
                    refine D_v E rfl rfl rfl (fun w hC => (R_loadM E rfl Try.isAgg3 hC (cellM_boxo hb_3k85 rfl))) ?_
                    clear E a; intro a E
                    refine D_v E rfl rfl rfl (fun w hC => (R_neq E rfl rfl)) ?_
                    clear E a; intro a E
                    refine D_v E rfl rfl rfl (fun w hC => (R_move E rfl)) ?_
                    clear E a; intro a E
                    refine split_bool (decide (kk2 ≠ 4)) (fun hc_86 => ?_) (fun hc_86 => ?_)
                    · replace E := E.val (t := 156) rfl hc_86
                      replace E := E.val (t := 157) rfl hc_86
                      replace hc_86 := of_decide_eq_true hc_86
                      refine D_vyes E rfl rfl rfl rfl rfl (fun w hC => (R_move E rfl)) ?_
                      clear E a; intro a E
                      refine D_vyes E rfl rfl rfl rfl rfl (fun w hC => (R_loadGM E rfl (Try.isAgg24 _) (Try.sizeOf24 _) hC hb_3k85)) ?_
                      clear E a; intro a E
                      refine D_vyes E rfl rfl rfl rfl rfl (fun w hC => (R_move E rfl)) ?_
                      clear E a; intro a E
                      refine D_vyes E rfl rfl rfl rfl rfl (fun w hC => (R_loadGM E rfl (Try.isAgg24 _) (Try.sizeOf24 _) hC hb_3k85)) ?_
                      clear E a; intro a E
                      refine D_vyes E rfl rfl rfl rfl rfl (fun w hC => (R_build (u := .agg #[.int .i64 0, .int .i64 0]) (vs := []) E rfl (fun w => FB24__  w))) ?_
                      clear E a; intro a E
                      refine D_yes E rfl rfl rfl rfl (X_pu E S rfl rfl rfl (impl_KeyBy h0 (by omega) (by (first | omega | (simp; omega) | (simp; done) | (simp_all; omega) | grind))) (Hp.le.refl _) ?_)
                      clear E a S; rintro a v_88 w M_87 hM_87 hv_88 S E
                      replace h0 := h0.le hM_87
                      replace hw1 := hw1.le hM_87
                      replace hb_1 := hM_87.2 _ _ hb_1
                      replace hb_3 := hM_87.2 _ _ hb_3
                      replace hb_5 := hM_87.2 _ _ hb_5
                      replace hz_12 := hz_12.le hM_87
                      replace hv_14 := hv_14.le RP2_mono hM_87
                      replace hv_16 := hv_16.le hM_87
                      replace hz_41 := hz_41.le hM_87
                      replace hv_43 := hv_43.le hM_87
                      replace hr13 := hr13.le RP2_mono hM_87
                      replace hz_63 := hz_63.le hM_87
                      replace hv_65 := hv_65.le hM_87
                      replace hr14 := hr14.le RP2_mono hM_87
                      refine ⟨fun x hq hb => (agree_le hM_87 S.imm), ?_⟩
                      refine D_yes E rfl rfl rfl rfl (X_pu E S rfl rfl rfl (impl_Associate h0 (by omega) (by omega) (by (first | omega | (simp; omega) | (simp; done) | (simp_all; omega) | grind))) (Hp.le.refl _) ?_)
                      clear E a S; rintro a v_90 w M_89 hM_89 hv_90 S E
                      replace h0 := h0.le hM_89
                      replace hw1 := hw1.le hM_89
                      replace hb_1 := hM_89.2 _ _ hb_1
                      replace hb_3 := hM_89.2 _ _ hb_3
                      replace hb_5 := hM_89.2 _ _ hb_5
                      replace hz_12 := hz_12.le hM_89
                      replace hv_14 := hv_14.le RP2_mono hM_89
                      replace hv_16 := hv_16.le hM_89
                      replace hz_41 := hz_41.le hM_89
                      replace hv_43 := hv_43.le hM_89
                      replace hr13 := hr13.le RP2_mono hM_89
                      replace hz_63 := hz_63.le hM_89
                      replace hv_65 := hv_65.le hM_89
                      replace hr14 := hr14.le RP2_mono hM_89
                      replace hv_88 := hv_88.le RP2_mono hM_89
                      refine ⟨fun x hq hb => (agree_le (hM_87.trans hM_89) S.imm), ?_⟩
                      refine D_yes E rfl rfl rfl rfl (X_pu E S rfl rfl rfl (laws_eqPairs hv_88 hv_90) (Hp.le.refl _) ?_)
                      clear E a S; rintro a _ w M_91 hM_91 rfl S E
                      replace h0 := h0.le hM_91
                      replace hw1 := hw1.le hM_91
                      replace hb_1 := hM_91.2 _ _ hb_1
                      replace hb_3 := hM_91.2 _ _ hb_3
                      replace hb_5 := hM_91.2 _ _ hb_5
                      replace hz_12 := hz_12.le hM_91
                      replace hv_14 := hv_14.le RP2_mono hM_91
                      replace hv_16 := hv_16.le hM_91
                      replace hz_41 := hz_41.le hM_91
                      replace hv_43 := hv_43.le hM_91
                      replace hr13 := hr13.le RP2_mono hM_91
                      replace hz_63 := hz_63.le hM_91
                      replace hv_65 := hv_65.le hM_91
                      replace hr14 := hr14.le RP2_mono hM_91
                      replace hv_88 := hv_88.le RP2_mono hM_91
                      replace hv_90 := hv_90.le RP2_mono hM_91
                      refine ⟨fun x hq hb => (agree_le (hM_87.trans (hM_89.trans hM_91)) S.imm), ?_⟩
                      refine D_vyes E rfl rfl rfl rfl rfl (fun w hC => (R_not E rfl)) ?_
                      clear E a; intro a E
                      refine D_v E rfl rfl rfl (fun w hC => (R_pickT E rfl rfl)) ?_
                      clear E a; intro a E
                      refine D_end (NoP_n ?_)
                      refine T_n ?_
                      have hc_92 : (!(decide (entE ((l0).map fun x => (keyAt kk2 kn2 x 0, x)) = entE (ixm (fun x i => (keyAt kk2 kn2 x i, keyAt 0 0 x i)) 0 l0)))) = false := by (clear S E; first | (simp only [ixm, entE_one]; decide) | (simp; done) | decide | (simp [entE, mkE, ixm, srtK]; done) | (rw [eall]; simp; done) | (rw [esome]; simp; done) | (rw [keyBy_ix (by assumption) hr0]; simp; done) | (simp only [eall, esome]; simp; done))
                      refine WP_condF E rfl hc_92 ?_
                      refine WP_skip ?_
                      refine T_n ?_
                      refine WP_seq ?_
                      have hb_1k92 := hb_1
                      have hb_3k92 := hb_3
                      have hb_5k92 := hb_5
                      replace S := S.mono_heap (w' := World.drew _) rfl
                      refine WP_drawn (C := fun x w => agree M_91 w) (bf := (fun i => [])) [0, 1, 2, 3, 6, 7, 8, 9, 10, 11, 14, 15, 16, 17, 19, 20, 23, 24, 25, 26, 27, 29, 31, 32, 33, 34, 35, 37, 39, 40, 41, 42, 43, 44, 46, 48, 49, 50, 51, 52, 53, 55, 57, 58, 59, 60, 62, 63, 66, 67] [0, 1, 2, 3, 4, 5, 6, 7, 8, 9, 10, 11, 12, 13, 14, 15, 16, 17, 19, 20, 18, 21, 22, 23, 24, 25, 26, 27, 29, 28, 30, 31, 32, 33, 34, 35, 37, 36, 38, 39, 40, 41, 42, 43, 44, 46, 45, 47, 48, 49, 50, 51, 52, 53, 55, 54, 56, 57, 58, 59, 60, 62, 63, 61, 64, 65, 66, 67] Try.mixed (by kernel_rfl) (fun x hq => S.imm) ?_
                      refine D_v E rfl rfl rfl (fun w hC => (R_move E rfl)) ?_
                      clear E a; intro a E
                      refine D_v E rfl rfl rfl (fun w hC => (R_move E rfl)) ?_
                      clear E a; intro a E
                      refine D_v E rfl rfl rfl (fun w hC => (R_loadGM E rfl (Try.isAgg24 _) (Try.sizeOf24 _) hC hb_3k92)) ?_
                      clear E a; intro a E
                      refine D_v E rfl rfl rfl (fun w hC => (R_loadGM E rfl (Try.isAgg24 _) (Try.sizeOf24 _) hC hb_5k92)) ?_
                      clear E a; intro a E
                      refine D_x rfl rfl rfl (X_pu E S rfl rfl rfl (spec_Associate h0 (by omega) (by omega) (by (first | omega | (simp; omega) | (simp; done) | (simp_all; omega) | grind)) (by first | assumption | exact (fun x hx => by rcases List.mem_append.1 hx with h | h; exact hr0 x h; exact hr1 x h))) (Hp.le.refl _) ?_)
                      clear E a S; rintro a v_94 w M_93 hM_93 hv_94 S E
                      replace h0 := h0.le hM_93
                      replace hw1 := hw1.le hM_93
                      replace hb_1 := hM_93.2 _ _ hb_1
                      replace hb_3 := hM_93.2 _ _ hb_3
                      replace hb_5 := hM_93.2 _ _ hb_5
                      replace hz_12 := hz_12.le hM_93
                      replace hv_14 := hv_14.le RP2_mono hM_93
                      replace hv_16 := hv_16.le hM_93
                      replace hz_41 := hz_41.le hM_93
                      replace hv_43 := hv_43.le hM_93
                      replace hr13 := hr13.le RP2_mono hM_93
                      replace hz_63 := hz_63.le hM_93
                      replace hv_65 := hv_65.le hM_93
                      replace hr14 := hr14.le RP2_mono hM_93
                      replace hv_88 := hv_88.le RP2_mono hM_93
                      replace hv_90 := hv_90.le RP2_mono hM_93
                      refine ⟨fun x hq hb => (agree_le hM_93 S.imm), ?_⟩
                      replace S := S.front1
                      have S0 := S; clear S
                      obtain ⟨M_95, hM_95, hz_96, S⟩ := S0.freezeR hr13 RP2_mono (by (first | omega | (simp; done) | (simp; omega) | (simp only [List.length_map, List.length_take] at *; omega)))
                      clear S0
                      replace h0 := h0.le hM_95
                      replace hw1 := hw1.le hM_95
                      replace hb_1 := hM_95.2 _ _ hb_1
                      replace hb_3 := hM_95.2 _ _ hb_3
                      replace hb_5 := hM_95.2 _ _ hb_5
                      replace hz_12 := hz_12.le hM_95
                      replace hv_14 := hv_14.le RP2_mono hM_95
                      replace hv_16 := hv_16.le hM_95
                      replace hz_41 := hz_41.le hM_95
                      replace hv_43 := hv_43.le hM_95
                      replace hz_63 := hz_63.le hM_95
                      replace hv_65 := hv_65.le hM_95
                      replace hr14 := hr14.le RP2_mono hM_95
                      replace hv_88 := hv_88.le RP2_mono hM_95
                      replace hv_90 := hv_90.le RP2_mono hM_95
                      replace hv_94 := hv_94.le RP2_mono hM_95
                      refine D_x rfl rfl rfl (X_pu E S rfl rfl rfl (laws_eqRef hz_96 hv_94) (Hp.le.refl _) ?_)
                      clear E a S; rintro a _ w M_97 hM_97 rfl S E
                      replace h0 := h0.le hM_97
                      replace hw1 := hw1.le hM_97
                      replace hb_1 := hM_97.2 _ _ hb_1
                      replace hb_3 := hM_97.2 _ _ hb_3
                      replace hb_5 := hM_97.2 _ _ hb_5
                      replace hz_12 := hz_12.le hM_97
                      replace hv_14 := hv_14.le RP2_mono hM_97
                      replace hv_16 := hv_16.le hM_97
                      replace hz_41 := hz_41.le hM_97
                      replace hv_43 := hv_43.le hM_97
                      replace hz_63 := hz_63.le hM_97
                      replace hv_65 := hv_65.le hM_97
                      replace hr14 := hr14.le RP2_mono hM_97
                      replace hv_88 := hv_88.le RP2_mono hM_97
                      replace hv_90 := hv_90.le RP2_mono hM_97
                      replace hv_94 := hv_94.le RP2_mono hM_97
                      replace hz_96 := hz_96.le RP2_mono hM_97
                      refine ⟨fun x hq hb => (agree_le (hM_93.trans (hM_95.trans hM_97)) S.imm), ?_⟩
                      refine D_v E rfl rfl rfl (fun w hC => (R_move E rfl)) ?_
                      clear E a; intro a E
                      have hc_98 : (decide (((setI ((ixm (fun x i => (keyAt kk2 kn2 x i, keyAt kk3 kn3 x i)) 0 (l0.take k)).map Prod.fst)).take j).map (fun key => (key, lstV (ixm (fun x i => (keyAt kk2 kn2 x i, keyAt kk3 kn3 x i)) 0 l0) key)) = entE (ixm (fun x i => (keyAt kk2 kn2 x i, keyAt kk3 kn3 x i)) 0 l0))) = true := by (clear S E; first | (simp only [ixm, entE_one]; decide) | (simp; done) | decide | (simp [entE, mkE, ixm, srtK]; done) | (rw [eall]; simp; done) | (rw [esome]; simp; done) | (rw [keyBy_ix (by assumption) hr0]; simp; done) | (simp only [eall, esome]; simp; done))
                      replace E := E.val (t := 173) rfl hc_98
                      replace E := E.val (t := 174) rfl hc_98
                      refine D_vyes E rfl rfl rfl rfl rfl (fun w hC => (R_move E rfl)) ?_
                      clear E a; intro a E
                      refine D_vyes E rfl rfl rfl rfl rfl (fun w hC => (R_move E rfl)) ?_
                      clear E a; intro a E
                      refine D_vyes E rfl rfl rfl rfl rfl (fun w hC => (R_loadGM E rfl (Try.isAgg54 _) (Try.sizeOf54 _) hC hb_1k92)) ?_
                      clear E a; intro a E
                      refine D_vyes E rfl rfl rfl rfl rfl (fun w hC => (R_loadGM E rfl (Try.isAgg24 _) (Try.sizeOf24 _) hC hb_3k92)) ?_
                      clear E a; intro a E
                      refine D_vyes E rfl rfl rfl rfl rfl (fun w hC => (R_loadGM E rfl (Try.isAgg24 _) (Try.sizeOf24 _) hC hb_5k92)) ?_
                      clear E a; intro a E
                      refine D_yes E rfl rfl rfl rfl (X_pu E S rfl rfl rfl (spec_FilterToMap h0 hw1 (by omega) (by omega) (by omega) (by (first | omega | (simp; omega) | (simp; done) | (simp_all; omega) | grind)) (by first | assumption | exact (fun x hx => by rcases List.mem_append.1 hx with h | h; exact hr0 x h; exact hr1 x h))) (Hp.le.refl _) ?_)
                      clear E a S; rintro a v_100 w M_99 hM_99 hv_100 S E
                      replace h0 := h0.le hM_99
                      replace hw1 := hw1.le hM_99
                      replace hb_1 := hM_99.2 _ _ hb_1
                      replace hb_3 := hM_99.2 _ _ hb_3
                      replace hb_5 := hM_99.2 _ _ hb_5
                      replace hz_12 := hz_12.le hM_99
                      replace hv_14 := hv_14.le RP2_mono hM_99
                      replace hv_16 := hv_16.le hM_99
                      replace hz_41 := hz_41.le hM_99
                      replace hv_43 := hv_43.le hM_99
                      replace hz_63 := hz_63.le hM_99
                      replace hv_65 := hv_65.le hM_99
                      replace hr14 := hr14.le RP2_mono hM_99
                      replace hv_88 := hv_88.le RP2_mono hM_99
                      replace hv_90 := hv_90.le RP2_mono hM_99
                      replace hv_94 := hv_94.le RP2_mono hM_99
                      replace hz_96 := hz_96.le RP2_mono hM_99
                      refine ⟨fun x hq hb => (agree_le (hM_93.trans (hM_95.trans (hM_97.trans hM_99))) S.imm), ?_⟩
                      have S0 := S; clear S
                      obtain ⟨M_101, hM_101, hz_102, S⟩ := S0.freezeR hr14 RP2_mono (by (first | omega | (simp; done) | (simp; omega) | (simp only [List.length_map, List.length_take] at *; omega)))
                      clear S0
                      replace h0 := h0.le hM_101
                      replace hw1 := hw1.le hM_101
                      replace hb_1 := hM_101.2 _ _ hb_1
                      replace hb_3 := hM_101.2 _ _ hb_3
                      replace hb_5 := hM_101.2 _ _ hb_5
                      replace hz_12 := hz_12.le hM_101
                      replace hv_14 := hv_14.le RP2_mono hM_101
                      replace hv_16 := hv_16.le hM_101
                      replace hz_41 := hz_41.le hM_101
                      replace hv_43 := hv_43.le hM_101
                      replace hz_63 := hz_63.le hM_101
                      replace hv_65 := hv_65.le hM_101
                      replace hv_88 := hv_88.le RP2_mono hM_101
                      replace hv_90 := hv_90.le RP2_mono hM_101
                      replace hv_94 := hv_94.le RP2_mono hM_101
                      replace hz_96 := hz_96.le RP2_mono hM_101
                      replace hv_100 := hv_100.le RP2_mono hM_101
                      refine D_yes E rfl rfl rfl rfl (X_pu E S rfl rfl rfl (laws_eqRef hz_102 hv_100) (Hp.le.refl _) ?_)
                      clear E a S; rintro a _ w M_103 hM_103 rfl S E
                      replace h0 := h0.le hM_103
                      replace hw1 := hw1.le hM_103
                      replace hb_1 := hM_103.2 _ _ hb_1
                      replace hb_3 := hM_103.2 _ _ hb_3
                      replace hb_5 := hM_103.2 _ _ hb_5
                      replace hz_12 := hz_12.le hM_103
                      replace hv_14 := hv_14.le RP2_mono hM_103
                      replace hv_16 := hv_16.le hM_103
                      replace hz_41 := hz_41.le hM_103
                      replace hv_43 := hv_43.le hM_103
                      replace hz_63 := hz_63.le hM_103
                      replace hv_65 := hv_65.le hM_103
                      replace hv_88 := hv_88.le RP2_mono hM_103
                      replace hv_90 := hv_90.le RP2_mono hM_103
                      replace hv_94 := hv_94.le RP2_mono hM_103
                      replace hz_96 := hz_96.le RP2_mono hM_103
                      replace hv_100 := hv_100.le RP2_mono hM_103
                      replace hz_102 := hz_102.le RP2_mono hM_103
                      refine ⟨fun x hq hb => (agree_le (hM_93.trans (hM_95.trans (hM_97.trans (hM_99.trans (hM_101.trans hM_103))))) S.imm), ?_⟩
                      refine D_v E rfl rfl rfl (fun w hC => (R_pickT E rfl rfl)) ?_
                      clear E a; intro a E
                      refine D_v E rfl rfl rfl (fun w hC => (R_move E rfl)) ?_
                      clear E a; intro a E
                      have hc_104 : (decide (((setI ((kpE (ixm (fun x i => (keyAt kk2 kn2 x i, keyAt kk3 kn3 x i, predAt pk1 pn1 pl1 x i)) 0 (l0.take k))).map Prod.fst)).take j2).map (fun key => (key, lstV (kpE (ixm (fun x i => (keyAt kk2 kn2 x i, keyAt kk3 kn3 x i, predAt pk1 pn1 pl1 x i)) 0 l0)) key)) = entE (kpE (ixm (fun x i => (keyAt kk2 kn2 x i, keyAt kk3 kn3 x i, predAt pk1 pn1 pl1 x i)) 0 l0)))) = true := by (clear S E; first | (simp only [ixm, entE_one]; decide) | (simp; done) | decide | (simp [entE, mkE, ixm, srtK]; done) | (rw [eall]; simp; done) | (rw [esome]; simp; done) | (rw [keyBy_ix (by assumption) hr0]; simp; done) | (simp only [eall, esome]; simp; done))
                      replace E := E.val (t := 181) rfl hc_104
                      replace E := E.val (t := 182) rfl hc_104
                      replace E := E.val (t := 183) rfl hc_104
                      refine D_vyes E rfl rfl rfl rfl rfl (fun w hC => (R_move E rfl)) ?_
                      clear E a; intro a E
                      refine D_vyes E rfl rfl rfl rfl rfl (fun w hC => (R_loadGM E rfl (Try.isAgg24 _) (Try.sizeOf24 _) hC hb_3k92)) ?_
                      clear E a; intro a E
                      refine D_vyes E rfl rfl rfl rfl rfl (fun w hC => (R_move E rfl)) ?_
                      clear E a; intro a E
                      refine D_vyes E rfl rfl rfl rfl rfl (fun w hC => (R_loadGM E rfl (Try.isAgg24 _) (Try.sizeOf24 _) hC hb_3k92)) ?_
                      clear E a; intro a E
                      refine D_yes E rfl rfl rfl rfl (X_pu E S rfl rfl rfl (impl_KeyBy h0 (by omega) (by (first | omega | (simp; omega) | (simp; done) | (simp_all; omega) | grind))) (Hp.le.refl _) ?_)
                      clear E a S; rintro a v_106 w M_105 hM_105 hv_106 S E
                      replace h0 := h0.le hM_105
                      replace hw1 := hw1.le hM_105
                      replace hb_1 := hM_105.2 _ _ hb_1
                      replace hb_3 := hM_105.2 _ _ hb_3
                      replace hb_5 := hM_105.2 _ _ hb_5
                      replace hz_12 := hz_12.le hM_105
                      replace hv_14 := hv_14.le RP2_mono hM_105
                      replace hv_16 := hv_16.le hM_105
                      replace hz_41 := hz_41.le hM_105
                      replace hv_43 := hv_43.le hM_105
                      replace hz_63 := hz_63.le hM_105
                      replace hv_65 := hv_65.le hM_105
                      replace hv_88 := hv_88.le RP2_mono hM_105
                      replace hv_90 := hv_90.le RP2_mono hM_105
                      replace hv_94 := hv_94.le RP2_mono hM_105
                      replace hz_96 := hz_96.le RP2_mono hM_105
                      replace hv_100 := hv_100.le RP2_mono hM_105
                      replace hz_102 := hz_102.le RP2_mono hM_105
                      refine ⟨fun x hq hb => (agree_le (hM_93.trans (hM_95.trans (hM_97.trans (hM_99.trans (hM_101.trans (hM_103.trans hM_105)))))) S.imm), ?_⟩
                      refine D_yes E rfl rfl rfl rfl (X_pu E S rfl rfl rfl (spec_KeyBy h0 (by omega) (by (first | omega | (simp; omega) | (simp; done) | (simp_all; omega) | grind)) (by first | assumption | exact (fun x hx => by rcases List.mem_append.1 hx with h | h; exact hr0 x h; exact hr1 x h))) (Hp.le.refl _) ?_)
                      clear E a S; rintro a v_108 w M_107 hM_107 hv_108 S E
                      replace h0 := h0.le hM_107
                      replace hw1 := hw1.le hM_107
                      replace hb_1 := hM_107.2 _ _ hb_1
                      replace hb_3 := hM_107.2 _ _ hb_3
                      replace hb_5 := hM_107.2 _ _ hb_5
                      replace hz_12 := hz_12.le hM_107
                      replace hv_14 := hv_14.le RP2_mono hM_107
                      replace hv_16 := hv_16.le hM_107
                      replace hz_41 := hz_41.le hM_107
                      replace hv_43 := hv_43.le hM_107
                      replace hz_63 := hz_63.le hM_107
                      replace hv_65 := hv_65.le hM_107
                      replace hv_88 := hv_88.le RP2_mono hM_107
                      replace hv_90 := hv_90.le RP2_mono hM_107
                      replace hv_94 := hv_94.le RP2_mono hM_107
                      replace hz_96 := hz_96.le RP2_mono hM_107
                      replace hv_100 := hv_100.le RP2_mono hM_107
                      replace hz_102 := hz_102.le RP2_mono hM_107
                      replace hv_106 := hv_106.le RP2_mono hM_107
                      refine ⟨fun x hq hb => (agree_le (hM_93.trans (hM_95.trans (hM_97.trans (hM_99.trans (hM_101.trans (hM_103.trans (hM_105.trans hM_107))))))) S.imm), ?_⟩
                      refine D_yes E rfl rfl rfl rfl (X_pu E S rfl rfl rfl (laws_eqRef hv_106 hv_108) (Hp.le.refl _) ?_)
                      clear E a S; rintro a _ w M_109 hM_109 rfl S E
                      replace h0 := h0.le hM_109
                      replace hw1 := hw1.le hM_109
                      replace hb_1 := hM_109.2 _ _ hb_1
                      replace hb_3 := hM_109.2 _ _ hb_3
                      replace hb_5 := hM_109.2 _ _ hb_5
                      replace hz_12 := hz_12.le hM_109
                      replace hv_14 := hv_14.le RP2_mono hM_109
                      replace hv_16 := hv_16.le hM_109
                      replace hz_41 := hz_41.le hM_109
                      replace hv_43 := hv_43.le hM_109
                      replace hz_63 := hz_63.le hM_109
                      replace hv_65 := hv_65.le hM_109
                      replace hv_88 := hv_88.le RP2_mono hM_109
                      replace hv_90 := hv_90.le RP2_mono hM_109
                      replace hv_94 := hv_94.le RP2_mono hM_109
                      replace hz_96 := hz_96.le RP2_mono hM_109
                      replace hv_100 := hv_100.le RP2_mono hM_109
                      replace hz_102 := hz_102.le RP2_mono hM_109
                      replace hv_106 := hv_106.le RP2_mono hM_109
                      replace hv_108 := hv_108.le RP2_mono hM_109
                      refine ⟨fun x hq hb => (agree_le (hM_93.trans (hM_95.trans (hM_97.trans (hM_99.trans (hM_101.trans (hM_103.trans (hM_105.trans (hM_107.trans hM_109)))))))) S.imm), ?_⟩
                      refine D_v E rfl rfl rfl (fun w hC => (R_pickT E rfl rfl)) ?_
                      clear E a; intro a E
                      refine D_v E rfl rfl rfl (fun w hC => (R_move E rfl)) ?_
                      clear E a; intro a E
                      have hc_110 : (decide (entE ((l0).map fun x => (keyAt kk2 kn2 x 0, x)) = entE ((l0).map fun x => (keyAt kk2 kn2 x 0, x)))) = true := by (clear S E; first | (simp only [ixm, entE_one]; decide) | (simp; done) | decide | (simp [entE, mkE, ixm, srtK]; done) | (rw [eall]; simp; done) | (rw [esome]; simp; done) | (rw [keyBy_ix (by assumption) hr0]; simp; done) | (simp only [eall, esome]; simp; done))
                      replace E := E.val (t := 190) rfl hc_110
                      replace E := E.val (t := 191) rfl hc_110
                      replace E := E.val (t := 192) rfl hc_110
                      refine D_vyes E rfl rfl rfl rfl rfl (fun w hC => (R_move E rfl)) ?_
                      clear E a; intro a E
                      refine D_vyes E rfl rfl rfl rfl rfl (fun w hC => (R_loadGM E rfl (Try.isAgg24 _) (Try.sizeOf24 _) hC hb_3k92)) ?_
                      clear E a; intro a E
                      refine D_vyes E rfl rfl rfl rfl rfl (fun w hC => (R_loadGM E rfl (Try.isAgg24 _) (Try.sizeOf24 _) hC hb_5k92)) ?_
                      clear E a; intro a E
                      refine D_vyes E rfl rfl rfl rfl rfl (fun w hC => (R_move E rfl)) ?_
                      clear E a; intro a E
                      refine D_yes E rfl rfl rfl rfl (X_pu E S rfl rfl rfl (impl_Associate h0 (by omega) (by omega) (by (first | omega | (simp; omega) | (simp; done) | (simp_all; omega) | grind))) (Hp.le.refl _) ?_)
                      clear E a S; rintro a v_112 w M_111 hM_111 hv_112 S E
                      replace h0 := h0.le hM_111
                      replace hw1 := hw1.le hM_111
                      replace hb_1 := hM_111.2 _ _ hb_1
                      replace hb_3 := hM_111.2 _ _ hb_3
                      replace hb_5 := hM_111.2 _ _ hb_5
                      replace hz_12 := hz_12.le hM_111
                      replace hv_14 := hv_14.le RP2_mono hM_111
                      replace hv_16 := hv_16.le hM_111
                      replace hz_41 := hz_41.le hM_111
                      replace hv_43 := hv_43.le hM_111
                      replace hz_63 := hz_63.le hM_111
                      replace hv_65 := hv_65.le hM_111
                      replace hv_88 := hv_88.le RP2_mono hM_111
                      replace hv_90 := hv_90.le RP2_mono hM_111
                      replace hv_94 := hv_94.le RP2_mono hM_111
                      replace hz_96 := hz_96.le RP2_mono hM_111
                      replace hv_100 := hv_100.le RP2_mono hM_111
                      replace hz_102 := hz_102.le RP2_mono hM_111
                      replace hv_106 := hv_106.le RP2_mono hM_111
                      replace hv_108 := hv_108.le RP2_mono hM_111
                      refine ⟨fun x hq hb => (agree_le (hM_93.trans (hM_95.trans (hM_97.trans (hM_99.trans (hM_101.trans (hM_103.trans (hM_105.trans (hM_107.trans (hM_109.trans hM_111))))))))) S.imm), ?_⟩
                      refine D_yes E rfl rfl rfl rfl (X_pu E S rfl rfl rfl (laws_eqPairs hv_112 hz_96) (Hp.le.refl _) ?_)
                      clear E a S; rintro a _ w M_113 hM_113 rfl S E
                      replace h0 := h0.le hM_113
                      replace hw1 := hw1.le hM_113
                      replace hb_1 := hM_113.2 _ _ hb_1
                      replace hb_3 := hM_113.2 _ _ hb_3
                      replace hb_5 := hM_113.2 _ _ hb_5
                      replace hz_12 := hz_12.le hM_113
                      replace hv_14 := hv_14.le RP2_mono hM_113
                      replace hv_16 := hv_16.le hM_113
                      replace hz_41 := hz_41.le hM_113
                      replace hv_43 := hv_43.le hM_113
                      replace hz_63 := hz_63.le hM_113
                      replace hv_65 := hv_65.le hM_113
                      replace hv_88 := hv_88.le RP2_mono hM_113
                      replace hv_90 := hv_90.le RP2_mono hM_113
                      replace hv_94 := hv_94.le RP2_mono hM_113
                      replace hz_96 := hz_96.le RP2_mono hM_113
                      replace hv_100 := hv_100.le RP2_mono hM_113
                      replace hz_102 := hz_102.le RP2_mono hM_113
                      replace hv_106 := hv_106.le RP2_mono hM_113
                      replace hv_108 := hv_108.le RP2_mono hM_113
                      replace hv_112 := hv_112.le RP2_mono hM_113
                      refine ⟨fun x hq hb => (agree_le (hM_93.trans (hM_95.trans (hM_97.trans (hM_99.trans (hM_101.trans (hM_103.trans (hM_105.trans (hM_107.trans (hM_109.trans (hM_111.trans hM_113)))))))))) S.imm), ?_⟩
                      refine D_v E rfl rfl rfl (fun w hC => (R_pickT E rfl rfl)) ?_
                      clear E a; intro a E
                      refine D_v E rfl rfl rfl (fun w hC => (R_move E rfl)) ?_
                      clear E a; intro a E
                      have hc_114 : (decide (entE (ixm (fun x i => (keyAt kk2 kn2 x i, keyAt kk3 kn3 x i)) 0 l0) = ((setI ((ixm (fun x i => (keyAt kk2 kn2 x i, keyAt kk3 kn3 x i)) 0 (l0.take k)).map Prod.fst)).take j).map (fun key => (key, lstV (ixm (fun x i => (keyAt kk2 kn2 x i, keyAt kk3 kn3 x i)) 0 l0) key)))) = true := by (clear S E; first | (simp only [ixm, entE_one]; decide) | (simp; done) | decide | (simp [entE, mkE, ixm, srtK]; done) | (rw [eall]; simp; done) | (rw [esome]; simp; done) | (rw [keyBy_ix (by assumption) hr0]; simp; done) | (simp only [eall, esome]; simp; done))
                      replace E := E.val (t := 198) rfl hc_114
                      replace E := E.val (t := 199) rfl hc_114
                      replace E := E.val (t := 200) rfl hc_114
                      refine D_vyes E rfl rfl rfl rfl rfl (fun w hC => (R_move E rfl)) ?_
                      clear E a; intro a E
                      refine D_vyes E rfl rfl rfl rfl rfl (fun w hC => (R_loadGM E rfl (Try.isAgg24 _) (Try.sizeOf24 _) hC hb_3k92)) ?_
                      clear E a; intro a E
                      refine D_vyes E rfl rfl rfl rfl rfl (fun w hC => (R_loadGM E rfl (Try.isAgg24 _) (Try.sizeOf24 _) hC hb_5k92)) ?_
                      clear E a; intro a E
                      refine D_vyes E rfl rfl rfl rfl rfl (fun w hC => (R_move E rfl)) ?_
                      clear E a; intro a E
                      refine D_yes E rfl rfl rfl rfl (X_pu E S rfl rfl rfl (impl_AssociateSeq h0 (by omega) (by omega) (by (first | omega | (simp; omega) | (simp; done) | (simp_all; omega) | grind))) (Hp.le.refl _) ?_)
                      clear E a S; rintro a v_116 w M_115 hM_115 hv_116 S E
                      replace h0 := h0.le hM_115
                      replace hw1 := hw1.le hM_115
                      replace hb_1 := hM_115.2 _ _ hb_1
                      replace hb_3 := hM_115.2 _ _ hb_3
                      replace hb_5 := hM_115.2 _ _ hb_5
                      replace hz_12 := hz_12.le hM_115
                      replace hv_14 := hv_14.le RP2_mono hM_115
                      replace hv_16 := hv_16.le hM_115
                      replace hz_41 := hz_41.le hM_115
                      replace hv_43 := hv_43.le hM_115
                      replace hz_63 := hz_63.le hM_115
                      replace hv_65 := hv_65.le hM_115
                      replace hv_88 := hv_88.le RP2_mono hM_115
                      replace hv_90 := hv_90.le RP2_mono hM_115
                      replace hv_94 := hv_94.le RP2_mono hM_115
                      replace hz_96 := hz_96.le RP2_mono hM_115
                      replace hv_100 := hv_100.le RP2_mono hM_115
                      replace hz_102 := hz_102.le RP2_mono hM_115
                      replace hv_106 := hv_106.le RP2_mono hM_115
                      replace hv_108 := hv_108.le RP2_mono hM_115
                      replace hv_112 := hv_112.le RP2_mono hM_115
                      refine ⟨fun x hq hb => (agree_le (hM_93.trans (hM_95.trans (hM_97.trans (hM_99.trans (hM_101.trans (hM_103.trans (hM_105.trans (hM_107.trans (hM_109.trans (hM_111.trans (hM_113.trans hM_115))))))))))) S.imm), ?_⟩
                      refine D_yes E rfl rfl rfl rfl (X_pu E S rfl rfl rfl (laws_eqPairs hv_116 hz_96) (Hp.le.refl _) ?_)
                      clear E a S; rintro a _ w M_117 hM_117 rfl S E
                      replace h0 := h0.le hM_117
                      replace hw1 := hw1.le hM_117
                      replace hb_1 := hM_117.2 _ _ hb_1
                      replace hb_3 := hM_117.2 _ _ hb_3
                      replace hb_5 := hM_117.2 _ _ hb_5
                      replace hz_12 := hz_12.le hM_117
                      replace hv_14 := hv_14.le RP2_mono hM_117
                      replace hv_16 := hv_16.le hM_117
                      replace hz_41 := hz_41.le hM_117
                      replace hv_43 := hv_43.le hM_117
                      replace hz_63 := hz_63.le hM_117
                      replace hv_65 := hv_65.le hM_117
                      replace hv_88 := hv_88.le RP2_mono hM_117
                      replace hv_90 := hv_90.le RP2_mono hM_117
                      replace hv_94 := hv_94.le RP2_mono hM_117
                      replace hz_96 := hz_96.le RP2_mono hM_117
                      replace hv_100 := hv_100.le RP2_mono hM_117
                      replace hz_102 := hz_102.le RP2_mono hM_117
                      replace hv_106 := hv_106.le RP2_mono hM_117
                      replace hv_108 := hv_108.le RP2_mono hM_117
                      replace hv_112 := hv_112.le RP2_mono hM_117
                      replace hv_116 := hv_116.le RP2_mono hM_117
                      refine ⟨fun x hq hb => (agree_le (hM_93.trans (hM_95.trans (hM_97.trans (hM_99.trans (hM_101.trans (hM_103.trans (hM_105.trans (hM_107.trans (hM_109.trans (hM_111.trans (hM_113.trans (hM_115.trans hM_117)))))))))))) S.imm), ?_⟩
                      refine D_v E rfl rfl rfl (fun w hC => (R_pickT E rfl rfl)) ?_
                      clear E a; intro a E
                      refine D_v E rfl rfl rfl (fun w hC => (R_move E rfl)) ?_
                      clear E a; intro a E
                      have hc_118 : (decide (entE (ixm (fun x i => (keyAt kk2 kn2 x i, keyAt kk3 kn3 x i)) 0 l0) = ((setI ((ixm (fun x i => (keyAt kk2 kn2 x i, keyAt kk3 kn3 x i)) 0 (l0.take k)).map Prod.fst)).take j).map (fun key => (key, lstV (ixm (fun x i => (keyAt kk2 kn2 x i, keyAt kk3 kn3 x i)) 0 l0) key)))) = true := by (clear S E; first | (simp only [ixm, entE_one]; decide) | (simp; done) | decide | (simp [entE, mkE, ixm, srtK]; done) | (rw [eall]; simp; done) | (rw [esome]; simp; done) | (rw [keyBy_ix (by assumption) hr0]; simp; done) | (simp only [eall, esome]; simp; done))
                      replace E := E.val (t := 206) rfl hc_118
                      replace E := E.val (t := 207) rfl hc_118
                      replace E := E.val (t := 208) rfl hc_118
                      refine D_vyes E rfl rfl rfl rfl rfl (fun w hC => (R_move E rfl)) ?_
                      clear E a; intro a E
                      refine D_vyes E rfl rfl rfl rfl rfl (fun w hC => (R_loadGM E rfl (Try.isAgg54 _) (Try.sizeOf54 _) hC hb_1k92)) ?_
                      clear E a; intro a E
                      refine D_vyes E rfl rfl rfl rfl rfl (fun w hC => (R_loadGM E rfl (Try.isAgg24 _) (Try.sizeOf24 _) hC hb_3k92)) ?_
                      clear E a; intro a E
                      refine D_vyes E rfl rfl rfl rfl rfl (fun w hC => (R_loadGM E rfl (Try.isAgg24 _) (Try.sizeOf24 _) hC hb_5k92)) ?_
                      clear E a; intro a E
                      refine D_vyes E rfl rfl rfl rfl rfl (fun w hC => (R_move E rfl)) ?_
                      clear E a; intro a E
                      refine D_yes E rfl rfl rfl rfl (X_pu E S rfl rfl rfl (impl_FilterToMap h0 hw1 (by omega) (by omega) (by omega) (by (first | omega | (simp; omega) | (simp; done) | (simp_all; omega) | grind))) (Hp.le.refl _) ?_)
                      clear E a S; rintro a v_120 w M_119 hM_119 hv_120 S E
                      replace h0 := h0.le hM_119
                      replace hw1 := hw1.le hM_119
                      replace hb_1 := hM_119.2 _ _ hb_1
                      replace hb_3 := hM_119.2 _ _ hb_3
                      replace hb_5 := hM_119.2 _ _ hb_5
                      replace hz_12 := hz_12.le hM_119
                      replace hv_14 := hv_14.le RP2_mono hM_119
                      replace hv_16 := hv_16.le hM_119
                      replace hz_41 := hz_41.le hM_119
                      replace hv_43 := hv_43.le hM_119
                      replace hz_63 := hz_63.le hM_119
                      replace hv_65 := hv_65.le hM_119
                      replace hv_88 := hv_88.le RP2_mono hM_119
                      replace hv_90 := hv_90.le RP2_mono hM_119
                      replace hv_94 := hv_94.le RP2_mono hM_119
                      replace hz_96 := hz_96.le RP2_mono hM_119
                      replace hv_100 := hv_100.le RP2_mono hM_119
                      replace hz_102 := hz_102.le RP2_mono hM_119
                      replace hv_106 := hv_106.le RP2_mono hM_119
                      replace hv_108 := hv_108.le RP2_mono hM_119
                      replace hv_112 := hv_112.le RP2_mono hM_119
                      replace hv_116 := hv_116.le RP2_mono hM_119
                      refine ⟨fun x hq hb => (agree_le (hM_93.trans (hM_95.trans (hM_97.trans (hM_99.trans (hM_101.trans (hM_103.trans (hM_105.trans (hM_107.trans (hM_109.trans (hM_111.trans (hM_113.trans (hM_115.trans (hM_117.trans hM_119))))))))))))) S.imm), ?_⟩
                      refine D_yes E rfl rfl rfl rfl (X_pu E S rfl rfl rfl (laws_eqPairs hv_120 hz_102) (Hp.le.refl _) ?_)
                      clear E a S; rintro a _ w M_121 hM_121 rfl S E
                      replace h0 := h0.le hM_121
                      replace hw1 := hw1.le hM_121
                      replace hb_1 := hM_121.2 _ _ hb_1
                      replace hb_3 := hM_121.2 _ _ hb_3
                      replace hb_5 := hM_121.2 _ _ hb_5
                      replace hz_12 := hz_12.le hM_121
                      replace hv_14 := hv_14.le RP2_mono hM_121
                      replace hv_16 := hv_16.le hM_121
                      replace hz_41 := hz_41.le hM_121
                      replace hv_43 := hv_43.le hM_121
                      replace hz_63 := hz_63.le hM_121
                      replace hv_65 := hv_65.le hM_121
                      replace hv_88 := hv_88.le RP2_mono hM_121
                      replace hv_90 := hv_90.le RP2_mono hM_121
                      replace hv_94 := hv_94.le RP2_mono hM_121
                      replace hz_96 := hz_96.le RP2_mono hM_121
                      replace hv_100 := hv_100.le RP2_mono hM_121
                      replace hz_102 := hz_102.le RP2_mono hM_121
                      replace hv_106 := hv_106.le RP2_mono hM_121
                      replace hv_108 := hv_108.le RP2_mono hM_121
                      replace hv_112 := hv_112.le RP2_mono hM_121
                      replace hv_116 := hv_116.le RP2_mono hM_121
                      replace hv_120 := hv_120.le RP2_mono hM_121
                      refine ⟨fun x hq hb => (agree_le (hM_93.trans (hM_95.trans (hM_97.trans (hM_99.trans (hM_101.trans (hM_103.trans (hM_105.trans (hM_107.trans (hM_109.trans (hM_111.trans (hM_113.trans (hM_115.trans (hM_117.trans (hM_119.trans hM_121)))))))))))))) S.imm), ?_⟩
                      refine D_v E rfl rfl rfl (fun w hC => (R_pickT E rfl rfl)) ?_
                      clear E a; intro a E
                      refine D_v E rfl rfl rfl (fun w hC => (R_move E rfl)) ?_
                      clear E a; intro a E
                      have hc_122 : (decide (entE (kpE (ixm (fun x i => (keyAt kk2 kn2 x i, keyAt kk3 kn3 x i, predAt pk1 pn1 pl1 x i)) 0 l0)) = ((setI ((kpE (ixm (fun x i => (keyAt kk2 kn2 x i, keyAt kk3 kn3 x i, predAt pk1 pn1 pl1 x i)) 0 (l0.take k))).map Prod.fst)).take j2).map (fun key => (key, lstV (kpE (ixm (fun x i => (keyAt kk2 kn2 x i, keyAt kk3 kn3 x i, predAt pk1 pn1 pl1 x i)) 0 l0)) key)))) = true := by (clear S E; first | (simp only [ixm, entE_one]; decide) | (simp; done) | decide | (simp [entE, mkE, ixm, srtK]; done) | (rw [eall]; simp; done) | (rw [esome]; simp; done) | (rw [keyBy_ix (by assumption) hr0]; simp; done) | (simp only [eall, esome]; simp; done))
                      replace E := E.val (t := 215) rfl hc_122
                      replace E := E.val (t := 216) rfl hc_122
                      replace E := E.val (t := 217) rfl hc_122
                      refine D_vyes E rfl rfl rfl rfl rfl (fun w hC => (R_move E rfl)) ?_
                      clear E a; intro a E
                      refine D_vyes E rfl rfl rfl rfl rfl (fun w hC => (R_loadGM E rfl (Try.isAgg54 _) (Try.sizeOf54 _) hC hb_1k92)) ?_
                      clear E a; intro a E
                      refine D_vyes E rfl rfl rfl rfl rfl (fun w hC => (R_loadGM E rfl (Try.isAgg24 _) (Try.sizeOf24 _) hC hb_3k92)) ?_
                      clear E a; intro a E
                      refine D_vyes E rfl rfl rfl rfl rfl (fun w hC => (R_loadGM E rfl (Try.isAgg24 _) (Try.sizeOf24 _) hC hb_5k92)) ?_
                      clear E a; intro a E
                      refine D_vyes E rfl rfl rfl rfl rfl (fun w hC => (R_move E rfl)) ?_
                      clear E a; intro a E
                      refine D_yes E rfl rfl rfl rfl (X_pu E S rfl rfl rfl (impl_FilterToMapSeq h0 hw1 (by omega) (by omega) (by omega) (by (first | omega | (simp; omega) | (simp; done) | (simp_all; omega) | grind))) (Hp.le.refl _) ?_)
                      clear E a S; rintro a v_124 w M_123 hM_123 hv_124 S E
                      replace h0 := h0.le hM_123
                      replace hw1 := hw1.le hM_123
                      replace hb_1 := hM_123.2 _ _ hb_1
                      replace hb_3 := hM_123.2 _ _ hb_3
                      replace hb_5 := hM_123.2 _ _ hb_5
                      replace hz_12 := hz_12.le hM_123
                      replace hv_14 := hv_14.le RP2_mono hM_123
                      replace hv_16 := hv_16.le hM_123
                      replace hz_41 := hz_41.le hM_123
                      replace hv_43 := hv_43.le hM_123
                      replace hz_63 := hz_63.le hM_123
                      replace hv_65 := hv_65.le hM_123
                      replace hv_88 := hv_88.le RP2_mono hM_123
                      replace hv_90 := hv_90.le RP2_mono hM_123
                      replace hv_94 := hv_94.le RP2_mono hM_123
                      replace hz_96 := hz_96.le RP2_mono hM_123
                      replace hv_100 := hv_100.le RP2_mono hM_123
                      replace hz_102 := hz_102.le RP2_mono hM_123
                      replace hv_106 := hv_106.le RP2_mono hM_123
                      replace hv_108 := hv_108.le RP2_mono hM_123
                      replace hv_112 := hv_112.le RP2_mono hM_123
                      replace hv_116 := hv_116.le RP2_mono hM_123
                      replace hv_120 := hv_120.le RP2_mono hM_123
                      refine ⟨fun x hq hb => (agree_le (hM_93.trans (hM_95.trans (hM_97.trans (hM_99.trans (hM_101.trans (hM_103.trans (hM_105.trans (hM_107.trans (hM_109.trans (hM_111.trans (hM_113.trans (hM_115.trans (hM_117.trans (hM_119.trans (hM_121.trans hM_123))))))))))))))) S.imm), ?_⟩
                      refine D_yes E rfl rfl rfl rfl (X_pu E S rfl rfl rfl (laws_eqPairs hv_124 hz_102) (Hp.le.refl _) ?_)
                      clear E a S; rintro a _ w M_125 hM_125 rfl S E
                      replace h0 := h0.le hM_125
                      replace hw1 := hw1.le hM_125
                      replace hb_1 := hM_125.2 _ _ hb_1
                      replace hb_3 := hM_125.2 _ _ hb_3
                      replace hb_5 := hM_125.2 _ _ hb_5
                      replace hz_12 := hz_12.le hM_125
                      replace hv_14 := hv_14.le RP2_mono hM_125
                      replace hv_16 := hv_16.le hM_125
                      replace hz_41 := hz_41.le hM_125
                      replace hv_43 := hv_43.le hM_125
                      replace hz_63 := hz_63.le hM_125
                      replace hv_65 := hv_65.le hM_125
                      replace hv_88 := hv_88.le RP2_mono hM_125
                      replace hv_90 := hv_90.le RP2_mono hM_125
                      replace hv_94 := hv_94.le RP2_mono hM_125
                      replace hz_96 := hz_96.le RP2_mono hM_125
                      replace hv_100 := hv_100.le RP2_mono hM_125
                      replace hz_102 := hz_102.le RP2_mono hM_125
                      replace hv_106 := hv_106.le RP2_mono hM_125
                      replace hv_108 := hv_108.le RP2_mono hM_125
                      replace hv_112 := hv_112.le RP2_mono hM_125
                      replace hv_116 := hv_116.le RP2_mono hM_125
                      replace hv_120 := hv_120.le RP2_mono hM_125
                      replace hv_124 := hv_124.le RP2_mono hM_125
                      refine ⟨fun x hq hb => (agree_le (hM_93.trans (hM_95.trans (hM_97.trans (hM_99.trans (hM_101.trans (hM_103.trans (hM_105.trans (hM_107.trans (hM_109.trans (hM_111.trans (hM_113.trans (hM_115.trans (hM_117.trans (hM_119.trans (hM_121.trans (hM_123.trans hM_125)))))))))))))))) S.imm), ?_⟩
                      refine D_v E rfl rfl rfl (fun w hC => (R_pickT E rfl rfl)) ?_
                      clear E a; intro a E
                      refine D_v E rfl rfl rfl (fun w hC => (R_move E rfl)) ?_
                      clear E a; intro a E
                      have hc_126 : (decide (entE (kpE (ixm (fun x i => (keyAt kk2 kn2 x i, keyAt kk3 kn3 x i, predAt pk1 pn1 pl1 x i)) 0 l0)) = ((setI ((kpE (ixm (fun x i => (keyAt kk2 kn2 x i, keyAt kk3 kn3 x i, predAt pk1 pn1 pl1 x i)) 0 (l0.take k))).map Prod.fst)).take j2).map (fun key => (key, lstV (kpE (ixm (fun x i => (keyAt kk2 kn2 x i, keyAt kk3 kn3 x i, predAt pk1 pn1 pl1 x i)) 0 l0)) key)))) = true := by (clear S E; first | (simp only [ixm, entE_one]; decide) | (simp; done) | decide | (simp [entE, mkE, ixm, srtK]; done) | (rw [eall]; simp; done) | (rw [esome]; simp; done) | (rw [keyBy_ix (by assumption) hr0]; simp; done) | (simp only [eall, esome]; simp; done))
                      replace E := E.val (t := 224) rfl hc_126
                      replace E := E.val (t := 225) rfl hc_126
                      replace E := E.val (t := 226) rfl hc_126
                      refine D_vyes E rfl rfl rfl rfl rfl (fun w hC => (R_move E rfl)) ?_
                      clear E a; intro a E
                      refine D_vyes E rfl rfl rfl rfl rfl (fun w hC => (R_loadGM E rfl (Try.isAgg24 _) (Try.sizeOf24 _) hC hb_3k92)) ?_
                      clear E a; intro a E
                      refine D_vyes E rfl rfl rfl rfl rfl (fun w hC => (R_move E rfl)) ?_
                      clear E a; intro a E
                      refine D_vyes E rfl rfl rfl rfl rfl (fun w hC => (R_loadGM E rfl (Try.isAgg24 _) (Try.sizeOf24 _) hC hb_3k92)) ?_
                      clear E a; intro a E
                      refine D_yes E rfl rfl rfl rfl (X_pu E S rfl rfl rfl (impl_KeyBySeq h0 (by omega) (by (first | omega | (simp; omega) | (simp; done) | (simp_all; omega) | grind))) (Hp.le.refl _) ?_)
                      clear E a S; rintro a v_128 w M_127 hM_127 hv_128 S E
                      replace h0 := h0.le hM_127
                      replace hw1 := hw1.le hM_127
                      replace hb_1 := hM_127.2 _ _ hb_1
                      replace hb_3 := hM_127.2 _ _ hb_3
                      replace hb_5 := hM_127.2 _ _ hb_5
                      replace hz_12 := hz_12.le hM_127
                      replace hv_14 := hv_14.le RP2_mono hM_127
                      replace hv_16 := hv_16.le hM_127
                      replace hz_41 := hz_41.le hM_127
                      replace hv_43 := hv_43.le hM_127
                      replace hz_63 := hz_63.le hM_127
                      replace hv_65 := hv_65.le hM_127
                      replace hv_88 := hv_88.le RP2_mono hM_127
                      replace hv_90 := hv_90.le RP2_mono hM_127
                      replace hv_94 := hv_94.le RP2_mono hM_127
                      replace hz_96 := hz_96.le RP2_mono hM_127
                      replace hv_100 := hv_100.le RP2_mono hM_127
                      replace hz_102 := hz_102.le RP2_mono hM_127
                      replace hv_106 := hv_106.le RP2_mono hM_127
                      replace hv_108 := hv_108.le RP2_mono hM_127
                      replace hv_112 := hv_112.le RP2_mono hM_127
                      replace hv_116 := hv_116.le RP2_mono hM_127
                      replace hv_120 := hv_120.le RP2_mono hM_127
                      replace hv_124 := hv_124.le RP2_mono hM_127
                      refine ⟨fun x hq hb => (agree_le (hM_93.trans (hM_95.trans (hM_97.trans (hM_99.trans (hM_101.trans (hM_103.trans (hM_105.trans (hM_107.trans (hM_109.trans (hM_111.trans (hM_113.trans (hM_115.trans (hM_117.trans (hM_119.trans (hM_121.trans (hM_123.trans (hM_125.trans hM_127))))))))))))))))) S.imm), ?_⟩
                      refine D_yes E rfl rfl rfl rfl (X_pu E S rfl rfl rfl (impl_KeyBy h0 (by omega) (by (first | omega | (simp; omega) | (simp; done) | (simp_all; omega) | grind))) (Hp.le.refl _) ?_)
                      clear E a S; rintro a v_130 w M_129 hM_129 hv_130 S E
                      replace h0 := h0.le hM_129
                      replace hw1 := hw1.le hM_129
                      replace hb_1 := hM_129.2 _ _ hb_1
                      replace hb_3 := hM_129.2 _ _ hb_3
                      replace hb_5 := hM_129.2 _ _ hb_5
                      replace hz_12 := hz_12.le hM_129
                      replace hv_14 := hv_14.le RP2_mono hM_129
                      replace hv_16 := hv_16.le hM_129
                      replace hz_41 := hz_41.le hM_129
                      replace hv_43 := hv_43.le hM_129
                      replace hz_63 := hz_63.le hM_129
                      replace hv_65 := hv_65.le hM_129
                      replace hv_88 := hv_88.le RP2_mono hM_129
                      replace hv_90 := hv_90.le RP2_mono hM_129
                      replace hv_94 := hv_94.le RP2_mono hM_129
                      replace hz_96 := hz_96.le RP2_mono hM_129
                      replace hv_100 := hv_100.le RP2_mono hM_129
                      replace hz_102 := hz_102.le RP2_mono hM_129
                      replace hv_106 := hv_106.le RP2_mono hM_129
                      replace hv_108 := hv_108.le RP2_mono hM_129
                      replace hv_112 := hv_112.le RP2_mono hM_129
                      replace hv_116 := hv_116.le RP2_mono hM_129
                      replace hv_120 := hv_120.le RP2_mono hM_129
                      replace hv_124 := hv_124.le RP2_mono hM_129
                      replace hv_128 := hv_128.le RP2_mono hM_129
                      refine ⟨fun x hq hb => (agree_le (hM_93.trans (hM_95.trans (hM_97.trans (hM_99.trans (hM_101.trans (hM_103.trans (hM_105.trans (hM_107.trans (hM_109.trans (hM_111.trans (hM_113.trans (hM_115.trans (hM_117.trans (hM_119.trans (hM_121.trans (hM_123.trans (hM_125.trans (hM_127.trans hM_129)))))))))))))))))) S.imm), ?_⟩
                      refine D_yes E rfl rfl rfl rfl (X_pu E S rfl rfl rfl (laws_eqPairs hv_128 hv_130) (Hp.le.refl _) ?_)
                      clear E a S; rintro a _ w M_131 hM_131 rfl S E
                      replace h0 := h0.le hM_131
                      replace hw1 := hw1.le hM_131
                      replace hb_1 := hM_131.2 _ _ hb_1
                      replace hb_3 := hM_131.2 _ _ hb_3
                      replace hb_5 := hM_131.2 _ _ hb_5
                      replace hz_12 := hz_12.le hM_131
                      replace hv_14 := hv_14.le RP2_mono hM_131
                      replace hv_16 := hv_16.le hM_131
                      replace hz_41 := hz_41.le hM_131
                      replace hv_43 := hv_43.le hM_131
                      replace hz_63 := hz_63.le hM_131
                      replace hv_65 := hv_65.le hM_131
                      replace hv_88 := hv_88.le RP2_mono hM_131
                      replace hv_90 := hv_90.le RP2_mono hM_131
                      replace hv_94 := hv_94.le RP2_mono hM_131
                      replace hz_96 := hz_96.le RP2_mono hM_131
                      replace hv_100 := hv_100.le RP2_mono hM_131
                      replace hz_102 := hz_102.le RP2_mono hM_131
                      replace hv_106 := hv_106.le RP2_mono hM_131
                      replace hv_108 := hv_108.le RP2_mono hM_131
                      replace hv_112 := hv_112.le RP2_mono hM_131
                      replace hv_116 := hv_116.le RP2_mono hM_131
                      replace hv_120 := hv_120.le RP2_mono hM_131
                      replace hv_124 := hv_124.le RP2_mono hM_131
                      replace hv_128 := hv_128.le RP2_mono hM_131
                      replace hv_130 := hv_130.le RP2_mono hM_131
                      refine ⟨fun x hq hb => (agree_le (hM_93.trans (hM_95.trans (hM_97.trans (hM_99.trans (hM_101.trans (hM_103.trans (hM_105.trans (hM_107.trans (hM_109.trans (hM_111.trans (hM_113.trans (hM_115.trans (hM_117.trans (hM_119.trans (hM_121.trans (hM_123.trans (hM_125.trans (hM_127.trans (hM_129.trans hM_131))))))))))))))))))) S.imm), ?_⟩
                      refine D_v E rfl rfl rfl (fun w hC => (R_pickT E rfl rfl)) ?_
                      clear E a; intro a E
                      refine D_v E rfl rfl rfl (fun w hC => (R_assign E rfl)) ?_
                      clear E a; intro a E
                      refine D_end (NoP_n ?_)
                      refine T_n ?_
                      refine WP_ret ?_
                      exact F_ret1 E Try.results6 rfl ⟨_, rfl, M_131, (hM_2.trans (hM_4.trans (hM_6.trans (hM_8.trans (hM_11.trans (hM_13.trans (hM_17.trans (hM_18.trans (hM_20.trans (hM_22.trans (hM_24.trans (hM_28.trans (hM_40.trans (hM_42.trans (hM_46.trans (hM_62.trans (hM_64.trans (hM_68.trans (hM_87.trans (hM_89.trans (hM_91.trans (hM_93.trans (hM_95.trans (hM_97.trans (hM_99.trans (hM_101.trans (hM_103.trans (hM_105.trans (hM_107.trans (hM_109.trans (hM_111.trans (hM_113.trans (hM_115.trans (hM_117.trans (hM_119.trans (hM_121.trans (hM_123.trans (hM_125.trans (hM_127.trans (hM_129.trans hM_131)))))))))))))))))))))))))))))))))))))))), (congrArg Value.bool (by (clear S E; first | (simp only [ixm, entE_one]; decide) | (simp; done) | decide | (simp [entE, mkE, ixm, srtK]; done) | (rw [eall]; simp; done) | (rw [esome]; simp; done) | (rw [keyBy_ix (by assumption) hr0]; simp; done) | (simp only [eall, esome]; simp; done)))), S⟩
                    · replace E := E.val (t := 156) rfl hc_86
                      replace E := E.val (t := 157) rfl hc_86
                      replace hc_86 := of_decide_eq_false hc_86
                      refine D_no E rfl rfl rfl rfl rfl fun a E => ?_
                      refine D_no E rfl rfl rfl rfl rfl fun a E => ?_
                      refine D_no E rfl rfl rfl rfl rfl fun a E => ?_
                      refine D_no E rfl rfl rfl rfl rfl fun a E => ?_
                      refine D_no E rfl rfl rfl rfl rfl fun a E => ?_
                      refine D_no E rfl rfl rfl rfl rfl fun a E => ?_
                      refine D_no E rfl rfl rfl rfl rfl fun a E => ?_
                      refine D_no E rfl rfl rfl rfl rfl fun a E => ?_
                      refine D_no E rfl rfl rfl rfl rfl fun a E => ?_
                      refine D_v E rfl rfl rfl (fun w hC => (R_pickF E rfl rfl)) ?_
                      clear E a; intro a E
                      refine D_end (NoP_n ?_)
                      refine T_n ?_
                      refine WP_condF E rfl rfl ?_
                      refine WP_skip ?_
                      refine T_n ?_
                      refine WP_seq ?_
                      have hb_1k131 := hb_1
                      have hb_3k131 := hb_3
                      have hb_5k131 := hb_5
                      replace S := S.mono_heap (w' := World.drew _) rfl
                      refine WP_drawn (C := fun x w => agree M_68 w) (bf := (fun i => [])) [0, 1, 2, 3, 6, 7, 8, 9, 10, 11, 14, 15, 16, 17, 19, 20, 23, 24, 25, 26, 27, 29, 31, 32, 33, 34, 35, 37, 39, 40, 41, 42, 43, 44, 46, 48, 49, 50, 51, 52, 53, 55, 57, 58, 59, 60, 62, 63, 66, 67] [0, 1, 2, 3, 4, 5, 6, 7, 8, 9, 10, 11, 12, 13, 14, 15, 16, 17, 19, 20, 18, 21, 22, 23, 24, 25, 26, 27, 29, 28, 30, 31, 32, 33, 34, 35, 37, 36, 38, 39, 40, 41, 42, 43, 44, 46, 45, 47, 48, 49, 50, 51, 52, 53, 55, 54, 56, 57, 58, 59, 60, 62, 63, 61, 64, 65, 66, 67] Try.mixed (by kernel_rfl) (fun x hq => S.imm) ?_
                      refine D_v E rfl rfl rfl (fun w hC => (R_move E rfl)) ?_
                      clear E a; intro a E
                      refine D_v E rfl rfl rfl (fun w hC => (R_move E rfl)) ?_
                      clear E a; intro a E
                      refine D_v E rfl rfl rfl (fun w hC => (R_loadGM E rfl (Try.isAgg24 _) (Try.sizeOf24 _) hC hb_3k131)) ?_
                      clear E a; intro a E
                      refine D_v E rfl rfl rfl (fun w hC => (R_loadGM E rfl (Try.isAgg24 _) (Try.sizeOf24 _) hC hb_5k131)) ?_
                      clear E a; intro a E
                      refine D_x rfl rfl rfl (X_pu E S rfl rfl rfl (spec_Associate h0 (by omega) (by omega) (by (first | omega | (simp; omega) | (simp; done) | (simp_all; omega) | grind)) (by first | assumption | exact (fun x hx => by rcases List.mem_append.1 hx with h | h; exact hr0 x h; exact hr1 x h))) (Hp.le.refl _) ?_)
                      clear E a S; rintro a v_133 w M_132 hM_132 hv_133 S E
                      replace h0 := h0.le hM_132
                      replace hw1 := hw1.le hM_132
                      replace hb_1 := hM_132.2 _ _ hb_1
                      replace hb_3 := hM_132.2 _ _ hb_3
                      replace hb_5 := hM_132.2 _ _ hb_5
                      replace hz_12 := hz_12.le hM_132
                      replace hv_14 := hv_14.le RP2_mono hM_132
                      replace hv_16 := hv_16.le hM_132
                      replace hz_41 := hz_41.le hM_132
                      replace hv_43 := hv_43.le hM_132
                      replace hr13 := hr13.le RP2_mono hM_132
                      replace hz_63 := hz_63.le hM_132
                      replace hv_65 := hv_65.le hM_132
                      replace hr14 := hr14.le RP2_mono hM_132
                      refine ⟨fun x hq hb => (agree_le hM_132 S.imm), ?_⟩
                      replace S := S.front1
                      have S0 := S; clear S
                      obtain ⟨M_134, hM_134, hz_135, S⟩ := S0.freezeR hr13 RP2_mono (by (first | omega | (simp; done) | (simp; omega) | (simp only [List.length_map, List.length_take] at *; omega)))
                      clear S0
                      replace h0 := h0.le hM_134
                      replace hw1 := hw1.le hM_134
                      replace hb_1 := hM_134.2 _ _ hb_1
                      replace hb_3 := hM_134.2 _ _ hb_3
                      replace hb_5 := hM_134.2 _ _ hb_5
                      replace hz_12 := hz_12.le hM_134
                      replace hv_14 := hv_14.le RP2_mono hM_134
                      replace hv_16 := hv_16.le hM_134
                      replace hz_41 := hz_41.le hM_134
                      replace hv_43 := hv_43.le hM_134
                      replace hz_63 := hz_63.le hM_134
                      replace hv_65 := hv_65.le hM_134
                      replace hr14 := hr14.le RP2_mono hM_134
                      replace hv_133 := hv_133.le RP2_mono hM_134
                      refine D_x rfl rfl rfl (X_pu E S rfl rfl rfl (laws_eqRef hz_135 hv_133) (Hp.le.refl _) ?_)
                      clear E a S; rintro a _ w M_136 hM_136 rfl S E
                      replace h0 := h0.le hM_136
                      replace hw1 := hw1.le hM_136
                      replace hb_1 := hM_136.2 _ _ hb_1
                      replace hb_3 := hM_136.2 _ _ hb_3
                      replace hb_5 := hM_136.2 _ _ hb_5
                      replace hz_12 := hz_12.le hM_136
                      replace hv_14 := hv_14.le RP2_mono hM_136
                      replace hv_16 := hv_16.le hM_136
                      replace hz_41 := hz_41.le hM_136
                      replace hv_43 := hv_43.le hM_136
                      replace hz_63 := hz_63.le hM_136
                      replace hv_65 := hv_65.le hM_136
                      replace hr14 := hr14.le RP2_mono hM_136
                      replace hv_133 := hv_133.le RP2_mono hM_136
                      replace hz_135 := hz_135.le RP2_mono hM_136
                      refine ⟨fun x hq hb => (agree_le (hM_132.trans (hM_134.trans hM_136)) S.imm), ?_⟩
                      refine D_v E rfl rfl rfl (fun w hC => (R_move E rfl)) ?_
                      clear E a; intro a E
                      have hc_137 : (decide (((setI ((ixm (fun x i => (keyAt kk2 kn2 x i, keyAt kk3 kn3 x i)) 0 (l0.take k)).map Prod.fst)).take j).map (fun key => (key, lstV (ixm (fun x i => (keyAt kk2 kn2 x i, keyAt kk3 kn3 x i)) 0 l0) key)) = entE (ixm (fun x i => (keyAt kk2 kn2 x i, keyAt kk3 kn3 x i)) 0 l0))) = true := by (clear S E; first | (simp only [ixm, entE_one]; decide) | (simp; done) | decide | (simp [entE, mkE, ixm, srtK]; done) | (rw [eall]; simp; done) | (rw [esome]; simp; done) | (rw [keyBy_ix (by assumption) hr0]; simp; done) | (simp only [eall, esome]; simp; done))
                      replace E := E.val (t := 173) rfl hc_137
                      replace E := E.val (t := 174) rfl hc_137
                      refine D_vyes E rfl rfl rfl rfl rfl (fun w hC => (R_move E rfl)) ?_
                      clear E a; intro a E
                      refine D_vyes E rfl rfl rfl rfl rfl (fun w hC => (R_move E rfl)) ?_
                      clear E a; intro a E
                      refine D_vyes E rfl rfl rfl rfl rfl (fun w hC => (R_loadGM E rfl (Try.isAgg54 _) (Try.sizeOf54 _) hC hb_1k131)) ?_
                      clear E a; intro a E
                      refine D_vyes E rfl rfl rfl rfl rfl (fun w hC => (R_loadGM E rfl (Try.isAgg24 _) (Try.sizeOf24 _) hC hb_3k131)) ?_
                      clear E a; intro a E
                      refine D_vyes E rfl rfl rfl rfl rfl (fun w hC => (R_loadGM E rfl (Try.isAgg24 _) (Try.sizeOf24 _) hC hb_5k131)) ?_
                      clear E a; intro a E
                      refine D_yes E rfl rfl rfl rfl (X_pu E S rfl rfl rfl (spec_FilterToMap h0 hw1 (by omega) (by omega) (by omega) (by (first | omega | (simp; omega) | (simp; done) | (simp_all; omega) | grind)) (by first | assumption | exact (fun x hx => by rcases List.mem_append.1 hx with h | h; exact hr0 x h; exact hr1 x h))) (Hp.le.refl _) ?_)
                      clear E a S; rintro a v_139 w M_138 hM_138 hv_139 S E
                      replace h0 := h0.le hM_138
                      replace hw1 := hw1.le hM_138
                      replace hb_1 := hM_138.2 _ _ hb_1
                      replace hb_3 := hM_138.2 _ _ hb_3
                      replace hb_5 := hM_138.2 _ _ hb_5
                      replace hz_12 := hz_12.le hM_138
                      replace hv_14 := hv_14.le RP2_mono hM_138
                      replace hv_16 := hv_16.le hM_138
                      replace hz_41 := hz_41.le hM_138
                      replace hv_43 := hv_43.le hM_138
                      replace hz_63 := hz_63.le hM_138
                      replace hv_65 := hv_65.le hM_138
                      replace hr14 := hr14.le RP2_mono hM_138
                      replace hv_133 := hv_133.le RP2_mono hM_138
                      replace hz_135 := hz_135.le RP2_mono hM_138
                      refine ⟨fun x hq hb => (agree_le (hM_132.trans (hM_134.trans (hM_136.trans hM_138))) S.imm), ?_⟩
                      have S0 := S; clear S
                      obtain ⟨M_140, hM_140, hz_141, S⟩ := S0.freezeR hr14 RP2_mono (by (first | omega | (simp; done) | (simp; omega) | (simp only [List.length_map, List.length_take] at *; omega)))
                      clear S0
                      replace h0 := h0.le hM_140
                      replace hw1 := hw1.le hM_140
                      replace hb_1 := hM_140.2 _ _ hb_1
                      replace hb_3 := hM_140.2 _ _ hb_3
                      replace hb_5 := hM_140.2 _ _ hb_5
                      replace hz_12 := hz_12.le hM_140
                      replace hv_14 := hv_14.le RP2_mono hM_140
                      replace hv_16 := hv_16.le hM_140
                      replace hz_41 := hz_41.le hM_140
                      replace hv_43 := hv_43.le hM_140
                      replace hz_63 := hz_63.le hM_140
                      replace hv_65 := hv_65.le hM_140
                      replace hv_133 := hv_133.le RP2_mono hM_140
                      replace hz_135 := hz_135.le RP2_mono hM_140
                      replace hv_139 := hv_139.le RP2_mono hM_140
                      refine D_yes E rfl rfl rfl rfl (X_pu E S rfl rfl rfl (laws_eqRef hz_141 hv_139) (Hp.le.refl _) ?_)
                      clear E a S; rintro a _ w M_142 hM_142 rfl S E
                      replace h0 := h0.le hM_142
                      replace hw1 := hw1.le hM_142
                      replace hb_1 := hM_142.2 _ _ hb_1
                      replace hb_3 := hM_142.2 _ _ hb_3
                      replace hb_5 := hM_142.2 _ _ hb_5
                      replace hz_12 := hz_12.le hM_142
                      replace hv_14 := hv_14.le RP2_mono hM_142
                      replace hv_16 := hv_16.le hM_142
                      replace hz_41 := hz_41.le hM_142
                      replace hv_43 := hv_43.le hM_142
                      replace hz_63 := hz_63.le hM_142
                      replace hv_65 := hv_65.le hM_142
                      replace hv_133 := hv_133.le RP2_mono hM_142
                      replace hz_135 := hz_135.le RP2_mono hM_142
                      replace hv_139 := hv_139.le RP2_mono hM_142
                      replace hz_141 := hz_141.le RP2_mono hM_142
                      refine ⟨fun x hq hb => (agree_le (hM_132.trans (hM_134.trans (hM_136.trans (hM_138.trans (hM_140.trans hM_142))))) S.imm), ?_⟩
                      refine D_v E rfl rfl rfl (fun w hC => (R_pickT E rfl rfl)) ?_
                      clear E a; intro a E
                      refine D_v E rfl rfl rfl (fun w hC => (R_move E rfl)) ?_
                      clear E a; intro a E
                      have hc_143 : (decide (((setI ((kpE (ixm (fun x i => (keyAt kk2 kn2 x i, keyAt kk3 kn3 x i, predAt pk1 pn1 pl1 x i)) 0 (l0.take k))).map Prod.fst)).take j2).map (fun key => (key, lstV (kpE (ixm (fun x i => (keyAt kk2 kn2 x i, keyAt kk3 kn3 x i, predAt pk1 pn1 pl1 x i)) 0 l0)) key)) = entE (kpE (ixm (fun x i => (keyAt kk2 kn2 x i, keyAt kk3 kn3 x i, predAt pk1 pn1 pl1 x i)) 0 l0)))) = true := by (clear S E; first | (simp only [ixm, entE_one]; decide) | (simp; done) | decide | (simp [entE, mkE, ixm, srtK]; done) | (rw [eall]; simp; done) | (rw [esome]; simp; done) | (rw [keyBy_ix (by assumption) hr0]; simp; done) | (simp only [eall, esome]; simp; done))
                      replace E := E.val (t := 181) rfl hc_143
                      replace E := E.val (t := 182) rfl hc_143
                      replace E := E.val (t := 183) rfl hc_143
                      refine D_vyes E rfl rfl rfl rfl rfl (fun w hC => (R_move E rfl)) ?_
                      clear E a; intro a E
                      refine D_vyes E rfl rfl rfl rfl rfl (fun w hC => (R_loadGM E rfl (Try.isAgg24 _) (Try.sizeOf24 _) hC hb_3k131)) ?_
                      clear E a; intro a E
                      refine D_vyes E rfl rfl rfl rfl rfl (fun w hC => (R_move E rfl)) ?_
                      clear E a; intro a E
                      refine D_vyes E rfl rfl rfl rfl rfl (fun w hC => (R_loadGM E rfl (Try.isAgg24 _) (Try.sizeOf24 _) hC hb_3k131)) ?_
                      clear E a; intro a E
                      refine D_yes E rfl rfl rfl rfl (X_pu E S rfl rfl rfl (impl_KeyBy h0 (by omega) (by (first | omega | (simp; omega) | (simp; done) | (simp_all; omega) | grind))) (Hp.le.refl _) ?_)
                      clear E a S; rintro a v_145 w M_144 hM_144 hv_145 S E
                      replace h0 := h0.le hM_144
                      replace hw1 := hw1.le hM_144
                      replace hb_1 := hM_144.2 _ _ hb_1
                      replace hb_3 := hM_144.2 _ _ hb_3
                      replace hb_5 := hM_144.2 _ _ hb_5
                      replace hz_12 := hz_12.le hM_144
                      replace hv_14 := hv_14.le RP2_mono hM_144
                      replace hv_16 := hv_16.le hM_144
                      replace hz_41 := hz_41.le hM_144
                      replace hv_43 := hv_43.le hM_144
                      replace hz_63 := hz_63.le hM_144
                      replace hv_65 := hv_65.le hM_144
                      replace hv_133 := hv_133.le RP2_mono hM_144
                      replace hz_135 := hz_135.le RP2_mono hM_144
                      replace hv_139 := hv_139.le RP2_mono hM_144
                      replace hz_141 := hz_141.le RP2_mono hM_144
                      refine ⟨fun x hq hb => (agree_le (hM_132.trans (hM_134.trans (hM_136.trans (hM_138.trans (hM_140.trans (hM_142.trans hM_144)))))) S.imm), ?_⟩
                      refine D_yes E rfl rfl rfl rfl (X_pu E S rfl rfl rfl (spec_KeyBy h0 (by omega) (by (first | omega | (simp; omega) | (simp; done) | (simp_all; omega) | grind)) (by first | assumption | exact (fun x hx => by rcases List.mem_append.1 hx with h | h; exact hr0 x h; exact hr1 x h))) (Hp.le.refl _) ?_)
                      clear E a S; rintro a v_147 w M_146 hM_146 hv_147 S E
                      replace h0 := h0.le hM_146
                      replace hw1 := hw1.le hM_146
                      replace hb_1 := hM_146.2 _ _ hb_1
                      replace hb_3 := hM_146.2 _ _ hb_3
                      replace hb_5 := hM_146.2 _ _ hb_5
                      replace hz_12 := hz_12.le hM_146
                      replace hv_14 := hv_14.le RP2_mono hM_146
                      replace hv_16 := hv_16.le hM_146
                      replace hz_41 := hz_41.le hM_146
                      replace hv_43 := hv_43.le hM_146
                      replace hz_63 := hz_63.le hM_146
                      replace hv_65 := hv_65.le hM_146
                      replace hv_133 := hv_133.le RP2_mono hM_146
                      replace hz_135 := hz_135.le RP2_mono hM_146
                      replace hv_139 := hv_139.le RP2_mono hM_146
                      replace hz_141 := hz_141.le RP2_mono hM_146
                      replace hv_145 := hv_145.le RP2_mono hM_146
                      refine ⟨fun x hq hb => (agree_le (hM_132.trans (hM_134.trans (hM_136.trans (hM_138.trans (hM_140.trans (hM_142.trans (hM_144.trans hM_146))))))) S.imm), ?_⟩
                      refine D_yes E rfl rfl rfl rfl (X_pu E S rfl rfl rfl (laws_eqRef hv_145 hv_147) (Hp.le.refl _) ?_)
                      clear E a S; rintro a _ w M_148 hM_148 rfl S E
                      replace h0 := h0.le hM_148
                      replace hw1 := hw1.le hM_148
                      replace hb_1 := hM_148.2 _ _ hb_1
                      replace hb_3 := hM_148.2 _ _ hb_3
                      replace hb_5 := hM_148.2 _ _ hb_5
                      replace hz_12 := hz_12.le hM_148
                      replace hv_14 := hv_14.le RP2_mono hM_148
                      replace hv_16 := hv_16.le hM_148
                      replace hz_41 := hz_41.le hM_148
                      replace hv_43 := hv_43.le hM_148
                      replace hz_63 := hz_63.le hM_148
                      replace hv_65 := hv_65.le hM_148
                      replace hv_133 := hv_133.le RP2_mono hM_148
                      replace hz_135 := hz_135.le RP2_mono hM_148
                      replace hv_139 := hv_139.le RP2_mono hM_148
                      replace hz_141 := hz_141.le RP2_mono hM_148
                      replace hv_145 := hv_145.le RP2_mono hM_148
                      replace hv_147 := hv_147.le RP2_mono hM_148
                      refine ⟨fun x hq hb => (agree_le (hM_132.trans (hM_134.trans (hM_136.trans (hM_138.trans (hM_140.trans (hM_142.trans (hM_144.trans (hM_146.trans hM_148)))))))) S.imm), ?_⟩
                      refine D_v E rfl rfl rfl (fun w hC => (R_pickT E rfl rfl)) ?_
                      clear E a; intro a E
                      refine D_v E rfl rfl rfl (fun w hC => (R_move E rfl)) ?_
                      clear E a; intro a E
                      have hc_149 : (decide (entE ((l0).map fun x => (keyAt kk2 kn2 x 0, x)) = entE ((l0).map fun x => (keyAt kk2 kn2 x 0, x)))) = true := by (clear S E; first | (simp only [ixm, entE_one]; decide) | (simp; done) | decide | (simp [entE, mkE, ixm, srtK]; done) | (rw [eall]; simp; done) | (rw [esome]; simp; done) | (rw [keyBy_ix (by assumption) hr0]; simp; done) | (simp only [eall, esome]; simp; done))
                      replace E := E.val (t := 190) rfl hc_149
                      replace E := E.val (t := 191) rfl hc_149
                      replace E := E.val (t := 192) rfl hc_149
                      refine D_vyes E rfl rfl rfl rfl rfl (fun w hC => (R_move E rfl)) ?_
                      clear E a; intro a E
                      refine D_vyes E rfl rfl rfl rfl rfl (fun w hC => (R_loadGM E rfl (Try.isAgg24 _) (Try.sizeOf24 _) hC hb_3k131)) ?_
                      clear E a; intro a E
                      refine D_vyes E rfl rfl rfl rfl rfl (fun w hC => (R_loadGM E rfl (Try.isAgg24 _) (Try.sizeOf24 _) hC hb_5k131)) ?_
                      clear E a; intro a E
                      refine D_vyes E rfl rfl rfl rfl rfl (fun w hC => (R_move E rfl)) ?_
                      clear E a; intro a E
                      refine D_yes E rfl rfl rfl rfl (X_pu E S rfl rfl rfl (impl_Associate h0 (by omega) (by omega) (by (first | omega | (simp; omega) | (simp; done) | (simp_all; omega) | grind))) (Hp.le.refl _) ?_)
                      clear E a S; rintro a v_151 w M_150 hM_150 hv_151 S E
                      replace h0 := h0.le hM_150
                      replace hw1 := hw1.le hM_150
                      replace hb_1 := hM_150.2 _ _ hb_1
                      replace hb_3 := hM_150.2 _ _ hb_3
                      replace hb_5 := hM_150.2 _ _ hb_5
                      replace hz_12 := hz_12.le hM_150
                      replace hv_14 := hv_14.le RP2_mono hM_150
                      replace hv_16 := hv_16.le hM_150
                      replace hz_41 := hz_41.le hM_150
                      replace hv_43 := hv_43.le hM_150
                      replace hz_63 := hz_63.le hM_150
                      replace hv_65 := hv_65.le hM_150
                      replace hv_133 := hv_133.le RP2_mono hM_150
                      replace hz_135 := hz_135.le RP2_mono hM_150
                      replace hv_139 := hv_139.le RP2_mono hM_150
                      replace hz_141 := hz_141.le RP2_mono hM_150
                      replace hv_145 := hv_145.le RP2_mono hM_150
                      replace hv_147 := hv_147.le RP2_mono hM_150
                      refine ⟨fun x hq hb => (agree_le (hM_132.trans (hM_134.trans (hM_136.trans (hM_138.trans (hM_140.trans (hM_142.trans (hM_144.trans (hM_146.trans (hM_148.trans hM_150))))))))) S.imm), ?_⟩
                      refine D_yes E rfl rfl rfl rfl (X_pu E S rfl rfl rfl (laws_eqPairs hv_151 hz_135) (Hp.le.refl _) ?_)
                      clear E a S; rintro a _ w M_152 hM_152 rfl S E
                      replace h0 := h0.le hM_152
                      replace hw1 := hw1.le hM_152
                      replace hb_1 := hM_152.2 _ _ hb_1
                      replace hb_3 := hM_152.2 _ _ hb_3
                      replace hb_5 := hM_152.2 _ _ hb_5
                      replace hz_12 := hz_12.le hM_152
                      replace hv_14 := hv_14.le RP2_mono hM_152
                      replace hv_16 := hv_16.le hM_152
                      replace hz_41 := hz_41.le hM_152
                      replace hv_43 := hv_43.le hM_152
                      replace hz_63 := hz_63.le hM_152
                      replace hv_65 := hv_65.le hM_152
                      replace hv_133 := hv_133.le RP2_mono hM_152
                      replace hz_135 := hz_135.le RP2_mono hM_152
                      replace hv_139 := hv_139.le RP2_mono hM_152
                      replace hz_141 := hz_141.le RP2_mono hM_152
                      replace hv_145 := hv_145.le RP2_mono hM_152
                      replace hv_147 := hv_147.le RP2_mono hM_152
                      replace hv_151 := hv_151.le RP2_mono hM_152
                      refine ⟨fun x hq hb => (agree_le (hM_132.trans (hM_134.trans (hM_136.trans (hM_138.trans (hM_140.trans (hM_142.trans (hM_144.trans (hM_146.trans (hM_148.trans (hM_150.trans hM_152)))))))))) S.imm), ?_⟩
                      refine D_v E rfl rfl rfl (fun w hC => (R_pickT E rfl rfl)) ?_
                      clear E a; intro a E
                      refine D_v E rfl rfl rfl (fun w hC => (R_move E rfl)) ?_
                      clear E a; intro a E
                      have hc_153 : (decide (entE (ixm (fun x i => (keyAt kk2 kn2 x i, keyAt kk3 kn3 x i)) 0 l0) = ((setI ((ixm (fun x i => (keyAt kk2 kn2 x i, keyAt kk3 kn3 x i)) 0 (l0.take k)).map Prod.fst)).take j).map (fun key => (key, lstV (ixm (fun x i => (keyAt kk2 kn2 x i, keyAt kk3 kn3 x i)) 0 l0) key)))) = true := by (clear S E; first | (simp only [ixm, entE_one]; decide) | (simp; done) | decide | (simp [entE, mkE, ixm, srtK]; done) | (rw [eall]; simp; done) | (rw [esome]; simp; done) | (rw [keyBy_ix (by assumption) hr0]; simp; done) | (simp only [eall, esome]; simp; done))
                      replace E := E.val (t := 198) rfl hc_153
                      replace E := E.val (t := 199) rfl hc_153
                      replace E := E.val (t := 200) rfl hc_153
                      refine D_vyes E rfl rfl rfl rfl rfl (fun w hC => (R_move E rfl)) ?_
                      clear E a; intro a E
                      refine D_vyes E rfl rfl rfl rfl rfl (fun w hC => (R_loadGM E rfl (Try.isAgg24 _) (Try.sizeOf24 _) hC hb_3k131)) ?_
                      clear E a; intro a E
                      refine D_vyes E rfl rfl rfl rfl rfl (fun w hC => (R_loadGM E rfl (Try.isAgg24 _) (Try.sizeOf24 _) hC hb_5k131)) ?_
                      clear E a; intro a E
                      refine D_vyes E rfl rfl rfl rfl rfl (fun w hC => (R_move E rfl)) ?_
                      clear E a; intro a E
                      refine D_yes E rfl rfl rfl rfl (X_pu E S rfl rfl rfl (impl_AssociateSeq h0 (by omega) (by omega) (by (first | omega | (simp; omega) | (simp; done) | (simp_all; omega) | grind))) (Hp.le.refl _) ?_)
                      clear E a S; rintro a v_155 w M_154 hM_154 hv_155 S E
                      replace h0 := h0.le hM_154
                      replace hw1 := hw1.le hM_154
                      replace hb_1 := hM_154.2 _ _ hb_1
                      replace hb_3 := hM_154.2 _ _ hb_3
                      replace hb_5 := hM_154.2 _ _ hb_5
                      replace hz_12 := hz_12.le hM_154
                      replace hv_14 := hv_14.le RP2_mono hM_154
                      replace hv_16 := hv_16.le hM_154
                      replace hz_41 := hz_41.le hM_154
                      replace hv_43 := hv_43.le hM_154
                      replace hz_63 := hz_63.le hM_154
                      replace hv_65 := hv_65.le hM_154
                      replace hv_133 := hv_133.le RP2_mono hM_154
                      replace hz_135 := hz_135.le RP2_mono hM_154
                      replace hv_139 := hv_139.le RP2_mono hM_154
                      replace hz_141 := hz_141.le RP2_mono hM_154
                      replace hv_145 := hv_145.le RP2_mono hM_154
                      replace hv_147 := hv_147.le RP2_mono hM_154
                      replace hv_151 := hv_151.le RP2_mono hM_154
                      refine ⟨fun x hq hb => (agree_le (hM_132.trans (hM_134.trans (hM_136.trans (hM_138.trans (hM_140.trans (hM_142.trans (hM_144.trans (hM_146.trans (hM_148.trans (hM_150.trans (hM_152.trans hM_154))))))))))) S.imm), ?_⟩
                      refine D_yes E rfl rfl rfl rfl (X_pu E S rfl rfl rfl (laws_eqPairs hv_155 hz_135) (Hp.le.refl _) ?_)
                      clear E a S; rintro a _ w M_156 hM_156 rfl S E
                      replace h0 := h0.le hM_156
                      replace hw1 := hw1.le hM_156
                      replace hb_1 := hM_156.2 _ _ hb_1
                      replace hb_3 := hM_156.2 _ _ hb_3
                      replace hb_5 := hM_156.2 _ _ hb_5
                      replace hz_12 := hz_12.le hM_156
                      replace hv_14 := hv_14.le RP2_mono hM_156
                      replace hv_16 := hv_16.le hM_156
                      replace hz_41 := hz_41.le hM_156
                      replace hv_43 := hv_43.le hM_156
                      replace hz_63 := hz_63.le hM_156
                      replace hv_65 := hv_65.le hM_156
                      replace hv_133 := hv_133.le RP2_mono hM_156
                      replace hz_135 := hz_135.le RP2_mono hM_156
                      replace hv_139 := hv_139.le RP2_mono hM_156
                      replace hz_141 := hz_141.le RP2_mono hM_156
                      replace hv_145 := hv_145.le RP2_mono hM_156
                      replace hv_147 := hv_147.le RP2_mono hM_156
                      replace hv_151 := hv_151.le RP2_mono hM_156
                      replace hv_155 := hv_155.le RP2_mono hM_156
                      refine ⟨fun x hq hb => (agree_le (hM_132.trans (hM_134.trans (hM_136.trans (hM_138.trans (hM_140.trans (hM_142.trans (hM_144.trans (hM_146.trans (hM_148.trans (hM_150.trans (hM_152.trans (hM_154.trans hM_156)))))))))))) S.imm), ?_⟩
                      refine D_v E rfl rfl rfl (fun w hC => (R_pickT E rfl rfl)) ?_
                      clear E a; intro a E
                      refine D_v E rfl rfl rfl (fun w hC => (R_move E rfl)) ?_
                      clear E a; intro a E
                      have hc_157 : (decide (entE (ixm (fun x i => (keyAt kk2 kn2 x i, keyAt kk3 kn3 x i)) 0 l0) = ((setI ((ixm (fun x i => (keyAt kk2 kn2 x i, keyAt kk3 kn3 x i)) 0 (l0.take k)).map Prod.fst)).take j).map (fun key => (key, lstV (ixm (fun x i => (keyAt kk2 kn2 x i, keyAt kk3 kn3 x i)) 0 l0) key)))) = true := by (clear S E; first | (simp only [ixm, entE_one]; decide) | (simp; done) | decide | (simp [entE, mkE, ixm, srtK]; done) | (rw [eall]; simp; done) | (rw [esome]; simp; done) | (rw [keyBy_ix (by assumption) hr0]; simp; done) | (simp only [eall, esome]; simp; done))
                      replace E := E.val (t := 206) rfl hc_157
                      replace E := E.val (t := 207) rfl hc_157
                      replace E := E.val (t := 208) rfl hc_157
                      refine D_vyes E rfl rfl rfl rfl rfl (fun w hC => (R_move E rfl)) ?_
                      clear E a; intro a E
                      refine D_vyes E rfl rfl rfl rfl rfl (fun w hC => (R_loadGM E rfl (Try.isAgg54 _) (Try.sizeOf54 _) hC hb_1k131)) ?_
                      clear E a; intro a E
                      refine D_vyes E rfl rfl rfl rfl rfl (fun w hC => (R_loadGM E rfl (Try.isAgg24 _) (Try.sizeOf24 _) hC hb_3k131)) ?_
                      clear E a; intro a E
                      refine D_vyes E rfl rfl rfl rfl rfl (fun w hC => (R_loadGM E rfl (Try.isAgg24 _) (Try.sizeOf24 _) hC hb_5k131)) ?_
                      clear E a; intro a E
                      refine D_vyes E rfl rfl rfl rfl rfl (fun w hC => (R_move E rfl)) ?_
                      clear E a; intro a E
                      refine D_yes E rfl rfl rfl rfl (X_pu E S rfl rfl rfl (impl_FilterToMap h0 hw1 (by omega) (by omega) (by omega) (by (first | omega | (simp; omega) | (simp; done) | (simp_all; omega) | grind))) (Hp.le.refl _) ?_)
                      clear E a S; rintro a v_159 w M_158 hM_158 hv_159 S E
                      replace h0 := h0.le hM_158
                      replace hw1 := hw1.le hM_158
                      replace hb_1 := hM_158.2 _ _ hb_1
                      replace hb_3 := hM_158.2 _ _ hb_3
                      replace hb_5 := hM_158.2 _ _ hb_5
                      replace hz_12 := hz_12.le hM_158
                      replace hv_14 := hv_14.le RP2_mono hM_158
                      replace hv_16 := hv_16.le hM_158
                      replace hz_41 := hz_41.le hM_158
                      replace hv_43 := hv_43.le hM_158
                      replace hz_63 := hz_63.le hM_158
                      replace hv_65 := hv_65.le hM_158
                      replace hv_133 := hv_133.le RP2_mono hM_158
                      replace hz_135 := hz_135.le RP2_mono hM_158
                      replace hv_139 := hv_139.le RP2_mono hM_158
                      replace hz_141 := hz_141.le RP2_mono hM_158
                      replace hv_145 := hv_145.le RP2_mono hM_158
                      replace hv_147 := hv_147.le RP2_mono hM_158
                      replace hv_151 := hv_151.le RP2_mono hM_158
                      replace hv_155 := hv_155.le RP2_mono hM_158
                      refine ⟨fun x hq hb => (agree_le (hM_132.trans (hM_134.trans (hM_136.trans (hM_138.trans (hM_140.trans (hM_142.trans (hM_144.trans (hM_146.trans (hM_148.trans (hM_150.trans (hM_152.trans (hM_154.trans (hM_156.trans hM_158))))))))))))) S.imm), ?_⟩
                      refine D_yes E rfl rfl rfl rfl (X_pu E S rfl rfl rfl (laws_eqPairs hv_159 hz_141) (Hp.le.refl _) ?_)
                      clear E a S; rintro a _ w M_160 hM_160 rfl S E
                      replace h0 := h0.le hM_160
                      replace hw1 := hw1.le hM_160
                      replace hb_1 := hM_160.2 _ _ hb_1
                      replace hb_3 := hM_160.2 _ _ hb_3
                      replace hb_5 := hM_160.2 _ _ hb_5
                      replace hz_12 := hz_12.le hM_160
                      replace hv_14 := hv_14.le RP2_mono hM_160
                      replace hv_16 := hv_16.le hM_160
                      replace hz_41 := hz_41.le hM_160
                      replace hv_43 := hv_43.le hM_160
                      replace hz_63 := hz_63.le hM_160
                      replace hv_65 := hv_65.le hM_160
                      replace hv_133 := hv_133.le RP2_mono hM_160
                      replace hz_135 := hz_135.le RP2_mono hM_160
                      replace hv_139 := hv_139.le RP2_mono hM_160
                      replace hz_141 := hz_141.le RP2_mono hM_160
                      replace hv_145 := hv_145.le RP2_mono hM_160
                      replace hv_147 := hv_147.le RP2_mono hM_160
                      replace hv_151 := hv_151.le RP2_mono hM_160
                      replace hv_155 := hv_155.le RP2_mono hM_160
                      replace hv_159 := hv_159.le RP2_mono hM_160
                      refine ⟨fun x hq hb => (agree_le (hM_132.trans (hM_134.trans (hM_136.trans (hM_138.trans (hM_140.trans (hM_142.trans (hM_144.trans (hM_146.trans (hM_148.trans (hM_150.trans (hM_152.trans (hM_154.trans (hM_156.trans (hM_158.trans hM_160)))))))))))))) S.imm), ?_⟩
                      refine D_v E rfl rfl rfl (fun w hC => (R_pickT E rfl rfl)) ?_
                      clear E a; intro a E
                      refine D_v E rfl rfl rfl (fun w hC => (R_move E rfl)) ?_
                      clear E a; intro a E
                      have hc_161 : (decide (entE (kpE (ixm (fun x i => (keyAt kk2 kn2 x i, keyAt kk3 kn3 x i, predAt pk1 pn1 pl1 x i)) 0 l0)) = ((setI ((kpE (ixm (fun x i => (keyAt kk2 kn2 x i, keyAt kk3 kn3 x i, predAt pk1 pn1 pl1 x i)) 0 (l0.take k))).map Prod.fst)).take j2).map (fun key => (key, lstV (kpE (ixm (fun x i => (keyAt kk2 kn2 x i, keyAt kk3 kn3 x i, predAt pk1 pn1 pl1 x i)) 0 l0)) key)))) = true := by (clear S E; first | (simp only [ixm, entE_one]; decide) | (simp; done) | decide | (simp [entE, mkE, ixm, srtK]; done) | (rw [eall]; simp; done) | (rw [esome]; simp; done) | (rw [keyBy_ix (by assumption) hr0]; simp; done) | (simp only [eall, esome]; simp; done))
                      replace E := E.val (t := 215) rfl hc_161
                      replace E := E.val (t := 216) rfl hc_161
                      replace E := E.val (t := 217) rfl hc_161
                      refine D_vyes E rfl rfl rfl rfl rfl (fun w hC => (R_move E rfl)) ?_
                      clear E a; intro a E
                      refine D_vyes E rfl rfl rfl rfl rfl (fun w hC => (R_loadGM E rfl (Try.isAgg54 _) (Try.sizeOf54 _) hC hb_1k131)) ?_
                      clear E a; intro a E
                      refine D_vyes E rfl rfl rfl rfl rfl (fun w hC => (R_loadGM E rfl (Try.isAgg24 _) (Try.sizeOf24 _) hC hb_3k131)) ?_
                      clear E a; intro a E
                      refine D_vyes E rfl rfl rfl rfl rfl (fun w hC => (R_loadGM E rfl (Try.isAgg24 _) (Try.sizeOf24 _) hC hb_5k131)) ?_
                      clear E a; intro a E
                      refine D_vyes E rfl rfl rfl rfl rfl (fun w hC => (R_move E rfl)) ?_
                      clear E a; intro a E
                      refine D_yes E rfl rfl rfl rfl (X_pu E S rfl rfl rfl (impl_FilterToMapSeq h0 hw1 (by omega) (by omega) (by omega) (by (first | omega | (simp; omega) | (simp; done) | (simp_all; omega) | grind))) (Hp.le.refl _) ?_)
                      clear E a S; rintro a v_163 w M_162 hM_162 hv_163 S E
                      replace h0 := h0.le hM_162
                      replace hw1 := hw1.le hM_162
                      replace hb_1 := hM_162.2 _ _ hb_1
                      replace hb_3 := hM_162.2 _ _ hb_3
                      replace hb_5 := hM_162.2 _ _ hb_5
                      replace hz_12 := hz_12.le hM_162
                      replace hv_14 := hv_14.le RP2_mono hM_162
                      replace hv_16 := hv_16.le hM_162
                      replace hz_41 := hz_41.le hM_162
                      replace hv_43 := hv_43.le hM_162
                      replace hz_63 := hz_63.le hM_162
                      replace hv_65 := hv_65.le hM_162
                      replace hv_133 := hv_133.le RP2_mono hM_162
                      replace hz_135 := hz_135.le RP2_mono hM_162
                      replace hv_139 := hv_139.le RP2_mono hM_162
                      replace hz_141 := hz_141.le RP2_mono hM_162
                      replace hv_145 := hv_145.le RP2_mono hM_162
                      replace hv_147 := hv_147.le RP2_mono hM_162
                      replace hv_151 := hv_151.le RP2_mono hM_162
                      replace hv_155 := hv_155.le RP2_mono hM_162
                      replace hv_159 := hv_159.le RP2_mono hM_162
                      refine ⟨fun x hq hb => (agree_le (hM_132.trans (hM_134.trans (hM_136.trans (hM_138.trans (hM_140.trans (hM_142.trans (hM_144.trans (hM_146.trans (hM_148.trans (hM_150.trans (hM_152.trans (hM_154.trans (hM_156.trans (hM_158.trans (hM_160.trans hM_162))))))))))))))) S.imm), ?_⟩
                      refine D_yes E rfl rfl rfl rfl (X_pu E S rfl rfl rfl (laws_eqPairs hv_163 hz_141) (Hp.le.refl _) ?_)
                      clear E a S; rintro a _ w M_164 hM_164 rfl S E
                      replace h0 := h0.le hM_164
                      replace hw1 := hw1.le hM_164
                      replace hb_1 := hM_164.2 _ _ hb_1
                      replace hb_3 := hM_164.2 _ _ hb_3
                      replace hb_5 := hM_164.2 _ _ hb_5
                      replace hz_12 := hz_12.le hM_164
                      replace hv_14 := hv_14.le RP2_mono hM_164
                      replace hv_16 := hv_16.le hM_164
                      replace hz_41 := hz_41.le hM_164
                      replace hv_43 := hv_43.le hM_164
                      replace hz_63 := hz_63.le hM_164
                      replace hv_65 := hv_65.le hM_164
                      replace hv_133 := hv_133.le RP2_mono hM_164
                      replace hz_135 := hz_135.le RP2_mono hM_164
                      replace hv_139 := hv_139.le RP2_mono hM_164
                      replace hz_141 := hz_141.le RP2_mono hM_164
                      replace hv_145 := hv_145.le RP2_mono hM_164
                      replace hv_147 := hv_147.le RP2_mono hM_164
                      replace hv_151 := hv_151.le RP2_mono hM_164
                      replace hv_155 := hv_155.le RP2_mono hM_164
                      replace hv_159 := hv_159.le RP2_mono hM_164
                      replace hv_163 := hv_163.le RP2_mono hM_164
                      refine ⟨fun x hq hb => (agree_le (hM_132.trans (hM_134.trans (hM_136.trans (hM_138.trans (hM_140.trans (hM_142.trans (hM_144.trans (hM_146.trans (hM_148.trans (hM_150.trans (hM_152.trans (hM_154.trans (hM_156.trans (hM_158.trans (hM_160.trans (hM_162.trans hM_164)))))))))))))))) S.imm), ?_⟩
                      refine D_v E rfl rfl rfl (fun w hC => (R_pickT E rfl rfl)) ?_
                      clear E a; intro a E
                      refine D_v E rfl rfl rfl (fun w hC => (R_move E rfl)) ?_
                      clear E a; intro a E
                      have hc_165 : (decide (entE (kpE (ixm (fun x i => (keyAt kk2 kn2 x i, keyAt kk3 kn3 x i, predAt pk1 pn1 pl1 x i)) 0 l0)) = ((setI ((kpE (ixm (fun x i => (keyAt kk2 kn2 x i, keyAt kk3 kn3 x i, predAt pk1 pn1 pl1 x i)) 0 (l0.take k))).map Prod.fst)).take j2).map (fun key => (key, lstV (kpE (ixm (fun x i => (keyAt kk2 kn2 x i, keyAt kk3 kn3 x i, predAt pk1 pn1 pl1 x i)) 0 l0)) key)))) = true := by (clear S E; first | (simp only [ixm, entE_one]; decide) | (simp; done) | decide | (simp [entE, mkE, ixm, srtK]; done) | (rw [eall]; simp; done) | (rw [esome]; simp; done) | (rw [keyBy_ix (by assumption) hr0]; simp; done) | (simp only [eall, esome]; simp; done))
                      replace E := E.val (t := 224) rfl hc_165
                      replace E := E.val (t := 225) rfl hc_165
                      replace E := E.val (t := 226) rfl hc_165
                      refine D_vyes E rfl rfl rfl rfl rfl (fun w hC => (R_move E rfl)) ?_
                      clear E a; intro a E
                      refine D_vyes E rfl rfl rfl rfl rfl (fun w hC => (R_loadGM E rfl (Try.isAgg24 _) (Try.sizeOf24 _) hC hb_3k131)) ?_
                      clear E a; intro a E
                      refine D_vyes E rfl rfl rfl rfl rfl (fun w hC => (R_move E rfl)) ?_
                      clear E a; intro a E
                      refine D_vyes E rfl rfl rfl rfl rfl (fun w hC => (R_loadGM E rfl (Try.isAgg24 _) (Try.sizeOf24 _) hC hb_3k131)) ?_
                      clear E a; intro a E
                      refine D_yes E rfl rfl rfl rfl (X_pu E S rfl rfl rfl (impl_KeyBySeq h0 (by omega) (by (first | omega | (simp; omega) | (simp; done) | (simp_all; omega) | grind))) (Hp.le.refl _) ?_)
                      clear E a S; rintro a v_167 w M_166 hM_166 hv_167 S E
                      replace h0 := h0.le hM_166
                      replace hw1 := hw1.le hM_166
                      replace hb_1 := hM_166.2 _ _ hb_1
                      replace hb_3 := hM_166.2 _ _ hb_3
                      replace hb_5 := hM_166.2 _ _ hb_5
                      replace hz_12 := hz_12.le hM_166
                      replace hv_14 := hv_14.le RP2_mono hM_166
                      replace hv_16 := hv_16.le hM_166
                      replace hz_41 := hz_41.le hM_166
                      replace hv_43 := hv_43.le hM_166
                      replace hz_63 := hz_63.le hM_166
                      replace hv_65 := hv_65.le hM_166
                      replace hv_133 := hv_133.le RP2_mono hM_166
                      replace hz_135 := hz_135.le RP2_mono hM_166
                      replace hv_139 := hv_139.le RP2_mono hM_166
                      replace hz_141 := hz_141.le RP2_mono hM_166
                      replace hv_145 := hv_145.le RP2_mono hM_166
                      replace hv_147 := hv_147.le RP2_mono hM_166
                      replace hv_151 := hv_151.le RP2_mono hM_166
                      replace hv_155 := hv_155.le RP2_mono hM_166
                      replace hv_159 := hv_159.le RP2_mono hM_166
                      replace hv_163 := hv_163.le RP2_mono hM_166
                      refine ⟨fun x hq hb => (agree_le (hM_132.trans (hM_134.trans (hM_136.trans (hM_138.trans (hM_140.trans (hM_142.trans (hM_144.trans (hM_146.trans (hM_148.trans (hM_150.trans (hM_152.trans (hM_154.trans (hM_156.trans (hM_158.trans (hM_160.trans (hM_162.trans (hM_164.trans hM_166))))))))))))))))) S.imm), ?_⟩
                      refine D_yes E rfl rfl rfl rfl (X_pu E S rfl rfl rfl (impl_KeyBy h0 (by omega) (by (first | omega | (simp; omega) | (simp; done) | (simp_all; omega) | grind))) (Hp.le.refl _) ?_)
                      clear E a S; rintro a v_169 w M_168 hM_168 hv_169 S E
                      replace h0 := h0.le hM_168
                      replace hw1 := hw1.le hM_168
                      replace hb_1 := hM_168.2 _ _ hb_1
                      replace hb_3 := hM_168.2 _ _ hb_3
                      replace hb_5 := hM_168.2 _ _ hb_5
                      replace hz_12 := hz_12.le hM_168
                      replace hv_14 := hv_14.le RP2_mono hM_168
                      replace hv_16 := hv_16.le hM_168
                      replace hz_41 := hz_41.le hM_168
                      replace hv_43 := hv_43.le hM_168
                      replace hz_63 := hz_63.le hM_168
                      replace hv_65 := hv_65.le hM_168
                      replace hv_133 := hv_133.le RP2_mono hM_168
                      replace hz_135 := hz_135.le RP2_mono hM_168
                      replace hv_139 := hv_139.le RP2_mono hM_168
                      replace hz_141 := hz_141.le RP2_mono hM_168
                      replace hv_145 := hv_145.le RP2_mono hM_168
                      replace hv_147 := hv_147.le RP2_mono hM_168
                      replace hv_151 := hv_151.le RP2_mono hM_168
                      replace hv_155 := hv_155.le RP2_mono hM_168
                      replace hv_159 := hv_159.le RP2_mono hM_168
                      replace hv_163 := hv_163.le RP2_mono hM_168
                      replace hv_167 := hv_167.le RP2_mono hM_168
                      refine ⟨fun x hq hb => (agree_le (hM_132.trans (hM_134.trans (hM_136.trans (hM_138.trans (hM_140.trans (hM_142.trans (hM_144.trans (hM_146.trans (hM_148.trans (hM_150.trans (hM_152.trans (hM_154.trans (hM_156.trans (hM_158.trans (hM_160.trans (hM_162.trans (hM_164.trans (hM_166.trans hM_168)))))))))))))))))) S.imm), ?_⟩
                      refine D_yes E rfl rfl rfl rfl (X_pu E S rfl rfl rfl (laws_eqPairs hv_167 hv_169) (Hp.le.refl _) ?_)
                      clear E a S; rintro a _ w M_170 hM_170 rfl S E
                      replace h0 := h0.le hM_170
                      replace hw1 := hw1.le hM_170
                      replace hb_1 := hM_170.2 _ _ hb_1
                      replace hb_3 := hM_170.2 _ _ hb_3
                      replace hb_5 := hM_170.2 _ _ hb_5
                      replace hz_12 := hz_12.le hM_170
                      replace hv_14 := hv_14.le RP2_mono hM_170
                      replace hv_16 := hv_16.le hM_170
                      replace hz_41 := hz_41.le hM_170
                      replace hv_43 := hv_43.le hM_170
                      replace hz_63 := hz_63.le hM_170
                      replace hv_65 := hv_65.le hM_170
                      replace hv_133 := hv_133.le RP2_mono hM_170
                      replace hz_135 := hz_135.le RP2_mono hM_170
                      replace hv_139 := hv_139.le RP2_mono hM_170
                      replace hz_141 := hz_141.le RP2_mono hM_170
                      replace hv_145 := hv_145.le RP2_mono hM_170
                      replace hv_147 := hv_147.le RP2_mono hM_170
                      replace hv_151 := hv_151.le RP2_mono hM_170
                      replace hv_155 := hv_155.le RP2_mono hM_170
                      replace hv_159 := hv_159.le RP2_mono hM_170
                      replace hv_163 := hv_163.le RP2_mono hM_170
                      replace hv_167 := hv_167.le RP2_mono hM_170
                      replace hv_169 := hv_169.le RP2_mono hM_170
                      refine ⟨fun x hq hb => (agree_le (hM_132.trans (hM_134.trans (hM_136.trans (hM_138.trans (hM_140.trans (hM_142.trans (hM_144.trans (hM_146.trans (hM_148.trans (hM_150.trans (hM_152.trans (hM_154.trans (hM_156.trans (hM_158.trans (hM_160.trans (hM_162.trans (hM_164.trans (hM_166.trans (hM_168.trans hM_170))))))))))))))))))) S.imm), ?_⟩
                      refine D_v E rfl rfl rfl (fun w hC => (R_pickT E rfl rfl)) ?_
                      clear E a; intro a E
                      refine D_v E rfl rfl rfl (fun w hC => (R_assign E rfl)) ?_
                      clear E a; intro a E
                      refine D_end (NoP_n ?_)
                      refine T_n ?_
                      refine WP_ret ?_
                      exact F_ret1 E Try.results6 rfl ⟨_, rfl, M_170, (hM_2.trans (hM_4.trans (hM_6.trans (hM_8.trans (hM_11.trans (hM_13.trans (hM_17.trans (hM_18.trans (hM_20.trans (hM_22.trans (hM_24.trans (hM_28.trans (hM_40.trans (hM_42.trans (hM_46.trans (hM_62.trans (hM_64.trans (hM_68.trans (hM_132.trans (hM_134.trans (hM_136.trans (hM_138.trans (hM_140.trans (hM_142.trans (hM_144.trans (hM_146.trans (hM_148.trans (hM_150.trans (hM_152.trans (hM_154.trans (hM_156.trans (hM_158.trans (hM_160.trans (hM_162.trans (hM_164.trans (hM_166.trans (hM_168.trans hM_170))))))))))))))))))))))))))))))))))))), (congrArg Value.bool (by (clear S E; first | (simp only [ixm, entE_one]; decide) | (simp; done) | decide | (simp [entE, mkE, ixm, srtK]; done) | (rw [eall]; simp; done) | (rw [esome]; simp; done) | (rw [keyBy_ix (by assumption) hr0]; simp; done) | (simp only [eall, esome]; simp; done)))), S⟩

end Go.Proofs.Ytahbobhbookehaa.wFnMaps
