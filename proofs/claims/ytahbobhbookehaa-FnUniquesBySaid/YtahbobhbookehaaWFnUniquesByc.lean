/- Walks through the functions that laws.FnUniquesBy reaches: what each computes; no conditions beyond what each theorem states. -/
import Derived.Test.YtahbobhbookehaaWFnUniquesByb
set_option linter.unusedVariables false
set_option linter.unusedSimpArgs false
namespace Go.Proofs.Ytahbobhbookehaa.wFnUniquesBy
open Go Go.Sl
set_option maxRecDepth 100000 in
set_option maxHeartbeats 4000000 in
theorem lo_UniqBy {M : Hp} {v0 : Value} {l0 : List Int} (h0 : RdI M v0 l0){v1 : Value} {f1 : Int → Int} (h1 : PF1I Try.prog v1 M f1) (hb : l0.length ≤ 1000000000000) :
    Pu Try.prog (.func (.func 85) #[] #[]) M [v0, v1] (fun r M' => RdI M' r ((uqS f1 l0).2)) := by
  refine Pu_enter Try.func85 rfl Try.ntmps85 rfl Try.call85 ?_
  intro a w M1 H hM1 S E
  replace h0 := h0.le hM1
  replace h1 := h1.le hM1
  have b0 := h0.bound
  have hul := uqS_len f1 l0
  refine WP_seq ?_
  refine WP_region ?_
  refine S_v E rfl (R_assign E rfl) rfl ?_
  clear E a; intro a E
  refine WL_nil ?_
  refine T_n ?_
  refine WP_seq ?_
  refine WP_region ?_
  refine S_v E rfl (R_move E rfl) rfl ?_
  clear E a; intro a E
  refine S_v E rfl (R_lenV E rfl T22 h0.len) rfl ?_
  clear E a; intro a E
  refine S_x (X_make0 (k := (l0).length) E S rfl rfl rfl T22 rfl (by omega) (by omega) (by omega) ?_)
  clear E a S; rintro a w v_1 E S
  replace S := S.made0
  refine S_v E rfl (R_assign E rfl) rfl ?_
  clear E a; intro a E
  refine WL_nil ?_
  refine T_n ?_
  refine WP_seq ?_
  refine WP_region ?_
  refine S_v E rfl (R_move E rfl) rfl ?_
  clear E a; intro a E
  refine S_v E rfl (R_lenV E rfl T22 h0.len) rfl ?_
  clear E a; intro a E
  refine S_x (X_makeMapR E S rfl MT140 rfl ?_)
  clear E a S; rintro a w b_2 E S
  replace S : St w M1 (OwnS b_2 ([] : List Int) :: _) := S
  refine S_v E rfl (R_assign E rfl) rfl ?_
  clear E a; intro a E
  refine WL_nil ?_
  refine T_n ?_
  refine WP_seq ?_
  refine WP_seq ?_
  refine WP_region ?_
  refine S_v E rfl (R_move E rfl) rfl ?_
  clear E a; intro a E
  refine S_v E rfl (R_lenV E rfl T22 h0.len) rfl ?_
  clear E a; intro a E
  refine S_v E rfl (R_move E rfl) rfl ?_
  clear E a; intro a E
  refine WL_nil ?_
  refine T_n ?_
  refine WP_block ?_
  replace S := S.front1
  replace S := S.front1
  replace S := S.reM (L' := (Sl.encS ((uqS f1 (l0.take 0)).1))) (congrArg Sl.encS (show ([] : List Int) = (uqS f1 (l0.take 0)).1 by first | (simp [uqS]; done) | (rw [uq1_in (by assumption) (by assumption)]; done) | (rw [uq1_out (by assumption) (by assumption)]; done) | (rw [uq1_out (by assumption) (by assumption), addS_new (by assumption)]; done)))
  replace S := S.front1
  replace S := S.re1 (l' := (uqS f1 (l0.take 0)).2) (by first | (simp [uqS]; done) | (rw [uq1_in (by assumption) (by assumption)]; done) | (rw [uq1_out (by assumption) (by assumption)]; done) | (rw [uq1_out (by assumption) (by assumption), addS_new (by assumption)]; done))
  refine WP_loop (γ := Nat) (fun (k : Nat) a w => ∃ (M_3 : Hp) (u5 : Value), Hp.le M1 M_3 ∧ St w M_3 (OwnI 3 u5 ((uqS f1 (l0.take k)).2) :: OwnS b_2 ((uqS f1 (l0.take k)).1) :: H) ∧ Env a 47 [] [(0, v0), (1, v1), (5, u5), (6, .map (some b_2)), (18, .int .i64 (((l0).length : Nat) : Int)), (19, .int .i64 ((k : Nat) : Int))] ∧ (k ≤ (l0).length)) (fun k => ((l0).length) - k) 0 ⟨M1, _, Hp.le.refl _, S, E.keep ⟨rfl, rfl, rfl, rfl, rfl, rfl, trivial⟩, by ((try clear S); (try clear E); first | assumption | omega | rfl | (simp; done) | (simp_all; done) | (simp [List.take_add_one, *]; done) | grind [List.take_add_one])⟩ ?_
  try clear E
  try clear S
  try clear a
  try clear w
  rintro k a w ⟨M_3, u5, hM_3, S, E, hL0_0⟩
  replace h0 := h0.le hM_3
  replace h1 := h1.le hM_3
  have hul := uqS_len f1 (l0.take k); rw [List.length_take] at hul
  refine WP_seq ?_
  refine WP_region ?_
  refine S_v E rfl (R_lss E rfl rfl) rfl ?_
  clear E a; intro a E
  refine WL_nil ?_
  refine T_n ?_
  refine WP_seq ?_
  refine WP_cond E rfl (fun hc_4 => ?_) (fun hc_4 => ?_)
  · replace hc_4 := of_decide_eq_true hc_4
    refine WP_skip ?_
    refine T_n ?_
    refine WP_seq ?_
    refine WP_block ?_
    refine WP_seq ?_
    refine WP_region ?_
    refine S_v E rfl (R_move E rfl) rfl ?_
    clear E a; intro a E
    refine S_v E rfl (R_assign E rfl) rfl ?_
    clear E a; intro a E
    refine WL_nil ?_
    refine T_n ?_
    refine WP_seq ?_
    refine WP_region ?_
    refine S_v E rfl (R_move E rfl) rfl ?_
    clear E a; intro a E
    refine S_v E rfl (R_move E rfl) rfl ?_
    clear E a; intro a E
    refine S_v E rfl (R_move E rfl) rfl ?_
    clear E a; intro a E
    obtain ⟨x_5, hx_5⟩ : ∃ x, (l0)[k]? = some x := ⟨_, List.getElem?_eq_getElem (by first | omega | (simp; done) | (simp; omega) | (simp_all; omega))⟩
    obtain ⟨p_6, hp_6, qp_6⟩ := h0.at hx_5
    refine S_v E rfl (R_idx E rfl rfl T22 hp_6 rfl) rfl ?_
    clear E a; intro a E
    refine S_v E rfl (R_loadM E rfl Try.isAgg3 S.imm qp_6) rfl ?_
    clear E a; intro a E
    refine S_x (X_pu E S rfl rfl rfl (h1.2 x_5) (Hp.le.refl _) ?_)
    clear E a S; rintro a _ w M_7 hM_7 rfl S E
    replace h0 := h0.le hM_7
    replace h1 := h1.le hM_7
    refine S_v E rfl (R_assign E rfl) rfl ?_
    clear E a; intro a E
    refine WL_nil ?_
    refine T_n ?_
    refine WP_seq ?_
    refine WP_seq ?_
    refine WP_region ?_
    refine S_v E rfl (R_move E rfl) rfl ?_
    clear E a; intro a E
    refine S_v E rfl (R_move E rfl) rfl ?_
    clear E a; intro a E
    replace S := S.front1
    refine S_x (X_lookupS E S rfl MT140 rfl rfl ?_)
    clear E a S; rintro a w E S
    replace S : St w M_7 (OwnS b_2 ((uqS f1 (l0.take k)).1) :: _) := S
    refine S_v E rfl (R_move E rfl) rfl ?_
    clear E a; intro a E
    refine S_v E rfl (R_extract E rfl rfl) rfl ?_
    clear E a; intro a E
    refine S_v E rfl (R_extract E rfl rfl) rfl ?_
    clear E a; intro a E
    refine S_x (X_alloc (cs := #[]) E S rfl Try.zeroValue141 rfl ?_)
    clear E a S; rintro a w b_8 E S
    refine S_x0 (X_storeG (us := []) E S rfl rfl (Try.sizeOf141 _) rfl (by intro u hu; cases hu) ?_)
    clear E a S; rintro a w E S
    replace S : St w M_7 (blk b_8 (.cells #[] 141) :: _) := S
    have S0 := S; clear S
    obtain ⟨M_9, hM_9, hb_10, S⟩ := S0.freezeB
    clear S0
    replace h0 := h0.le hM_9
    replace h1 := h1.le hM_9
    refine S_v E rfl (R_assign E rfl) rfl ?_
    clear E a; intro a E
    refine WL_nil ?_
    refine T_n ?_
    refine WP_seq ?_
    refine WP_region ?_
    refine S_v E rfl (R_move E rfl) rfl ?_
    clear E a; intro a E
    refine WL_nil ?_
    refine T_n ?_
    refine WP_cond E rfl (fun hc_11 => ?_) (fun hc_11 => ?_)
    · replace hc_11 := of_decide_eq_true hc_11
      refine WP_exit ?_
      refine T_x ?_
      refine B_x ?_
      refine T_n ?_
      refine WP_region ?_
      refine S_v E rfl (R_addx (m := ((k + 1 : Nat) : Int)) E rfl rfl (by omega) (by omega)) rfl ?_
      clear E a; intro a E
      refine S_v E rfl (R_move E rfl) rfl ?_
      clear E a; intro a E
      refine WL_nil ?_
      refine T_n ?_
      replace S := S.front1
      replace S := S.front1
      replace S := S.reM (L' := (Sl.encS ((uqS f1 (l0.take (k + 1))).1))) (congrArg Sl.encS (show (uqS f1 (l0.take k)).1 = (uqS f1 (l0.take (k + 1))).1 by first | (simp [uqS]; done) | (rw [uq1_in (by assumption) (by assumption)]; done) | (rw [uq1_out (by assumption) (by assumption)]; done) | (rw [uq1_out (by assumption) (by assumption), addS_new (by assumption)]; done)))
      replace S := S.front1
      replace S := S.re1 (l' := (uqS f1 (l0.take (k + 1))).2) (by first | (simp [uqS]; done) | (rw [uq1_in (by assumption) (by assumption)]; done) | (rw [uq1_out (by assumption) (by assumption)]; done) | (rw [uq1_out (by assumption) (by assumption), addS_new (by assumption)]; done))
      exact ⟨k + 1, ⟨M_9, _, (hM_3.trans (hM_7.trans hM_9)), S, E.keep ⟨rfl, rfl, rfl, rfl, rfl, rfl, trivial⟩, by ((try clear S); (try clear E); first | assumption | omega | rfl | (simp; done) | (simp_all; done) | (simp [List.take_add_one, *]; done) | grind [List.take_add_one])⟩, by omega⟩
    · replace hc_11 := of_decide_eq_false hc_11
      refine WP_skip ?_
      refine T_n ?_
      refine WP_seq ?_
      refine WP_region ?_
      refine S_v E rfl (R_move E rfl) rfl ?_
      clear E a; intro a E
      refine S_v E rfl (R_move E rfl) rfl ?_
      clear E a; intro a E
      refine S_v E rfl (R_build (u := .agg #[]) (vs := []) E rfl (fun w => FB141__  w)) rfl ?_
      clear E a; intro a E
      refine S_x0 (X_updateS E S MT140 rfl rfl rfl ?_)
      clear E a S; rintro a w E S
      refine WL_nil ?_
      refine T_n ?_
      refine WP_region ?_
      refine S_v E rfl (R_move E rfl) rfl ?_
      clear E a; intro a E
      refine S_v E rfl (R_move E rfl) rfl ?_
      clear E a; intro a E
      refine S_v E rfl (R_move E rfl) rfl ?_
      clear E a; intro a E
      obtain ⟨p_12, hp_12, qp_12⟩ := h0.at hx_5
      refine S_v E rfl (R_idx E rfl rfl T22 hp_12 rfl) rfl ?_
      clear E a; intro a E
      refine S_v E rfl (R_loadM E rfl Try.isAgg3 S.imm qp_12) rfl ?_
      clear E a; intro a E
      refine S_x (X_buildI (ys := [x_5]) E S rfl T22 rfl rfl rfl ?_)
      clear E a S; rintro a w v_13 E S
      replace S := S.front2
      replace S := S.front1
      refine S_x (X_appendB (xs := (uqS f1 (l0.take k)).2) (ys := [x_5]) E S rfl rfl rfl T22 (by (simp only [List.length_cons, List.length_nil] at *; omega)) ?_)
      clear E a S; rintro a w v_14 E S
      refine S_v E rfl (R_assign E rfl) rfl ?_
      clear E a; intro a E
      refine WL_nil ?_
      refine B_n ?_
      refine T_n ?_
      refine WP_region ?_
      refine S_v E rfl (R_addx (m := ((k + 1 : Nat) : Int)) E rfl rfl (by omega) (by omega)) rfl ?_
      clear E a; intro a E
      refine S_v E rfl (R_move E rfl) rfl ?_
      clear E a; intro a E
      refine WL_nil ?_
      refine T_n ?_
      replace S := S.front1
      replace S := S.reM (L' := (Sl.encS ((uqS f1 (l0.take (k + 1))).1))) (congrArg Sl.encS (show addS ((uqS f1 (l0.take k)).1) (f1 x_5) = (uqS f1 (l0.take (k + 1))).1 by first | (simp [uqS]; done) | (rw [uq1_in (by assumption) (by assumption)]; done) | (rw [uq1_out (by assumption) (by assumption)]; done) | (rw [uq1_out (by assumption) (by assumption), addS_new (by assumption)]; done)))
      replace S := S.front1
      replace S := S.re1 (l' := (uqS f1 (l0.take (k + 1))).2) (by first | (simp [uqS]; done) | (rw [uq1_in (by assumption) (by assumption)]; done) | (rw [uq1_out (by assumption) (by assumption)]; done) | (rw [uq1_out (by assumption) (by assumption), addS_new (by assumption)]; done))
      exact ⟨k + 1, ⟨M_9, _, (hM_3.trans (hM_7.trans hM_9)), S, E.keep ⟨rfl, rfl, rfl, rfl, rfl, rfl, trivial⟩, by ((try clear S); (try clear E); first | assumption | omega | rfl | (simp; done) | (simp_all; done) | (simp [List.take_add_one, *]; done) | grind [List.take_add_one])⟩, by omega⟩
  · replace hc_4 := of_decide_eq_false hc_4
    refine WP_exit ?_
    refine T_x ?_
    refine T_x ?_
    refine B_x ?_
    refine T_n ?_
    refine WP_seq ?_
    refine WP_region ?_
    refine S_v E rfl (R_move E rfl) rfl ?_
    clear E a; intro a E
    refine S_v E rfl (R_assign E rfl) rfl ?_
    clear E a; intro a E
    refine WL_nil ?_
    refine T_n ?_
    refine WP_ret ?_
    have S0 := S; clear S
    obtain ⟨M_15, hM_15, hz_16, S⟩ := S0.freezeI (by (have hul := uqS_len f1 (l0.take k); rw [List.length_take] at hul; omega))
    clear S0
    replace h0 := h0.le hM_15
    replace h1 := h1.le hM_15
    exact F_ret1 E Try.results85 rfl ⟨_, rfl, M_15, (hM_3.trans hM_15), (by rw [show ((uqS f1 l0).2) = ((uqS f1 (l0.take k)).2) from by (rw [List.take_of_length_le (by omega)])]; exact hz_16), S.drop⟩

set_option maxRecDepth 100000 in
set_option maxHeartbeats 4000000 in
theorem impl_mod {M : Hp} {x0 x1 : Int} (hn : x1 ≠ 0) (g1 : -9223372036854775808 ≤ x1 ∧ x1 ≤ 9223372036854775807) :
    Pu Try.prog (.func (.func 170) #[] #[]) M [.int .i64 x0, .int .i64 x1] (fun r M' => r = .int .i64 (x0 % x1)) := by
  refine Pu_enter Try.func170 rfl Try.ntmps170 rfl Try.call170 ?_
  intro a w M1 H hM1 S E
  have ht := tmod_emod x0 x1 hn
  refine WP_seq ?_
  refine WP_region ?_
  refine S_v E rfl (R_assign E rfl) rfl ?_
  clear E a; intro a E
  refine WL_nil ?_
  refine T_n ?_
  refine WP_seq ?_
  refine WP_region ?_
  refine S_v E rfl (R_move E rfl) rfl ?_
  clear E a; intro a E
  refine S_v E rfl (R_move E rfl) rfl ?_
  clear E a; intro a E
  refine S_v E rfl (R_rem E rfl rfl (by first | decide | omega)) rfl ?_
  clear E a; intro a E
  refine S_v E rfl (R_assign E rfl) rfl ?_
  clear E a; intro a E
  refine WL_nil ?_
  refine T_n ?_
  refine WP_seq ?_
  refine WP_seq ?_
  refine WP_region ?_
  refine S_v E rfl (R_move E rfl) rfl ?_
  clear E a; intro a E
  refine S_v E rfl (R_lss E rfl rfl) rfl ?_
  clear E a; intro a E
  refine WL_nil ?_
  refine T_n ?_
  refine WP_cond E rfl (fun hc_1 => ?_) (fun hc_1 => ?_)
  · replace hc_1 := of_decide_eq_true hc_1
    refine WP_seq ?_
    refine WP_seq ?_
    refine WP_region ?_
    refine S_v E rfl (R_move E rfl) rfl ?_
    clear E a; intro a E
    refine S_v E rfl (R_lss E rfl rfl) rfl ?_
    clear E a; intro a E
    refine WL_nil ?_
    refine T_n ?_
    refine WP_cond E rfl (fun hc_2 => ?_) (fun hc_2 => ?_)
    · replace hc_2 := of_decide_eq_true hc_2
      refine WP_seq ?_
      refine WP_region ?_
      refine S_v E rfl (R_move E rfl) rfl ?_
      clear E a; intro a E
      refine S_v E rfl (R_move E rfl) rfl ?_
      clear E a; intro a E
      refine S_v E rfl (R_subx (m := (Int.tmod x0 x1) - x1) E rfl rfl (by omega) (by omega)) rfl ?_
      clear E a; intro a E
      refine S_v E rfl (R_assign E rfl) rfl ?_
      clear E a; intro a E
      refine WL_nil ?_
      refine T_n ?_
      refine WP_ret ?_
      refine T_r ?_
      refine T_r ?_
      exact F_ret1 E Try.results170 rfl ⟨_, rfl, M1, (Hp.le.refl _), (congrArg (Value.int .i64) (by omega)), S⟩
    · replace hc_2 := of_decide_eq_false hc_2
      refine WP_skip ?_
      refine T_n ?_
      refine WP_seq ?_
      refine WP_region ?_
      refine S_v E rfl (R_move E rfl) rfl ?_
      clear E a; intro a E
      refine S_v E rfl (R_move E rfl) rfl ?_
      clear E a; intro a E
      refine S_v E rfl (R_addx (m := (Int.tmod x0 x1) + x1) E rfl rfl (by omega) (by omega)) rfl ?_
      clear E a; intro a E
      refine S_v E rfl (R_assign E rfl) rfl ?_
      clear E a; intro a E
      refine WL_nil ?_
      refine T_n ?_
      refine WP_ret ?_
      refine T_r ?_
      exact F_ret1 E Try.results170 rfl ⟨_, rfl, M1, (Hp.le.refl _), (congrArg (Value.int .i64) (by omega)), S⟩
  · replace hc_1 := of_decide_eq_false hc_1
    refine WP_skip ?_
    refine T_n ?_
    refine WP_seq ?_
    refine WP_region ?_
    refine S_v E rfl (R_move E rfl) rfl ?_
    clear E a; intro a E
    refine S_v E rfl (R_assign E rfl) rfl ?_
    clear E a; intro a E
    refine WL_nil ?_
    refine T_n ?_
    refine WP_ret ?_
    exact F_ret1 E Try.results170 rfl ⟨_, rfl, M1, (Hp.le.refl _), (congrArg (Value.int .i64) (by omega)), S⟩

set_option maxRecDepth 100000 in
set_option maxHeartbeats 4000000 in
theorem Key_at_c {M : Hp} {kk0 kn0 : Int} (gk0 : -9223372036854775808 ≤ kn0 ∧ kn0 ≤ 9223372036854775807){x1 x2 : Int} :
    PuC Try.prog 118 M [.agg #[.int .i64 kk0, .int .i64 kn0], .int .i64 x1, .int .i64 x2] (fun r M' => r = .int .i64 (keyAt kk0 kn0 x1 x2)) := by
  refine PuC_enter Try.func118 rfl Try.ntmps118 rfl ?_
  intro a w M1 H hM1 S E
  refine WP_seq ?_
  refine WP_region ?_
  refine S_x (X_box (cs := #[.int .i64 kk0, .int .i64 kn0]) E S rfl rfl rfl ?_)
  clear E a S; rintro a w b_1 E S
  obtain ⟨M_2, hM_2, hb_1, S⟩ := S.freezeB
  refine S_v E rfl (R_assign E rfl) rfl ?_
  clear E a; intro a E
  refine WL_nil ?_
  refine T_n ?_
  refine WP_seq ?_
  refine WP_seq ?_
  refine WP_region ?_
  refine S_v E rfl (R_fieldAddr E rfl (FA24_0 _)) rfl ?_
  clear E a; intro a E
  refine S_v E rfl (R_loadM E rfl Try.isAgg3 S.imm (cellM_boxo hb_1 rfl)) rfl ?_
  clear E a; intro a E
  refine WL_nil ?_
  refine T_n ?_
  refine WP_block ?_
  refine WP_seq ?_
  refine WP_region ?_
  refine S_v E rfl (R_eql E rfl rfl) rfl ?_
  clear E a; intro a E
  refine S_v E rfl (R_assign E rfl) rfl ?_
  clear E a; intro a E
  refine WL_nil ?_
  refine T_n ?_
  refine WP_cond E rfl (fun hc_3 => ?_) (fun hc_3 => ?_)
  · replace hc_3 := of_decide_eq_true hc_3
    refine WP_seq ?_
    refine WP_region ?_
    refine S_v E rfl (R_move E rfl) rfl ?_
    clear E a; intro a E
    refine S_v E rfl (R_fieldAddr E rfl (FA24_1 _)) rfl ?_
    clear E a; intro a E
    refine S_v E rfl (R_loadM E rfl Try.isAgg3 S.imm (cellM_boxo hb_1 rfl)) rfl ?_
    clear E a; intro a E
    refine S_v E rfl (R_add E rfl rfl) rfl ?_
    clear E a; intro a E
    refine S_v E rfl (R_assign E rfl) rfl ?_
    clear E a; intro a E
    refine WL_nil ?_
    refine T_n ?_
    refine WP_ret ?_
    refine B_r ?_
    refine T_r ?_
    exact F_ret1 E Try.results118 rfl ⟨_, rfl, M_2, hM_2, (congrArg (Value.int .i64) (by (clear E S; unfold keyAt w64; first | (simp [*]; done) | (simp_all; done)))), S⟩
  · replace hc_3 := of_decide_eq_false hc_3
    refine WP_seq ?_
    refine WP_region ?_
    refine S_v E rfl (R_eql E rfl rfl) rfl ?_
    clear E a; intro a E
    refine S_v E rfl (R_assign E rfl) rfl ?_
    clear E a; intro a E
    refine WL_nil ?_
    refine T_n ?_
    refine WP_cond E rfl (fun hc_4 => ?_) (fun hc_4 => ?_)
    · replace hc_4 := of_decide_eq_true hc_4
      refine WP_seq ?_
      refine WP_region ?_
      refine S_v E rfl (R_move E rfl) rfl ?_
      clear E a; intro a E
      refine S_v E rfl (R_fieldAddr E rfl (FA24_1 _)) rfl ?_
      clear E a; intro a E
      refine S_v E rfl (R_loadM E rfl Try.isAgg3 S.imm (cellM_boxo hb_1 rfl)) rfl ?_
      clear E a; intro a E
      refine S_v E rfl (R_mul E rfl rfl) rfl ?_
      clear E a; intro a E
      refine S_v E rfl (R_assign E rfl) rfl ?_
      clear E a; intro a E
      refine WL_nil ?_
      refine T_n ?_
      refine WP_ret ?_
      refine B_r ?_
      refine T_r ?_
      exact F_ret1 E Try.results118 rfl ⟨_, rfl, M_2, hM_2, (congrArg (Value.int .i64) (by (clear E S; unfold keyAt w64; first | (simp [*]; done) | (simp_all; done)))), S⟩
    · replace hc_4 := of_decide_eq_false hc_4
      refine WP_seq ?_
      refine WP_region ?_
      refine S_v E rfl (R_eql E rfl rfl) rfl ?_
      clear E a; intro a E
      refine S_v E rfl (R_assign E rfl) rfl ?_
      clear E a; intro a E
      refine WL_nil ?_
      refine T_n ?_
      refine WP_cond E rfl (fun hc_5 => ?_) (fun hc_5 => ?_)
      · replace hc_5 := of_decide_eq_true hc_5
        refine WP_seq ?_
        refine WP_region ?_
        refine S_v E rfl (R_fieldAddr E rfl (FA24_1 _)) rfl ?_
        clear E a; intro a E
        refine S_v E rfl (R_loadM E rfl Try.isAgg3 S.imm (cellM_boxo hb_1 rfl)) rfl ?_
        clear E a; intro a E
        refine S_v E rfl (R_neq E rfl rfl) rfl ?_
        clear E a; intro a E
        refine WL_nil ?_
        refine T_n ?_
        refine WP_cond E rfl (fun hc_6 => ?_) (fun hc_6 => ?_)
        · replace hc_6 := of_decide_eq_true hc_6
          refine WP_seq ?_
          refine WP_region ?_
          refine S_v E rfl (R_move E rfl) rfl ?_
          clear E a; intro a E
          refine S_v E rfl (R_fieldAddr E rfl (FA24_1 _)) rfl ?_
          clear E a; intro a E
          refine S_v E rfl (R_loadM E rfl Try.isAgg3 S.imm (cellM_boxo hb_1 rfl)) rfl ?_
          clear E a; intro a E
          refine S_x (X_pu E S rfl rfl rfl (impl_mod (by first | omega | assumption) (by omega)) (Hp.le.refl _) ?_)
          clear E a S; rintro a _ w M_7 hM_7 rfl S E
          replace hb_1 := hM_7.2 _ _ hb_1
          refine S_v E rfl (R_assign E rfl) rfl ?_
          clear E a; intro a E
          refine WL_nil ?_
          refine T_n ?_
          refine WP_ret ?_
          refine B_r ?_
          refine T_r ?_
          exact F_ret1 E Try.results118 rfl ⟨_, rfl, M_7, (hM_2.trans hM_7), (congrArg (Value.int .i64) (by (clear E S; unfold keyAt w64; first | (simp [*]; done) | (simp_all; done)))), S⟩
        · replace hc_6 := of_decide_eq_false hc_6
          refine WP_skip ?_
          refine B_n ?_
          refine T_n ?_
          refine WP_seq ?_
          refine WP_region ?_
          refine S_v E rfl (R_move E rfl) rfl ?_
          clear E a; intro a E
          refine S_v E rfl (R_assign E rfl) rfl ?_
          clear E a; intro a E
          refine WL_nil ?_
          refine T_n ?_
          refine WP_ret ?_
          exact F_ret1 E Try.results118 rfl ⟨_, rfl, M_2, hM_2, (congrArg (Value.int .i64) (by (clear E S; unfold keyAt w64; first | (simp [*]; done) | (simp_all; done)))), S⟩
      · replace hc_5 := of_decide_eq_false hc_5
        refine WP_seq ?_
        refine WP_region ?_
        refine S_v E rfl (R_eql E rfl rfl) rfl ?_
        clear E a; intro a E
        refine S_v E rfl (R_assign E rfl) rfl ?_
        clear E a; intro a E
        refine WL_nil ?_
        refine T_n ?_
        refine WP_cond E rfl (fun hc_8 => ?_) (fun hc_8 => ?_)
        · replace hc_8 := of_decide_eq_true hc_8
          refine WP_seq ?_
          refine WP_region ?_
          refine S_v E rfl (R_fieldAddr E rfl (FA24_1 _)) rfl ?_
          clear E a; intro a E
          refine S_v E rfl (R_loadM E rfl Try.isAgg3 S.imm (cellM_boxo hb_1 rfl)) rfl ?_
          clear E a; intro a E
          refine S_v E rfl (R_assign E rfl) rfl ?_
          clear E a; intro a E
          refine WL_nil ?_
          refine T_n ?_
          refine WP_ret ?_
          refine B_r ?_
          refine T_r ?_
          exact F_ret1 E Try.results118 rfl ⟨_, rfl, M_2, hM_2, (congrArg (Value.int .i64) (by (clear E S; unfold keyAt w64; first | (simp [*]; done) | (simp_all; done)))), S⟩
        · replace hc_8 := of_decide_eq_false hc_8
          refine WP_seq ?_
          refine WP_region ?_
          refine S_v E rfl (R_eql E rfl rfl) rfl ?_
          clear E a; intro a E
          refine S_v E rfl (R_assign E rfl) rfl ?_
          clear E a; intro a E
          refine WL_nil ?_
          refine T_n ?_
          refine WP_cond E rfl (fun hc_9 => ?_) (fun hc_9 => ?_)
          · replace hc_9 := of_decide_eq_true hc_9
            refine WP_seq ?_
            refine WP_region ?_
            refine S_v E rfl (R_move E rfl) rfl ?_
            clear E a; intro a E
            refine S_v E rfl (R_assign E rfl) rfl ?_
            clear E a; intro a E
            refine WL_nil ?_
            refine T_n ?_
            refine WP_ret ?_
            refine B_r ?_
            refine T_r ?_
            exact F_ret1 E Try.results118 rfl ⟨_, rfl, M_2, hM_2, (congrArg (Value.int .i64) (by (clear E S; unfold keyAt w64; first | (simp [*]; done) | (simp_all; done)))), S⟩
          · replace hc_9 := of_decide_eq_false hc_9
            refine WP_skip ?_
            refine B_n ?_
            refine T_n ?_
            refine WP_seq ?_
            refine WP_region ?_
            refine S_v E rfl (R_move E rfl) rfl ?_
            clear E a; intro a E
            refine S_v E rfl (R_assign E rfl) rfl ?_
            clear E a; intro a E
            refine WL_nil ?_
            refine T_n ?_
            refine WP_ret ?_
            exact F_ret1 E Try.results118 rfl ⟨_, rfl, M_2, hM_2, (congrArg (Value.int .i64) (by (clear E S; unfold keyAt w64; first | (simp [*]; done) | (simp_all; done)))), S⟩
theorem Key_at {M : Hp} {kk0 kn0 : Int} (gk0 : -9223372036854775808 ≤ kn0 ∧ kn0 ≤ 9223372036854775807){x1 x2 : Int} :
    Pu Try.prog (.func (.func 118) #[.agg #[.int .i64 kk0, .int .i64 kn0]] #[]) M [.int .i64 x1, .int .i64 x2] (fun r M' => r = .int .i64 (keyAt kk0 kn0 x1 x2)) := PuC.pu Try.call118 rfl (Key_at_c gk0)
theorem Key_at_d {M : Hp} {kk0 kn0 : Int} (gk0 : -9223372036854775808 ≤ kn0 ∧ kn0 ≤ 9223372036854775807){x1 x2 : Int} :
    Pu Try.prog (.func (.func 118) #[] #[]) M [.agg #[.int .i64 kk0, .int .i64 kn0], .int .i64 x1, .int .i64 x2] (fun r M' => r = .int .i64 (keyAt kk0 kn0 x1 x2)) := PuC.pu Try.call118 rfl (Key_at_c gk0)

set_option maxRecDepth 100000 in
set_option maxHeartbeats 4000000 in
theorem Key_of_c {M : Hp} {kk0 kn0 : Int} (gk0 : -9223372036854775808 ≤ kn0 ∧ kn0 ≤ 9223372036854775807){x1 : Int} :
    PuC Try.prog 86 M [.agg #[.int .i64 kk0, .int .i64 kn0], .int .i64 x1] (fun r M' => r = .int .i64 (keyAt kk0 kn0 x1 0)) := by
  refine PuC_enter Try.func86 rfl Try.ntmps86 rfl ?_
  intro a w M1 H hM1 S E
  refine WP_seq ?_
  refine WP_region ?_
  refine S_x (X_box (cs := #[.int .i64 kk0, .int .i64 kn0]) E S rfl rfl rfl ?_)
  clear E a S; rintro a w b_1 E S
  obtain ⟨M_2, hM_2, hb_1, S⟩ := S.freezeB
  refine S_v E rfl (R_assign E rfl) rfl ?_
  clear E a; intro a E
  refine WL_nil ?_
  refine T_n ?_
  refine WP_seq ?_
  refine WP_region ?_
  refine S_v E rfl (R_loadGM E rfl (Try.isAgg24 _) (Try.sizeOf24 _) S.imm hb_1) rfl ?_
  clear E a; intro a E
  refine S_v E rfl (R_move E rfl) rfl ?_
  clear E a; intro a E
  refine S_x (X_pu E S rfl rfl rfl (Key_at_d (by omega)) (Hp.le.refl _) ?_)
  clear E a S; rintro a _ w M_3 hM_3 rfl S E
  replace hb_1 := hM_3.2 _ _ hb_1
  refine S_v E rfl (R_assign E rfl) rfl ?_
  clear E a; intro a E
  refine WL_nil ?_
  refine T_n ?_
  refine WP_ret ?_
  exact F_ret1 E Try.results86 rfl ⟨_, rfl, M_3, (hM_2.trans hM_3), rfl, S⟩
theorem Key_of {M : Hp} {kk0 kn0 : Int} (gk0 : -9223372036854775808 ≤ kn0 ∧ kn0 ≤ 9223372036854775807){x1 : Int} :
    Pu Try.prog (.func (.func 86) #[.agg #[.int .i64 kk0, .int .i64 kn0]] #[]) M [.int .i64 x1] (fun r M' => r = .int .i64 (keyAt kk0 kn0 x1 0)) := PuC.pu Try.call86 rfl (Key_of_c gk0)
theorem Key_of_d {M : Hp} {kk0 kn0 : Int} (gk0 : -9223372036854775808 ≤ kn0 ∧ kn0 ≤ 9223372036854775807){x1 : Int} :
    Pu Try.prog (.func (.func 86) #[] #[]) M [.agg #[.int .i64 kk0, .int .i64 kn0], .int .i64 x1] (fun r M' => r = .int .i64 (keyAt kk0 kn0 x1 0)) := PuC.pu Try.call86 rfl (Key_of_c gk0)

set_option maxRecDepth 100000 in
set_option maxHeartbeats 4000000 in
theorem impl_UniqBy {M : Hp} {v0 : Value} {l0 : List Int} (h0 : RdI M v0 l0){kk1 kn1 : Int} (gk1 : -9223372036854775808 ≤ kn1 ∧ kn1 ≤ 9223372036854775807) (hb : l0.length ≤ 1000000000000) :
    Pu Try.prog (.func (.func 11) #[] #[]) M [v0, .agg #[.int .i64 kk1, .int .i64 kn1]] (fun r M' => RdI M' r ((uqS (fun x => keyAt kk1 kn1 x 0) l0).2)) := by
  refine Pu_enter Try.func11 rfl Try.ntmps11 rfl Try.call11 ?_
  intro a w M1 H hM1 S E
  replace h0 := h0.le hM1
  have b0 := h0.bound
  have hul := uqS_len (fun x => keyAt kk1 kn1 x 0) l0
  refine WP_seq ?_
  refine WP_region ?_
  refine S_x (X_box (cs := #[.int .i64 kk1, .int .i64 kn1]) E S rfl rfl rfl ?_)
  clear E a S; rintro a w b_1 E S
  obtain ⟨M_2, hM_2, hb_1, S⟩ := S.freezeB
  replace h0 := h0.le hM_2
  refine S_v E rfl (R_assign E rfl) rfl ?_
  clear E a; intro a E
  refine WL_nil ?_
  refine T_n ?_
  refine WP_seq ?_
  refine WP_region ?_
  refine S_v E rfl (R_move E rfl) rfl ?_
  clear E a; intro a E
  refine S_v E rfl (R_loadGM E rfl (Try.isAgg24 _) (Try.sizeOf24 _) S.imm hb_1) rfl ?_
  clear E a; intro a E
  refine S_v E rfl (R_makeFunc E rfl rfl) rfl ?_
  clear E a; intro a E
  refine S_x (X_pu E S rfl rfl rfl (lo_UniqBy h0 ⟨rfl, fun zx1 => Key_of (x1 := zx1) (by omega)⟩ (by (first | omega | (simp; omega) | (simp; done) | (simp_all; omega) | grind))) (Hp.le.refl _) ?_)
  clear E a S; rintro a v_4 w M_3 hM_3 hv_4 S E
  replace h0 := h0.le hM_3
  replace hb_1 := hM_3.2 _ _ hb_1
  refine S_v E rfl (R_assign E rfl) rfl ?_
  clear E a; intro a E
  refine WL_nil ?_
  refine T_n ?_
  refine WP_ret ?_
  exact F_ret1 E Try.results11 rfl ⟨_, rfl, M_3, (hM_2.trans hM_3), hv_4, S⟩

set_option maxRecDepth 100000 in
set_option maxHeartbeats 4000000 in
theorem laws_few {M : Hp} {v0 : Value} {l0 : List (List Int)} (h0 : RdII M v0 l0) :
    Pu Try.prog (.func (.func 12) #[] #[]) M [v0] (fun r M' => r = .bool (decide (∀ x ∈ l0, x.length ≤ 300))) := by
  refine Pu_enter Try.func12 rfl Try.ntmps12 rfl Try.call12 ?_
  intro a w M1 H hM1 S E
  replace h0 := h0.le hM1
  have b0 := h0.bound
  refine WP_seq ?_
  refine WP_region ?_
  refine S_v E rfl (R_assign E rfl) rfl ?_
  clear E a; intro a E
  refine WL_nil ?_
  refine T_n ?_
  refine WP_seq ?_
  refine WP_seq ?_
  refine WP_region ?_
  refine S_v E rfl (R_move E rfl) rfl ?_
  clear E a; intro a E
  refine S_v E rfl (R_lenV E rfl T39 h0.len) rfl ?_
  clear E a; intro a E
  refine S_v E rfl (R_move E rfl) rfl ?_
  clear E a; intro a E
  refine WL_nil ?_
  refine T_n ?_
  refine WP_block ?_
  refine WP_loop (γ := Nat) (fun (k : Nat) a w => ∃ (M_1 : Hp), Hp.le M1 M_1 ∧ St w M_1 (H) ∧ Env a 15 [] [(5, v0), (6, .int .i64 (((l0).length : Nat) : Int)), (7, .int .i64 ((k : Nat) : Int))] ∧ (k ≤ (l0).length) ∧ (∀ x ∈ l0.take k, x.length ≤ 300)) (fun k => ((l0).length) - k) 0 ⟨M1, Hp.le.refl _, S, E.keep ⟨rfl, rfl, rfl, trivial⟩, by ((try clear S); (try clear E); first | assumption | omega | rfl | (simp; done) | (simp_all; done) | (simp [List.take_add_one, *]; done) | grind [List.take_add_one]), by ((try clear S); (try clear E); first | assumption | omega | rfl | (simp; done) | (simp_all; done) | (simp [List.take_add_one, *]; done) | grind [List.take_add_one])⟩ ?_
  try clear E
  try clear S
  try clear a
  try clear w
  rintro k a w ⟨M_1, hM_1, S, E, hL0_0, hL0_1⟩
  replace h0 := h0.le hM_1
  refine WP_seq ?_
  refine WP_region ?_
  refine S_v E rfl (R_lss E rfl rfl) rfl ?_
  clear E a; intro a E
  refine WL_nil ?_
  refine T_n ?_
  refine WP_seq ?_
  refine WP_cond E rfl (fun hc_2 => ?_) (fun hc_2 => ?_)
  · replace hc_2 := of_decide_eq_true hc_2
    refine WP_skip ?_
    refine T_n ?_
    refine WP_seq ?_
    refine WP_block ?_
    refine WP_seq ?_
    refine WP_region ?_
    obtain ⟨x_3, hx_3⟩ : ∃ x, (l0)[k]? = some x := ⟨_, List.getElem?_eq_getElem (by first | omega | (simp; done) | (simp; omega) | (simp_all; omega))⟩
    obtain ⟨p_4, u_5, hp_4, qp_4, hu_5⟩ := h0.at hx_3
    have bu_5 := hu_5.bound
    refine S_v E rfl (R_idx E rfl rfl T39 hp_4 rfl) rfl ?_
    clear E a; intro a E
    refine S_v E rfl (R_loadM E rfl Try.isAgg22 S.imm qp_4) rfl ?_
    clear E a; intro a E
    refine S_v E rfl (R_assign E rfl) rfl ?_
    clear E a; intro a E
    refine WL_nil ?_
    refine T_n ?_
    refine WP_seq ?_
    refine WP_region ?_
    refine S_v E rfl (R_move E rfl) rfl ?_
    clear E a; intro a E
    refine S_v E rfl (R_lenV E rfl T22 hu_5.len) rfl ?_
    clear E a; intro a E
    refine S_v E rfl (R_gtr E rfl rfl) rfl ?_
    clear E a; intro a E
    refine WL_nil ?_
    refine T_n ?_
    refine WP_cond E rfl (fun hc_6 => ?_) (fun hc_6 => ?_)
    · replace hc_6 := of_decide_eq_true hc_6
      refine WP_seq ?_
      refine WP_region ?_
      refine S_v E rfl (R_assign E rfl) rfl ?_
      clear E a; intro a E
      refine WL_nil ?_
      refine T_n ?_
      refine WP_ret ?_
      refine B_r ?_
      refine T_r ?_
      refine T_r ?_
      refine B_r ?_
      refine T_r ?_
      exact F_ret1 E Try.results12 rfl ⟨_, rfl, M_1, hM_1, (bF (by ((try clear S); (try clear E); first | assumption | omega | rfl | (simp; done) | (simp_all; done) | (simp [List.take_add_one, *]; done) | grind [List.take_add_one]))), S⟩
    · replace hc_6 := of_decide_eq_false hc_6
      refine WP_skip ?_
      refine B_n ?_
      refine T_n ?_
      refine WP_region ?_
      refine S_v E rfl (R_addx (m := ((k + 1 : Nat) : Int)) E rfl rfl (by omega) (by omega)) rfl ?_
      clear E a; intro a E
      refine S_v E rfl (R_move E rfl) rfl ?_
      clear E a; intro a E
      refine WL_nil ?_
      refine T_n ?_
      exact ⟨k + 1, ⟨M_1, hM_1, S, E.keep ⟨rfl, rfl, rfl, trivial⟩, by ((try clear S); (try clear E); first | assumption | omega | rfl | (simp; done) | (simp_all; done) | (simp [List.take_add_one, *]; done) | grind [List.take_add_one]), by ((try clear S); (try clear E); first | assumption | omega | rfl | (simp; done) | (simp_all; done) | (simp [List.take_add_one, *]; done) | grind [List.take_add_one])⟩, by omega⟩
  · replace hc_2 := of_decide_eq_false hc_2
    refine WP_exit ?_
    refine T_x ?_
    refine T_x ?_
    refine B_x ?_
    refine T_n ?_
    refine WP_seq ?_
    refine WP_region ?_
    refine S_v E rfl (R_assign E rfl) rfl ?_
    clear E a; intro a E
    refine WL_nil ?_
    refine T_n ?_
    refine WP_ret ?_
    exact F_ret1 E Try.results12 rfl ⟨_, rfl, M_1, hM_1, (bT (by ((try clear S); (try clear E); first | assumption | omega | rfl | (simp; done) | (simp_all; done) | (simp [List.take_add_one, *]; done) | grind [List.take_add_one]))), S⟩

set_option maxRecDepth 100000 in
set_option maxHeartbeats 4000000 in
theorem laws_just {M : Hp} {kk0 kn0 : Int} (gk0 : -9223372036854775808 ≤ kn0 ∧ kn0 ≤ 9223372036854775807) :
    Pu Try.prog (.func (.func 13) #[] #[]) M [.agg #[.int .i64 kk0, .int .i64 kn0]] (fun r M' => r = .bool (decide (-1099511627776 < kn0 ∧ kn0 < 1099511627776))) := by
  refine Pu_enter Try.func13 rfl Try.ntmps13 rfl Try.call13 ?_
  intro a w M1 H hM1 S E
  refine WP_seq ?_
  refine WP_region ?_
  refine S_x (X_box (cs := #[.int .i64 kk0, .int .i64 kn0]) E S rfl rfl rfl ?_)
  clear E a S; rintro a w b_1 E S
  obtain ⟨M_2, hM_2, hb_1, S⟩ := S.freezeB
  refine S_v E rfl (R_assign E rfl) rfl ?_
  clear E a; intro a E
  refine WL_nil ?_
  refine T_n ?_
  refine WP_seq ?_
  refine WP_region ?_
  refine S_v E rfl (R_fieldAddr E rfl (FA24_1 _)) rfl ?_
  clear E a; intro a E
  refine S_v E rfl (R_loadM E rfl Try.isAgg3 S.imm (cellM_boxo hb_1 rfl)) rfl ?_
  clear E a; intro a E
  refine S_v E rfl (R_gtr E rfl rfl) rfl ?_
  clear E a; intro a E
  refine S_v E rfl (R_move E rfl) rfl ?_
  clear E a; intro a E
  refine split_bool (decide ((-1099511627776) < kn0)) (fun hc_3 => ?_) (fun hc_3 => ?_)
  · replace E := E.val (t := 5) rfl hc_3
    replace E := E.val (t := 6) rfl hc_3
    replace hc_3 := of_decide_eq_true hc_3
    refine WL_guard_yes E rfl rfl ?_
    refine S_v E rfl (R_fieldAddr E rfl (FA24_1 _)) rfl ?_
    clear E a; intro a E
    refine WL_guard_yes E rfl rfl ?_
    refine S_v E rfl (R_loadM E rfl Try.isAgg3 S.imm (cellM_boxo hb_1 rfl)) rfl ?_
    clear E a; intro a E
    refine WL_guard_yes E rfl rfl ?_
    refine S_v E rfl (R_lss E rfl rfl) rfl ?_
    clear E a; intro a E
    refine S_v E rfl (R_pickT E rfl rfl) rfl ?_
    clear E a; intro a E
    refine S_v E rfl (R_assign E rfl) rfl ?_
    clear E a; intro a E
    refine WL_nil ?_
    refine T_n ?_
    refine WP_ret ?_
    exact F_ret1 E Try.results13 rfl ⟨_, rfl, M_2, hM_2, (congrArg Value.bool (by ((try clear S); (try clear E); first | assumption | omega | rfl | (simp; done) | (simp_all; done) | (simp [List.take_add_one, *]; done) | grind [List.take_add_one]))), S⟩
  · replace E := E.val (t := 5) rfl hc_3
    replace E := E.val (t := 6) rfl hc_3
    replace hc_3 := of_decide_eq_false hc_3
    refine WL_guard_no E rfl rfl rfl rfl fun a E => ?_
    refine WL_guard_no E rfl rfl rfl rfl fun a E => ?_
    refine WL_guard_no E rfl rfl rfl rfl fun a E => ?_
    refine S_v E rfl (R_pickF E rfl rfl) rfl ?_
    clear E a; intro a E
    refine S_v E rfl (R_assign E rfl) rfl ?_
    clear E a; intro a E
    refine WL_nil ?_
    refine T_n ?_
    refine WP_ret ?_
    exact F_ret1 E Try.results13 rfl ⟨_, rfl, M_2, hM_2, (bF (by ((try clear S); (try clear E); first | assumption | omega | rfl | (simp; done) | (simp_all; done) | (simp [List.take_add_one, *]; done) | grind [List.take_add_one]))), S⟩

set_option maxRecDepth 100000 in
set_option maxHeartbeats 4000000 in
theorem laws_modulo {M : Hp} {x0 x1 : Int} (hn : x1 ≠ 0) (g1 : -1099511627776 < x1 ∧ x1 < 1099511627776) :
    Pu Try.prog (.func (.func 87) #[] #[]) M [.int .i64 x0, .int .i64 x1] (fun r M' => r = .int .i64 (x0 % x1)) := by
  refine Pu_enter Try.func87 rfl Try.ntmps87 rfl Try.call87 ?_
  intro a w M1 H hM1 S E
  have ht := tmod_emod x0 x1 hn
  have ht2 := tmod_emod x0 (-x1) (by omega)
  have he : x0 % (-x1) = x0 % x1 := Int.emod_neg ..
  refine WP_seq ?_
  refine WP_region ?_
  refine S_v E rfl (R_assign E rfl) rfl ?_
  clear E a; intro a E
  refine WL_nil ?_
  refine T_n ?_
  refine WP_seq ?_
  refine WP_seq ?_
  refine WP_region ?_
  refine S_v E rfl (R_move E rfl) rfl ?_
  clear E a; intro a E
  refine S_v E rfl (R_lss E rfl rfl) rfl ?_
  clear E a; intro a E
  refine WL_nil ?_
  refine T_n ?_
  refine WP_cond E rfl (fun hc_1 => ?_) (fun hc_1 => ?_)
  · replace hc_1 := of_decide_eq_true hc_1
    refine WP_region ?_
    refine S_v E rfl (R_move E rfl) rfl ?_
    clear E a; intro a E
    refine S_v E rfl (R_negx (m := -x1) E rfl rfl (by omega)) rfl ?_
    clear E a; intro a E
    refine S_v E rfl (R_assign E rfl) rfl ?_
    clear E a; intro a E
    refine WL_nil ?_
    refine T_n ?_
    refine WP_seq ?_
    refine WP_region ?_
    refine S_v E rfl (R_move E rfl) rfl ?_
    clear E a; intro a E
    refine S_v E rfl (R_move E rfl) rfl ?_
    clear E a; intro a E
    refine S_v E rfl (R_rem E rfl rfl (by first | decide | omega)) rfl ?_
    clear E a; intro a E
    refine S_v E rfl (R_assign E rfl) rfl ?_
    clear E a; intro a E
    refine WL_nil ?_
    refine T_n ?_
    refine WP_seq ?_
    refine WP_seq ?_
    refine WP_region ?_
    refine S_v E rfl (R_move E rfl) rfl ?_
    clear E a; intro a E
    refine S_v E rfl (R_lss E rfl rfl) rfl ?_
    clear E a; intro a E
    refine WL_nil ?_
    refine T_n ?_
    refine WP_cond E rfl (fun hc_2 => ?_) (fun hc_2 => ?_)
    · replace hc_2 := of_decide_eq_true hc_2
      refine WP_region ?_
      refine S_v E rfl (R_move E rfl) rfl ?_
      clear E a; intro a E
      refine S_v E rfl (R_move E rfl) rfl ?_
      clear E a; intro a E
      refine S_v E rfl (R_addx (m := (Int.tmod x0 (-x1)) + (-x1)) E rfl rfl (by omega) (by omega)) rfl ?_
      clear E a; intro a E
      refine S_v E rfl (R_assign E rfl) rfl ?_
      clear E a; intro a E
      refine WL_nil ?_
      refine T_n ?_
      refine WP_seq ?_
      refine WP_region ?_
      refine S_v E rfl (R_move E rfl) rfl ?_
      clear E a; intro a E
      refine S_v E rfl (R_assign E rfl) rfl ?_
      clear E a; intro a E
      refine WL_nil ?_
      refine T_n ?_
      refine WP_ret ?_
      exact F_ret1 E Try.results87 rfl ⟨_, rfl, M1, (Hp.le.refl _), (congrArg (Value.int .i64) (by omega)), S⟩
    · replace hc_2 := of_decide_eq_false hc_2
      refine WP_skip ?_
      refine T_n ?_
      refine WP_seq ?_
      refine WP_region ?_
      refine S_v E rfl (R_move E rfl) rfl ?_
      clear E a; intro a E
      refine S_v E rfl (R_assign E rfl) rfl ?_
      clear E a; intro a E
      refine WL_nil ?_
      refine T_n ?_
      refine WP_ret ?_
      exact F_ret1 E Try.results87 rfl ⟨_, rfl, M1, (Hp.le.refl _), (congrArg (Value.int .i64) (by omega)), S⟩
  · replace hc_1 := of_decide_eq_false hc_1
    refine WP_skip ?_
    refine T_n ?_
    refine WP_seq ?_
    refine WP_region ?_
    refine S_v E rfl (R_move E rfl) rfl ?_
    clear E a; intro a E
    refine S_v E rfl (R_move E rfl) rfl ?_
    clear E a; intro a E
    refine S_v E rfl (R_rem E rfl rfl (by first | decide | omega)) rfl ?_
    clear E a; intro a E
    refine S_v E rfl (R_assign E rfl) rfl ?_
    clear E a; intro a E
    refine WL_nil ?_
    refine T_n ?_
    refine WP_seq ?_
    refine WP_seq ?_
    refine WP_region ?_
    refine S_v E rfl (R_move E rfl) rfl ?_
    clear E a; intro a E
    refine S_v E rfl (R_lss E rfl rfl) rfl ?_
    clear E a; intro a E
    refine WL_nil ?_
    refine T_n ?_
    refine WP_cond E rfl (fun hc_3 => ?_) (fun hc_3 => ?_)
    · replace hc_3 := of_decide_eq_true hc_3
      refine WP_region ?_
      refine S_v E rfl (R_move E rfl) rfl ?_
      clear E a; intro a E
      refine S_v E rfl (R_move E rfl) rfl ?_
      clear E a; intro a E
      refine S_v E rfl (R_addx (m := (Int.tmod x0 x1) + x1) E rfl rfl (by omega) (by omega)) rfl ?_
      clear E a; intro a E
      refine S_v E rfl (R_assign E rfl) rfl ?_
      clear E a; intro a E
      refine WL_nil ?_
      refine T_n ?_
      refine WP_seq ?_
      refine WP_region ?_
      refine S_v E rfl (R_move E rfl) rfl ?_
      clear E a; intro a E
      refine S_v E rfl (R_assign E rfl) rfl ?_
      clear E a; intro a E
      refine WL_nil ?_
      refine T_n ?_
      refine WP_ret ?_
      exact F_ret1 E Try.results87 rfl ⟨_, rfl, M1, (Hp.le.refl _), (congrArg (Value.int .i64) (by omega)), S⟩
    · replace hc_3 := of_decide_eq_false hc_3
      refine WP_skip ?_
      refine T_n ?_
      refine WP_seq ?_
      refine WP_region ?_
      refine S_v E rfl (R_move E rfl) rfl ?_
      clear E a; intro a E
      refine S_v E rfl (R_assign E rfl) rfl ?_
      clear E a; intro a E
      refine WL_nil ?_
      refine T_n ?_
      refine WP_ret ?_
      exact F_ret1 E Try.results87 rfl ⟨_, rfl, M1, (Hp.le.refl _), (congrArg (Value.int .i64) (by omega)), S⟩

set_option maxRecDepth 100000 in
set_option maxHeartbeats 4000000 in
theorem laws_stands {M : Hp} {kk0 kn0 : Int} (gk0 : -1099511627776 < kn0 ∧ kn0 < 1099511627776){x1 x2 : Int} :
    Pu Try.prog (.func (.func 14) #[] #[]) M [.agg #[.int .i64 kk0, .int .i64 kn0], .int .i64 x1, .int .i64 x2] (fun r M' => r = .int .i64 (keyAt kk0 kn0 x1 x2)) := by
  refine Pu_enter Try.func14 rfl Try.ntmps14 rfl Try.call14 ?_
  intro a w M1 H hM1 S E
  refine WP_seq ?_
  refine WP_region ?_
  refine S_x (X_box (cs := #[.int .i64 kk0, .int .i64 kn0]) E S rfl rfl rfl ?_)
  clear E a S; rintro a w b_1 E S
  obtain ⟨M_2, hM_2, hb_1, S⟩ := S.freezeB
  refine S_v E rfl (R_assign E rfl) rfl ?_
  clear E a; intro a E
  refine WL_nil ?_
  refine T_n ?_
  refine WP_seq ?_
  refine WP_seq ?_
  refine WP_region ?_
  refine S_v E rfl (R_fieldAddr E rfl (FA24_0 _)) rfl ?_
  clear E a; intro a E
  refine S_v E rfl (R_loadM E rfl Try.isAgg3 S.imm (cellM_boxo hb_1 rfl)) rfl ?_
  clear E a; intro a E
  refine WL_nil ?_
  refine T_n ?_
  refine WP_block ?_
  refine WP_seq ?_
  refine WP_region ?_
  refine S_v E rfl (R_eql E rfl rfl) rfl ?_
  clear E a; intro a E
  refine S_v E rfl (R_assign E rfl) rfl ?_
  clear E a; intro a E
  refine WL_nil ?_
  refine T_n ?_
  refine WP_cond E rfl (fun hc_3 => ?_) (fun hc_3 => ?_)
  · replace hc_3 := of_decide_eq_true hc_3
    refine WP_seq ?_
    refine WP_region ?_
    refine S_v E rfl (R_move E rfl) rfl ?_
    clear E a; intro a E
    refine S_v E rfl (R_fieldAddr E rfl (FA24_1 _)) rfl ?_
    clear E a; intro a E
    refine S_v E rfl (R_loadM E rfl Try.isAgg3 S.imm (cellM_boxo hb_1 rfl)) rfl ?_
    clear E a; intro a E
    refine S_v E rfl (R_add E rfl rfl) rfl ?_
    clear E a; intro a E
    refine S_v E rfl (R_assign E rfl) rfl ?_
    clear E a; intro a E
    refine WL_nil ?_
    refine T_n ?_
    refine WP_ret ?_
    refine B_r ?_
    refine T_r ?_
    exact F_ret1 E Try.results14 rfl ⟨_, rfl, M_2, hM_2, (congrArg (Value.int .i64) (by (clear E S; unfold keyAt w64; first | (simp [*]; done) | (simp_all; done)))), S⟩
  · replace hc_3 := of_decide_eq_false hc_3
    refine WP_seq ?_
    refine WP_region ?_
    refine S_v E rfl (R_eql E rfl rfl) rfl ?_
    clear E a; intro a E
    refine S_v E rfl (R_assign E rfl) rfl ?_
    clear E a; intro a E
    refine WL_nil ?_
    refine T_n ?_
    refine WP_cond E rfl (fun hc_4 => ?_) (fun hc_4 => ?_)
    · replace hc_4 := of_decide_eq_true hc_4
      refine WP_seq ?_
      refine WP_region ?_
      refine S_v E rfl (R_move E rfl) rfl ?_
      clear E a; intro a E
      refine S_v E rfl (R_fieldAddr E rfl (FA24_1 _)) rfl ?_
      clear E a; intro a E
      refine S_v E rfl (R_loadM E rfl Try.isAgg3 S.imm (cellM_boxo hb_1 rfl)) rfl ?_
      clear E a; intro a E
      refine S_v E rfl (R_mul E rfl rfl) rfl ?_
      clear E a; intro a E
      refine S_v E rfl (R_assign E rfl) rfl ?_
      clear E a; intro a E
      refine WL_nil ?_
      refine T_n ?_
      refine WP_ret ?_
      refine B_r ?_
      refine T_r ?_
      exact F_ret1 E Try.results14 rfl ⟨_, rfl, M_2, hM_2, (congrArg (Value.int .i64) (by (clear E S; unfold keyAt w64; first | (simp [*]; done) | (simp_all; done)))), S⟩
    · replace hc_4 := of_decide_eq_false hc_4
      refine WP_seq ?_
      refine WP_region ?_
      refine S_v E rfl (R_eql E rfl rfl) rfl ?_
      clear E a; intro a E
      refine S_v E rfl (R_assign E rfl) rfl ?_
      clear E a; intro a E
      refine WL_nil ?_
      refine T_n ?_
      refine WP_cond E rfl (fun hc_5 => ?_) (fun hc_5 => ?_)
      · replace hc_5 := of_decide_eq_true hc_5
        refine WP_seq ?_
        refine WP_region ?_
        refine S_v E rfl (R_fieldAddr E rfl (FA24_1 _)) rfl ?_
        clear E a; intro a E
        refine S_v E rfl (R_loadM E rfl Try.isAgg3 S.imm (cellM_boxo hb_1 rfl)) rfl ?_
        clear E a; intro a E
        refine S_v E rfl (R_neq E rfl rfl) rfl ?_
        clear E a; intro a E
        refine WL_nil ?_
        refine T_n ?_
        refine WP_cond E rfl (fun hc_6 => ?_) (fun hc_6 => ?_)
        · replace hc_6 := of_decide_eq_true hc_6
          refine WP_seq ?_
          refine WP_region ?_
          refine S_v E rfl (R_move E rfl) rfl ?_
          clear E a; intro a E
          refine S_v E rfl (R_fieldAddr E rfl (FA24_1 _)) rfl ?_
          clear E a; intro a E
          refine S_v E rfl (R_loadM E rfl Try.isAgg3 S.imm (cellM_boxo hb_1 rfl)) rfl ?_
          clear E a; intro a E
          refine S_x (X_pu E S rfl rfl rfl (laws_modulo (by first | omega | assumption) (by omega)) (Hp.le.refl _) ?_)
          clear E a S; rintro a _ w M_7 hM_7 rfl S E
          replace hb_1 := hM_7.2 _ _ hb_1
          refine S_v E rfl (R_assign E rfl) rfl ?_
          clear E a; intro a E
          refine WL_nil ?_
          refine T_n ?_
          refine WP_ret ?_
          refine B_r ?_
          refine T_r ?_
          exact F_ret1 E Try.results14 rfl ⟨_, rfl, M_7, (hM_2.trans hM_7), (congrArg (Value.int .i64) (by (clear E S; unfold keyAt w64; first | (simp [*]; done) | (simp_all; done)))), S⟩
        · replace hc_6 := of_decide_eq_false hc_6
          refine WP_skip ?_
          refine B_n ?_
          refine T_n ?_
          refine WP_seq ?_
          refine WP_region ?_
          refine S_v E rfl (R_move E rfl) rfl ?_
          clear E a; intro a E
          refine S_v E rfl (R_assign E rfl) rfl ?_
          clear E a; intro a E
          refine WL_nil ?_
          refine T_n ?_
          refine WP_ret ?_
          exact F_ret1 E Try.results14 rfl ⟨_, rfl, M_2, hM_2, (congrArg (Value.int .i64) (by (clear E S; unfold keyAt w64; first | (simp [*]; done) | (simp_all; done)))), S⟩
      · replace hc_5 := of_decide_eq_false hc_5
        refine WP_seq ?_
        refine WP_region ?_
        refine S_v E rfl (R_eql E rfl rfl) rfl ?_
        clear E a; intro a E
        refine S_v E rfl (R_assign E rfl) rfl ?_
        clear E a; intro a E
        refine WL_nil ?_
        refine T_n ?_
        refine WP_cond E rfl (fun hc_8 => ?_) (fun hc_8 => ?_)
        · replace hc_8 := of_decide_eq_true hc_8
          refine WP_seq ?_
          refine WP_region ?_
          refine S_v E rfl (R_fieldAddr E rfl (FA24_1 _)) rfl ?_
          clear E a; intro a E
          refine S_v E rfl (R_loadM E rfl Try.isAgg3 S.imm (cellM_boxo hb_1 rfl)) rfl ?_
          clear E a; intro a E
          refine S_v E rfl (R_assign E rfl) rfl ?_
          clear E a; intro a E
          refine WL_nil ?_
          refine T_n ?_
          refine WP_ret ?_
          refine B_r ?_
          refine T_r ?_
          exact F_ret1 E Try.results14 rfl ⟨_, rfl, M_2, hM_2, (congrArg (Value.int .i64) (by (clear E S; unfold keyAt w64; first | (simp [*]; done) | (simp_all; done)))), S⟩
        · replace hc_8 := of_decide_eq_false hc_8
          refine WP_seq ?_
          refine WP_region ?_
          refine S_v E rfl (R_eql E rfl rfl) rfl ?_
          clear E a; intro a E
          refine S_v E rfl (R_assign E rfl) rfl ?_
          clear E a; intro a E
          refine WL_nil ?_
          refine T_n ?_
          refine WP_cond E rfl (fun hc_9 => ?_) (fun hc_9 => ?_)
          · replace hc_9 := of_decide_eq_true hc_9
            refine WP_seq ?_
            refine WP_region ?_
            refine S_v E rfl (R_move E rfl) rfl ?_
            clear E a; intro a E
            refine S_v E rfl (R_assign E rfl) rfl ?_
            clear E a; intro a E
            refine WL_nil ?_
            refine T_n ?_
            refine WP_ret ?_
            refine B_r ?_
            refine T_r ?_
            exact F_ret1 E Try.results14 rfl ⟨_, rfl, M_2, hM_2, (congrArg (Value.int .i64) (by (clear E S; unfold keyAt w64; first | (simp [*]; done) | (simp_all; done)))), S⟩
          · replace hc_9 := of_decide_eq_false hc_9
            refine WP_skip ?_
            refine B_n ?_
            refine T_n ?_
            refine WP_seq ?_
            refine WP_region ?_
            refine S_v E rfl (R_move E rfl) rfl ?_
            clear E a; intro a E
            refine S_v E rfl (R_assign E rfl) rfl ?_
            clear E a; intro a E
            refine WL_nil ?_
            refine T_n ?_
            refine WP_ret ?_
            exact F_ret1 E Try.results14 rfl ⟨_, rfl, M_2, hM_2, (congrArg (Value.int .i64) (by (clear E S; unfold keyAt w64; first | (simp [*]; done) | (simp_all; done)))), S⟩

set_option maxRecDepth 100000 in
set_option maxHeartbeats 4000000 in
theorem laws_in {M : Hp} {v0 : Value} {l0 : List Int} (h0 : RdI M v0 l0){x1 : Int} :
    Pu Try.prog (.func (.func 15) #[] #[]) M [v0, .int .i64 x1] (fun r M' => r = .bool (decide (x1 ∈ l0))) := by
  refine Pu_enter Try.func15 rfl Try.ntmps15 rfl Try.call15 ?_
  intro a w M1 H hM1 S E
  replace h0 := h0.le hM1
  have b0 := h0.bound
  refine WP_seq ?_
  refine WP_region ?_
  refine S_v E rfl (R_assign E rfl) rfl ?_
  clear E a; intro a E
  refine WL_nil ?_
  refine T_n ?_
  refine WP_seq ?_
  refine WP_seq ?_
  refine WP_region ?_
  refine S_v E rfl (R_move E rfl) rfl ?_
  clear E a; intro a E
  refine S_v E rfl (R_lenV E rfl T22 h0.len) rfl ?_
  clear E a; intro a E
  refine S_v E rfl (R_move E rfl) rfl ?_
  clear E a; intro a E
  refine WL_nil ?_
  refine T_n ?_
  refine WP_block ?_
  refine WP_loop (γ := Nat) (fun (k : Nat) a w => ∃ (M_1 : Hp), Hp.le M1 M_1 ∧ St w M_1 (H) ∧ Env a 17 [] [(1, .int .i64 x1), (7, v0), (8, .int .i64 (((l0).length : Nat) : Int)), (9, .int .i64 ((k : Nat) : Int))] ∧ (k ≤ (l0).length) ∧ (x1 ∉ l0.take k)) (fun k => ((l0).length) - k) 0 ⟨M1, Hp.le.refl _, S, E.keep ⟨rfl, rfl, rfl, rfl, trivial⟩, by ((try clear S); (try clear E); first | assumption | omega | rfl | (simp; done) | (simp_all; done) | (simp [List.take_add_one, *]; done) | grind [List.take_add_one]), by ((try clear S); (try clear E); first | assumption | omega | rfl | (simp; done) | (simp_all; done) | (simp [List.take_add_one, *]; done) | grind [List.take_add_one])⟩ ?_
  try clear E
  try clear S
  try clear a
  try clear w
  rintro k a w ⟨M_1, hM_1, S, E, hL0_0, hL0_1⟩
  replace h0 := h0.le hM_1
  refine WP_seq ?_
  refine WP_region ?_
  refine S_v E rfl (R_lss E rfl rfl) rfl ?_
  clear E a; intro a E
  refine WL_nil ?_
  refine T_n ?_
  refine WP_seq ?_
  refine WP_cond E rfl (fun hc_2 => ?_) (fun hc_2 => ?_)
  · replace hc_2 := of_decide_eq_true hc_2
    refine WP_skip ?_
    refine T_n ?_
    refine WP_seq ?_
    refine WP_block ?_
    refine WP_seq ?_
    refine WP_region ?_
    obtain ⟨x_3, hx_3⟩ : ∃ x, (l0)[k]? = some x := ⟨_, List.getElem?_eq_getElem (by first | omega | (simp; done) | (simp; omega) | (simp_all; omega))⟩
    obtain ⟨p_4, hp_4, qp_4⟩ := h0.at hx_3
    refine S_v E rfl (R_idx E rfl rfl T22 hp_4 rfl) rfl ?_
    clear E a; intro a E
    refine S_v E rfl (R_loadM E rfl Try.isAgg3 S.imm qp_4) rfl ?_
    clear E a; intro a E
    refine S_v E rfl (R_assign E rfl) rfl ?_
    clear E a; intro a E
    refine WL_nil ?_
    refine T_n ?_
    refine WP_seq ?_
    refine WP_region ?_
    refine S_v E rfl (R_move E rfl) rfl ?_
    clear E a; intro a E
    refine S_v E rfl (R_move E rfl) rfl ?_
    clear E a; intro a E
    refine S_v E rfl (R_eql E rfl rfl) rfl ?_
    clear E a; intro a E
    refine WL_nil ?_
    refine T_n ?_
    refine WP_cond E rfl (fun hc_5 => ?_) (fun hc_5 => ?_)
    · replace hc_5 := of_decide_eq_true hc_5
      refine WP_seq ?_
      refine WP_region ?_
      refine S_v E rfl (R_assign E rfl) rfl ?_
      clear E a; intro a E
      refine WL_nil ?_
      refine T_n ?_
      refine WP_ret ?_
      refine B_r ?_
      refine T_r ?_
      refine T_r ?_
      refine B_r ?_
      refine T_r ?_
      exact F_ret1 E Try.results15 rfl ⟨_, rfl, M_1, hM_1, (bT (by (refine List.mem_of_getElem? (i := k) ?_; simp_all))), S⟩
    · replace hc_5 := of_decide_eq_false hc_5
      refine WP_skip ?_
      refine B_n ?_
      refine T_n ?_
      refine WP_region ?_
      refine S_v E rfl (R_addx (m := ((k + 1 : Nat) : Int)) E rfl rfl (by omega) (by omega)) rfl ?_
      clear E a; intro a E
      refine S_v E rfl (R_move E rfl) rfl ?_
      clear E a; intro a E
      refine WL_nil ?_
      refine T_n ?_
      exact ⟨k + 1, ⟨M_1, hM_1, S, E.keep ⟨rfl, rfl, rfl, rfl, trivial⟩, by ((try clear S); (try clear E); first | assumption | omega | rfl | (simp; done) | (simp_all; done) | (simp [List.take_add_one, *]; done) | grind [List.take_add_one]), by ((try clear S); (try clear E); first | assumption | omega | rfl | (simp; done) | (simp_all; done) | (simp [List.take_add_one, *]; done) | grind [List.take_add_one])⟩, by omega⟩
  · replace hc_2 := of_decide_eq_false hc_2
    refine WP_exit ?_
    refine T_x ?_
    refine T_x ?_
    refine B_x ?_
    refine T_n ?_
    refine WP_seq ?_
    refine WP_region ?_
    refine S_v E rfl (R_assign E rfl) rfl ?_
    clear E a; intro a E
    refine WL_nil ?_
    refine T_n ?_
    refine WP_ret ?_
    exact F_ret1 E Try.results15 rfl ⟨_, rfl, M_1, hM_1, (bF (by (rw [List.take_of_length_le (by omega)] at hL0_1; exact hL0_1))), S⟩

set_option maxRecDepth 100000 in
set_option maxHeartbeats 4000000 in
theorem laws_eq {M : Hp} {v0 v1 : Value} {l0 l1 : List Int} (h0 : RdI M v0 l0) (h1 : RdI M v1 l1) :
    Pu Try.prog (.func (.func 16) #[] #[]) M [v0, v1] (fun r M' => r = .bool (decide (l0 = l1))) := by
  refine Pu_enter Try.func16 rfl Try.ntmps16 rfl Try.call16 ?_
  intro a w M1 H hM1 S E
  replace h0 := h0.le hM1
  replace h1 := h1.le hM1
  have b0 := h0.bound
  have b1 := h1.bound
  refine WP_seq ?_
  refine WP_region ?_
  refine S_v E rfl (R_assign E rfl) rfl ?_
  clear E a; intro a E
  refine WL_nil ?_
  refine T_n ?_
  refine WP_seq ?_
  refine WP_seq ?_
  refine WP_region ?_
  refine S_v E rfl (R_move E rfl) rfl ?_
  clear E a; intro a E
  refine S_v E rfl (R_lenV E rfl T22 h0.len) rfl ?_
  clear E a; intro a E
  refine S_v E rfl (R_move E rfl) rfl ?_
  clear E a; intro a E
  refine S_v E rfl (R_lenV E rfl T22 h1.len) rfl ?_
  clear E a; intro a E
  refine S_v E rfl (R_neq E rfl rfl) rfl ?_
  clear E a; intro a E
  refine WL_nil ?_
  refine T_n ?_
  refine WP_cond E rfl (fun hc_1 => ?_) (fun hc_1 => ?_)
  · replace hc_1 := of_decide_eq_true hc_1
    refine WP_seq ?_
    refine WP_region ?_
    refine S_v E rfl (R_assign E rfl) rfl ?_
    clear E a; intro a E
    refine WL_nil ?_
    refine T_n ?_
    refine WP_ret ?_
    refine T_r ?_
    exact F_ret1 E Try.results16 rfl ⟨_, rfl, M1, (Hp.le.refl _), (bF (by ((try clear S); (try clear E); first | assumption | omega | rfl | (simp; done) | (simp_all; done) | (simp [List.take_add_one, *]; done) | grind [List.take_add_one]))), S⟩
  · replace hc_1 := of_decide_eq_false hc_1
    refine WP_skip ?_
    refine T_n ?_
    refine WP_seq ?_
    refine WP_seq ?_
    refine WP_region ?_
    refine S_v E rfl (R_move E rfl) rfl ?_
    clear E a; intro a E
    refine S_v E rfl (R_lenV E rfl T22 h0.len) rfl ?_
    clear E a; intro a E
    refine S_v E rfl (R_move E rfl) rfl ?_
    clear E a; intro a E
    refine WL_nil ?_
    refine T_n ?_
    refine WP_block ?_
    refine WP_loop (γ := Nat) (fun (k : Nat) a w => ∃ (M_2 : Hp), Hp.le M1 M_2 ∧ St w M_2 (H) ∧ Env a 26 [] [(0, v0), (1, v1), (12, .int .i64 (((l0).length : Nat) : Int)), (13, .int .i64 ((k : Nat) : Int))] ∧ (k ≤ (l0).length) ∧ (l0.length = l1.length) ∧ (l0.take k = l1.take k)) (fun k => ((l0).length) - k) 0 ⟨M1, Hp.le.refl _, S, E.keep ⟨rfl, rfl, rfl, rfl, trivial⟩, by ((try clear S); (try clear E); first | assumption | omega | rfl | (simp; done) | (simp_all; done) | (simp [List.take_add_one, *]; done) | grind [List.take_add_one]), by ((try clear S); (try clear E); first | assumption | omega | rfl | (simp; done) | (simp_all; done) | (simp [List.take_add_one, *]; done) | grind [List.take_add_one]), by ((try clear S); (try clear E); first | assumption | omega | rfl | (simp; done) | (simp_all; done) | (simp [List.take_add_one, *]; done) | grind [List.take_add_one])⟩ ?_
    try clear E
    try clear S
    try clear a
    try clear w
    rintro k a w ⟨M_2, hM_2, S, E, hL0_0, hL0_1, hL0_2⟩
    replace h0 := h0.le hM_2
    replace h1 := h1.le hM_2
    refine WP_seq ?_
    refine WP_region ?_
    refine S_v E rfl (R_lss E rfl rfl) rfl ?_
    clear E a; intro a E
    refine WL_nil ?_
    refine T_n ?_
    refine WP_seq ?_
    refine WP_cond E rfl (fun hc_3 => ?_) (fun hc_3 => ?_)
    · replace hc_3 := of_decide_eq_true hc_3
      refine WP_skip ?_
      refine T_n ?_
      refine WP_seq ?_
      refine WP_block ?_
      refine WP_seq ?_
      refine WP_region ?_
      refine S_v E rfl (R_move E rfl) rfl ?_
      clear E a; intro a E
      refine S_v E rfl (R_assign E rfl) rfl ?_
      clear E a; intro a E
      refine WL_nil ?_
      refine T_n ?_
      refine WP_seq ?_
      replace S := S.mono_heap (w' := World.drew _) rfl
      refine WP_drawn (C := fun x w => agree M_2 w) (bf := (fun i => [])) [0, 1, 2, 3, 4, 5, 6, 7, 8] [0, 1, 2, 3, 4, 5, 6, 7, 8] Try.mixed (by kernel_rfl) (fun x hq => S.imm) ?_
      refine D_v E rfl rfl rfl (fun w hC => (R_move E rfl)) ?_
      clear E a; intro a E
      refine D_v E rfl rfl rfl (fun w hC => (R_move E rfl)) ?_
      clear E a; intro a E
      obtain ⟨x_4, hx_4⟩ : ∃ x, (l0)[k]? = some x := ⟨_, List.getElem?_eq_getElem (by first | omega | (simp; done) | (simp; omega) | (simp_all; omega))⟩
      obtain ⟨p_5, hp_5, qp_5⟩ := h0.at hx_4
      refine D_v E rfl rfl rfl (fun w hC => (R_idx E rfl rfl T22 hp_5 rfl)) ?_
      clear E a; intro a E
      refine D_v E rfl rfl rfl (fun w hC => (R_loadM E rfl Try.isAgg3 hC qp_5)) ?_
      clear E a; intro a E
      refine D_v E rfl rfl rfl (fun w hC => (R_move E rfl)) ?_
      clear E a; intro a E
      refine D_v E rfl rfl rfl (fun w hC => (R_move E rfl)) ?_
      clear E a; intro a E
      obtain ⟨x_6, hx_6⟩ : ∃ x, (l1)[k]? = some x := ⟨_, List.getElem?_eq_getElem (by first | omega | (simp; done) | (simp; omega) | (simp_all; omega))⟩
      obtain ⟨p_7, hp_7, qp_7⟩ := h1.at hx_6
      refine D_v E rfl rfl rfl (fun w hC => (R_idx E rfl rfl T22 hp_7 rfl)) ?_
      clear E a; intro a E
      refine D_v E rfl rfl rfl (fun w hC => (R_loadM E rfl Try.isAgg3 hC qp_7)) ?_
      clear E a; intro a E
      refine D_v E rfl rfl rfl (fun w hC => (R_neq E rfl rfl)) ?_
      clear E a; intro a E
      refine D_end (NoP_n ?_)
      refine T_n ?_
      refine WP_cond E rfl (fun hc_8 => ?_) (fun hc_8 => ?_)
      · replace hc_8 := of_decide_eq_true hc_8
        refine WP_seq ?_
        refine WP_region ?_
        refine S_v E rfl (R_assign E rfl) rfl ?_
        clear E a; intro a E
        refine WL_nil ?_
        refine T_n ?_
        refine WP_ret ?_
        refine B_r ?_
        refine T_r ?_
        refine T_r ?_
        refine B_r ?_
        refine T_r ?_
        exact F_ret1 E Try.results16 rfl ⟨_, rfl, M_2, hM_2, (bF (by ((try clear S); (try clear E); first | assumption | omega | rfl | (simp; done) | (simp_all; done) | (simp [List.take_add_one, *]; done) | grind [List.take_add_one]))), S⟩
      · replace hc_8 := of_decide_eq_false hc_8
        refine WP_skip ?_
        refine B_n ?_
        refine T_n ?_
        refine WP_region ?_
        refine S_v E rfl (R_addx (m := ((k + 1 : Nat) : Int)) E rfl rfl (by omega) (by omega)) rfl ?_
        clear E a; intro a E
        refine S_v E rfl (R_move E rfl) rfl ?_
        clear E a; intro a E
        refine WL_nil ?_
        refine T_n ?_
        exact ⟨k + 1, ⟨M_2, hM_2, S, E.keep ⟨rfl, rfl, rfl, rfl, trivial⟩, by ((try clear S); (try clear E); first | assumption | omega | rfl | (simp; done) | (simp_all; done) | (simp [List.take_add_one, *]; done) | grind [List.take_add_one]), by ((try clear S); (try clear E); first | assumption | omega | rfl | (simp; done) | (simp_all; done) | (simp [List.take_add_one, *]; done) | grind [List.take_add_one]), by ((try clear S); (try clear E); first | assumption | omega | rfl | (simp; done) | (simp_all; done) | (simp [List.take_add_one, *]; done) | grind [List.take_add_one])⟩, by omega⟩
    · replace hc_3 := of_decide_eq_false hc_3
      refine WP_exit ?_
      refine T_x ?_
      refine T_x ?_
      refine B_x ?_
      refine T_n ?_
      refine WP_seq ?_
      refine WP_region ?_
      refine S_v E rfl (R_assign E rfl) rfl ?_
      clear E a; intro a E
      refine WL_nil ?_
      refine T_n ?_
      refine WP_ret ?_
      exact F_ret1 E Try.results16 rfl ⟨_, rfl, M_2, hM_2, (bT (by ((try clear S); (try clear E); first | assumption | omega | rfl | (simp; done) | (simp_all; done) | (simp [List.take_add_one, *]; done) | grind [List.take_add_one]))), S⟩

set_option maxRecDepth 100000 in
set_option maxHeartbeats 4000000 in
theorem slices_Values1 {M : Hp} {v0 : Value} {l0 : List Int} (h0 : RdI M v0 l0){bx1 : Nat} (hbx1 : M bx1 = some (.cells #[v0] 22)) :
    SeqV Try.prog (.func (.func 159) #[] #[.pointer (some ⟨bx1, 0, none⟩)]) M (RInt) l0 := by
  refine SeqV_enter Try.func159 rfl Try.ntmps159 rfl Try.call159 ?_
  intro y J X a w M1 c H hJM hM1 hY hJ S E
  replace hbx1 := hM1.2 _ _ hbx1
  replace h0 := h0.le hM1
  have b0 := h0.bound
  refine WP_seq ?_
  refine WP_region ?_
  refine S_v E rfl (R_loadM E rfl Try.isAgg22 S.imm (cellM_box hbx1)) rfl ?_
  clear E a; intro a E
  refine S_v E rfl (R_lenV E rfl T22 h0.len) rfl ?_
  clear E a; intro a E
  refine S_v E rfl (R_move E rfl) rfl ?_
  clear E a; intro a E
  refine WL_nil ?_
  refine T_n ?_
  refine WP_block ?_
  refine WP_loop (γ := Nat) (fun (k : Nat) a w => ∃ (M_1 : Hp) (cL0 : HProp), Hp.le M1 M_1 ∧ St w M_1 (mks [] :: cL0 :: H) ∧ Env a 16 (([] : List Nat).map mk) [(0, y), (5, v0), (6, .int .i64 (((l0).length : Nat) : Int)), (7, .int .i64 ((k : Nat) : Int))] ∧ (k ≤ (l0).length) ∧ J (l0.take k) M_1 cL0) (fun k => ((l0).length) - k) 0 ⟨M1, _, Hp.le.refl _, S, E.keep ⟨rfl, rfl, rfl, rfl, trivial⟩, by ((try clear S); (try clear E); first | assumption | omega | rfl | (simp; done) | (simp_all; done) | (simp [List.take_add_one, *]; done) | grind [List.take_add_one]), J_eq hJ (by ((try clear S); (try clear E); first | assumption | omega | rfl | (simp; done) | (simp_all; done) | (simp [List.take_add_one, *]; done) | grind [List.take_add_one]))⟩ ?_
  try clear E
  try clear S
  try clear a
  try clear w
  rintro k a w ⟨M_1, cL0, hM_1, S, E, hL0_0, hJ⟩
  replace hbx1 := hM_1.2 _ _ hbx1
  replace h0 := h0.le hM_1
  refine WP_seq ?_
  refine WP_region ?_
  refine S_v E rfl (R_lss E rfl rfl) rfl ?_
  clear E a; intro a E
  refine WL_nil ?_
  refine T_n ?_
  refine WP_seq ?_
  refine WP_cond E rfl (fun hc_2 => ?_) (fun hc_2 => ?_)
  · replace hc_2 := of_decide_eq_true hc_2
    refine WP_skip ?_
    refine T_n ?_
    refine WP_seq ?_
    refine WP_block ?_
    refine WP_seq ?_
    refine WP_region ?_
    obtain ⟨x_3, hx_3⟩ : ∃ x, (l0)[k]? = some x := ⟨_, List.getElem?_eq_getElem (by first | omega | (simp; done) | (simp; omega) | (simp_all; omega))⟩
    obtain ⟨p_4, hp_4, qp_4⟩ := h0.at hx_3
    refine S_v E rfl (R_idx E rfl rfl T22 hp_4 rfl) rfl ?_
    clear E a; intro a E
    refine S_v E rfl (R_loadM E rfl Try.isAgg3 S.imm qp_4) rfl ?_
    clear E a; intro a E
    refine S_v E rfl (R_assign E rfl) rfl ?_
    clear E a; intro a E
    refine WL_nil ?_
    refine T_n ?_
    refine WP_seq ?_
    refine WP_region ?_
    refine S_v E rfl (R_move E rfl) rfl ?_
    clear E a; intro a E
    refine S_v E rfl (R_move E rfl) rfl ?_
    clear E a; intro a E
    replace S := S.front1
    refine S_x (X_yield (x := x_3) E S rfl rfl rfl hY hM_1 (by (first | (simp; done) | exact List.prefix_refl _ | (rw [pre_take (by assumption)]; exact List.take_prefix _ _) | exact pre_take_lt (by assumption))) rfl hJ ?_)
    clear E a S; rintro a w M_5 c_6 go_7 hM_5 hJ S E
    replace hbx1 := hM_5.2 _ _ hbx1
    replace h0 := h0.le hM_5
    cases go_7
    · replace hJ : X (l0.take k ++ [x_3]) M_5 c_6 := hJ
      refine S_v E rfl (R_not E rfl) rfl ?_
      clear E a; intro a E
      refine WL_nil ?_
      refine T_n ?_
      refine WP_condT E rfl rfl ?_
      refine WP_ret ?_
      refine B_r ?_
      refine T_r ?_
      refine T_r ?_
      refine B_r ?_
      replace S := S.front1
      exact F_retM0 E S Try.results159 (fun w S => ⟨_, rfl, M_5, _, (hM_1.trans hM_5), .inr ⟨(l0.take k ++ [x_3]), (by first | assumption | ((first | (simp; done) | exact List.prefix_refl _ | (rw [pre_take (by assumption)]; exact List.take_prefix _ _) | exact pre_take_lt (by assumption)))), hJ⟩, S⟩)
    · replace hJ : J (l0.take k ++ [x_3]) M_5 c_6 := hJ
      refine S_v E rfl (R_not E rfl) rfl ?_
      clear E a; intro a E
      refine WL_nil ?_
      refine T_n ?_
      refine WP_condF E rfl rfl ?_
      refine WP_skip ?_
      refine B_n ?_
      refine T_n ?_
      refine WP_region ?_
      refine S_v E rfl (R_addx (m := ((k + 1 : Nat) : Int)) E rfl rfl (by omega) (by omega)) rfl ?_
      clear E a; intro a E
      refine S_v E rfl (R_move E rfl) rfl ?_
      clear E a; intro a E
      refine WL_nil ?_
      refine T_n ?_
      replace S := S.front1
      exact ⟨k + 1, ⟨M_5, _, (hM_1.trans hM_5), S, E.keep ⟨rfl, rfl, rfl, rfl, trivial⟩, by ((try clear S); (try clear E); first | assumption | omega | rfl | (simp; done) | (simp_all; done) | (simp [List.take_add_one, *]; done) | grind [List.take_add_one]), J_eq hJ (by ((try clear S); (try clear E); first | assumption | omega | rfl | (simp; done) | (simp_all; done) | (simp [List.take_add_one, *]; done) | grind [List.take_add_one]))⟩, by omega⟩
  · replace hc_2 := of_decide_eq_false hc_2
    refine WP_exit ?_
    refine T_x ?_
    refine T_x ?_
    refine B_x ?_
    refine F_nrm ?_
    replace S := S.front1
    replace S := S.front1
    have hpre : l0.take k = l0 := by ((try clear S); (try clear E); first | rfl | (simp; done) | (simp_all; done) | grind [List.take_add_one])
    rw [hpre] at hJ
    exact F_retM0 E S Try.results159 (fun w S => ⟨_, rfl, M_1, _, hM_1, .inl hJ, S⟩)

set_option maxRecDepth 100000 in
set_option maxHeartbeats 4000000 in
theorem slices_Values {M : Hp} {v0 : Value} {l0 : List Int} (h0 : RdI M v0 l0) :
    Pu Try.prog (.func (.func 90) #[] #[]) M [v0] (fun r M' => SeqV Try.prog r M' RInt l0) := by
  refine Pu_enter Try.func90 rfl Try.ntmps90 rfl Try.call90 ?_
  intro a w M1 H hM1 S E
  replace h0 := h0.le hM1
  have b0 := h0.bound
  refine WP_seq ?_
  refine WP_region ?_
  refine S_x (X_box (cs := #[v0]) E S rfl rfl (cells_one (RdS.one' h0)) ?_)
  clear E a S; rintro a w b_1 E S
  obtain ⟨M_2, hM_2, hb_1, S⟩ := S.freezeB
  replace h0 := h0.le hM_2
  refine S_v E rfl (R_assign E rfl) rfl ?_
  clear E a; intro a E
  refine WL_nil ?_
  refine T_n ?_
  refine WP_seq ?_
  refine WP_region ?_
  refine S_v E rfl (R_makeFunc E rfl rfl) rfl ?_
  clear E a; intro a E
  refine S_v E rfl (R_assign E rfl) rfl ?_
  clear E a; intro a E
  refine WL_nil ?_
  refine T_n ?_
  refine WP_ret ?_
  exact F_ret1 E Try.results90 rfl ⟨_, rfl, M_2, hM_2, (SeqV_eq (slices_Values1 h0 hb_1) (by ((try clear S); (try clear E); first | rfl | (simp; done) | (simp_all; done) | grind [List.take_add_one]))), S⟩

set_option maxRecDepth 100000 in
set_option maxHeartbeats 4000000 in
theorem it_UniqBy1 {M : Hp} {v0 : Value} {l0 : List Int} (h0 : SeqV Try.prog v0 M (RInt) l0) {v1 : Value} {f1 : Int → Int} (h1 : PF1I Try.prog v1 M f1) {bx1 : Nat} (hbx1 : M bx1 = some (.cells #[v0] 98)) {bx2 : Nat} (hbx2 : M bx2 = some (.cells #[v1] 94)) :
    SeqV Try.prog (.func (.func 158) #[] #[.pointer (some ⟨bx1, 0, none⟩), .pointer (some ⟨bx2, 0, none⟩)]) M (RInt) ((uqS f1 l0).2) := by
  refine SeqV_enter Try.func158 rfl Try.ntmps158 rfl Try.call158 ?_
  intro y J X a w M1 c H hJM hM1 hY hJ S E
  replace h0 := h0.le hM1
  replace h1 := h1.le hM1
  replace hbx1 := hM1.2 _ _ hbx1
  replace hbx2 := hM1.2 _ _ hbx2
  refine WP_seq ?_
  refine WP_region ?_
  refine S_x (X_box (cs := #[y]) E S rfl rfl (cells_one hY.1) ?_)
  clear E a S; rintro a w b_1 E S
  obtain ⟨M_2, hM_2, hb_1, S⟩ := S.freezeB
  replace h0 := h0.le hM_2
  replace h1 := h1.le hM_2
  replace hbx1 := hM_2.2 _ _ hbx1
  replace hbx2 := hM_2.2 _ _ hbx2
  replace hJ := hJM _ _ _ _ hM_2 hJ
  refine WL_nil ?_
  refine T_n ?_
  refine WP_seq ?_
  refine WP_region ?_
  refine S_x (X_makeMap E S rfl ?_)
  clear E a S; rintro a w b_3 E S
  replace S : St w M_2 (OwnS b_3 ([] : List Int) :: _) := S
  refine S_x (X_alloc (cs := #[.map none]) E S rfl Try.zeroValue140 rfl ?_)
  clear E a S; rintro a w b_4 E S
  refine S_x0 (X_store E S rfl rfl (Try.sizeOf140 _) rfl ?_)
  clear E a S; rintro a w E S
  refine WL_nil ?_
  refine T_n ?_
  refine WP_seq ?_
  refine WP_region ?_
  refine S_v E rfl (R_loadM E rfl Try.isAgg98 S.imm (cellM_box hbx1)) rfl ?_
  clear E a; intro a E
  refine WL_nil ?_
  refine T_n ?_
  refine WP_block ?_
  replace S := S.front3
  replace S := S.front2
  replace S := S.front2
  replace E := E.keep (l' := [(2, .pointer (some ⟨bx2, 0, none⟩)), (3, .pointer (some ⟨b_1, 0, none⟩)), (4, .pointer (some ⟨b_4, 0, none⟩)), (10, v0)]) ⟨rfl, rfl, rfl, rfl, trivial⟩
  replace S := S.front2
  replace S := S.front2
  replace S := S.reM (L' := (Sl.encS ((uqS f1 (([] : List Int))).1))) (congrArg Sl.encS (show ([] : List Int) = (uqS f1 (([] : List Int))).1 by first | (simp [uqS]; done) | (refine uqa_out ?_; first | assumption | (simp_all; done)) | (refine uqa_in ?_; first | assumption | (simp_all; done))))
  replace S := S.front2
  have S0 := S; clear S; have S := St.pack [blk b_4 (.cells #[.map (some b_3)] 140), OwnS b_3 ((uqS f1 (([] : List Int))).1), c] S0; clear S0
  refine WP_range (RV := RInt) (l := l0) (fun pre M c => ∃ (c0 : HProp), c = bigs [blk b_4 (.cells #[.map (some b_3)] 140), OwnS b_3 ((uqS f1 (pre)).1), c0] ∧ (J ((uqS f1 (pre)).2) M c0)) (fun cd pre M c => cd = .ret ∧ ∃ z, z <+: ((uqS f1 l0).2) ∧ X z M c) E S rfl h0 (Hp.le.refl _) (fun _ _ _ h => by rw [h]; rfl) (by decide) (by rintro _ M M' c hM ⟨c0, rfl, f0⟩; exact ⟨_, rfl, hJM _ _ _ _ hM f0⟩) ⟨_, rfl, J_eq hJ (by (simp [uqS]))⟩ ?_ ?_ ?_
  clear E S
  · rintro lb_6 rec_7 pre x _ a w M_5 _ G hM_5 hp_8 rfl ⟨c0, rfl, f0⟩ E S
    replace E : Env a 30 [] [(11, .int .i64 x), (2, .pointer (some ⟨bx2, 0, none⟩)), (3, .pointer (some ⟨b_1, 0, none⟩)), (4, .pointer (some ⟨b_4, 0, none⟩)), (10, v0)] := E
    replace S := S.swap.unpack3
    have hq0 := prefix_lt hp_8
    replace h0 := h0.le hM_5
    replace h1 := h1.le hM_5
    replace hbx1 := hM_5.2 _ _ hbx1
    replace hbx2 := hM_5.2 _ _ hbx2
    replace hb_1 := hM_5.2 _ _ hb_1
    refine WP_region ?_
    refine S_v E rfl (R_assign E rfl) rfl ?_
    clear E a; intro a E
    refine WL_nil ?_
    refine T_n ?_
    replace S := S.front3
    refine rb S ?_
    clear S; intro w S
    refine WP_block ?_
    refine WP_seq ?_
    refine WP_region ?_
    refine S_v E rfl (R_loadM E rfl Try.isAgg94 S.imm (cellM_box hbx2)) rfl ?_
    clear E a; intro a E
    refine S_v E rfl (R_move E rfl) rfl ?_
    clear E a; intro a E
    refine S_x (X_pu E S rfl rfl rfl (h1.2 x) (Hp.le.refl _) ?_)
    clear E a S; rintro a _ w M_10 hM_10 rfl S E
    replace h0 := h0.le hM_10
    replace h1 := h1.le hM_10
    replace hbx1 := hM_10.2 _ _ hbx1
    replace hbx2 := hM_10.2 _ _ hbx2
    replace hb_1 := hM_10.2 _ _ hb_1
    replace f0 := hJM _ _ _ _ hM_10 f0
    refine S_v E rfl (R_assign E rfl) rfl ?_
    clear E a; intro a E
    refine WL_nil ?_
    refine T_n ?_
    refine WP_seq ?_
    refine WP_region ?_
    refine S_v E rfl (R_load E rfl (Try.isAgg140 _) (cell_blk (S.mem (.tail _ (.head _))))) rfl ?_
    clear E a; intro a E
    refine S_v E rfl (R_move E rfl) rfl ?_
    clear E a; intro a E
    replace S := S.front2
    refine S_x (X_lookupS E S rfl MT140 rfl rfl ?_)
    clear E a S; rintro a w E S
    replace S : St w M_10 (OwnS b_3 ((uqS f1 (pre)).1) :: _) := S
    refine S_v E rfl (R_move E rfl) rfl ?_
    clear E a; intro a E
    refine S_v E rfl (R_extract E rfl rfl) rfl ?_
    clear E a; intro a E
    refine S_v E rfl (R_extract E rfl rfl) rfl ?_
    clear E a; intro a E
    refine S_x (X_alloc (cs := #[]) E S rfl Try.zeroValue141 rfl ?_)
    clear E a S; rintro a w b_11 E S
    refine S_x0 (X_storeG (us := []) E S rfl rfl (Try.sizeOf141 _) rfl (by intro u hu; cases hu) ?_)
    clear E a S; rintro a w E S
    replace S : St w M_10 (blk b_11 (.cells #[] 141) :: _) := S
    have S0 := S; clear S
    obtain ⟨M_12, hM_12, hb_13, S⟩ := S0.freezeB
    clear S0
    replace h0 := h0.le hM_12
    replace h1 := h1.le hM_12
    replace hbx1 := hM_12.2 _ _ hbx1
    replace hbx2 := hM_12.2 _ _ hbx2
    replace hb_1 := hM_12.2 _ _ hb_1
    replace f0 := hJM _ _ _ _ hM_12 f0
    refine S_v E rfl (R_assign E rfl) rfl ?_
    clear E a; intro a E
    refine WL_nil ?_
    refine T_n ?_
    refine WP_seq ?_
    refine WP_region ?_
    refine S_v E rfl (R_move E rfl) rfl ?_
    clear E a; intro a E
    refine S_v E rfl (R_not E rfl) rfl ?_
    clear E a; intro a E
    refine WL_nil ?_
    refine T_n ?_
    refine WP_cond E rfl (fun hc_14 => ?_) (fun hc_14 => ?_)
    · refine WP_seq ?_
      refine WP_seq ?_
      refine WP_region ?_
      refine S_v E rfl (R_loadM E rfl Try.isAgg144 S.imm (cellM_box hb_1)) rfl ?_
      clear E a; intro a E
      refine S_v E rfl (R_move E rfl) rfl ?_
      clear E a; intro a E
      replace S := S.front3
      refine S_x (X_yield (x := x) E S rfl rfl rfl hY (hM_2.trans (hM_5.trans (hM_10.trans hM_12))) (by (refine uqp (by assumption) ?_; first | assumption | (simp_all; done))) rfl f0 ?_)
      clear E a S; rintro a w M_15 c_16 go_17 hM_15 f0 S E
      replace h0 := h0.le hM_15
      replace h1 := h1.le hM_15
      replace hbx1 := hM_15.2 _ _ hbx1
      replace hbx2 := hM_15.2 _ _ hbx2
      replace hb_1 := hM_15.2 _ _ hb_1
      replace hb_13 := hM_15.2 _ _ hb_13
      cases go_17
      · replace f0 : X ((uqS f1 (pre)).2 ++ [x]) M_15 c_16 := f0
        refine S_v E rfl (R_not E rfl) rfl ?_
        clear E a; intro a E
        refine WL_nil ?_
        refine T_n ?_
        refine WP_condT E rfl rfl ?_
        refine WP_ret ?_
        refine T_r ?_
        refine B_r ?_
        replace S := S.front1
        replace S := S.drop
        replace S := S.front2
        replace S := S.drop
        replace S := S.front1
        exact ⟨M_15, _, (hM_10.trans (hM_12.trans hM_15)), ⟨rfl, _, (by first | assumption | ((refine uqp (by assumption) ?_; first | assumption | (simp_all; done))) | (exact uqq (by assumption))), f0⟩, S⟩
      · replace f0 : J ((uqS f1 (pre)).2 ++ [x]) M_15 c_16 := f0
        refine S_v E rfl (R_not E rfl) rfl ?_
        clear E a; intro a E
        refine WL_nil ?_
        refine T_n ?_
        refine WP_condF E rfl rfl ?_
        refine WP_skip ?_
        refine T_n ?_
        refine WP_region ?_
        refine S_v E rfl (R_load E rfl (Try.isAgg140 _) (cell_blk (S.mem (.tail _ (.tail _ (.tail _ (.head _))))))) rfl ?_
        clear E a; intro a E
        refine S_v E rfl (R_move E rfl) rfl ?_
        clear E a; intro a E
        refine S_v E rfl (R_build (u := .agg #[]) (vs := []) E rfl (fun w => FB141__  w)) rfl ?_
        clear E a; intro a E
        replace S := S.front1
        refine S_x0 (X_updateS E S MT140 rfl rfl rfl ?_)
        clear E a S; rintro a w E S
        refine WL_nil ?_
        refine B_n ?_
        replace S := S.front1
        replace S := S.front1
        replace S := S.front3
        replace S := S.front2
        replace S := S.front2
        replace S := S.reM (L' := (Sl.encS ((uqS f1 ((pre ++ [x]))).1))) (congrArg Sl.encS (show addS ((uqS f1 (pre)).1) (f1 x) = (uqS f1 ((pre ++ [x]))).1 by first | (simp [uqS]; done) | (refine uqa_out ?_; first | assumption | (simp_all; done)) | (refine uqa_in ?_; first | assumption | (simp_all; done))))
        replace S := S.front2
        have S0 := S; clear S; have S := (St.pack [blk b_4 (.cells #[.map (some b_3)] 140), OwnS b_3 ((uqS f1 ((pre ++ [x]))).1), c_16] S0).swap; clear S0
        exact ⟨M_15, _, (hM_10.trans (hM_12.trans hM_15)), ⟨_, rfl, J_eq f0 (by (first | (refine uqb_out ?_; first | assumption | (simp_all; done)) | (refine uqb_in ?_; first | assumption | (simp_all; done))))⟩, S⟩
    · refine WP_skip ?_
      refine B_n ?_
      replace S := S.front3
      replace S := S.front1
      replace S := S.front3
      replace S := S.front2
      replace S := S.front2
      replace S := S.reM (L' := (Sl.encS ((uqS f1 ((pre ++ [x]))).1))) (congrArg Sl.encS (show (uqS f1 (pre)).1 = (uqS f1 ((pre ++ [x]))).1 by first | (simp [uqS]; done) | (refine uqa_out ?_; first | assumption | (simp_all; done)) | (refine uqa_in ?_; first | assumption | (simp_all; done))))
      replace S := S.front2
      have S0 := S; clear S; have S := (St.pack [blk b_4 (.cells #[.map (some b_3)] 140), OwnS b_3 ((uqS f1 ((pre ++ [x]))).1), c0] S0).swap; clear S0
      exact ⟨M_12, _, (hM_10.trans hM_12), ⟨_, rfl, J_eq f0 (by (first | (refine uqb_out ?_; first | assumption | (simp_all; done)) | (refine uqb_in ?_; first | assumption | (simp_all; done))))⟩, S⟩
  · rintro a w M_18 _ D_19 hM_18 ⟨c0, rfl, f0⟩ S E
    replace S := S.unpack3
    replace h0 := h0.le hM_18
    replace h1 := h1.le hM_18
    replace hbx1 := hM_18.2 _ _ hbx1
    replace hbx2 := hM_18.2 _ _ hbx2
    replace hb_1 := hM_18.2 _ _ hb_1
    refine B_n ?_
    refine F_nrm ?_
    replace S := S.drop
    replace S := S.drop
    replace S := S.front1
    have hpre : (uqS f1 (l0)).2 = (uqS f1 l0).2 := by ((try clear S); (try clear E); first | rfl | (simp; done) | (simp_all; done) | grind [List.take_add_one])
    rw [hpre] at f0
    exact F_retM0 E S Try.results158 (fun w S => ⟨_, rfl, M_18, _, (hM_2.trans hM_18), .inl f0, S⟩)
  · rintro a w M_20 c_ D_21 p_22 _ hM_20 hp_23 ⟨rfl, z_, hz_, f0⟩ S E
    replace h0 := h0.le hM_20
    replace h1 := h1.le hM_20
    replace hbx1 := hM_20.2 _ _ hbx1
    replace hbx2 := hM_20.2 _ _ hbx2
    replace hb_1 := hM_20.2 _ _ hb_1
    refine WP_ret ?_
    refine B_r ?_
    replace S := S.front1
    exact F_retM0 E S Try.results158 (fun w S => ⟨_, rfl, M_20, _, (hM_2.trans hM_20), .inr ⟨z_, (by first | assumption | (exact uqq (by assumption))), f0⟩, S⟩)

set_option maxRecDepth 100000 in
set_option maxHeartbeats 4000000 in
theorem it_UniqBy {M : Hp} {v0 : Value} {l0 : List Int} (h0 : SeqV Try.prog v0 M (RInt) l0) {v1 : Value} {f1 : Int → Int} (h1 : PF1I Try.prog v1 M f1) :
    Pu Try.prog (.func (.func 89) #[] #[]) M [v0, v1] (fun r M' => SeqV Try.prog r M' RInt ((uqS f1 l0).2)) := by
  refine Pu_enter Try.func89 rfl Try.ntmps89 rfl Try.call89 ?_
  intro a w M1 H hM1 S E
  replace h0 := h0.le hM1
  replace h1 := h1.le hM1
  refine WP_seq ?_
  refine WP_region ?_
  refine S_x (X_box (cs := #[v0]) E S rfl rfl (cells_one h0.1) ?_)
  clear E a S; rintro a w b_1 E S
  obtain ⟨M_2, hM_2, hb_1, S⟩ := S.freezeB
  replace h0 := h0.le hM_2
  replace h1 := h1.le hM_2
  refine S_x (X_box (cs := #[v1]) E S rfl rfl (cells_one h1.1) ?_)
  clear E a S; rintro a w b_3 E S
  obtain ⟨M_4, hM_4, hb_3, S⟩ := S.freezeB
  replace h0 := h0.le hM_4
  replace h1 := h1.le hM_4
  replace hb_1 := hM_4.2 _ _ hb_1
  refine S_v E rfl (R_assign E rfl) rfl ?_
  clear E a; intro a E
  refine WL_nil ?_
  refine T_n ?_
  refine WP_seq ?_
  refine WP_region ?_
  refine S_v E rfl (R_makeFunc E rfl rfl) rfl ?_
  clear E a; intro a E
  refine S_v E rfl (R_assign E rfl) rfl ?_
  clear E a; intro a E
  refine WL_nil ?_
  refine T_n ?_
  refine WP_ret ?_
  exact F_ret1 E Try.results89 rfl ⟨_, rfl, M_4, (hM_2.trans hM_4), (SeqV_eq (it_UniqBy1 (f1 := f1) h0 h1 hb_1 hb_3) (by ((try clear S); (try clear E); first | rfl | (simp; done) | (simp_all; done) | grind [List.take_add_one]))), S⟩

set_option maxRecDepth 100000 in
set_option maxHeartbeats 4000000 in
theorem slices_AppendSeq {M : Hp} {v1 : Value} {l1 : List Int} (h1 : SeqV Try.prog v1 M (RInt) l1)(hb : l1.length ≤ 1000000000000) :
    Pu Try.prog (.func (.func 157) #[] #[]) M [.slice none 0 0, v1] (fun r M' => RdI M' r l1) := by
  refine Pu_enter Try.func157 rfl Try.ntmps157 rfl Try.call157 ?_
  intro a w M1 H hM1 S E
  replace h1 := h1.le hM1
  replace S : St w M1 (mks [] :: _) := S.empty
  replace E : Env a 13 (([] : List Nat).map mk) _ := E
  refine WP_seq ?_
  refine WP_region ?_
  refine S_x (X_box (cs := #[.slice none 0 0]) E S rfl rfl rfl ?_)
  clear E a S; rintro a w b_1 E S
  refine S_v E rfl (R_assign E rfl) rfl ?_
  clear E a; intro a E
  refine WL_nil ?_
  refine T_n ?_
  refine WP_seq ?_
  refine WP_seq ?_
  refine WP_region ?_
  refine S_v E rfl (R_move E rfl) rfl ?_
  clear E a; intro a E
  refine WL_nil ?_
  refine T_n ?_
  refine WP_block ?_
  replace S := (S.ownNil (e := 3) (sz := 1)).made0
  replace S := S.front1
  replace E := E.keep (l' := [(2, .pointer (some ⟨b_1, 0, none⟩)), (6, v1)]) ⟨rfl, rfl, trivial⟩
  replace S := S.front1
  replace S := S.re1 (l' := ([] : List Int)) (by ((try clear S); (try clear E); first | assumption | omega | rfl | (simp; done) | (simp_all; done) | (simp [List.take_add_one, *]; done) | grind [List.take_add_one]))
  replace S := S.front1
  have S0 := S; clear S; have S := St.pack [blk b_1 (.cells #[(.slice none 0 0)] 22), OwnI 3 (.slice none 0 0) ([] : List Int)] S0; clear S0
  refine WP_range (RV := RInt) (l := l1) (fun pre M c => ∃ (u2 : Value), c = bigs [blk b_1 (.cells #[u2] 22), OwnI 3 u2 pre]) (fun _ _ _ _ => False) E S rfl h1 (Hp.le.refl _) (fun _ _ _ h => by rw [h]; rfl) (by decide) (by rintro _ M M' c hM ⟨u2, rfl⟩; exact ⟨_, rfl⟩) ⟨_, rfl⟩ ?_ ?_ ?_
  clear E S
  · rintro lb_4 rec_5 pre x _ a w M_3 _ G hM_3 hp_6 rfl ⟨u2, rfl⟩ E S
    replace E : Env a 13 [] [(7, .int .i64 x), (2, .pointer (some ⟨b_1, 0, none⟩)), (6, v1)] := E
    replace S := S.swap.unpack2
    have hq0 := prefix_lt hp_6
    replace h1 := h1.le hM_3
    refine WP_region ?_
    refine S_v E rfl (R_assign E rfl) rfl ?_
    clear E a; intro a E
    refine WL_nil ?_
    refine T_n ?_
    replace S := S.front2
    refine rb S ?_
    clear S; intro w S
    refine WP_block ?_
    refine WP_region ?_
    refine S_v E rfl (R_load E rfl (Try.isAgg22 _) (cell_blk (S.mem (.tail _ (.head _))))) rfl ?_
    clear E a; intro a E
    refine S_v E rfl (R_move E rfl) rfl ?_
    clear E a; intro a E
    refine S_x (X_buildI (ys := [x]) E S rfl T22 rfl rfl rfl ?_)
    clear E a S; rintro a w v_8 E S
    replace S := S.front3
    replace S := S.front1
    refine S_x (X_appendB (xs := pre) (ys := [x]) E S rfl rfl rfl T22 (by first | omega | (simp; done) | (simp; omega) | (simp_all; omega)) ?_)
    clear E a S; rintro a w v_9 E S
    have ho_10 := S.oneI
    replace S := S.front2
    refine S_x0 (X_store E S rfl rfl (Try.sizeOf22 _) ho_10 ?_)
    clear E a S; rintro a w E S
    refine WL_nil ?_
    refine B_n ?_
    replace S := S.front1
    replace S := S.front1
    replace S := S.front1
    replace S := S.front1
    have S0 := S; clear S; have S := (St.pack [blk b_1 (.cells #[v_9] 22), OwnI 3 v_9 (pre ++ [x])] S0).swap; clear S0
    exact ⟨M_3, _, (Hp.le.refl _), ⟨_, rfl⟩, S⟩
  · rintro a w M_11 _ D_12 hM_11 ⟨u2, rfl⟩ S E
    replace S := S.unpack2
    replace h1 := h1.le hM_11
    refine B_n ?_
    refine T_n ?_
    refine WP_seq ?_
    refine WP_region ?_
    refine S_v E rfl (R_load E rfl (Try.isAgg22 _) (cell_blk (S.mem (.head _)))) rfl ?_
    clear E a; intro a E
    refine S_v E rfl (R_assign E rfl) rfl ?_
    clear E a; intro a E
    refine WL_nil ?_
    refine T_n ?_
    refine WP_ret ?_
    replace S := S.front1
    have S0 := S; clear S
    obtain ⟨M_13, hM_13, hz_14, S⟩ := S0.freezeI (by (first | omega | (simp; omega) | (simp; done) | (simp_all; omega) | grind))
    clear S0
    replace h1 := h1.le hM_13
    replace S := S.drop
    exact F_retM1 E S Try.results157 rfl (fun w S => ⟨_, rfl, M_13, (hM_11.trans hM_13), hz_14, S⟩)
  · rintro _ _ _ _ _ _ _ _ _ hX; exact hX.elim

set_option maxRecDepth 100000 in
set_option maxHeartbeats 4000000 in
theorem slices_Collect {M : Hp} {v0 : Value} {l0 : List Int} (h0 : SeqV Try.prog v0 M (RInt) l0)(hb : l0.length ≤ 1000000000000) :
    Pu Try.prog (.func (.func 88) #[] #[]) M [v0] (fun r M' => RdI M' r l0) := by
  refine Pu_enter Try.func88 rfl Try.ntmps88 rfl Try.call88 ?_
  intro a w M1 H hM1 S E
  replace h0 := h0.le hM1
  refine WP_seq ?_
  refine WP_region ?_
  refine S_v E rfl (R_assign E rfl) rfl ?_
  clear E a; intro a E
  refine WL_nil ?_
  refine T_n ?_
  refine WP_seq ?_
  refine WP_region ?_
  refine S_v E rfl (R_move E rfl) rfl ?_
  clear E a; intro a E
  refine S_x (X_pu E S rfl rfl rfl (slices_AppendSeq h0 (by (first | omega | (simp; omega) | (simp; done) | (simp_all; omega) | grind))) (Hp.le.refl _) ?_)
  clear E a S; rintro a v_2 w M_1 hM_1 hv_2 S E
  replace h0 := h0.le hM_1
  refine S_v E rfl (R_assign E rfl) rfl ?_
  clear E a; intro a E
  refine WL_nil ?_
  refine T_n ?_
  refine WP_ret ?_
  exact F_ret1 E Try.results88 rfl ⟨_, rfl, M_1, hM_1, hv_2, S⟩

set_option maxRecDepth 100000 in
set_option maxHeartbeats 4000000 in
theorem impl_UniqBySeq {M : Hp} {v0 : Value} {l0 : List Int} (h0 : RdI M v0 l0){kk1 kn1 : Int} (gk1 : -9223372036854775808 ≤ kn1 ∧ kn1 ≤ 9223372036854775807) (hb : l0.length ≤ 1000000000000) :
    Pu Try.prog (.func (.func 17) #[] #[]) M [v0, .agg #[.int .i64 kk1, .int .i64 kn1]] (fun r M' => RdI M' r ((uqS (fun x => keyAt kk1 kn1 x 0) l0).2)) := by
  refine Pu_enter Try.func17 rfl Try.ntmps17 rfl Try.call17 ?_
  intro a w M1 H hM1 S E
  replace h0 := h0.le hM1
  have b0 := h0.bound
  have hul := uqS_len (fun x => keyAt kk1 kn1 x 0) l0
  refine WP_seq ?_
  refine WP_region ?_
  refine S_x (X_box (cs := #[.int .i64 kk1, .int .i64 kn1]) E S rfl rfl rfl ?_)
  clear E a S; rintro a w b_1 E S
  obtain ⟨M_2, hM_2, hb_1, S⟩ := S.freezeB
  replace h0 := h0.le hM_2
  refine S_v E rfl (R_assign E rfl) rfl ?_
  clear E a; intro a E
  refine WL_nil ?_
  refine T_n ?_
  refine WP_seq ?_
  have hb_1k2 := hb_1
  replace S := S.mono_heap (w' := World.drew _) rfl
  refine WP_drawn (C := fun x w => agree M_2 w) (bf := (fun i => [])) [0, 2, 3, 6] [0, 2, 3, 1, 4, 5, 6] Try.mixed (by kernel_rfl) (fun x hq => S.imm) ?_
  refine D_v E rfl rfl rfl (fun w hC => (R_move E rfl)) ?_
  clear E a; intro a E
  refine D_v E rfl rfl rfl (fun w hC => (R_loadGM E rfl (Try.isAgg24 _) (Try.sizeOf24 _) hC hb_1k2)) ?_
  clear E a; intro a E
  refine D_v E rfl rfl rfl (fun w hC => (R_makeFunc E rfl rfl)) ?_
  clear E a; intro a E
  refine D_x rfl rfl rfl (X_pu E S rfl rfl rfl (slices_Values h0) (Hp.le.refl _) ?_)
  clear E a S; rintro a v_4 w M_3 hM_3 hv_4 S E
  replace h0 := h0.le hM_3
  replace hb_1 := hM_3.2 _ _ hb_1
  refine ⟨fun x hq hb => (agree_le hM_3 S.imm), ?_⟩
  refine D_x rfl rfl rfl (X_pu E S rfl rfl rfl (it_UniqBy hv_4 ⟨rfl, fun zx1 => Key_of (x1 := zx1) (by omega)⟩) (Hp.le.refl _) ?_)
  clear E a S; rintro a v_6 w M_5 hM_5 hv_6 S E
  replace h0 := h0.le hM_5
  replace hb_1 := hM_5.2 _ _ hb_1
  replace hv_4 := hv_4.le hM_5
  refine ⟨fun x hq hb => (agree_le (hM_3.trans hM_5) S.imm), ?_⟩
  refine D_x rfl rfl rfl (X_pu E S rfl rfl rfl (slices_Collect hv_6 (by (first | omega | (simp; omega) | (simp; done) | (simp_all; omega) | grind))) (Hp.le.refl _) ?_)
  clear E a S; rintro a v_8 w M_7 hM_7 hv_8 S E
  replace h0 := h0.le hM_7
  replace hb_1 := hM_7.2 _ _ hb_1
  replace hv_4 := hv_4.le hM_7
  replace hv_6 := hv_6.le hM_7
  refine ⟨fun x hq hb => (agree_le (hM_3.trans (hM_5.trans hM_7)) S.imm), ?_⟩
  refine D_v E rfl rfl rfl (fun w hC => (R_assign E rfl)) ?_
  clear E a; intro a E
  refine D_end (NoP_n ?_)
  refine T_n ?_
  refine WP_ret ?_
  exact F_ret1 E Try.results17 rfl ⟨_, rfl, M_7, (hM_2.trans (hM_3.trans (hM_5.trans hM_7))), hv_8, S⟩

set_option maxRecDepth 100000 in
set_option maxHeartbeats 4000000 in
theorem lo_Uniq {M : Hp} {v0 : Value} {l0 : List Int} (h0 : RdI M v0 l0) (hb : l0.length ≤ 1000000000000) :
    Pu Try.prog (.func (.func 91) #[] #[]) M [v0] (fun r M' => RdI M' r (keyL l0)) := by
  refine Pu_enter Try.func91 rfl Try.ntmps91 rfl Try.call91 ?_
  intro a w M1 H hM1 S E
  replace h0 := h0.le hM1
  have b0 := h0.bound
  refine WP_seq ?_
  refine WP_region ?_
  refine S_v E rfl (R_assign E rfl) rfl ?_
  clear E a; intro a E
  refine WL_nil ?_
  refine T_n ?_
  refine WP_seq ?_
  refine WP_region ?_
  refine S_v E rfl (R_move E rfl) rfl ?_
  clear E a; intro a E
  refine S_v E rfl (R_lenV E rfl T22 h0.len) rfl ?_
  clear E a; intro a E
  refine S_x (X_make0 (k := (l0).length) E S rfl rfl rfl T22 rfl (by omega) (by omega) (by omega) ?_)
  clear E a S; rintro a w v_1 E S
  replace S := S.made0
  refine S_v E rfl (R_assign E rfl) rfl ?_
  clear E a; intro a E
  refine WL_nil ?_
  refine T_n ?_
  refine WP_seq ?_
  refine WP_region ?_
  refine S_v E rfl (R_move E rfl) rfl ?_
  clear E a; intro a E
  refine S_v E rfl (R_lenV E rfl T22 h0.len) rfl ?_
  clear E a; intro a E
  refine S_x (X_makeMapR E S rfl MT140 rfl ?_)
  clear E a S; rintro a w b_2 E S
  replace S : St w M1 (OwnS b_2 ([] : List Int) :: _) := S
  refine S_v E rfl (R_assign E rfl) rfl ?_
  clear E a; intro a E
  refine WL_nil ?_
  refine T_n ?_
  refine WP_seq ?_
  refine WP_seq ?_
  refine WP_region ?_
  refine S_v E rfl (R_move E rfl) rfl ?_
  clear E a; intro a E
  refine S_v E rfl (R_lenV E rfl T22 h0.len) rfl ?_
  clear E a; intro a E
  refine S_v E rfl (R_move E rfl) rfl ?_
  clear E a; intro a E
  refine WL_nil ?_
  refine T_n ?_
  refine WP_block ?_
  replace S := S.front1
  replace S := S.front1
  replace S := S.reM (L' := (Sl.encS (keyL (l0.take 0)))) (congrArg Sl.encS (show ([] : List Int) = keyL (l0.take 0) by first | (simp [keyL]; done) | rfl | (rw [keyL_in (by assumption) (by assumption)]; done) | (rw [keyL_out (by assumption) (by assumption)]; done) | (rw [keyL_succ (by assumption)]; done)))
  replace S := S.front1
  replace S := S.re1 (l' := keyL (l0.take 0)) (by first | (simp [keyL]; done) | rfl | (rw [keyL_in (by assumption) (by assumption)]; done) | (rw [keyL_out (by assumption) (by assumption)]; done) | (rw [keyL_succ (by assumption)]; done))
  refine WP_loop (γ := Nat) (fun (k : Nat) a w => ∃ (M_3 : Hp) (u3 : Value), Hp.le M1 M_3 ∧ St w M_3 (OwnI 3 u3 (keyL (l0.take k)) :: OwnS b_2 (keyL (l0.take k)) :: H) ∧ Env a 44 [] [(0, v0), (3, u3), (4, .map (some b_2)), (15, .int .i64 (((l0).length : Nat) : Int)), (16, .int .i64 ((k : Nat) : Int))] ∧ (k ≤ (l0).length)) (fun k => ((l0).length) - k) 0 ⟨M1, _, Hp.le.refl _, S, E.keep ⟨rfl, rfl, rfl, rfl, rfl, trivial⟩, by ((try clear S); (try clear E); first | assumption | omega | rfl | (simp; done) | (simp_all; done) | (simp [List.take_add_one, *]; done) | grind [List.take_add_one])⟩ ?_
  try clear E
  try clear S
  try clear a
  try clear w
  rintro k a w ⟨M_3, u3, hM_3, S, E, hL0_0⟩
  replace h0 := h0.le hM_3
  have hkl := keyL_le' (l0.take k); simp only [List.length_take] at hkl
  refine WP_seq ?_
  refine WP_region ?_
  refine S_v E rfl (R_lss E rfl rfl) rfl ?_
  clear E a; intro a E
  refine WL_nil ?_
  refine T_n ?_
  refine WP_seq ?_
  refine WP_cond E rfl (fun hc_4 => ?_) (fun hc_4 => ?_)
  · replace hc_4 := of_decide_eq_true hc_4
    refine WP_skip ?_
    refine T_n ?_
    refine WP_seq ?_
    refine WP_block ?_
    refine WP_seq ?_
    refine WP_region ?_
    refine S_v E rfl (R_move E rfl) rfl ?_
    clear E a; intro a E
    refine S_v E rfl (R_assign E rfl) rfl ?_
    clear E a; intro a E
    refine WL_nil ?_
    refine T_n ?_
    refine WP_seq ?_
    refine WP_seq ?_
    refine WP_region ?_
    refine S_v E rfl (R_move E rfl) rfl ?_
    clear E a; intro a E
    refine S_v E rfl (R_move E rfl) rfl ?_
    clear E a; intro a E
    refine S_v E rfl (R_move E rfl) rfl ?_
    clear E a; intro a E
    obtain ⟨x_5, hx_5⟩ : ∃ x, (l0)[k]? = some x := ⟨_, List.getElem?_eq_getElem (by first | omega | (simp; done) | (simp; omega) | (simp_all; omega))⟩
    obtain ⟨p_6, hp_6, qp_6⟩ := h0.at hx_5
    refine S_v E rfl (R_idx E rfl rfl T22 hp_6 rfl) rfl ?_
    clear E a; intro a E
    refine S_v E rfl (R_loadM E rfl Try.isAgg3 S.imm qp_6) rfl ?_
    clear E a; intro a E
    replace S := S.front1
    refine S_x (X_lookupS E S rfl MT140 rfl rfl ?_)
    clear E a S; rintro a w E S
    replace S : St w M_3 (OwnS b_2 (keyL (l0.take k)) :: _) := S
    refine S_v E rfl (R_move E rfl) rfl ?_
    clear E a; intro a E
    refine S_v E rfl (R_extract E rfl rfl) rfl ?_
    clear E a; intro a E
    refine S_v E rfl (R_extract E rfl rfl) rfl ?_
    clear E a; intro a E
    refine S_x (X_alloc (cs := #[]) E S rfl Try.zeroValue141 rfl ?_)
    clear E a S; rintro a w b_7 E S
    refine S_x0 (X_storeG (us := []) E S rfl rfl (Try.sizeOf141 _) rfl (by intro u hu; cases hu) ?_)
    clear E a S; rintro a w E S
    replace S : St w M_3 (blk b_7 (.cells #[] 141) :: _) := S
    have S0 := S; clear S
    obtain ⟨M_8, hM_8, hb_9, S⟩ := S0.freezeB
    clear S0
    replace h0 := h0.le hM_8
    refine S_v E rfl (R_assign E rfl) rfl ?_
    clear E a; intro a E
    refine WL_nil ?_
    refine T_n ?_
    refine WP_seq ?_
    refine WP_region ?_
    refine S_v E rfl (R_move E rfl) rfl ?_
    clear E a; intro a E
    refine WL_nil ?_
    refine T_n ?_
    refine WP_cond E rfl (fun hc_10 => ?_) (fun hc_10 => ?_)
    · replace hc_10 := of_decide_eq_true hc_10
      refine WP_exit ?_
      refine T_x ?_
      refine B_x ?_
      refine T_n ?_
      refine WP_region ?_
      refine S_v E rfl (R_addx (m := ((k + 1 : Nat) : Int)) E rfl rfl (by omega) (by omega)) rfl ?_
      clear E a; intro a E
      refine S_v E rfl (R_move E rfl) rfl ?_
      clear E a; intro a E
      refine WL_nil ?_
      refine T_n ?_
      replace S := S.front1
      replace S := S.front1
      replace S := S.reM (L' := (Sl.encS (keyL (l0.take (k + 1))))) (congrArg Sl.encS (show keyL (l0.take k) = keyL (l0.take (k + 1)) by first | (simp [keyL]; done) | rfl | (rw [keyL_in (by assumption) (by assumption)]; done) | (rw [keyL_out (by assumption) (by assumption)]; done) | (rw [keyL_succ (by assumption)]; done)))
      replace S := S.front1
      replace S := S.re1 (l' := keyL (l0.take (k + 1))) (by first | (simp [keyL]; done) | rfl | (rw [keyL_in (by assumption) (by assumption)]; done) | (rw [keyL_out (by assumption) (by assumption)]; done) | (rw [keyL_succ (by assumption)]; done))
      exact ⟨k + 1, ⟨M_8, _, (hM_3.trans hM_8), S, E.keep ⟨rfl, rfl, rfl, rfl, rfl, trivial⟩, by ((try clear S); (try clear E); first | assumption | omega | rfl | (simp; done) | (simp_all; done) | (simp [List.take_add_one, *]; done) | grind [List.take_add_one])⟩, by omega⟩
    · replace hc_10 := of_decide_eq_false hc_10
      refine WP_skip ?_
      refine T_n ?_
      refine WP_seq ?_
      refine WP_region ?_
      refine S_v E rfl (R_move E rfl) rfl ?_
      clear E a; intro a E
      refine S_v E rfl (R_move E rfl) rfl ?_
      clear E a; intro a E
      refine S_v E rfl (R_move E rfl) rfl ?_
      clear E a; intro a E
      obtain ⟨p_11, hp_11, qp_11⟩ := h0.at hx_5
      refine S_v E rfl (R_idx E rfl rfl T22 hp_11 rfl) rfl ?_
      clear E a; intro a E
      refine S_v E rfl (R_loadM E rfl Try.isAgg3 S.imm qp_11) rfl ?_
      clear E a; intro a E
      refine S_v E rfl (R_build (u := .agg #[]) (vs := []) E rfl (fun w => FB141__  w)) rfl ?_
      clear E a; intro a E
      refine S_x0 (X_updateS E S MT140 rfl rfl rfl ?_)
      clear E a S; rintro a w E S
      refine WL_nil ?_
      refine T_n ?_
      refine WP_region ?_
      refine S_v E rfl (R_move E rfl) rfl ?_
      clear E a; intro a E
      refine S_v E rfl (R_move E rfl) rfl ?_
      clear E a; intro a E
      refine S_v E rfl (R_move E rfl) rfl ?_
      clear E a; intro a E
      obtain ⟨p_12, hp_12, qp_12⟩ := h0.at hx_5
      refine S_v E rfl (R_idx E rfl rfl T22 hp_12 rfl) rfl ?_
      clear E a; intro a E
      refine S_v E rfl (R_loadM E rfl Try.isAgg3 S.imm qp_12) rfl ?_
      clear E a; intro a E
      refine S_x (X_buildI (ys := [x_5]) E S rfl T22 rfl rfl rfl ?_)
      clear E a S; rintro a w v_13 E S
      replace S := S.front2
      replace S := S.front1
      refine S_x (X_appendB (xs := keyL (l0.take k)) (ys := [x_5]) E S rfl rfl rfl T22 (by first | omega | (simp; done) | (simp; omega) | (simp_all; omega)) ?_)
      clear E a S; rintro a w v_14 E S
      refine S_v E rfl (R_assign E rfl) rfl ?_
      clear E a; intro a E
      refine WL_nil ?_
      refine B_n ?_
      refine T_n ?_
      refine WP_region ?_
      refine S_v E rfl (R_addx (m := ((k + 1 : Nat) : Int)) E rfl rfl (by omega) (by omega)) rfl ?_
      clear E a; intro a E
      refine S_v E rfl (R_move E rfl) rfl ?_
      clear E a; intro a E
      refine WL_nil ?_
      refine T_n ?_
      replace S := S.front1
      replace S := S.reM (L' := (Sl.encS (keyL (l0.take (k + 1))))) (congrArg Sl.encS (show addS (keyL (l0.take k)) x_5 = keyL (l0.take (k + 1)) by first | (simp [keyL]; done) | rfl | (rw [keyL_in (by assumption) (by assumption)]; done) | (rw [keyL_out (by assumption) (by assumption)]; done) | (rw [keyL_succ (by assumption)]; done)))
      replace S := S.front1
      replace S := S.re1 (l' := keyL (l0.take (k + 1))) (by first | (simp [keyL]; done) | rfl | (rw [keyL_in (by assumption) (by assumption)]; done) | (rw [keyL_out (by assumption) (by assumption)]; done) | (rw [keyL_succ (by assumption)]; done))
      exact ⟨k + 1, ⟨M_8, _, (hM_3.trans hM_8), S, E.keep ⟨rfl, rfl, rfl, rfl, rfl, trivial⟩, by ((try clear S); (try clear E); first | assumption | omega | rfl | (simp; done) | (simp_all; done) | (simp [List.take_add_one, *]; done) | grind [List.take_add_one])⟩, by omega⟩
  · replace hc_4 := of_decide_eq_false hc_4
    refine WP_exit ?_
    refine T_x ?_
    refine T_x ?_
    refine B_x ?_
    refine T_n ?_
    refine WP_seq ?_
    refine WP_region ?_
    refine S_v E rfl (R_move E rfl) rfl ?_
    clear E a; intro a E
    refine S_v E rfl (R_assign E rfl) rfl ?_
    clear E a; intro a E
    refine WL_nil ?_
    refine T_n ?_
    refine WP_ret ?_
    have S0 := S; clear S
    obtain ⟨M_15, hM_15, hz_16, S⟩ := S0.freezeI (by (first | omega | (simp; omega) | (simp; done) | (simp_all; omega) | grind))
    clear S0
    replace h0 := h0.le hM_15
    exact F_ret1 E Try.results91 rfl ⟨_, rfl, M_15, (hM_3.trans hM_15), (by rw [show (keyL l0) = (keyL (l0.take k)) from by (rw [List.take_of_length_le (by omega)])]; exact hz_16), S.drop⟩

set_option maxRecDepth 100000 in
set_option maxHeartbeats 4000000 in
theorem impl_Uniq {M : Hp} {v0 : Value} {l0 : List Int} (h0 : RdI M v0 l0) (hb : l0.length ≤ 1000000000000) :
    Pu Try.prog (.func (.func 18) #[] #[]) M [v0] (fun r M' => RdI M' r (keyL l0)) := by
  refine Pu_enter Try.func18 rfl Try.ntmps18 rfl Try.call18 ?_
  intro a w M1 H hM1 S E
  replace h0 := h0.le hM1
  have b0 := h0.bound
  have hkl := keyL_le' l0
  refine WP_seq ?_
  refine WP_region ?_
  refine S_v E rfl (R_assign E rfl) rfl ?_
  clear E a; intro a E
  refine WL_nil ?_
  refine T_n ?_
  refine WP_seq ?_
  refine WP_region ?_
  refine S_v E rfl (R_move E rfl) rfl ?_
  clear E a; intro a E
  refine S_x (X_pu E S rfl rfl rfl (lo_Uniq h0 (by (first | omega | (simp; omega) | (simp; done) | (simp_all; omega) | grind))) (Hp.le.refl _) ?_)
  clear E a S; rintro a v_2 w M_1 hM_1 hv_2 S E
  replace h0 := h0.le hM_1
  refine S_v E rfl (R_assign E rfl) rfl ?_
  clear E a; intro a E
  refine WL_nil ?_
  refine T_n ?_
  refine WP_ret ?_
  exact F_ret1 E Try.results18 rfl ⟨_, rfl, M_1, hM_1, hv_2, S⟩

set_option maxRecDepth 100000 in
set_option maxHeartbeats 4000000 in
theorem lo_FindUniquesBy {M : Hp} {v0 : Value} {l0 : List Int} (h0 : RdI M v0 l0){v1 : Value} {f1 : Int → Int} (h1 : PF1I Try.prog v1 M f1) (hb : l0.length ≤ 1000000000000) :
    Pu Try.prog (.func (.func 92) #[] #[]) M [v0, v1] (fun r M' => RdI M' r ((l0).filter (fun x => !getK false (dupM f1 l0) (f1 x)))) := by
  refine Pu_enter Try.func92 rfl Try.ntmps92 rfl Try.call92 ?_
  intro a w M1 H hM1 S E
  replace h0 := h0.le hM1
  replace h1 := h1.le hM1
  have b0 := h0.bound
  refine WP_seq ?_
  refine WP_region ?_
  refine S_v E rfl (R_assign E rfl) rfl ?_
  clear E a; intro a E
  refine WL_nil ?_
  refine T_n ?_
  refine WP_seq ?_
  refine WP_region ?_
  refine S_v E rfl (R_move E rfl) rfl ?_
  clear E a; intro a E
  refine S_v E rfl (R_lenV E rfl T22 h0.len) rfl ?_
  clear E a; intro a E
  refine S_x (X_makeMapR E S rfl MT145 rfl ?_)
  clear E a S; rintro a w b_1 E S
  replace S : St w M1 (OwnE Value.bool b_1 ([] : List (Int × Bool)) :: _) := S
  refine S_v E rfl (R_assign E rfl) rfl ?_
  clear E a; intro a E
  refine WL_nil ?_
  refine T_n ?_
  refine WP_seq ?_
  refine WP_region ?_
  refine S_v E rfl (R_assign E rfl) rfl ?_
  clear E a; intro a E
  refine WL_nil ?_
  refine T_n ?_
  refine WP_seq ?_
  refine WP_seq ?_
  refine WP_region ?_
  refine S_v E rfl (R_move E rfl) rfl ?_
  clear E a; intro a E
  refine S_v E rfl (R_lenV E rfl T22 h0.len) rfl ?_
  clear E a; intro a E
  refine S_v E rfl (R_move E rfl) rfl ?_
  clear E a; intro a E
  refine WL_nil ?_
  refine T_n ?_
  refine WP_block ?_
  replace S := S.reM (L' := (encE Value.bool (dupM f1 (l0.take 0)))) (congrArg (encE Value.bool) (show ([] : List (Int × Bool)) = dupM f1 (l0.take 0) by first | rfl | (simp [dupM]; done) | exact dup_y (f := f1) (by assumption) (by assumption) | exact dup_n (f := f1) (by assumption) (by assumption)))
  refine WP_loop (γ := Nat) (fun (k : Nat) a w => ∃ (M_2 : Hp), Hp.le M1 M_2 ∧ St w M_2 (OwnE Value.bool b_1 (dupM f1 (l0.take k)) :: H) ∧ Env a 74 [] [(0, v0), (1, v1), (5, .map (some b_1)), (6, .int .i64 ((cntT (dupM f1 (l0.take k)) : Nat) : Int)), (19, .int .i64 (((l0).length : Nat) : Int)), (20, .int .i64 ((k : Nat) : Int))] ∧ (k ≤ (l0).length)) (fun k => ((l0).length) - k) 0 ⟨M1, Hp.le.refl _, S, E.keep ⟨rfl, rfl, rfl, look_nat (i := 0) rfl (by (simp [dupM, cntT])), rfl, rfl, trivial⟩, by ((try clear S); (try clear E); first | assumption | omega | rfl | (simp; done) | (simp_all; done) | (simp [List.take_add_one, *]; done) | grind [List.take_add_one])⟩ ?_
  try clear E
  try clear S
  try clear a
  try clear w
  rintro k a w ⟨M_2, hM_2, S, E, hL0_0⟩
  replace h0 := h0.le hM_2
  replace h1 := h1.le hM_2
  have hdl := dupM_len f1 (l0.take k); rw [List.length_take] at hdl
  have hct := cntT_le (dupM f1 (l0.take k))
  refine WP_seq ?_
  refine WP_region ?_
  refine S_v E rfl (R_lss E rfl rfl) rfl ?_
  clear E a; intro a E
  refine WL_nil ?_
  refine T_n ?_
  refine WP_seq ?_
  refine WP_cond E rfl (fun hc_3 => ?_) (fun hc_3 => ?_)
  · replace hc_3 := of_decide_eq_true hc_3
    refine WP_skip ?_
    refine T_n ?_
    refine WP_seq ?_
    refine WP_block ?_
    refine WP_seq ?_
    refine WP_region ?_
    refine S_v E rfl (R_move E rfl) rfl ?_
    clear E a; intro a E
    refine S_v E rfl (R_assign E rfl) rfl ?_
    clear E a; intro a E
    refine WL_nil ?_
    refine T_n ?_
    refine WP_seq ?_
    refine WP_region ?_
    refine S_v E rfl (R_move E rfl) rfl ?_
    clear E a; intro a E
    refine S_v E rfl (R_move E rfl) rfl ?_
    clear E a; intro a E
    refine S_v E rfl (R_move E rfl) rfl ?_
    clear E a; intro a E
    obtain ⟨x_4, hx_4⟩ : ∃ x, (l0)[k]? = some x := ⟨_, List.getElem?_eq_getElem (by first | omega | (simp; done) | (simp; omega) | (simp_all; omega))⟩
    obtain ⟨p_5, hp_5, qp_5⟩ := h0.at hx_4
    refine S_v E rfl (R_idx E rfl rfl T22 hp_5 rfl) rfl ?_
    clear E a; intro a E
    refine S_v E rfl (R_loadM E rfl Try.isAgg3 S.imm qp_5) rfl ?_
    clear E a; intro a E
    refine S_x (X_pu E S rfl rfl rfl (h1.2 x_4) (Hp.le.refl _) ?_)
    clear E a S; rintro a _ w M_6 hM_6 rfl S E
    replace h0 := h0.le hM_6
    replace h1 := h1.le hM_6
    refine S_v E rfl (R_assign E rfl) rfl ?_
    clear E a; intro a E
    refine WL_nil ?_
    refine T_n ?_
    refine WP_seq ?_
    refine WP_region ?_
    refine S_v E rfl (R_move E rfl) rfl ?_
    clear E a; intro a E
    refine S_v E rfl (R_move E rfl) rfl ?_
    clear E a; intro a E
    refine S_x (X_lookupE (vf := Value.bool) (zb := false) E S rfl MT145 rfl rfl ?_)
    clear E a S; rintro a w E S
    replace S : St w M_6 (OwnE Value.bool b_1 (dupM f1 (l0.take k)) :: _) := S
    refine S_v E rfl (R_move E rfl) rfl ?_
    clear E a; intro a E
    refine S_v E rfl (R_extract E rfl rfl) rfl ?_
    clear E a; intro a E
    refine S_v E rfl (R_extract E rfl rfl) rfl ?_
    clear E a; intro a E
    refine S_v E rfl (R_assign E rfl) rfl ?_
    clear E a; intro a E
    refine S_v E rfl (R_assign E rfl) rfl ?_
    clear E a; intro a E
    refine WL_nil ?_
    refine T_n ?_
    refine WP_seq ?_
    refine WP_region ?_
    refine S_v E rfl (R_move E rfl) rfl ?_
    clear E a; intro a E
    refine S_v E rfl (R_not E rfl) rfl ?_
    clear E a; intro a E
    refine WL_nil ?_
    refine T_n ?_
    refine WP_cond E rfl (fun hc_7 => ?_) (fun hc_7 => ?_)
    · refine WP_seq ?_
      refine WP_region ?_
      refine S_v E rfl (R_move E rfl) rfl ?_
      clear E a; intro a E
      refine S_v E rfl (R_move E rfl) rfl ?_
      clear E a; intro a E
      refine S_v E rfl (R_move E rfl) rfl ?_
      clear E a; intro a E
      refine S_x0 (X_updateE (vf := Value.bool) (u := hasK (dupM f1 (l0.take k)) (f1 x_4)) E S MT145 rfl rfl rfl ?_)
      clear E a S; rintro a w E S
      refine WL_nil ?_
      refine T_n ?_
      refine WP_seq ?_
      refine WP_region ?_
      refine S_v E rfl (R_move E rfl) rfl ?_
      clear E a; intro a E
      refine WL_nil ?_
      refine T_n ?_
      refine WP_cond E rfl (fun hc_8 => ?_) (fun hc_8 => ?_)
      · refine WP_region ?_
        refine S_v E rfl (R_move E rfl) rfl ?_
        clear E a; intro a E
        refine S_v E rfl (R_addx (m := ((cntT (dupM f1 (l0.take k)) + 1 : Nat) : Int)) E rfl rfl (by first | omega | (have hdl := dupM_len f1 (l0.take k); rw [List.length_take] at hdl; have hct := cntT_le (dupM f1 (l0.take k)); omega)) (by first | omega | (have hdl := dupM_len f1 (l0.take k); rw [List.length_take] at hdl; have hct := cntT_le (dupM f1 (l0.take k)); omega))) rfl ?_
        clear E a; intro a E
        refine S_v E rfl (R_assign E rfl) rfl ?_
        clear E a; intro a E
        refine WL_nil ?_
        refine B_n ?_
        refine T_n ?_
        refine WP_region ?_
        refine S_v E rfl (R_addx (m := ((k + 1 : Nat) : Int)) E rfl rfl (by first | omega | (have hdl := dupM_len f1 (l0.take k); rw [List.length_take] at hdl; have hct := cntT_le (dupM f1 (l0.take k)); omega)) (by first | omega | (have hdl := dupM_len f1 (l0.take k); rw [List.length_take] at hdl; have hct := cntT_le (dupM f1 (l0.take k)); omega))) rfl ?_
        clear E a; intro a E
        refine S_v E rfl (R_move E rfl) rfl ?_
        clear E a; intro a E
        refine WL_nil ?_
        refine T_n ?_
        replace S := S.reM (L' := (encE Value.bool (dupM f1 (l0.take (k + 1))))) (congrArg (encE Value.bool) (show putK (dupM f1 (l0.take k)) (f1 x_4) (hasK (dupM f1 (l0.take k)) (f1 x_4)) = dupM f1 (l0.take (k + 1)) by first | rfl | (simp [dupM]; done) | exact dup_y (f := f1) (by assumption) (by assumption) | exact dup_n (f := f1) (by assumption) (by assumption)))
        exact ⟨k + 1, ⟨M_6, (hM_2.trans hM_6), S, E.keep ⟨rfl, rfl, rfl, look_nat (i := cntT (dupM f1 (l0.take k)) + 1) rfl (by (first | (have h9 := cnt_y (f := f1) (by assumption) (by assumption); omega) | (have h9 := cnt_n (f := f1) (by assumption) (by assumption) (by assumption); omega) | (have h9 := cnt_i (f := f1) (by assumption) (by assumption) (by assumption); omega))), rfl, rfl, trivial⟩, by ((try clear S); (try clear E); first | assumption | omega | rfl | (simp; done) | (simp_all; done) | (simp [List.take_add_one, *]; done) | grind [List.take_add_one])⟩, by omega⟩
      · refine WP_skip ?_
        refine B_n ?_
        refine T_n ?_
        refine WP_region ?_
        refine S_v E rfl (R_addx (m := ((k + 1 : Nat) : Int)) E rfl rfl (by first | omega | (have hdl := dupM_len f1 (l0.take k); rw [List.length_take] at hdl; have hct := cntT_le (dupM f1 (l0.take k)); omega)) (by first | omega | (have hdl := dupM_len f1 (l0.take k); rw [List.length_take] at hdl; have hct := cntT_le (dupM f1 (l0.take k)); omega))) rfl ?_
        clear E a; intro a E
        refine S_v E rfl (R_move E rfl) rfl ?_
        clear E a; intro a E
        refine WL_nil ?_
        refine T_n ?_
        replace S := S.reM (L' := (encE Value.bool (dupM f1 (l0.take (k + 1))))) (congrArg (encE Value.bool) (show putK (dupM f1 (l0.take k)) (f1 x_4) (hasK (dupM f1 (l0.take k)) (f1 x_4)) = dupM f1 (l0.take (k + 1)) by first | rfl | (simp [dupM]; done) | exact dup_y (f := f1) (by assumption) (by assumption) | exact dup_n (f := f1) (by assumption) (by assumption)))
        exact ⟨k + 1, ⟨M_6, (hM_2.trans hM_6), S, E.keep ⟨rfl, rfl, rfl, look_nat (i := cntT (dupM f1 (l0.take k))) rfl (by (first | (have h9 := cnt_y (f := f1) (by assumption) (by assumption); omega) | (have h9 := cnt_n (f := f1) (by assumption) (by assumption) (by assumption); omega) | (have h9 := cnt_i (f := f1) (by assumption) (by assumption) (by assumption); omega))), rfl, rfl, trivial⟩, by ((try clear S); (try clear E); first | assumption | omega | rfl | (simp; done) | (simp_all; done) | (simp [List.take_add_one, *]; done) | grind [List.take_add_one])⟩, by omega⟩
    · refine WP_skip ?_
      refine B_n ?_
      refine T_n ?_
      refine WP_region ?_
      refine S_v E rfl (R_addx (m := ((k + 1 : Nat) : Int)) E rfl rfl (by first | omega | (have hdl := dupM_len f1 (l0.take k); rw [List.length_take] at hdl; have hct := cntT_le (dupM f1 (l0.take k)); omega)) (by first | omega | (have hdl := dupM_len f1 (l0.take k); rw [List.length_take] at hdl; have hct := cntT_le (dupM f1 (l0.take k)); omega))) rfl ?_
      clear E a; intro a E
      refine S_v E rfl (R_move E rfl) rfl ?_
      clear E a; intro a E
      refine WL_nil ?_
      refine T_n ?_
      replace S := S.reM (L' := (encE Value.bool (dupM f1 (l0.take (k + 1))))) (congrArg (encE Value.bool) (show dupM f1 (l0.take k) = dupM f1 (l0.take (k + 1)) by first | rfl | (simp [dupM]; done) | exact dup_y (f := f1) (by assumption) (by assumption) | exact dup_n (f := f1) (by assumption) (by assumption)))
      exact ⟨k + 1, ⟨M_6, (hM_2.trans hM_6), S, E.keep ⟨rfl, rfl, rfl, look_nat (i := cntT (dupM f1 (l0.take k))) rfl (by (first | (have h9 := cnt_y (f := f1) (by assumption) (by assumption); omega) | (have h9 := cnt_n (f := f1) (by assumption) (by assumption) (by assumption); omega) | (have h9 := cnt_i (f := f1) (by assumption) (by assumption) (by assumption); omega))), rfl, rfl, trivial⟩, by ((try clear S); (try clear E); first | assumption | omega | rfl | (simp; done) | (simp_all; done) | (simp [List.take_add_one, *]; done) | grind [List.take_add_one])⟩, by omega⟩
  · replace hc_3 := of_decide_eq_false hc_3
    refine WP_exit ?_
    refine T_x ?_
    refine T_x ?_
    refine B_x ?_
    refine T_n ?_
    refine WP_seq ?_
    refine WP_region ?_
    refine S_v E rfl (R_move E rfl) rfl ?_
    clear E a; intro a E
    refine S_v E rfl ((R_lenO E S MT145 rfl).trans (by rw [encE_len])) rfl ?_
    clear E a; intro a E
    refine S_v E rfl (R_move E rfl) rfl ?_
    clear E a; intro a E
    refine S_v E rfl (R_subx (m := (((dupM f1 (l0.take k)).length - (cntT (dupM f1 (l0.take k))) : Nat) : Int)) E rfl rfl (by first | omega | (have hdl := dupM_len f1 (l0.take k); rw [List.length_take] at hdl; have hct := cntT_le (dupM f1 (l0.take k)); omega)) (by first | omega | (have hdl := dupM_len f1 (l0.take k); rw [List.length_take] at hdl; have hct := cntT_le (dupM f1 (l0.take k)); omega))) rfl ?_
    clear E a; intro a E
    refine S_x (X_make0 (k := (dupM f1 (l0.take k)).length - (cntT (dupM f1 (l0.take k)))) E S rfl rfl rfl T22 rfl (by omega) (by (have hdl := dupM_len f1 (l0.take k); rw [List.length_take] at hdl; have hct := cntT_le (dupM f1 (l0.take k)); omega)) (by (have hdl := dupM_len f1 (l0.take k); rw [List.length_take] at hdl; have hct := cntT_le (dupM f1 (l0.take k)); omega)) ?_)
    clear E a S; rintro a w v_9 E S
    replace S := S.made0
    refine S_v E rfl (R_assign E rfl) rfl ?_
    clear E a; intro a E
    refine WL_nil ?_
    refine T_n ?_
    refine WP_seq ?_
    refine WP_seq ?_
    refine WP_region ?_
    refine S_v E rfl (R_move E rfl) rfl ?_
    clear E a; intro a E
    refine S_v E rfl (R_lenV E rfl T22 h0.len) rfl ?_
    clear E a; intro a E
    refine S_v E rfl (R_move E rfl) rfl ?_
    clear E a; intro a E
    refine WL_nil ?_
    refine T_n ?_
    refine WP_block ?_
    replace S := S.front1
    replace S := S.front1
    replace S := S.front1
    replace S := S.front1
    replace S := S.re1 (l' := (l0.take 0).filter (fun x => !getK false (dupM f1 (l0.take k)) (f1 x))) (by first | rfl | (simp; done) | exact flt1_yes (f := fun x => !getK false (dupM f1 (l0.take k)) (f1 x)) (by assumption) (by assumption) | exact flt1_no (f := fun x => !getK false (dupM f1 (l0.take k)) (f1 x)) (by assumption) (by assumption))
    refine WP_loop (γ := Nat) (fun (j : Nat) a w => ∃ (M_10 : Hp) (u11 : Value), Hp.le M_2 M_10 ∧ St w M_10 (OwnI 3 u11 ((l0.take j).filter (fun x => !getK false (dupM f1 (l0.take k)) (f1 x))) :: OwnE Value.bool b_1 (dupM f1 (l0.take k)) :: H) ∧ Env a 74 [] [(0, v0), (1, v1), (5, .map (some b_1)), (11, u11), (50, .int .i64 (((l0).length : Nat) : Int)), (51, .int .i64 ((j : Nat) : Int))] ∧ (j ≤ (l0).length)) (fun j => ((l0).length) - j) 0 ⟨M_2, _, Hp.le.refl _, S, E.keep ⟨rfl, rfl, rfl, rfl, rfl, rfl, trivial⟩, by ((try clear S); (try clear E); first | assumption | omega | rfl | (simp; done) | (simp_all; done) | (simp [List.take_add_one, *]; done) | grind [List.take_add_one])⟩ ?_
    try clear E
    try clear S
    try clear a
    try clear w
    rintro j a w ⟨M_10, u11, hM_10, S, E, hL1_0⟩
    replace h0 := h0.le hM_10
    replace h1 := h1.le hM_10
    have hfl := List.length_filter_le (fun x => !getK false (dupM f1 (l0.take k)) (f1 x)) (l0.take j); rw [List.length_take] at hfl
    refine WP_seq ?_
    refine WP_region ?_
    refine S_v E rfl (R_lss E rfl rfl) rfl ?_
    clear E a; intro a E
    refine WL_nil ?_
    refine T_n ?_
    refine WP_seq ?_
    refine WP_cond E rfl (fun hc_11 => ?_) (fun hc_11 => ?_)
    · replace hc_11 := of_decide_eq_true hc_11
      refine WP_skip ?_
      refine T_n ?_
      refine WP_seq ?_
      refine WP_block ?_
      refine WP_seq ?_
      refine WP_region ?_
      refine S_v E rfl (R_move E rfl) rfl ?_
      clear E a; intro a E
      refine S_v E rfl (R_assign E rfl) rfl ?_
      clear E a; intro a E
      refine WL_nil ?_
      refine T_n ?_
      refine WP_seq ?_
      refine WP_region ?_
      refine S_v E rfl (R_move E rfl) rfl ?_
      clear E a; intro a E
      refine S_v E rfl (R_move E rfl) rfl ?_
      clear E a; intro a E
      refine S_v E rfl (R_move E rfl) rfl ?_
      clear E a; intro a E
      obtain ⟨x_12, hx_12⟩ : ∃ x, (l0)[j]? = some x := ⟨_, List.getElem?_eq_getElem (by first | omega | (simp; done) | (simp; omega) | (simp_all; omega))⟩
      obtain ⟨p_13, hp_13, qp_13⟩ := h0.at hx_12
      refine S_v E rfl (R_idx E rfl rfl T22 hp_13 rfl) rfl ?_
      clear E a; intro a E
      refine S_v E rfl (R_loadM E rfl Try.isAgg3 S.imm qp_13) rfl ?_
      clear E a; intro a E
      refine S_x (X_pu E S rfl rfl rfl (h1.2 x_12) (Hp.le.refl _) ?_)
      clear E a S; rintro a _ w M_14 hM_14 rfl S E
      replace h0 := h0.le hM_14
      replace h1 := h1.le hM_14
      refine S_v E rfl (R_assign E rfl) rfl ?_
      clear E a; intro a E
      refine WL_nil ?_
      refine T_n ?_
      refine WP_seq ?_
      refine WP_region ?_
      refine S_v E rfl (R_move E rfl) rfl ?_
      clear E a; intro a E
      refine S_v E rfl (R_move E rfl) rfl ?_
      clear E a; intro a E
      replace S := S.front1
      refine S_x (X_lookupE1 (vf := Value.bool) (zb := false) E S rfl MT145 rfl rfl ?_)
      clear E a S; rintro a w E S
      replace S : St w M_14 (OwnE Value.bool b_1 (dupM f1 (l0.take k)) :: _) := S
      refine S_v E rfl (R_assign E rfl) rfl ?_
      clear E a; intro a E
      refine WL_nil ?_
      refine T_n ?_
      refine WP_seq ?_
      refine WP_region ?_
      refine S_v E rfl (R_move E rfl) rfl ?_
      clear E a; intro a E
      refine S_v E rfl (R_not E rfl) rfl ?_
      clear E a; intro a E
      refine WL_nil ?_
      refine T_n ?_
      refine WP_cond E rfl (fun hc_15 => ?_) (fun hc_15 => ?_)
      · refine WP_region ?_
        refine S_v E rfl (R_move E rfl) rfl ?_
        clear E a; intro a E
        refine S_v E rfl (R_move E rfl) rfl ?_
        clear E a; intro a E
        refine S_v E rfl (R_move E rfl) rfl ?_
        clear E a; intro a E
        obtain ⟨p_16, hp_16, qp_16⟩ := h0.at hx_12
        refine S_v E rfl (R_idx E rfl rfl T22 hp_16 rfl) rfl ?_
        clear E a; intro a E
        refine S_v E rfl (R_loadM E rfl Try.isAgg3 S.imm qp_16) rfl ?_
        clear E a; intro a E
        refine S_x (X_buildI (ys := [x_12]) E S rfl T22 rfl rfl rfl ?_)
        clear E a S; rintro a w v_17 E S
        replace S := S.front2
        replace S := S.front1
        refine S_x (X_appendB (xs := (l0.take j).filter (fun x => !getK false (dupM f1 (l0.take k)) (f1 x))) (ys := [x_12]) E S rfl rfl rfl T22 (by (simp only [List.length_cons, List.length_nil] at *; omega)) ?_)
        clear E a S; rintro a w v_18 E S
        refine S_v E rfl (R_assign E rfl) rfl ?_
        clear E a; intro a E
        refine WL_nil ?_
        refine B_n ?_
        refine T_n ?_
        refine WP_region ?_
        refine S_v E rfl (R_addx (m := ((j + 1 : Nat) : Int)) E rfl rfl (by first | omega | (have hdl := dupM_len f1 (l0.take k); rw [List.length_take] at hdl; have hct := cntT_le (dupM f1 (l0.take k)); omega)) (by first | omega | (have hdl := dupM_len f1 (l0.take k); rw [List.length_take] at hdl; have hct := cntT_le (dupM f1 (l0.take k)); omega))) rfl ?_
        clear E a; intro a E
        refine S_v E rfl (R_move E rfl) rfl ?_
        clear E a; intro a E
        refine WL_nil ?_
        refine T_n ?_
        replace S := S.front1
        replace S := S.front1
        replace S := S.re1 (l' := (l0.take (j + 1)).filter (fun x => !getK false (dupM f1 (l0.take k)) (f1 x))) (by first | rfl | (simp; done) | exact flt1_yes (f := fun x => !getK false (dupM f1 (l0.take k)) (f1 x)) (by assumption) (by assumption) | exact flt1_no (f := fun x => !getK false (dupM f1 (l0.take k)) (f1 x)) (by assumption) (by assumption))
        exact ⟨j + 1, ⟨M_14, _, (hM_10.trans hM_14), S, E.keep ⟨rfl, rfl, rfl, rfl, rfl, rfl, trivial⟩, by ((try clear S); (try clear E); first | assumption | omega | rfl | (simp; done) | (simp_all; done) | (simp [List.take_add_one, *]; done) | grind [List.take_add_one])⟩, by omega⟩
      · refine WP_skip ?_
        refine B_n ?_
        refine T_n ?_
        refine WP_region ?_
        refine S_v E rfl (R_addx (m := ((j + 1 : Nat) : Int)) E rfl rfl (by first | omega | (have hdl := dupM_len f1 (l0.take k); rw [List.length_take] at hdl; have hct := cntT_le (dupM f1 (l0.take k)); omega)) (by first | omega | (have hdl := dupM_len f1 (l0.take k); rw [List.length_take] at hdl; have hct := cntT_le (dupM f1 (l0.take k)); omega))) rfl ?_
        clear E a; intro a E
        refine S_v E rfl (R_move E rfl) rfl ?_
        clear E a; intro a E
        refine WL_nil ?_
        refine T_n ?_
        replace S := S.front1
        replace S := S.front1
        replace S := S.front1
        replace S := S.re1 (l' := (l0.take (j + 1)).filter (fun x => !getK false (dupM f1 (l0.take k)) (f1 x))) (by first | rfl | (simp; done) | exact flt1_yes (f := fun x => !getK false (dupM f1 (l0.take k)) (f1 x)) (by assumption) (by assumption) | exact flt1_no (f := fun x => !getK false (dupM f1 (l0.take k)) (f1 x)) (by assumption) (by assumption))
        exact ⟨j + 1, ⟨M_14, _, (hM_10.trans hM_14), S, E.keep ⟨rfl, rfl, rfl, rfl, rfl, rfl, trivial⟩, by ((try clear S); (try clear E); first | assumption | omega | rfl | (simp; done) | (simp_all; done) | (simp [List.take_add_one, *]; done) | grind [List.take_add_one])⟩, by omega⟩
    · replace hc_11 := of_decide_eq_false hc_11
      refine WP_exit ?_
      refine T_x ?_
      refine T_x ?_
      refine B_x ?_
      refine T_n ?_
      refine WP_seq ?_
      refine WP_region ?_
      refine S_v E rfl (R_move E rfl) rfl ?_
      clear E a; intro a E
      refine S_v E rfl (R_assign E rfl) rfl ?_
      clear E a; intro a E
      refine WL_nil ?_
      refine T_n ?_
      refine WP_ret ?_
      have S0 := S; clear S
      obtain ⟨M_19, hM_19, hz_20, S⟩ := S0.freezeI (by (have hfl := List.length_filter_le (fun x => !getK false (dupM f1 (l0.take k)) (f1 x)) (l0.take j); rw [List.length_take] at hfl; omega))
      clear S0
      replace h0 := h0.le hM_19
      replace h1 := h1.le hM_19
      exact F_ret1 E Try.results92 rfl ⟨_, rfl, M_19, (hM_2.trans (hM_10.trans hM_19)), (by rw [show ((l0).filter (fun x => !getK false (dupM f1 l0) (f1 x))) = ((l0.take j).filter (fun x => !getK false (dupM f1 (l0.take k)) (f1 x))) from by (rw [List.take_of_length_le (l := l0) (i := k) (by omega), List.take_of_length_le (l := l0) (i := j) (by omega)])]; exact hz_20), S.drop⟩

set_option maxRecDepth 100000 in
set_option maxHeartbeats 4000000 in
theorem impl_FindUniquesBy {M : Hp} {v0 : Value} {l0 : List Int} (h0 : RdI M v0 l0){kk1 kn1 : Int} (gk1 : -9223372036854775808 ≤ kn1 ∧ kn1 ≤ 9223372036854775807) (hb : l0.length ≤ 1000000000000) :
    Pu Try.prog (.func (.func 19) #[] #[]) M [v0, .agg #[.int .i64 kk1, .int .i64 kn1]] (fun r M' => RdI M' r ((l0).filter (fun x => !getK false (dupM (fun x => keyAt kk1 kn1 x 0) l0) ((fun x => keyAt kk1 kn1 x 0) x)))) := by
  refine Pu_enter Try.func19 rfl Try.ntmps19 rfl Try.call19 ?_
  intro a w M1 H hM1 S E
  replace h0 := h0.le hM1
  have b0 := h0.bound
  have hfl := List.length_filter_le (fun x => !getK false (dupM (fun x => keyAt kk1 kn1 x 0) l0) ((fun x => keyAt kk1 kn1 x 0) x)) l0
  refine WP_seq ?_
  refine WP_region ?_
  refine S_x (X_box (cs := #[.int .i64 kk1, .int .i64 kn1]) E S rfl rfl rfl ?_)
  clear E a S; rintro a w b_1 E S
  obtain ⟨M_2, hM_2, hb_1, S⟩ := S.freezeB
  replace h0 := h0.le hM_2
  refine S_v E rfl (R_assign E rfl) rfl ?_
  clear E a; intro a E
  refine WL_nil ?_
  refine T_n ?_
  refine WP_seq ?_
  refine WP_region ?_
  refine S_v E rfl (R_move E rfl) rfl ?_
  clear E a; intro a E
  refine S_v E rfl (R_loadGM E rfl (Try.isAgg24 _) (Try.sizeOf24 _) S.imm hb_1) rfl ?_
  clear E a; intro a E
  refine S_v E rfl (R_makeFunc E rfl rfl) rfl ?_
  clear E a; intro a E
  refine S_x (X_pu E S rfl rfl rfl (lo_FindUniquesBy h0 ⟨rfl, fun zx1 => Key_of (x1 := zx1) (by omega)⟩ (by (first | omega | (simp; omega) | (simp; done) | (simp_all; omega) | grind))) (Hp.le.refl _) ?_)
  clear E a S; rintro a v_4 w M_3 hM_3 hv_4 S E
  replace h0 := h0.le hM_3
  replace hb_1 := hM_3.2 _ _ hb_1
  refine S_v E rfl (R_assign E rfl) rfl ?_
  clear E a; intro a E
  refine WL_nil ?_
  refine T_n ?_
  refine WP_ret ?_
  exact F_ret1 E Try.results19 rfl ⟨_, rfl, M_3, (hM_2.trans hM_3), hv_4, S⟩

set_option maxRecDepth 100000 in
set_option maxHeartbeats 4000000 in
theorem lo_FindUniques {M : Hp} {v0 : Value} {l0 : List Int} (h0 : RdI M v0 l0) (hb : l0.length ≤ 1000000000000) :
    Pu Try.prog (.func (.func 93) #[] #[]) M [v0] (fun r M' => RdI M' r ((l0).filter (fun x => !getK false (dupM (fun x => x) l0) ((fun x => x) x)))) := by
  refine Pu_enter Try.func93 rfl Try.ntmps93 rfl Try.call93 ?_
  intro a w M1 H hM1 S E
  replace h0 := h0.le hM1
  have b0 := h0.bound
  refine WP_seq ?_
  refine WP_region ?_
  refine S_v E rfl (R_assign E rfl) rfl ?_
  clear E a; intro a E
  refine WL_nil ?_
  refine T_n ?_
  refine WP_seq ?_
  refine WP_region ?_
  refine S_v E rfl (R_move E rfl) rfl ?_
  clear E a; intro a E
  refine S_v E rfl (R_lenV E rfl T22 h0.len) rfl ?_
  clear E a; intro a E
  refine S_x (X_makeMapR E S rfl MT145 rfl ?_)
  clear E a S; rintro a w b_1 E S
  replace S : St w M1 (OwnE Value.bool b_1 ([] : List (Int × Bool)) :: _) := S
  refine S_v E rfl (R_assign E rfl) rfl ?_
  clear E a; intro a E
  refine WL_nil ?_
  refine T_n ?_
  refine WP_seq ?_
  refine WP_region ?_
  refine S_v E rfl (R_assign E rfl) rfl ?_
  clear E a; intro a E
  refine WL_nil ?_
  refine T_n ?_
  refine WP_seq ?_
  refine WP_seq ?_
  refine WP_region ?_
  refine S_v E rfl (R_move E rfl) rfl ?_
  clear E a; intro a E
  refine S_v E rfl (R_lenV E rfl T22 h0.len) rfl ?_
  clear E a; intro a E
  refine S_v E rfl (R_move E rfl) rfl ?_
  clear E a; intro a E
  refine WL_nil ?_
  refine T_n ?_
  refine WP_block ?_
  replace S := S.reM (L' := (encE Value.bool (dupM (fun x => x) (l0.take 0)))) (congrArg (encE Value.bool) (show ([] : List (Int × Bool)) = dupM (fun x => x) (l0.take 0) by first | rfl | (simp [dupM]; done) | exact dup_y (f := (fun x => x)) (by assumption) (by assumption) | exact dup_n (f := (fun x => x)) (by assumption) (by assumption)))
  refine WP_loop (γ := Nat) (fun (k : Nat) a w => ∃ (M_2 : Hp), Hp.le M1 M_2 ∧ St w M_2 (OwnE Value.bool b_1 (dupM (fun x => x) (l0.take k)) :: H) ∧ Env a 67 [] [(0, v0), (3, .map (some b_1)), (4, .int .i64 ((cntT (dupM (fun x => x) (l0.take k)) : Nat) : Int)), (15, .int .i64 (((l0).length : Nat) : Int)), (16, .int .i64 ((k : Nat) : Int))] ∧ (k ≤ (l0).length)) (fun k => ((l0).length) - k) 0 ⟨M1, Hp.le.refl _, S, E.keep ⟨rfl, rfl, look_nat (i := 0) rfl (by (simp [dupM, cntT])), rfl, rfl, trivial⟩, by ((try clear S); (try clear E); first | assumption | omega | rfl | (simp; done) | (simp_all; done) | (simp [List.take_add_one, *]; done) | grind [List.take_add_one])⟩ ?_
  try clear E
  try clear S
  try clear a
  try clear w
  rintro k a w ⟨M_2, hM_2, S, E, hL0_0⟩
  replace h0 := h0.le hM_2
  have hdl := dupM_len (fun x => x) (l0.take k); rw [List.length_take] at hdl
  have hct := cntT_le (dupM (fun x => x) (l0.take k))
  refine WP_seq ?_
  refine WP_region ?_
  refine S_v E rfl (R_lss E rfl rfl) rfl ?_
  clear E a; intro a E
  refine WL_nil ?_
  refine T_n ?_
  refine WP_seq ?_
  refine WP_cond E rfl (fun hc_3 => ?_) (fun hc_3 => ?_)
  · replace hc_3 := of_decide_eq_true hc_3
    refine WP_skip ?_
    refine T_n ?_
    refine WP_seq ?_
    refine WP_block ?_
    refine WP_seq ?_
    refine WP_region ?_
    refine S_v E rfl (R_move E rfl) rfl ?_
    clear E a; intro a E
    refine S_v E rfl (R_assign E rfl) rfl ?_
    clear E a; intro a E
    refine WL_nil ?_
    refine T_n ?_
    refine WP_seq ?_
    refine WP_region ?_
    refine S_v E rfl (R_move E rfl) rfl ?_
    clear E a; intro a E
    refine S_v E rfl (R_move E rfl) rfl ?_
    clear E a; intro a E
    refine S_v E rfl (R_move E rfl) rfl ?_
    clear E a; intro a E
    obtain ⟨x_4, hx_4⟩ : ∃ x, (l0)[k]? = some x := ⟨_, List.getElem?_eq_getElem (by first | omega | (simp; done) | (simp; omega) | (simp_all; omega))⟩
    obtain ⟨p_5, hp_5, qp_5⟩ := h0.at hx_4
    refine S_v E rfl (R_idx E rfl rfl T22 hp_5 rfl) rfl ?_
    clear E a; intro a E
    refine S_v E rfl (R_loadM E rfl Try.isAgg3 S.imm qp_5) rfl ?_
    clear E a; intro a E
    refine S_x (X_lookupE (vf := Value.bool) (zb := false) E S rfl MT145 rfl rfl ?_)
    clear E a S; rintro a w E S
    replace S : St w M_2 (OwnE Value.bool b_1 (dupM (fun x => x) (l0.take k)) :: _) := S
    refine S_v E rfl (R_move E rfl) rfl ?_
    clear E a; intro a E
    refine S_v E rfl (R_extract E rfl rfl) rfl ?_
    clear E a; intro a E
    refine S_v E rfl (R_extract E rfl rfl) rfl ?_
    clear E a; intro a E
    refine S_v E rfl (R_assign E rfl) rfl ?_
    clear E a; intro a E
    refine S_v E rfl (R_assign E rfl) rfl ?_
    clear E a; intro a E
    refine WL_nil ?_
    refine T_n ?_
    refine WP_seq ?_
    refine WP_region ?_
    refine S_v E rfl (R_move E rfl) rfl ?_
    clear E a; intro a E
    refine S_v E rfl (R_not E rfl) rfl ?_
    clear E a; intro a E
    refine WL_nil ?_
    refine T_n ?_
    refine WP_cond E rfl (fun hc_6 => ?_) (fun hc_6 => ?_)
    · refine WP_seq ?_
      refine WP_region ?_
      refine S_v E rfl (R_move E rfl) rfl ?_
      clear E a; intro a E
      refine S_v E rfl (R_move E rfl) rfl ?_
      clear E a; intro a E
      refine S_v E rfl (R_move E rfl) rfl ?_
      clear E a; intro a E
      obtain ⟨p_7, hp_7, qp_7⟩ := h0.at hx_4
      refine S_v E rfl (R_idx E rfl rfl T22 hp_7 rfl) rfl ?_
      clear E a; intro a E
      refine S_v E rfl (R_loadM E rfl Try.isAgg3 S.imm qp_7) rfl ?_
      clear E a; intro a E
      refine S_v E rfl (R_move E rfl) rfl ?_
      clear E a; intro a E
      refine S_x0 (X_updateE (vf := Value.bool) (u := hasK (dupM (fun x => x) (l0.take k)) x_4) E S MT145 rfl rfl rfl ?_)
      clear E a S; rintro a w E S
      refine WL_nil ?_
      refine T_n ?_
      refine WP_seq ?_
      refine WP_region ?_
      refine S_v E rfl (R_move E rfl) rfl ?_
      clear E a; intro a E
      refine WL_nil ?_
      refine T_n ?_
      refine WP_cond E rfl (fun hc_8 => ?_) (fun hc_8 => ?_)
      · refine WP_region ?_
        refine S_v E rfl (R_move E rfl) rfl ?_
        clear E a; intro a E
        refine S_v E rfl (R_addx (m := ((cntT (dupM (fun x => x) (l0.take k)) + 1 : Nat) : Int)) E rfl rfl (by first | omega | (have hdl := dupM_len (fun x => x) (l0.take k); rw [List.length_take] at hdl; have hct := cntT_le (dupM (fun x => x) (l0.take k)); omega)) (by first | omega | (have hdl := dupM_len (fun x => x) (l0.take k); rw [List.length_take] at hdl; have hct := cntT_le (dupM (fun x => x) (l0.take k)); omega))) rfl ?_
        clear E a; intro a E
        refine S_v E rfl (R_assign E rfl) rfl ?_
        clear E a; intro a E
        refine WL_nil ?_
        refine B_n ?_
        refine T_n ?_
        refine WP_region ?_
        refine S_v E rfl (R_addx (m := ((k + 1 : Nat) : Int)) E rfl rfl (by first | omega | (have hdl := dupM_len (fun x => x) (l0.take k); rw [List.length_take] at hdl; have hct := cntT_le (dupM (fun x => x) (l0.take k)); omega)) (by first | omega | (have hdl := dupM_len (fun x => x) (l0.take k); rw [List.length_take] at hdl; have hct := cntT_le (dupM (fun x => x) (l0.take k)); omega))) rfl ?_
        clear E a; intro a E
        refine S_v E rfl (R_move E rfl) rfl ?_
        clear E a; intro a E
        refine WL_nil ?_
        refine T_n ?_
        replace S := S.reM (L' := (encE Value.bool (dupM (fun x => x) (l0.take (k + 1))))) (congrArg (encE Value.bool) (show putK (dupM (fun x => x) (l0.take k)) x_4 (hasK (dupM (fun x => x) (l0.take k)) x_4) = dupM (fun x => x) (l0.take (k + 1)) by first | rfl | (simp [dupM]; done) | exact dup_y (f := (fun x => x)) (by assumption) (by assumption) | exact dup_n (f := (fun x => x)) (by assumption) (by assumption)))
        exact ⟨k + 1, ⟨M_2, hM_2, S, E.keep ⟨rfl, rfl, look_nat (i := cntT (dupM (fun x => x) (l0.take k)) + 1) rfl (by (first | (have h9 := cnt_y (f := (fun x => x)) (by assumption) (by assumption); omega) | (have h9 := cnt_n (f := (fun x => x)) (by assumption) (by assumption) (by assumption); omega) | (have h9 := cnt_i (f := (fun x => x)) (by assumption) (by assumption) (by assumption); omega))), rfl, rfl, trivial⟩, by ((try clear S); (try clear E); first | assumption | omega | rfl | (simp; done) | (simp_all; done) | (simp [List.take_add_one, *]; done) | grind [List.take_add_one])⟩, by omega⟩
      · refine WP_skip ?_
        refine B_n ?_
        refine T_n ?_
        refine WP_region ?_
        refine S_v E rfl (R_addx (m := ((k + 1 : Nat) : Int)) E rfl rfl (by first | omega | (have hdl := dupM_len (fun x => x) (l0.take k); rw [List.length_take] at hdl; have hct := cntT_le (dupM (fun x => x) (l0.take k)); omega)) (by first | omega | (have hdl := dupM_len (fun x => x) (l0.take k); rw [List.length_take] at hdl; have hct := cntT_le (dupM (fun x => x) (l0.take k)); omega))) rfl ?_
        clear E a; intro a E
        refine S_v E rfl (R_move E rfl) rfl ?_
        clear E a; intro a E
        refine WL_nil ?_
        refine T_n ?_
        replace S := S.reM (L' := (encE Value.bool (dupM (fun x => x) (l0.take (k + 1))))) (congrArg (encE Value.bool) (show putK (dupM (fun x => x) (l0.take k)) x_4 (hasK (dupM (fun x => x) (l0.take k)) x_4) = dupM (fun x => x) (l0.take (k + 1)) by first | rfl | (simp [dupM]; done) | exact dup_y (f := (fun x => x)) (by assumption) (by assumption) | exact dup_n (f := (fun x => x)) (by assumption) (by assumption)))
        exact ⟨k + 1, ⟨M_2, hM_2, S, E.keep ⟨rfl, rfl, look_nat (i := cntT (dupM (fun x => x) (l0.take k))) rfl (by (first | (have h9 := cnt_y (f := (fun x => x)) (by assumption) (by assumption); omega) | (have h9 := cnt_n (f := (fun x => x)) (by assumption) (by assumption) (by assumption); omega) | (have h9 := cnt_i (f := (fun x => x)) (by assumption) (by assumption) (by assumption); omega))), rfl, rfl, trivial⟩, by ((try clear S); (try clear E); first | assumption | omega | rfl | (simp; done) | (simp_all; done) | (simp [List.take_add_one, *]; done) | grind [List.take_add_one])⟩, by omega⟩
    · refine WP_skip ?_
      refine B_n ?_
      refine T_n ?_
      refine WP_region ?_
      refine S_v E rfl (R_addx (m := ((k + 1 : Nat) : Int)) E rfl rfl (by first | omega | (have hdl := dupM_len (fun x => x) (l0.take k); rw [List.length_take] at hdl; have hct := cntT_le (dupM (fun x => x) (l0.take k)); omega)) (by first | omega | (have hdl := dupM_len (fun x => x) (l0.take k); rw [List.length_take] at hdl; have hct := cntT_le (dupM (fun x => x) (l0.take k)); omega))) rfl ?_
      clear E a; intro a E
      refine S_v E rfl (R_move E rfl) rfl ?_
      clear E a; intro a E
      refine WL_nil ?_
      refine T_n ?_
      replace S := S.reM (L' := (encE Value.bool (dupM (fun x => x) (l0.take (k + 1))))) (congrArg (encE Value.bool) (show dupM (fun x => x) (l0.take k) = dupM (fun x => x) (l0.take (k + 1)) by first | rfl | (simp [dupM]; done) | exact dup_y (f := (fun x => x)) (by assumption) (by assumption) | exact dup_n (f := (fun x => x)) (by assumption) (by assumption)))
      exact ⟨k + 1, ⟨M_2, hM_2, S, E.keep ⟨rfl, rfl, look_nat (i := cntT (dupM (fun x => x) (l0.take k))) rfl (by (first | (have h9 := cnt_y (f := (fun x => x)) (by assumption) (by assumption); omega) | (have h9 := cnt_n (f := (fun x => x)) (by assumption) (by assumption) (by assumption); omega) | (have h9 := cnt_i (f := (fun x => x)) (by assumption) (by assumption) (by assumption); omega))), rfl, rfl, trivial⟩, by ((try clear S); (try clear E); first | assumption | omega | rfl | (simp; done) | (simp_all; done) | (simp [List.take_add_one, *]; done) | grind [List.take_add_one])⟩, by omega⟩
  · replace hc_3 := of_decide_eq_false hc_3
    refine WP_exit ?_
    refine T_x ?_
    refine T_x ?_
    refine B_x ?_
    refine T_n ?_
    refine WP_seq ?_
    refine WP_region ?_
    refine S_v E rfl (R_move E rfl) rfl ?_
    clear E a; intro a E
    refine S_v E rfl ((R_lenO E S MT145 rfl).trans (by rw [encE_len])) rfl ?_
    clear E a; intro a E
    refine S_v E rfl (R_move E rfl) rfl ?_
    clear E a; intro a E
    refine S_v E rfl (R_subx (m := (((dupM (fun x => x) (l0.take k)).length - (cntT (dupM (fun x => x) (l0.take k))) : Nat) : Int)) E rfl rfl (by first | omega | (have hdl := dupM_len (fun x => x) (l0.take k); rw [List.length_take] at hdl; have hct := cntT_le (dupM (fun x => x) (l0.take k)); omega)) (by first | omega | (have hdl := dupM_len (fun x => x) (l0.take k); rw [List.length_take] at hdl; have hct := cntT_le (dupM (fun x => x) (l0.take k)); omega))) rfl ?_
    clear E a; intro a E
    refine S_x (X_make0 (k := (dupM (fun x => x) (l0.take k)).length - (cntT (dupM (fun x => x) (l0.take k)))) E S rfl rfl rfl T22 rfl (by omega) (by (have hdl := dupM_len (fun x => x) (l0.take k); rw [List.length_take] at hdl; have hct := cntT_le (dupM (fun x => x) (l0.take k)); omega)) (by (have hdl := dupM_len (fun x => x) (l0.take k); rw [List.length_take] at hdl; have hct := cntT_le (dupM (fun x => x) (l0.take k)); omega)) ?_)
    clear E a S; rintro a w v_9 E S
    replace S := S.made0
    refine S_v E rfl (R_assign E rfl) rfl ?_
    clear E a; intro a E
    refine WL_nil ?_
    refine T_n ?_
    refine WP_seq ?_
    refine WP_seq ?_
    refine WP_region ?_
    refine S_v E rfl (R_move E rfl) rfl ?_
    clear E a; intro a E
    refine S_v E rfl (R_lenV E rfl T22 h0.len) rfl ?_
    clear E a; intro a E
    refine S_v E rfl (R_move E rfl) rfl ?_
    clear E a; intro a E
    refine WL_nil ?_
    refine T_n ?_
    refine WP_block ?_
    replace S := S.front1
    replace S := S.front1
    replace S := S.front1
    replace S := S.front1
    replace S := S.re1 (l' := (l0.take 0).filter (fun x => !getK false (dupM (fun x => x) (l0.take k)) ((fun x => x) x))) (by first | rfl | (simp; done) | exact flt1_yes (f := fun x => !getK false (dupM (fun x => x) (l0.take k)) ((fun x => x) x)) (by assumption) (by assumption) | exact flt1_no (f := fun x => !getK false (dupM (fun x => x) (l0.take k)) ((fun x => x) x)) (by assumption) (by assumption))
    refine WP_loop (γ := Nat) (fun (j : Nat) a w => ∃ (M_10 : Hp) (u8 : Value), Hp.le M_2 M_10 ∧ St w M_10 (OwnI 3 u8 ((l0.take j).filter (fun x => !getK false (dupM (fun x => x) (l0.take k)) ((fun x => x) x))) :: OwnE Value.bool b_1 (dupM (fun x => x) (l0.take k)) :: H) ∧ Env a 67 [] [(0, v0), (3, .map (some b_1)), (8, u8), (46, .int .i64 (((l0).length : Nat) : Int)), (47, .int .i64 ((j : Nat) : Int))] ∧ (j ≤ (l0).length)) (fun j => ((l0).length) - j) 0 ⟨M_2, _, Hp.le.refl _, S, E.keep ⟨rfl, rfl, rfl, rfl, rfl, trivial⟩, by ((try clear S); (try clear E); first | assumption | omega | rfl | (simp; done) | (simp_all; done) | (simp [List.take_add_one, *]; done) | grind [List.take_add_one])⟩ ?_
    try clear E
    try clear S
    try clear a
    try clear w
    rintro j a w ⟨M_10, u8, hM_10, S, E, hL1_0⟩
    replace h0 := h0.le hM_10
    have hfl := List.length_filter_le (fun x => !getK false (dupM (fun x => x) (l0.take k)) ((fun x => x) x)) (l0.take j); rw [List.length_take] at hfl
    refine WP_seq ?_
    refine WP_region ?_
    refine S_v E rfl (R_lss E rfl rfl) rfl ?_
    clear E a; intro a E
    refine WL_nil ?_
    refine T_n ?_
    refine WP_seq ?_
    refine WP_cond E rfl (fun hc_11 => ?_) (fun hc_11 => ?_)
    · replace hc_11 := of_decide_eq_true hc_11
      refine WP_skip ?_
      refine T_n ?_
      refine WP_seq ?_
      refine WP_block ?_
      refine WP_seq ?_
      refine WP_region ?_
      refine S_v E rfl (R_move E rfl) rfl ?_
      clear E a; intro a E
      refine S_v E rfl (R_assign E rfl) rfl ?_
      clear E a; intro a E
      refine WL_nil ?_
      refine T_n ?_
      refine WP_seq ?_
      refine WP_region ?_
      refine S_v E rfl (R_move E rfl) rfl ?_
      clear E a; intro a E
      refine S_v E rfl (R_move E rfl) rfl ?_
      clear E a; intro a E
      refine S_v E rfl (R_move E rfl) rfl ?_
      clear E a; intro a E
      obtain ⟨x_12, hx_12⟩ : ∃ x, (l0)[j]? = some x := ⟨_, List.getElem?_eq_getElem (by first | omega | (simp; done) | (simp; omega) | (simp_all; omega))⟩
      obtain ⟨p_13, hp_13, qp_13⟩ := h0.at hx_12
      refine S_v E rfl (R_idx E rfl rfl T22 hp_13 rfl) rfl ?_
      clear E a; intro a E
      refine S_v E rfl (R_loadM E rfl Try.isAgg3 S.imm qp_13) rfl ?_
      clear E a; intro a E
      replace S := S.front1
      refine S_x (X_lookupE1 (vf := Value.bool) (zb := false) E S rfl MT145 rfl rfl ?_)
      clear E a S; rintro a w E S
      replace S : St w M_10 (OwnE Value.bool b_1 (dupM (fun x => x) (l0.take k)) :: _) := S
      refine S_v E rfl (R_assign E rfl) rfl ?_
      clear E a; intro a E
      refine WL_nil ?_
      refine T_n ?_
      refine WP_seq ?_
      refine WP_region ?_
      refine S_v E rfl (R_move E rfl) rfl ?_
      clear E a; intro a E
      refine S_v E rfl (R_not E rfl) rfl ?_
      clear E a; intro a E
      refine WL_nil ?_
      refine T_n ?_
      refine WP_cond E rfl (fun hc_14 => ?_) (fun hc_14 => ?_)
      · refine WP_region ?_
        refine S_v E rfl (R_move E rfl) rfl ?_
        clear E a; intro a E
        refine S_v E rfl (R_move E rfl) rfl ?_
        clear E a; intro a E
        refine S_v E rfl (R_move E rfl) rfl ?_
        clear E a; intro a E
        obtain ⟨p_15, hp_15, qp_15⟩ := h0.at hx_12
        refine S_v E rfl (R_idx E rfl rfl T22 hp_15 rfl) rfl ?_
        clear E a; intro a E
        refine S_v E rfl (R_loadM E rfl Try.isAgg3 S.imm qp_15) rfl ?_
        clear E a; intro a E
        refine S_x (X_buildI (ys := [x_12]) E S rfl T22 rfl rfl rfl ?_)
        clear E a S; rintro a w v_16 E S
        replace S := S.front2
        replace S := S.front1
        refine S_x (X_appendB (xs := (l0.take j).filter (fun x => !getK false (dupM (fun x => x) (l0.take k)) ((fun x => x) x))) (ys := [x_12]) E S rfl rfl rfl T22 (by (simp only [List.length_cons, List.length_nil] at *; omega)) ?_)
        clear E a S; rintro a w v_17 E S
        refine S_v E rfl (R_assign E rfl) rfl ?_
        clear E a; intro a E
        refine WL_nil ?_
        refine B_n ?_
        refine T_n ?_
        refine WP_region ?_
        refine S_v E rfl (R_addx (m := ((j + 1 : Nat) : Int)) E rfl rfl (by first | omega | (have hdl := dupM_len (fun x => x) (l0.take k); rw [List.length_take] at hdl; have hct := cntT_le (dupM (fun x => x) (l0.take k)); omega)) (by first | omega | (have hdl := dupM_len (fun x => x) (l0.take k); rw [List.length_take] at hdl; have hct := cntT_le (dupM (fun x => x) (l0.take k)); omega))) rfl ?_
        clear E a; intro a E
        refine S_v E rfl (R_move E rfl) rfl ?_
        clear E a; intro a E
        refine WL_nil ?_
        refine T_n ?_
        replace S := S.front1
        replace S := S.front1
        replace S := S.re1 (l' := (l0.take (j + 1)).filter (fun x => !getK false (dupM (fun x => x) (l0.take k)) ((fun x => x) x))) (by first | rfl | (simp; done) | exact flt1_yes (f := fun x => !getK false (dupM (fun x => x) (l0.take k)) ((fun x => x) x)) (by assumption) (by assumption) | exact flt1_no (f := fun x => !getK false (dupM (fun x => x) (l0.take k)) ((fun x => x) x)) (by assumption) (by assumption))
        exact ⟨j + 1, ⟨M_10, _, hM_10, S, E.keep ⟨rfl, rfl, rfl, rfl, rfl, trivial⟩, by ((try clear S); (try clear E); first | assumption | omega | rfl | (simp; done) | (simp_all; done) | (simp [List.take_add_one, *]; done) | grind [List.take_add_one])⟩, by omega⟩
      · refine WP_skip ?_
        refine B_n ?_
        refine T_n ?_
        refine WP_region ?_
        refine S_v E rfl (R_addx (m := ((j + 1 : Nat) : Int)) E rfl rfl (by first | omega | (have hdl := dupM_len (fun x => x) (l0.take k); rw [List.length_take] at hdl; have hct := cntT_le (dupM (fun x => x) (l0.take k)); omega)) (by first | omega | (have hdl := dupM_len (fun x => x) (l0.take k); rw [List.length_take] at hdl; have hct := cntT_le (dupM (fun x => x) (l0.take k)); omega))) rfl ?_
        clear E a; intro a E
        refine S_v E rfl (R_move E rfl) rfl ?_
        clear E a; intro a E
        refine WL_nil ?_
        refine T_n ?_
        replace S := S.front1
        replace S := S.front1
        replace S := S.front1
        replace S := S.re1 (l' := (l0.take (j + 1)).filter (fun x => !getK false (dupM (fun x => x) (l0.take k)) ((fun x => x) x))) (by first | rfl | (simp; done) | exact flt1_yes (f := fun x => !getK false (dupM (fun x => x) (l0.take k)) ((fun x => x) x)) (by assumption) (by assumption) | exact flt1_no (f := fun x => !getK false (dupM (fun x => x) (l0.take k)) ((fun x => x) x)) (by assumption) (by assumption))
        exact ⟨j + 1, ⟨M_10, _, hM_10, S, E.keep ⟨rfl, rfl, rfl, rfl, rfl, trivial⟩, by ((try clear S); (try clear E); first | assumption | omega | rfl | (simp; done) | (simp_all; done) | (simp [List.take_add_one, *]; done) | grind [List.take_add_one])⟩, by omega⟩
    · replace hc_11 := of_decide_eq_false hc_11
      refine WP_exit ?_
      refine T_x ?_
      refine T_x ?_
      refine B_x ?_
      refine T_n ?_
      refine WP_seq ?_
      refine WP_region ?_
      refine S_v E rfl (R_move E rfl) rfl ?_
      clear E a; intro a E
      refine S_v E rfl (R_assign E rfl) rfl ?_
      clear E a; intro a E
      refine WL_nil ?_
      refine T_n ?_
      refine WP_ret ?_
      have S0 := S; clear S
      obtain ⟨M_18, hM_18, hz_19, S⟩ := S0.freezeI (by (have hfl := List.length_filter_le (fun x => !getK false (dupM (fun x => x) (l0.take k)) ((fun x => x) x)) (l0.take j); rw [List.length_take] at hfl; omega))
      clear S0
      replace h0 := h0.le hM_18
      exact F_ret1 E Try.results93 rfl ⟨_, rfl, M_18, (hM_2.trans (hM_10.trans hM_18)), (by rw [show ((l0).filter (fun x => !getK false (dupM (fun x => x) l0) ((fun x => x) x))) = ((l0.take j).filter (fun x => !getK false (dupM (fun x => x) (l0.take k)) ((fun x => x) x))) from by (rw [List.take_of_length_le (l := l0) (i := k) (by omega), List.take_of_length_le (l := l0) (i := j) (by omega)])]; exact hz_19), S.drop⟩

set_option maxRecDepth 100000 in
set_option maxHeartbeats 4000000 in
theorem impl_FindUniques {M : Hp} {v0 : Value} {l0 : List Int} (h0 : RdI M v0 l0) (hb : l0.length ≤ 1000000000000) :
    Pu Try.prog (.func (.func 20) #[] #[]) M [v0] (fun r M' => RdI M' r ((l0).filter (fun x => !getK false (dupM (fun x => x) l0) ((fun x => x) x)))) := by
  refine Pu_enter Try.func20 rfl Try.ntmps20 rfl Try.call20 ?_
  intro a w M1 H hM1 S E
  replace h0 := h0.le hM1
  have b0 := h0.bound
  refine WP_seq ?_
  refine WP_region ?_
  refine S_v E rfl (R_assign E rfl) rfl ?_
  clear E a; intro a E
  refine WL_nil ?_
  refine T_n ?_
  refine WP_seq ?_
  refine WP_region ?_
  refine S_v E rfl (R_move E rfl) rfl ?_
  clear E a; intro a E
  refine S_x (X_pu E S rfl rfl rfl (lo_FindUniques h0 (by (first | omega | (simp; omega) | (simp; done) | (simp_all; omega) | grind))) (Hp.le.refl _) ?_)
  clear E a S; rintro a v_2 w M_1 hM_1 hv_2 S E
  replace h0 := h0.le hM_1
  refine S_v E rfl (R_assign E rfl) rfl ?_
  clear E a; intro a E
  refine WL_nil ?_
  refine T_n ?_
  refine WP_ret ?_
  exact F_ret1 E Try.results20 rfl ⟨_, rfl, M_1, hM_1, hv_2, S⟩

set_option maxRecDepth 100000 in
set_option maxHeartbeats 4000000 in
theorem lo_FindDuplicatesBy {M : Hp} {v0 : Value} {l0 : List Int} (h0 : RdI M v0 l0){v1 : Value} {f1 : Int → Int} (h1 : PF1I Try.prog v1 M f1) (hb : l0.length ≤ 1000000000000) :
    Pu Try.prog (.func (.func 94) #[] #[]) M [v0, v1] (fun r M' => RdI M' r ((fdS f1 (dupM f1 l0) l0).2)) := by
  refine Pu_enter Try.func94 rfl Try.ntmps94 rfl Try.call94 ?_
  intro a w M1 H hM1 S E
  replace h0 := h0.le hM1
  replace h1 := h1.le hM1
  have b0 := h0.bound
  refine WP_seq ?_
  refine WP_region ?_
  refine S_v E rfl (R_assign E rfl) rfl ?_
  clear E a; intro a E
  refine WL_nil ?_
  refine T_n ?_
  refine WP_seq ?_
  refine WP_region ?_
  refine S_v E rfl (R_move E rfl) rfl ?_
  clear E a; intro a E
  refine S_v E rfl (R_lenV E rfl T22 h0.len) rfl ?_
  clear E a; intro a E
  refine S_x (X_makeMapR E S rfl MT145 rfl ?_)
  clear E a S; rintro a w b_1 E S
  replace S : St w M1 (OwnE Value.bool b_1 ([] : List (Int × Bool)) :: _) := S
  refine S_v E rfl (R_assign E rfl) rfl ?_
  clear E a; intro a E
  refine WL_nil ?_
  refine T_n ?_
  refine WP_seq ?_
  refine WP_region ?_
  refine S_v E rfl (R_assign E rfl) rfl ?_
  clear E a; intro a E
  refine WL_nil ?_
  refine T_n ?_
  refine WP_seq ?_
  refine WP_seq ?_
  refine WP_region ?_
  refine S_v E rfl (R_move E rfl) rfl ?_
  clear E a; intro a E
  refine S_v E rfl (R_lenV E rfl T22 h0.len) rfl ?_
  clear E a; intro a E
  refine S_v E rfl (R_move E rfl) rfl ?_
  clear E a; intro a E
  refine WL_nil ?_
  refine T_n ?_
  refine WP_block ?_
  replace S := S.reM (L' := (encE Value.bool (dupM f1 (l0.take 0)))) (congrArg (encE Value.bool) (show ([] : List (Int × Bool)) = dupM f1 (l0.take 0) by first | rfl | (simp [dupM]; done) | exact dup_y (f := f1) (by assumption) (by assumption) | exact dup_n (f := f1) (by assumption) (by assumption)))
  refine WP_loop (γ := Nat) (fun (k : Nat) a w => ∃ (M_2 : Hp), Hp.le M1 M_2 ∧ St w M_2 (OwnE Value.bool b_1 (dupM f1 (l0.take k)) :: H) ∧ Env a 72 [] [(0, v0), (1, v1), (5, .map (some b_1)), (6, .int .i64 ((cntT (dupM f1 (l0.take k)) : Nat) : Int)), (19, .int .i64 (((l0).length : Nat) : Int)), (20, .int .i64 ((k : Nat) : Int))] ∧ (k ≤ (l0).length)) (fun k => ((l0).length) - k) 0 ⟨M1, Hp.le.refl _, S, E.keep ⟨rfl, rfl, rfl, look_nat (i := 0) rfl (by (simp [dupM, cntT])), rfl, rfl, trivial⟩, by ((try clear S); (try clear E); first | assumption | omega | rfl | (simp; done) | (simp_all; done) | (simp [List.take_add_one, *]; done) | grind [List.take_add_one])⟩ ?_
  try clear E
  try clear S
  try clear a
  try clear w
  rintro k a w ⟨M_2, hM_2, S, E, hL0_0⟩
  replace h0 := h0.le hM_2
  replace h1 := h1.le hM_2
  have hdl := dupM_len f1 (l0.take k); rw [List.length_take] at hdl
  have hct := cntT_le (dupM f1 (l0.take k))
  refine WP_seq ?_
  refine WP_region ?_
  refine S_v E rfl (R_lss E rfl rfl) rfl ?_
  clear E a; intro a E
  refine WL_nil ?_
  refine T_n ?_
  refine WP_seq ?_
  refine WP_cond E rfl (fun hc_3 => ?_) (fun hc_3 => ?_)
  · replace hc_3 := of_decide_eq_true hc_3
    refine WP_skip ?_
    refine T_n ?_
    refine WP_seq ?_
    refine WP_block ?_
    refine WP_seq ?_
    refine WP_region ?_
    refine S_v E rfl (R_move E rfl) rfl ?_
    clear E a; intro a E
    refine S_v E rfl (R_assign E rfl) rfl ?_
    clear E a; intro a E
    refine WL_nil ?_
    refine T_n ?_
    refine WP_seq ?_
    refine WP_region ?_
    refine S_v E rfl (R_move E rfl) rfl ?_
    clear E a; intro a E
    refine S_v E rfl (R_move E rfl) rfl ?_
    clear E a; intro a E
    refine S_v E rfl (R_move E rfl) rfl ?_
    clear E a; intro a E
    obtain ⟨x_4, hx_4⟩ : ∃ x, (l0)[k]? = some x := ⟨_, List.getElem?_eq_getElem (by first | omega | (simp; done) | (simp; omega) | (simp_all; omega))⟩
    obtain ⟨p_5, hp_5, qp_5⟩ := h0.at hx_4
    refine S_v E rfl (R_idx E rfl rfl T22 hp_5 rfl) rfl ?_
    clear E a; intro a E
    refine S_v E rfl (R_loadM E rfl Try.isAgg3 S.imm qp_5) rfl ?_
    clear E a; intro a E
    refine S_x (X_pu E S rfl rfl rfl (h1.2 x_4) (Hp.le.refl _) ?_)
    clear E a S; rintro a _ w M_6 hM_6 rfl S E
    replace h0 := h0.le hM_6
    replace h1 := h1.le hM_6
    refine S_v E rfl (R_assign E rfl) rfl ?_
    clear E a; intro a E
    refine WL_nil ?_
    refine T_n ?_
    refine WP_seq ?_
    refine WP_region ?_
    refine S_v E rfl (R_move E rfl) rfl ?_
    clear E a; intro a E
    refine S_v E rfl (R_move E rfl) rfl ?_
    clear E a; intro a E
    refine S_x (X_lookupE (vf := Value.bool) (zb := false) E S rfl MT145 rfl rfl ?_)
    clear E a S; rintro a w E S
    replace S : St w M_6 (OwnE Value.bool b_1 (dupM f1 (l0.take k)) :: _) := S
    refine S_v E rfl (R_move E rfl) rfl ?_
    clear E a; intro a E
    refine S_v E rfl (R_extract E rfl rfl) rfl ?_
    clear E a; intro a E
    refine S_v E rfl (R_extract E rfl rfl) rfl ?_
    clear E a; intro a E
    refine S_v E rfl (R_assign E rfl) rfl ?_
    clear E a; intro a E
    refine S_v E rfl (R_assign E rfl) rfl ?_
    clear E a; intro a E
    refine WL_nil ?_
    refine T_n ?_
    refine WP_seq ?_
    refine WP_region ?_
    refine S_v E rfl (R_move E rfl) rfl ?_
    clear E a; intro a E
    refine S_v E rfl (R_not E rfl) rfl ?_
    clear E a; intro a E
    refine WL_nil ?_
    refine T_n ?_
    refine WP_cond E rfl (fun hc_7 => ?_) (fun hc_7 => ?_)
    · refine WP_seq ?_
      refine WP_region ?_
      refine S_v E rfl (R_move E rfl) rfl ?_
      clear E a; intro a E
      refine S_v E rfl (R_move E rfl) rfl ?_
      clear E a; intro a E
      refine S_v E rfl (R_move E rfl) rfl ?_
      clear E a; intro a E
      refine S_x0 (X_updateE (vf := Value.bool) (u := hasK (dupM f1 (l0.take k)) (f1 x_4)) E S MT145 rfl rfl rfl ?_)
      clear E a S; rintro a w E S
      refine WL_nil ?_
      refine T_n ?_
      refine WP_seq ?_
      refine WP_region ?_
      refine S_v E rfl (R_move E rfl) rfl ?_
      clear E a; intro a E
      refine WL_nil ?_
      refine T_n ?_
      refine WP_cond E rfl (fun hc_8 => ?_) (fun hc_8 => ?_)
      · refine WP_region ?_
        refine S_v E rfl (R_move E rfl) rfl ?_
        clear E a; intro a E
        refine S_v E rfl (R_addx (m := ((cntT (dupM f1 (l0.take k)) + 1 : Nat) : Int)) E rfl rfl (by first | omega | (have hdl := dupM_len f1 (l0.take k); rw [List.length_take] at hdl; have hct := cntT_le (dupM f1 (l0.take k)); omega)) (by first | omega | (have hdl := dupM_len f1 (l0.take k); rw [List.length_take] at hdl; have hct := cntT_le (dupM f1 (l0.take k)); omega))) rfl ?_
        clear E a; intro a E
        refine S_v E rfl (R_assign E rfl) rfl ?_
        clear E a; intro a E
        refine WL_nil ?_
        refine B_n ?_
        refine T_n ?_
        refine WP_region ?_
        refine S_v E rfl (R_addx (m := ((k + 1 : Nat) : Int)) E rfl rfl (by first | omega | (have hdl := dupM_len f1 (l0.take k); rw [List.length_take] at hdl; have hct := cntT_le (dupM f1 (l0.take k)); omega)) (by first | omega | (have hdl := dupM_len f1 (l0.take k); rw [List.length_take] at hdl; have hct := cntT_le (dupM f1 (l0.take k)); omega))) rfl ?_
        clear E a; intro a E
        refine S_v E rfl (R_move E rfl) rfl ?_
        clear E a; intro a E
        refine WL_nil ?_
        refine T_n ?_
        replace S := S.reM (L' := (encE Value.bool (dupM f1 (l0.take (k + 1))))) (congrArg (encE Value.bool) (show putK (dupM f1 (l0.take k)) (f1 x_4) (hasK (dupM f1 (l0.take k)) (f1 x_4)) = dupM f1 (l0.take (k + 1)) by first | rfl | (simp [dupM]; done) | exact dup_y (f := f1) (by assumption) (by assumption) | exact dup_n (f := f1) (by assumption) (by assumption)))
        exact ⟨k + 1, ⟨M_6, (hM_2.trans hM_6), S, E.keep ⟨rfl, rfl, rfl, look_nat (i := cntT (dupM f1 (l0.take k)) + 1) rfl (by (first | (have h9 := cnt_y (f := f1) (by assumption) (by assumption); omega) | (have h9 := cnt_n (f := f1) (by assumption) (by assumption) (by assumption); omega) | (have h9 := cnt_i (f := f1) (by assumption) (by assumption) (by assumption); omega))), rfl, rfl, trivial⟩, by ((try clear S); (try clear E); first | assumption | omega | rfl | (simp; done) | (simp_all; done) | (simp [List.take_add_one, *]; done) | grind [List.take_add_one])⟩, by omega⟩
      · refine WP_skip ?_
        refine B_n ?_
        refine T_n ?_
        refine WP_region ?_
        refine S_v E rfl (R_addx (m := ((k + 1 : Nat) : Int)) E rfl rfl (by first | omega | (have hdl := dupM_len f1 (l0.take k); rw [List.length_take] at hdl; have hct := cntT_le (dupM f1 (l0.take k)); omega)) (by first | omega | (have hdl := dupM_len f1 (l0.take k); rw [List.length_take] at hdl; have hct := cntT_le (dupM f1 (l0.take k)); omega))) rfl ?_
        clear E a; intro a E
        refine S_v E rfl (R_move E rfl) rfl ?_
        clear E a; intro a E
        refine WL_nil ?_
        refine T_n ?_
        replace S := S.reM (L' := (encE Value.bool (dupM f1 (l0.take (k + 1))))) (congrArg (encE Value.bool) (show putK (dupM f1 (l0.take k)) (f1 x_4) (hasK (dupM f1 (l0.take k)) (f1 x_4)) = dupM f1 (l0.take (k + 1)) by first | rfl | (simp [dupM]; done) | exact dup_y (f := f1) (by assumption) (by assumption) | exact dup_n (f := f1) (by assumption) (by assumption)))
        exact ⟨k + 1, ⟨M_6, (hM_2.trans hM_6), S, E.keep ⟨rfl, rfl, rfl, look_nat (i := cntT (dupM f1 (l0.take k))) rfl (by (first | (have h9 := cnt_y (f := f1) (by assumption) (by assumption); omega) | (have h9 := cnt_n (f := f1) (by assumption) (by assumption) (by assumption); omega) | (have h9 := cnt_i (f := f1) (by assumption) (by assumption) (by assumption); omega))), rfl, rfl, trivial⟩, by ((try clear S); (try clear E); first | assumption | omega | rfl | (simp; done) | (simp_all; done) | (simp [List.take_add_one, *]; done) | grind [List.take_add_one])⟩, by omega⟩
    · refine WP_skip ?_
      refine B_n ?_
      refine T_n ?_
      refine WP_region ?_
      refine S_v E rfl (R_addx (m := ((k + 1 : Nat) : Int)) E rfl rfl (by first | omega | (have hdl := dupM_len f1 (l0.take k); rw [List.length_take] at hdl; have hct := cntT_le (dupM f1 (l0.take k)); omega)) (by first | omega | (have hdl := dupM_len f1 (l0.take k); rw [List.length_take] at hdl; have hct := cntT_le (dupM f1 (l0.take k)); omega))) rfl ?_
      clear E a; intro a E
      refine S_v E rfl (R_move E rfl) rfl ?_
      clear E a; intro a E
      refine WL_nil ?_
      refine T_n ?_
      replace S := S.reM (L' := (encE Value.bool (dupM f1 (l0.take (k + 1))))) (congrArg (encE Value.bool) (show dupM f1 (l0.take k) = dupM f1 (l0.take (k + 1)) by first | rfl | (simp [dupM]; done) | exact dup_y (f := f1) (by assumption) (by assumption) | exact dup_n (f := f1) (by assumption) (by assumption)))
      exact ⟨k + 1, ⟨M_6, (hM_2.trans hM_6), S, E.keep ⟨rfl, rfl, rfl, look_nat (i := cntT (dupM f1 (l0.take k))) rfl (by (first | (have h9 := cnt_y (f := f1) (by assumption) (by assumption); omega) | (have h9 := cnt_n (f := f1) (by assumption) (by assumption) (by assumption); omega) | (have h9 := cnt_i (f := f1) (by assumption) (by assumption) (by assumption); omega))), rfl, rfl, trivial⟩, by ((try clear S); (try clear E); first | assumption | omega | rfl | (simp; done) | (simp_all; done) | (simp [List.take_add_one, *]; done) | grind [List.take_add_one])⟩, by omega⟩
  · replace hc_3 := of_decide_eq_false hc_3
    refine WP_exit ?_
    refine T_x ?_
    refine T_x ?_
    refine B_x ?_
    refine T_n ?_
    refine WP_seq ?_
    refine WP_region ?_
    refine S_v E rfl (R_move E rfl) rfl ?_
    clear E a; intro a E
    refine S_x (X_make0 (k := cntT (dupM f1 (l0.take k))) E S rfl rfl rfl T22 rfl (by omega) (by (have hdl := dupM_len f1 (l0.take k); rw [List.length_take] at hdl; have hct := cntT_le (dupM f1 (l0.take k)); omega)) (by (have hdl := dupM_len f1 (l0.take k); rw [List.length_take] at hdl; have hct := cntT_le (dupM f1 (l0.take k)); omega)) ?_)
    clear E a S; rintro a w v_9 E S
    replace S := S.made0
    refine S_v E rfl (R_assign E rfl) rfl ?_
    clear E a; intro a E
    refine WL_nil ?_
    refine T_n ?_
    refine WP_seq ?_
    refine WP_seq ?_
    refine WP_region ?_
    refine S_v E rfl (R_move E rfl) rfl ?_
    clear E a; intro a E
    refine S_v E rfl (R_lenV E rfl T22 h0.len) rfl ?_
    clear E a; intro a E
    refine S_v E rfl (R_move E rfl) rfl ?_
    clear E a; intro a E
    refine WL_nil ?_
    refine T_n ?_
    refine WP_block ?_
    replace S := S.front1
    replace S := S.front1
    replace S := S.front1
    replace S := S.reM (L' := (encE Value.bool ((fdS f1 (dupM f1 (l0.take k)) (l0.take 0)).1))) (congrArg (encE Value.bool) (show dupM f1 (l0.take k) = (fdS f1 (dupM f1 (l0.take k)) (l0.take 0)).1 by first | rfl | (simp [fdS]; done) | (rw [fd_yes (f := f1) (by assumption) (by assumption)]; done) | (rw [fd_n (f := f1) (by assumption) (by assumption)]; done)))
    replace S := S.front1
    replace S := S.re1 (l' := (fdS f1 (dupM f1 (l0.take k)) (l0.take 0)).2) (by first | rfl | (simp [fdS]; done) | (rw [fd_yes (f := f1) (by assumption) (by assumption)]; done) | (rw [fd_n (f := f1) (by assumption) (by assumption)]; done))
    refine WP_loop (γ := Nat) (fun (j : Nat) a w => ∃ (M_10 : Hp) (u11 : Value), Hp.le M_2 M_10 ∧ St w M_10 (OwnI 3 u11 ((fdS f1 (dupM f1 (l0.take k)) (l0.take j)).2) :: OwnE Value.bool b_1 ((fdS f1 (dupM f1 (l0.take k)) (l0.take j)).1) :: H) ∧ Env a 72 [] [(0, v0), (1, v1), (5, .map (some b_1)), (11, u11), (47, .int .i64 (((l0).length : Nat) : Int)), (48, .int .i64 ((j : Nat) : Int))] ∧ (j ≤ (l0).length)) (fun j => ((l0).length) - j) 0 ⟨M_2, _, Hp.le.refl _, S, E.keep ⟨rfl, rfl, rfl, rfl, rfl, rfl, trivial⟩, by ((try clear S); (try clear E); first | assumption | omega | rfl | (simp; done) | (simp_all; done) | (simp [List.take_add_one, *]; done) | grind [List.take_add_one])⟩ ?_
    try clear E
    try clear S
    try clear a
    try clear w
    rintro j a w ⟨M_10, u11, hM_10, S, E, hL1_0⟩
    replace h0 := h0.le hM_10
    replace h1 := h1.le hM_10
    have hfl := fdS_len f1 (dupM f1 (l0.take k)) (l0.take j); rw [List.length_take] at hfl
    refine WP_seq ?_
    refine WP_region ?_
    refine S_v E rfl (R_lss E rfl rfl) rfl ?_
    clear E a; intro a E
    refine WL_nil ?_
    refine T_n ?_
    refine WP_seq ?_
    refine WP_cond E rfl (fun hc_11 => ?_) (fun hc_11 => ?_)
    · replace hc_11 := of_decide_eq_true hc_11
      refine WP_skip ?_
      refine T_n ?_
      refine WP_seq ?_
      refine WP_block ?_
      refine WP_seq ?_
      refine WP_region ?_
      refine S_v E rfl (R_move E rfl) rfl ?_
      clear E a; intro a E
      refine S_v E rfl (R_assign E rfl) rfl ?_
      clear E a; intro a E
      refine WL_nil ?_
      refine T_n ?_
      refine WP_seq ?_
      refine WP_region ?_
      refine S_v E rfl (R_move E rfl) rfl ?_
      clear E a; intro a E
      refine S_v E rfl (R_move E rfl) rfl ?_
      clear E a; intro a E
      refine S_v E rfl (R_move E rfl) rfl ?_
      clear E a; intro a E
      obtain ⟨x_12, hx_12⟩ : ∃ x, (l0)[j]? = some x := ⟨_, List.getElem?_eq_getElem (by first | omega | (simp; done) | (simp; omega) | (simp_all; omega))⟩
      obtain ⟨p_13, hp_13, qp_13⟩ := h0.at hx_12
      refine S_v E rfl (R_idx E rfl rfl T22 hp_13 rfl) rfl ?_
      clear E a; intro a E
      refine S_v E rfl (R_loadM E rfl Try.isAgg3 S.imm qp_13) rfl ?_
      clear E a; intro a E
      refine S_x (X_pu E S rfl rfl rfl (h1.2 x_12) (Hp.le.refl _) ?_)
      clear E a S; rintro a _ w M_14 hM_14 rfl S E
      replace h0 := h0.le hM_14
      replace h1 := h1.le hM_14
      refine S_v E rfl (R_assign E rfl) rfl ?_
      clear E a; intro a E
      refine WL_nil ?_
      refine T_n ?_
      refine WP_seq ?_
      refine WP_region ?_
      refine S_v E rfl (R_move E rfl) rfl ?_
      clear E a; intro a E
      refine S_v E rfl (R_move E rfl) rfl ?_
      clear E a; intro a E
      replace S := S.front1
      refine S_x (X_lookupE1 (vf := Value.bool) (zb := false) E S rfl MT145 rfl rfl ?_)
      clear E a S; rintro a w E S
      replace S : St w M_14 (OwnE Value.bool b_1 ((fdS f1 (dupM f1 (l0.take k)) (l0.take j)).1) :: _) := S
      refine S_v E rfl (R_assign E rfl) rfl ?_
      clear E a; intro a E
      refine WL_nil ?_
      refine T_n ?_
      refine WP_seq ?_
      refine WP_region ?_
      refine S_v E rfl (R_move E rfl) rfl ?_
      clear E a; intro a E
      refine WL_nil ?_
      refine T_n ?_
      refine WP_cond E rfl (fun hc_15 => ?_) (fun hc_15 => ?_)
      · refine WP_seq ?_
        refine WP_region ?_
        refine S_v E rfl (R_move E rfl) rfl ?_
        clear E a; intro a E
        refine S_v E rfl (R_move E rfl) rfl ?_
        clear E a; intro a E
        refine S_v E rfl (R_move E rfl) rfl ?_
        clear E a; intro a E
        obtain ⟨p_16, hp_16, qp_16⟩ := h0.at hx_12
        refine S_v E rfl (R_idx E rfl rfl T22 hp_16 rfl) rfl ?_
        clear E a; intro a E
        refine S_v E rfl (R_loadM E rfl Try.isAgg3 S.imm qp_16) rfl ?_
        clear E a; intro a E
        refine S_x (X_buildI (ys := [x_12]) E S rfl T22 rfl rfl rfl ?_)
        clear E a S; rintro a w v_17 E S
        replace S := S.front2
        replace S := S.front1
        refine S_x (X_appendB (xs := (fdS f1 (dupM f1 (l0.take k)) (l0.take j)).2) (ys := [x_12]) E S rfl rfl rfl T22 (by (simp only [List.length_cons, List.length_nil] at *; omega)) ?_)
        clear E a S; rintro a w v_18 E S
        refine S_v E rfl (R_assign E rfl) rfl ?_
        clear E a; intro a E
        refine WL_nil ?_
        refine T_n ?_
        refine WP_region ?_
        refine S_v E rfl (R_move E rfl) rfl ?_
        clear E a; intro a E
        refine S_v E rfl (R_move E rfl) rfl ?_
        clear E a; intro a E
        replace S := S.front1
        refine S_x0 (X_updateE (vf := Value.bool) (u := false) E S MT145 rfl rfl rfl ?_)
        clear E a S; rintro a w E S
        refine WL_nil ?_
        refine B_n ?_
        refine T_n ?_
        refine WP_region ?_
        refine S_v E rfl (R_addx (m := ((j + 1 : Nat) : Int)) E rfl rfl (by first | omega | (have hdl := dupM_len f1 (l0.take k); rw [List.length_take] at hdl; have hct := cntT_le (dupM f1 (l0.take k)); omega)) (by first | omega | (have hdl := dupM_len f1 (l0.take k); rw [List.length_take] at hdl; have hct := cntT_le (dupM f1 (l0.take k)); omega))) rfl ?_
        clear E a; intro a E
        refine S_v E rfl (R_move E rfl) rfl ?_
        clear E a; intro a E
        refine WL_nil ?_
        refine T_n ?_
        replace S := S.front1
        replace S := S.front1
        replace S := S.reM (L' := (encE Value.bool ((fdS f1 (dupM f1 (l0.take k)) (l0.take (j + 1))).1))) (congrArg (encE Value.bool) (show putK ((fdS f1 (dupM f1 (l0.take k)) (l0.take j)).1) (f1 x_12) false = (fdS f1 (dupM f1 (l0.take k)) (l0.take (j + 1))).1 by first | rfl | (simp [fdS]; done) | (rw [fd_yes (f := f1) (by assumption) (by assumption)]; done) | (rw [fd_n (f := f1) (by assumption) (by assumption)]; done)))
        replace S := S.front1
        replace S := S.re1 (l' := (fdS f1 (dupM f1 (l0.take k)) (l0.take (j + 1))).2) (by first | rfl | (simp [fdS]; done) | (rw [fd_yes (f := f1) (by assumption) (by assumption)]; done) | (rw [fd_n (f := f1) (by assumption) (by assumption)]; done))
        exact ⟨j + 1, ⟨M_14, _, (hM_10.trans hM_14), S, E.keep ⟨rfl, rfl, rfl, rfl, rfl, rfl, trivial⟩, by ((try clear S); (try clear E); first | assumption | omega | rfl | (simp; done) | (simp_all; done) | (simp [List.take_add_one, *]; done) | grind [List.take_add_one])⟩, by omega⟩
      · refine WP_skip ?_
        refine B_n ?_
        refine T_n ?_
        refine WP_region ?_
        refine S_v E rfl (R_addx (m := ((j + 1 : Nat) : Int)) E rfl rfl (by first | omega | (have hdl := dupM_len f1 (l0.take k); rw [List.length_take] at hdl; have hct := cntT_le (dupM f1 (l0.take k)); omega)) (by first | omega | (have hdl := dupM_len f1 (l0.take k); rw [List.length_take] at hdl; have hct := cntT_le (dupM f1 (l0.take k)); omega))) rfl ?_
        clear E a; intro a E
        refine S_v E rfl (R_move E rfl) rfl ?_
        clear E a; intro a E
        refine WL_nil ?_
        refine T_n ?_
        replace S := S.front1
        replace S := S.front1
        replace S := S.reM (L' := (encE Value.bool ((fdS f1 (dupM f1 (l0.take k)) (l0.take (j + 1))).1))) (congrArg (encE Value.bool) (show (fdS f1 (dupM f1 (l0.take k)) (l0.take j)).1 = (fdS f1 (dupM f1 (l0.take k)) (l0.take (j + 1))).1 by first | rfl | (simp [fdS]; done) | (rw [fd_yes (f := f1) (by assumption) (by assumption)]; done) | (rw [fd_n (f := f1) (by assumption) (by assumption)]; done)))
        replace S := S.front1
        replace S := S.re1 (l' := (fdS f1 (dupM f1 (l0.take k)) (l0.take (j + 1))).2) (by first | rfl | (simp [fdS]; done) | (rw [fd_yes (f := f1) (by assumption) (by assumption)]; done) | (rw [fd_n (f := f1) (by assumption) (by assumption)]; done))
        exact ⟨j + 1, ⟨M_14, _, (hM_10.trans hM_14), S, E.keep ⟨rfl, rfl, rfl, rfl, rfl, rfl, trivial⟩, by ((try clear S); (try clear E); first | assumption | omega | rfl | (simp; done) | (simp_all; done) | (simp [List.take_add_one, *]; done) | grind [List.take_add_one])⟩, by omega⟩
    · replace hc_11 := of_decide_eq_false hc_11
      refine WP_exit ?_
      refine T_x ?_
      refine T_x ?_
      refine B_x ?_
      refine T_n ?_
      refine WP_seq ?_
      refine WP_region ?_
      refine S_v E rfl (R_move E rfl) rfl ?_
      clear E a; intro a E
      refine S_v E rfl (R_assign E rfl) rfl ?_
      clear E a; intro a E
      refine WL_nil ?_
      refine T_n ?_
      refine WP_ret ?_
      have S0 := S; clear S
      obtain ⟨M_19, hM_19, hz_20, S⟩ := S0.freezeI (by (have hfl := fdS_len f1 (dupM f1 (l0.take k)) (l0.take j); rw [List.length_take] at hfl; omega))
      clear S0
      replace h0 := h0.le hM_19
      replace h1 := h1.le hM_19
      exact F_ret1 E Try.results94 rfl ⟨_, rfl, M_19, (hM_2.trans (hM_10.trans hM_19)), (by rw [show ((fdS f1 (dupM f1 l0) l0).2) = ((fdS f1 (dupM f1 (l0.take k)) (l0.take j)).2) from by (rw [List.take_of_length_le (l := l0) (i := k) (by omega), List.take_of_length_le (l := l0) (i := j) (by omega)])]; exact hz_20), S.drop⟩

set_option maxRecDepth 100000 in
set_option maxHeartbeats 4000000 in
theorem impl_FindDuplicatesBy {M : Hp} {v0 : Value} {l0 : List Int} (h0 : RdI M v0 l0){kk1 kn1 : Int} (gk1 : -9223372036854775808 ≤ kn1 ∧ kn1 ≤ 9223372036854775807) (hb : l0.length ≤ 1000000000000) :
    Pu Try.prog (.func (.func 21) #[] #[]) M [v0, .agg #[.int .i64 kk1, .int .i64 kn1]] (fun r M' => RdI M' r ((fdS (fun x => keyAt kk1 kn1 x 0) (dupM (fun x => keyAt kk1 kn1 x 0) l0) l0).2)) := by
  refine Pu_enter Try.func21 rfl Try.ntmps21 rfl Try.call21 ?_
  intro a w M1 H hM1 S E
  replace h0 := h0.le hM1
  have b0 := h0.bound
  have hfl := fdS_len (fun x => keyAt kk1 kn1 x 0) (dupM (fun x => keyAt kk1 kn1 x 0) l0) l0
  refine WP_seq ?_
  refine WP_region ?_
  refine S_x (X_box (cs := #[.int .i64 kk1, .int .i64 kn1]) E S rfl rfl rfl ?_)
  clear E a S; rintro a w b_1 E S
  obtain ⟨M_2, hM_2, hb_1, S⟩ := S.freezeB
  replace h0 := h0.le hM_2
  refine S_v E rfl (R_assign E rfl) rfl ?_
  clear E a; intro a E
  refine WL_nil ?_
  refine T_n ?_
  refine WP_seq ?_
  refine WP_region ?_
  refine S_v E rfl (R_move E rfl) rfl ?_
  clear E a; intro a E
  refine S_v E rfl (R_loadGM E rfl (Try.isAgg24 _) (Try.sizeOf24 _) S.imm hb_1) rfl ?_
  clear E a; intro a E
  refine S_v E rfl (R_makeFunc E rfl rfl) rfl ?_
  clear E a; intro a E
  refine S_x (X_pu E S rfl rfl rfl (lo_FindDuplicatesBy h0 ⟨rfl, fun zx1 => Key_of (x1 := zx1) (by omega)⟩ (by (first | omega | (simp; omega) | (simp; done) | (simp_all; omega) | grind))) (Hp.le.refl _) ?_)
  clear E a S; rintro a v_4 w M_3 hM_3 hv_4 S E
  replace h0 := h0.le hM_3
  replace hb_1 := hM_3.2 _ _ hb_1
  refine S_v E rfl (R_assign E rfl) rfl ?_
  clear E a; intro a E
  refine WL_nil ?_
  refine T_n ?_
  refine WP_ret ?_
  exact F_ret1 E Try.results21 rfl ⟨_, rfl, M_3, (hM_2.trans hM_3), hv_4, S⟩

set_option maxRecDepth 100000 in
set_option maxHeartbeats 4000000 in
theorem lo_FindDuplicates {M : Hp} {v0 : Value} {l0 : List Int} (h0 : RdI M v0 l0) (hb : l0.length ≤ 1000000000000) :
    Pu Try.prog (.func (.func 95) #[] #[]) M [v0] (fun r M' => RdI M' r ((fdS (fun x => x) (dupM (fun x => x) l0) l0).2)) := by
  refine Pu_enter Try.func95 rfl Try.ntmps95 rfl Try.call95 ?_
  intro a w M1 H hM1 S E
  replace h0 := h0.le hM1
  have b0 := h0.bound
  refine WP_seq ?_
  refine WP_region ?_
  refine S_v E rfl (R_assign E rfl) rfl ?_
  clear E a; intro a E
  refine WL_nil ?_
  refine T_n ?_
  refine WP_seq ?_
  refine WP_region ?_
  refine S_v E rfl (R_move E rfl) rfl ?_
  clear E a; intro a E
  refine S_v E rfl (R_lenV E rfl T22 h0.len) rfl ?_
  clear E a; intro a E
  refine S_x (X_makeMapR E S rfl MT145 rfl ?_)
  clear E a S; rintro a w b_1 E S
  replace S : St w M1 (OwnE Value.bool b_1 ([] : List (Int × Bool)) :: _) := S
  refine S_v E rfl (R_assign E rfl) rfl ?_
  clear E a; intro a E
  refine WL_nil ?_
  refine T_n ?_
  refine WP_seq ?_
  refine WP_region ?_
  refine S_v E rfl (R_assign E rfl) rfl ?_
  clear E a; intro a E
  refine WL_nil ?_
  refine T_n ?_
  refine WP_seq ?_
  refine WP_seq ?_
  refine WP_region ?_
  refine S_v E rfl (R_move E rfl) rfl ?_
  clear E a; intro a E
  refine S_v E rfl (R_lenV E rfl T22 h0.len) rfl ?_
  clear E a; intro a E
  refine S_v E rfl (R_move E rfl) rfl ?_
  clear E a; intro a E
  refine WL_nil ?_
  refine T_n ?_
  refine WP_block ?_
  replace S := S.reM (L' := (encE Value.bool (dupM (fun x => x) (l0.take 0)))) (congrArg (encE Value.bool) (show ([] : List (Int × Bool)) = dupM (fun x => x) (l0.take 0) by first | rfl | (simp [dupM]; done) | exact dup_y (f := (fun x => x)) (by assumption) (by assumption) | exact dup_n (f := (fun x => x)) (by assumption) (by assumption)))
  refine WP_loop (γ := Nat) (fun (k : Nat) a w => ∃ (M_2 : Hp), Hp.le M1 M_2 ∧ St w M_2 (OwnE Value.bool b_1 (dupM (fun x => x) (l0.take k)) :: H) ∧ Env a 68 [] [(0, v0), (3, .map (some b_1)), (4, .int .i64 ((cntT (dupM (fun x => x) (l0.take k)) : Nat) : Int)), (15, .int .i64 (((l0).length : Nat) : Int)), (16, .int .i64 ((k : Nat) : Int))] ∧ (k ≤ (l0).length)) (fun k => ((l0).length) - k) 0 ⟨M1, Hp.le.refl _, S, E.keep ⟨rfl, rfl, look_nat (i := 0) rfl (by (simp [dupM, cntT])), rfl, rfl, trivial⟩, by ((try clear S); (try clear E); first | assumption | omega | rfl | (simp; done) | (simp_all; done) | (simp [List.take_add_one, *]; done) | grind [List.take_add_one])⟩ ?_
  try clear E
  try clear S
  try clear a
  try clear w
  rintro k a w ⟨M_2, hM_2, S, E, hL0_0⟩
  replace h0 := h0.le hM_2
  have hdl := dupM_len (fun x => x) (l0.take k); rw [List.length_take] at hdl
  have hct := cntT_le (dupM (fun x => x) (l0.take k))
  refine WP_seq ?_
  refine WP_region ?_
  refine S_v E rfl (R_lss E rfl rfl) rfl ?_
  clear E a; intro a E
  refine WL_nil ?_
  refine T_n ?_
  refine WP_seq ?_
  refine WP_cond E rfl (fun hc_3 => ?_) (fun hc_3 => ?_)
  · replace hc_3 := of_decide_eq_true hc_3
    refine WP_skip ?_
    refine T_n ?_
    refine WP_seq ?_
    refine WP_block ?_
    refine WP_seq ?_
    refine WP_region ?_
    refine S_v E rfl (R_move E rfl) rfl ?_
    clear E a; intro a E
    refine S_v E rfl (R_assign E rfl) rfl ?_
    clear E a; intro a E
    refine WL_nil ?_
    refine T_n ?_
    refine WP_seq ?_
    refine WP_region ?_
    refine S_v E rfl (R_move E rfl) rfl ?_
    clear E a; intro a E
    refine S_v E rfl (R_move E rfl) rfl ?_
    clear E a; intro a E
    refine S_v E rfl (R_move E rfl) rfl ?_
    clear E a; intro a E
    obtain ⟨x_4, hx_4⟩ : ∃ x, (l0)[k]? = some x := ⟨_, List.getElem?_eq_getElem (by first | omega | (simp; done) | (simp; omega) | (simp_all; omega))⟩
    obtain ⟨p_5, hp_5, qp_5⟩ := h0.at hx_4
    refine S_v E rfl (R_idx E rfl rfl T22 hp_5 rfl) rfl ?_
    clear E a; intro a E
    refine S_v E rfl (R_loadM E rfl Try.isAgg3 S.imm qp_5) rfl ?_
    clear E a; intro a E
    refine S_x (X_lookupE (vf := Value.bool) (zb := false) E S rfl MT145 rfl rfl ?_)
    clear E a S; rintro a w E S
    replace S : St w M_2 (OwnE Value.bool b_1 (dupM (fun x => x) (l0.take k)) :: _) := S
    refine S_v E rfl (R_move E rfl) rfl ?_
    clear E a; intro a E
    refine S_v E rfl (R_extract E rfl rfl) rfl ?_
    clear E a; intro a E
    refine S_v E rfl (R_extract E rfl rfl) rfl ?_
    clear E a; intro a E
    refine S_v E rfl (R_assign E rfl) rfl ?_
    clear E a; intro a E
    refine S_v E rfl (R_assign E rfl) rfl ?_
    clear E a; intro a E
    refine WL_nil ?_
    refine T_n ?_
    refine WP_seq ?_
    refine WP_region ?_
    refine S_v E rfl (R_move E rfl) rfl ?_
    clear E a; intro a E
    refine S_v E rfl (R_not E rfl) rfl ?_
    clear E a; intro a E
    refine WL_nil ?_
    refine T_n ?_
    refine WP_cond E rfl (fun hc_6 => ?_) (fun hc_6 => ?_)
    · refine WP_seq ?_
      refine WP_region ?_
      refine S_v E rfl (R_move E rfl) rfl ?_
      clear E a; intro a E
      refine S_v E rfl (R_move E rfl) rfl ?_
      clear E a; intro a E
      refine S_v E rfl (R_move E rfl) rfl ?_
      clear E a; intro a E
      obtain ⟨p_7, hp_7, qp_7⟩ := h0.at hx_4
      refine S_v E rfl (R_idx E rfl rfl T22 hp_7 rfl) rfl ?_
      clear E a; intro a E
      refine S_v E rfl (R_loadM E rfl Try.isAgg3 S.imm qp_7) rfl ?_
      clear E a; intro a E
      refine S_v E rfl (R_move E rfl) rfl ?_
      clear E a; intro a E
      refine S_x0 (X_updateE (vf := Value.bool) (u := hasK (dupM (fun x => x) (l0.take k)) x_4) E S MT145 rfl rfl rfl ?_)
      clear E a S; rintro a w E S
      refine WL_nil ?_
      refine T_n ?_
      refine WP_seq ?_
      refine WP_region ?_
      refine S_v E rfl (R_move E rfl) rfl ?_
      clear E a; intro a E
      refine WL_nil ?_
      refine T_n ?_
      refine WP_cond E rfl (fun hc_8 => ?_) (fun hc_8 => ?_)
      · refine WP_region ?_
        refine S_v E rfl (R_move E rfl) rfl ?_
        clear E a; intro a E
        refine S_v E rfl (R_addx (m := ((cntT (dupM (fun x => x) (l0.take k)) + 1 : Nat) : Int)) E rfl rfl (by first | omega | (have hdl := dupM_len (fun x => x) (l0.take k); rw [List.length_take] at hdl; have hct := cntT_le (dupM (fun x => x) (l0.take k)); omega)) (by first | omega | (have hdl := dupM_len (fun x => x) (l0.take k); rw [List.length_take] at hdl; have hct := cntT_le (dupM (fun x => x) (l0.take k)); omega))) rfl ?_
        clear E a; intro a E
        refine S_v E rfl (R_assign E rfl) rfl ?_
        clear E a; intro a E
        refine WL_nil ?_
        refine B_n ?_
        refine T_n ?_
        refine WP_region ?_
        refine S_v E rfl (R_addx (m := ((k + 1 : Nat) : Int)) E rfl rfl (by first | omega | (have hdl := dupM_len (fun x => x) (l0.take k); rw [List.length_take] at hdl; have hct := cntT_le (dupM (fun x => x) (l0.take k)); omega)) (by first | omega | (have hdl := dupM_len (fun x => x) (l0.take k); rw [List.length_take] at hdl; have hct := cntT_le (dupM (fun x => x) (l0.take k)); omega))) rfl ?_
        clear E a; intro a E
        refine S_v E rfl (R_move E rfl) rfl ?_
        clear E a; intro a E
        refine WL_nil ?_
        refine T_n ?_
        replace S := S.reM (L' := (encE Value.bool (dupM (fun x => x) (l0.take (k + 1))))) (congrArg (encE Value.bool) (show putK (dupM (fun x => x) (l0.take k)) x_4 (hasK (dupM (fun x => x) (l0.take k)) x_4) = dupM (fun x => x) (l0.take (k + 1)) by first | rfl | (simp [dupM]; done) | exact dup_y (f := (fun x => x)) (by assumption) (by assumption) | exact dup_n (f := (fun x => x)) (by assumption) (by assumption)))
        exact ⟨k + 1, ⟨M_2, hM_2, S, E.keep ⟨rfl, rfl, look_nat (i := cntT (dupM (fun x => x) (l0.take k)) + 1) rfl (by (first | (have h9 := cnt_y (f := (fun x => x)) (by assumption) (by assumption); omega) | (have h9 := cnt_n (f := (fun x => x)) (by assumption) (by assumption) (by assumption); omega) | (have h9 := cnt_i (f := (fun x => x)) (by assumption) (by assumption) (by assumption); omega))), rfl, rfl, trivial⟩, by ((try clear S); (try clear E); first | assumption | omega | rfl | (simp; done) | (simp_all; done) | (simp [List.take_add_one, *]; done) | grind [List.take_add_one])⟩, by omega⟩
      · refine WP_skip ?_
        refine B_n ?_
        refine T_n ?_
        refine WP_region ?_
        refine S_v E rfl (R_addx (m := ((k + 1 : Nat) : Int)) E rfl rfl (by first | omega | (have hdl := dupM_len (fun x => x) (l0.take k); rw [List.length_take] at hdl; have hct := cntT_le (dupM (fun x => x) (l0.take k)); omega)) (by first | omega | (have hdl := dupM_len (fun x => x) (l0.take k); rw [List.length_take] at hdl; have hct := cntT_le (dupM (fun x => x) (l0.take k)); omega))) rfl ?_
        clear E a; intro a E
        refine S_v E rfl (R_move E rfl) rfl ?_
        clear E a; intro a E
        refine WL_nil ?_
        refine T_n ?_
        replace S := S.reM (L' := (encE Value.bool (dupM (fun x => x) (l0.take (k + 1))))) (congrArg (encE Value.bool) (show putK (dupM (fun x => x) (l0.take k)) x_4 (hasK (dupM (fun x => x) (l0.take k)) x_4) = dupM (fun x => x) (l0.take (k + 1)) by first | rfl | (simp [dupM]; done) | exact dup_y (f := (fun x => x)) (by assumption) (by assumption) | exact dup_n (f := (fun x => x)) (by assumption) (by assumption)))
        exact ⟨k + 1, ⟨M_2, hM_2, S, E.keep ⟨rfl, rfl, look_nat (i := cntT (dupM (fun x => x) (l0.take k))) rfl (by (first | (have h9 := cnt_y (f := (fun x => x)) (by assumption) (by assumption); omega) | (have h9 := cnt_n (f := (fun x => x)) (by assumption) (by assumption) (by assumption); omega) | (have h9 := cnt_i (f := (fun x => x)) (by assumption) (by assumption) (by assumption); omega))), rfl, rfl, trivial⟩, by ((try clear S); (try clear E); first | assumption | omega | rfl | (simp; done) | (simp_all; done) | (simp [List.take_add_one, *]; done) | grind [List.take_add_one])⟩, by omega⟩
    · refine WP_skip ?_
      refine B_n ?_
      refine T_n ?_
      refine WP_region ?_
      refine S_v E rfl (R_addx (m := ((k + 1 : Nat) : Int)) E rfl rfl (by first | omega | (have hdl := dupM_len (fun x => x) (l0.take k); rw [List.length_take] at hdl; have hct := cntT_le (dupM (fun x => x) (l0.take k)); omega)) (by first | omega | (have hdl := dupM_len (fun x => x) (l0.take k); rw [List.length_take] at hdl; have hct := cntT_le (dupM (fun x => x) (l0.take k)); omega))) rfl ?_
      clear E a; intro a E
      refine S_v E rfl (R_move E rfl) rfl ?_
      clear E a; intro a E
      refine WL_nil ?_
      refine T_n ?_
      replace S := S.reM (L' := (encE Value.bool (dupM (fun x => x) (l0.take (k + 1))))) (congrArg (encE Value.bool) (show dupM (fun x => x) (l0.take k) = dupM (fun x => x) (l0.take (k + 1)) by first | rfl | (simp [dupM]; done) | exact dup_y (f := (fun x => x)) (by assumption) (by assumption) | exact dup_n (f := (fun x => x)) (by assumption) (by assumption)))
      exact ⟨k + 1, ⟨M_2, hM_2, S, E.keep ⟨rfl, rfl, look_nat (i := cntT (dupM (fun x => x) (l0.take k))) rfl (by (first | (have h9 := cnt_y (f := (fun x => x)) (by assumption) (by assumption); omega) | (have h9 := cnt_n (f := (fun x => x)) (by assumption) (by assumption) (by assumption); omega) | (have h9 := cnt_i (f := (fun x => x)) (by assumption) (by assumption) (by assumption); omega))), rfl, rfl, trivial⟩, by ((try clear S); (try clear E); first | assumption | omega | rfl | (simp; done) | (simp_all; done) | (simp [List.take_add_one, *]; done) | grind [List.take_add_one])⟩, by omega⟩
  · replace hc_3 := of_decide_eq_false hc_3
    refine WP_exit ?_
    refine T_x ?_
    refine T_x ?_
    refine B_x ?_
    refine T_n ?_
    refine WP_seq ?_
    refine WP_region ?_
    refine S_v E rfl (R_move E rfl) rfl ?_
    clear E a; intro a E
    refine S_x (X_make0 (k := cntT (dupM (fun x => x) (l0.take k))) E S rfl rfl rfl T22 rfl (by omega) (by (have hdl := dupM_len (fun x => x) (l0.take k); rw [List.length_take] at hdl; have hct := cntT_le (dupM (fun x => x) (l0.take k)); omega)) (by (have hdl := dupM_len (fun x => x) (l0.take k); rw [List.length_take] at hdl; have hct := cntT_le (dupM (fun x => x) (l0.take k)); omega)) ?_)
    clear E a S; rintro a w v_9 E S
    replace S := S.made0
    refine S_v E rfl (R_assign E rfl) rfl ?_
    clear E a; intro a E
    refine WL_nil ?_
    refine T_n ?_
    refine WP_seq ?_
    refine WP_seq ?_
    refine WP_region ?_
    refine S_v E rfl (R_move E rfl) rfl ?_
    clear E a; intro a E
    refine S_v E rfl (R_lenV E rfl T22 h0.len) rfl ?_
    clear E a; intro a E
    refine S_v E rfl (R_move E rfl) rfl ?_
    clear E a; intro a E
    refine WL_nil ?_
    refine T_n ?_
    refine WP_block ?_
    replace S := S.front1
    replace S := S.front1
    replace S := S.front1
    replace S := S.reM (L' := (encE Value.bool ((fdS (fun x => x) (dupM (fun x => x) (l0.take k)) (l0.take 0)).1))) (congrArg (encE Value.bool) (show dupM (fun x => x) (l0.take k) = (fdS (fun x => x) (dupM (fun x => x) (l0.take k)) (l0.take 0)).1 by first | rfl | (simp [fdS]; done) | (rw [fd_yes (f := (fun x => x)) (by assumption) (by assumption)]; done) | (rw [fd_n (f := (fun x => x)) (by assumption) (by assumption)]; done)))
    replace S := S.front1
    replace S := S.re1 (l' := (fdS (fun x => x) (dupM (fun x => x) (l0.take k)) (l0.take 0)).2) (by first | rfl | (simp [fdS]; done) | (rw [fd_yes (f := (fun x => x)) (by assumption) (by assumption)]; done) | (rw [fd_n (f := (fun x => x)) (by assumption) (by assumption)]; done))
    refine WP_loop (γ := Nat) (fun (j : Nat) a w => ∃ (M_10 : Hp) (u8 : Value), Hp.le M_2 M_10 ∧ St w M_10 (OwnI 3 u8 ((fdS (fun x => x) (dupM (fun x => x) (l0.take k)) (l0.take j)).2) :: OwnE Value.bool b_1 ((fdS (fun x => x) (dupM (fun x => x) (l0.take k)) (l0.take j)).1) :: H) ∧ Env a 68 [] [(0, v0), (3, .map (some b_1)), (8, u8), (43, .int .i64 (((l0).length : Nat) : Int)), (44, .int .i64 ((j : Nat) : Int))] ∧ (j ≤ (l0).length)) (fun j => ((l0).length) - j) 0 ⟨M_2, _, Hp.le.refl _, S, E.keep ⟨rfl, rfl, rfl, rfl, rfl, trivial⟩, by ((try clear S); (try clear E); first | assumption | omega | rfl | (simp; done) | (simp_all; done) | (simp [List.take_add_one, *]; done) | grind [List.take_add_one])⟩ ?_
    try clear E
    try clear S
    try clear a
    try clear w
    rintro j a w ⟨M_10, u8, hM_10, S, E, hL1_0⟩
    replace h0 := h0.le hM_10
    have hfl := fdS_len (fun x => x) (dupM (fun x => x) (l0.take k)) (l0.take j); rw [List.length_take] at hfl
    refine WP_seq ?_
    refine WP_region ?_
    refine S_v E rfl (R_lss E rfl rfl) rfl ?_
    clear E a; intro a E
    refine WL_nil ?_
    refine T_n ?_
    refine WP_seq ?_
    refine WP_cond E rfl (fun hc_11 => ?_) (fun hc_11 => ?_)
    · replace hc_11 := of_decide_eq_true hc_11
      refine WP_skip ?_
      refine T_n ?_
      refine WP_seq ?_
      refine WP_block ?_
      refine WP_seq ?_
      refine WP_region ?_
      refine S_v E rfl (R_move E rfl) rfl ?_
      clear E a; intro a E
      refine S_v E rfl (R_assign E rfl) rfl ?_
      clear E a; intro a E
      refine WL_nil ?_
      refine T_n ?_
      refine WP_seq ?_
      refine WP_region ?_
      refine S_v E rfl (R_move E rfl) rfl ?_
      clear E a; intro a E
      refine S_v E rfl (R_move E rfl) rfl ?_
      clear E a; intro a E
      refine S_v E rfl (R_move E rfl) rfl ?_
      clear E a; intro a E
      obtain ⟨x_12, hx_12⟩ : ∃ x, (l0)[j]? = some x := ⟨_, List.getElem?_eq_getElem (by first | omega | (simp; done) | (simp; omega) | (simp_all; omega))⟩
      obtain ⟨p_13, hp_13, qp_13⟩ := h0.at hx_12
      refine S_v E rfl (R_idx E rfl rfl T22 hp_13 rfl) rfl ?_
      clear E a; intro a E
      refine S_v E rfl (R_loadM E rfl Try.isAgg3 S.imm qp_13) rfl ?_
      clear E a; intro a E
      replace S := S.front1
      refine S_x (X_lookupE1 (vf := Value.bool) (zb := false) E S rfl MT145 rfl rfl ?_)
      clear E a S; rintro a w E S
      replace S : St w M_10 (OwnE Value.bool b_1 ((fdS (fun x => x) (dupM (fun x => x) (l0.take k)) (l0.take j)).1) :: _) := S
      refine S_v E rfl (R_assign E rfl) rfl ?_
      clear E a; intro a E
      refine WL_nil ?_
      refine T_n ?_
      refine WP_seq ?_
      refine WP_region ?_
      refine S_v E rfl (R_move E rfl) rfl ?_
      clear E a; intro a E
      refine WL_nil ?_
      refine T_n ?_
      refine WP_cond E rfl (fun hc_14 => ?_) (fun hc_14 => ?_)
      · refine WP_seq ?_
        refine WP_region ?_
        refine S_v E rfl (R_move E rfl) rfl ?_
        clear E a; intro a E
        refine S_v E rfl (R_move E rfl) rfl ?_
        clear E a; intro a E
        refine S_v E rfl (R_move E rfl) rfl ?_
        clear E a; intro a E
        obtain ⟨p_15, hp_15, qp_15⟩ := h0.at hx_12
        refine S_v E rfl (R_idx E rfl rfl T22 hp_15 rfl) rfl ?_
        clear E a; intro a E
        refine S_v E rfl (R_loadM E rfl Try.isAgg3 S.imm qp_15) rfl ?_
        clear E a; intro a E
        refine S_x (X_buildI (ys := [x_12]) E S rfl T22 rfl rfl rfl ?_)
        clear E a S; rintro a w v_16 E S
        replace S := S.front2
        replace S := S.front1
        refine S_x (X_appendB (xs := (fdS (fun x => x) (dupM (fun x => x) (l0.take k)) (l0.take j)).2) (ys := [x_12]) E S rfl rfl rfl T22 (by (simp only [List.length_cons, List.length_nil] at *; omega)) ?_)
        clear E a S; rintro a w v_17 E S
        refine S_v E rfl (R_assign E rfl) rfl ?_
        clear E a; intro a E
        refine WL_nil ?_
        refine T_n ?_
        refine WP_region ?_
        refine S_v E rfl (R_move E rfl) rfl ?_
        clear E a; intro a E
        refine S_v E rfl (R_move E rfl) rfl ?_
        clear E a; intro a E
        refine S_v E rfl (R_move E rfl) rfl ?_
        clear E a; intro a E
        obtain ⟨p_18, hp_18, qp_18⟩ := h0.at hx_12
        refine S_v E rfl (R_idx E rfl rfl T22 hp_18 rfl) rfl ?_
        clear E a; intro a E
        refine S_v E rfl (R_loadM E rfl Try.isAgg3 S.imm qp_18) rfl ?_
        clear E a; intro a E
        replace S := S.front1
        refine S_x0 (X_updateE (vf := Value.bool) (u := false) E S MT145 rfl rfl rfl ?_)
        clear E a S; rintro a w E S
        refine WL_nil ?_
        refine B_n ?_
        refine T_n ?_
        refine WP_region ?_
        refine S_v E rfl (R_addx (m := ((j + 1 : Nat) : Int)) E rfl rfl (by first | omega | (have hdl := dupM_len (fun x => x) (l0.take k); rw [List.length_take] at hdl; have hct := cntT_le (dupM (fun x => x) (l0.take k)); omega)) (by first | omega | (have hdl := dupM_len (fun x => x) (l0.take k); rw [List.length_take] at hdl; have hct := cntT_le (dupM (fun x => x) (l0.take k)); omega))) rfl ?_
        clear E a; intro a E
        refine S_v E rfl (R_move E rfl) rfl ?_
        clear E a; intro a E
        refine WL_nil ?_
        refine T_n ?_
        replace S := S.front1
        replace S := S.front1
        replace S := S.reM (L' := (encE Value.bool ((fdS (fun x => x) (dupM (fun x => x) (l0.take k)) (l0.take (j + 1))).1))) (congrArg (encE Value.bool) (show putK ((fdS (fun x => x) (dupM (fun x => x) (l0.take k)) (l0.take j)).1) x_12 false = (fdS (fun x => x) (dupM (fun x => x) (l0.take k)) (l0.take (j + 1))).1 by first | rfl | (simp [fdS]; done) | (rw [fd_yes (f := (fun x => x)) (by assumption) (by assumption)]; done) | (rw [fd_n (f := (fun x => x)) (by assumption) (by assumption)]; done)))
        replace S := S.front1
        replace S := S.re1 (l' := (fdS (fun x => x) (dupM (fun x => x) (l0.take k)) (l0.take (j + 1))).2) (by first | rfl | (simp [fdS]; done) | (rw [fd_yes (f := (fun x => x)) (by assumption) (by assumption)]; done) | (rw [fd_n (f := (fun x => x)) (by assumption) (by assumption)]; done))
        exact ⟨j + 1, ⟨M_10, _, hM_10, S, E.keep ⟨rfl, rfl, rfl, rfl, rfl, trivial⟩, by ((try clear S); (try clear E); first | assumption | omega | rfl | (simp; done) | (simp_all; done) | (simp [List.take_add_one, *]; done) | grind [List.take_add_one])⟩, by omega⟩
      · refine WP_skip ?_
        refine B_n ?_
        refine T_n ?_
        refine WP_region ?_
        refine S_v E rfl (R_addx (m := ((j + 1 : Nat) : Int)) E rfl rfl (by first | omega | (have hdl := dupM_len (fun x => x) (l0.take k); rw [List.length_take] at hdl; have hct := cntT_le (dupM (fun x => x) (l0.take k)); omega)) (by first | omega | (have hdl := dupM_len (fun x => x) (l0.take k); rw [List.length_take] at hdl; have hct := cntT_le (dupM (fun x => x) (l0.take k)); omega))) rfl ?_
        clear E a; intro a E
        refine S_v E rfl (R_move E rfl) rfl ?_
        clear E a; intro a E
        refine WL_nil ?_
        refine T_n ?_
        replace S := S.front1
        replace S := S.front1
        replace S := S.reM (L' := (encE Value.bool ((fdS (fun x => x) (dupM (fun x => x) (l0.take k)) (l0.take (j + 1))).1))) (congrArg (encE Value.bool) (show (fdS (fun x => x) (dupM (fun x => x) (l0.take k)) (l0.take j)).1 = (fdS (fun x => x) (dupM (fun x => x) (l0.take k)) (l0.take (j + 1))).1 by first | rfl | (simp [fdS]; done) | (rw [fd_yes (f := (fun x => x)) (by assumption) (by assumption)]; done) | (rw [fd_n (f := (fun x => x)) (by assumption) (by assumption)]; done)))
        replace S := S.front1
        replace S := S.re1 (l' := (fdS (fun x => x) (dupM (fun x => x) (l0.take k)) (l0.take (j + 1))).2) (by first | rfl | (simp [fdS]; done) | (rw [fd_yes (f := (fun x => x)) (by assumption) (by assumption)]; done) | (rw [fd_n (f := (fun x => x)) (by assumption) (by assumption)]; done))
        exact ⟨j + 1, ⟨M_10, _, hM_10, S, E.keep ⟨rfl, rfl, rfl, rfl, rfl, trivial⟩, by ((try clear S); (try clear E); first | assumption | omega | rfl | (simp; done) | (simp_all; done) | (simp [List.take_add_one, *]; done) | grind [List.take_add_one])⟩, by omega⟩
    · replace hc_11 := of_decide_eq_false hc_11
      refine WP_exit ?_
      refine T_x ?_
      refine T_x ?_
      refine B_x ?_
      refine T_n ?_
      refine WP_seq ?_
      refine WP_region ?_
      refine S_v E rfl (R_move E rfl) rfl ?_
      clear E a; intro a E
      refine S_v E rfl (R_assign E rfl) rfl ?_
      clear E a; intro a E
      refine WL_nil ?_
      refine T_n ?_
      refine WP_ret ?_
      have S0 := S; clear S
      obtain ⟨M_19, hM_19, hz_20, S⟩ := S0.freezeI (by (have hfl := fdS_len (fun x => x) (dupM (fun x => x) (l0.take k)) (l0.take j); rw [List.length_take] at hfl; omega))
      clear S0
      replace h0 := h0.le hM_19
      exact F_ret1 E Try.results95 rfl ⟨_, rfl, M_19, (hM_2.trans (hM_10.trans hM_19)), (by rw [show ((fdS (fun x => x) (dupM (fun x => x) l0) l0).2) = ((fdS (fun x => x) (dupM (fun x => x) (l0.take k)) (l0.take j)).2) from by (rw [List.take_of_length_le (l := l0) (i := k) (by omega), List.take_of_length_le (l := l0) (i := j) (by omega)])]; exact hz_20), S.drop⟩

set_option maxRecDepth 100000 in
set_option maxHeartbeats 4000000 in
theorem impl_FindDuplicates {M : Hp} {v0 : Value} {l0 : List Int} (h0 : RdI M v0 l0) (hb : l0.length ≤ 1000000000000) :
    Pu Try.prog (.func (.func 22) #[] #[]) M [v0] (fun r M' => RdI M' r ((fdS (fun x => x) (dupM (fun x => x) l0) l0).2)) := by
  refine Pu_enter Try.func22 rfl Try.ntmps22 rfl Try.call22 ?_
  intro a w M1 H hM1 S E
  replace h0 := h0.le hM1
  have b0 := h0.bound
  refine WP_seq ?_
  refine WP_region ?_
  refine S_v E rfl (R_assign E rfl) rfl ?_
  clear E a; intro a E
  refine WL_nil ?_
  refine T_n ?_
  refine WP_seq ?_
  refine WP_region ?_
  refine S_v E rfl (R_move E rfl) rfl ?_
  clear E a; intro a E
  refine S_x (X_pu E S rfl rfl rfl (lo_FindDuplicates h0 (by (first | omega | (simp; omega) | (simp; done) | (simp_all; omega) | grind))) (Hp.le.refl _) ?_)
  clear E a S; rintro a v_2 w M_1 hM_1 hv_2 S E
  replace h0 := h0.le hM_1
  refine S_v E rfl (R_assign E rfl) rfl ?_
  clear E a; intro a E
  refine WL_nil ?_
  refine T_n ?_
  refine WP_ret ?_
  exact F_ret1 E Try.results22 rfl ⟨_, rfl, M_1, hM_1, hv_2, S⟩

set_option maxRecDepth 100000 in
set_option maxHeartbeats 4000000 in
theorem it_FindUniquesBy1 {M : Hp} {v0 : Value} {l0 : List Int} (h0 : SeqV Try.prog v0 M (RInt) l0) {v1 : Value} {f1 : Int → Int} (h1 : PF1I Try.prog v1 M f1) {bx1 : Nat} (hbx1 : M bx1 = some (.cells #[v0] 98)) {bx2 : Nat} (hbx2 : M bx2 = some (.cells #[v1] 94)) :
    SeqV Try.prog (.func (.func 160) #[] #[.pointer (some ⟨bx1, 0, none⟩), .pointer (some ⟨bx2, 0, none⟩)]) M (RInt) ((l0).filter (fun x => !getK false (dupM f1 l0) (f1 x))) := by
  refine SeqV_enter Try.func160 rfl Try.ntmps160 rfl Try.call160 ?_
  intro y J X a w M1 c H hJM hM1 hY hJ S E
  replace h0 := h0.le hM1
  replace h1 := h1.le hM1
  replace hbx1 := hM1.2 _ _ hbx1
  replace hbx2 := hM1.2 _ _ hbx2
  refine WP_seq ?_
  refine WP_region ?_
  refine S_x (X_box (cs := #[y]) E S rfl rfl (cells_one hY.1) ?_)
  clear E a S; rintro a w b_1 E S
  obtain ⟨M_2, hM_2, hb_1, S⟩ := S.freezeB
  replace h0 := h0.le hM_2
  replace h1 := h1.le hM_2
  replace hbx1 := hM_2.2 _ _ hbx1
  replace hbx2 := hM_2.2 _ _ hbx2
  replace hJ := hJM _ _ _ _ hM_2 hJ
  refine WL_nil ?_
  refine T_n ?_
  refine WP_seq ?_
  refine WP_region ?_
  refine S_x (X_makeMap E S rfl ?_)
  clear E a S; rintro a w b_3 E S
  replace S : St w M_2 (OwnE Value.bool b_3 ([] : List (Int × Bool)) :: _) := S
  refine S_x (X_alloc (cs := #[.map none]) E S rfl Try.zeroValue145 rfl ?_)
  clear E a S; rintro a w b_4 E S
  refine S_x0 (X_store E S rfl rfl (Try.sizeOf145 _) rfl ?_)
  clear E a S; rintro a w E S
  refine WL_nil ?_
  refine T_n ?_
  refine WP_seq ?_
  refine WP_seq ?_
  refine WP_region ?_
  refine S_v E rfl (R_loadM E rfl Try.isAgg98 S.imm (cellM_box hbx1)) rfl ?_
  clear E a; intro a E
  refine WL_nil ?_
  refine T_n ?_
  refine WP_block ?_
  replace S := S.front3
  replace S := S.front2
  replace S := S.front2
  replace E := E.keep (l' := [(1, .pointer (some ⟨bx1, 0, none⟩)), (2, .pointer (some ⟨bx2, 0, none⟩)), (3, .pointer (some ⟨b_1, 0, none⟩)), (4, .pointer (some ⟨b_4, 0, none⟩)), (13, v0)]) ⟨rfl, rfl, rfl, rfl, rfl, trivial⟩
  replace S := S.front2
  replace S := S.front2
  replace S := S.reM (L' := (encE Value.bool (dupM f1 (([] : List Int))))) (congrArg (encE Value.bool) (show ([] : List (Int × Bool)) = dupM f1 (([] : List Int)) by first | (simp [dupM]; done) | (refine dup1_y ?_; first | assumption | (simp_all; done)) | (refine dup1_n ?_; first | assumption | (simp_all; done))))
  replace S := S.front2
  have S0 := S; clear S; have S := St.pack [blk b_4 (.cells #[.map (some b_3)] 145), OwnE Value.bool b_3 (dupM f1 (([] : List Int))), c] S0; clear S0
  refine WP_range (RV := RInt) (l := l0) (fun pre M c => ∃ (c0 : HProp), c = bigs [blk b_4 (.cells #[.map (some b_3)] 145), OwnE Value.bool b_3 (dupM f1 (pre)), c0] ∧ (J ([] : List Int) M c0)) (fun _ _ _ _ => False) E S rfl h0 (Hp.le.refl _) (fun _ _ _ h => by rw [h]; rfl) (by decide) (by rintro _ M M' c hM ⟨c0, rfl, f0⟩; exact ⟨_, rfl, hJM _ _ _ _ hM f0⟩) ⟨_, rfl, J_eq hJ (by ((try clear S); (try clear E); first | assumption | omega | rfl | (simp; done) | (simp_all; done) | (simp [List.take_add_one, *]; done) | grind [List.take_add_one]))⟩ ?_ ?_ ?_
  clear E S
  · rintro lb_6 rec_7 pre x _ a w M_5 _ G hM_5 hp_8 rfl ⟨c0, rfl, f0⟩ E S
    replace E : Env a 45 [] [(14, .int .i64 x), (1, .pointer (some ⟨bx1, 0, none⟩)), (2, .pointer (some ⟨bx2, 0, none⟩)), (3, .pointer (some ⟨b_1, 0, none⟩)), (4, .pointer (some ⟨b_4, 0, none⟩)), (13, v0)] := E
    replace S := S.swap.unpack3
    have hq0 := prefix_lt hp_8
    replace h0 := h0.le hM_5
    replace h1 := h1.le hM_5
    replace hbx1 := hM_5.2 _ _ hbx1
    replace hbx2 := hM_5.2 _ _ hbx2
    replace hb_1 := hM_5.2 _ _ hb_1
    refine WP_region ?_
    refine S_v E rfl (R_assign E rfl) rfl ?_
    clear E a; intro a E
    refine WL_nil ?_
    refine T_n ?_
    replace S := S.front3
    refine rb S ?_
    clear S; intro w S
    refine WP_block ?_
    refine WP_seq ?_
    refine WP_region ?_
    refine S_v E rfl (R_loadM E rfl Try.isAgg94 S.imm (cellM_box hbx2)) rfl ?_
    clear E a; intro a E
    refine S_v E rfl (R_move E rfl) rfl ?_
    clear E a; intro a E
    refine S_x (X_pu E S rfl rfl rfl (h1.2 x) (Hp.le.refl _) ?_)
    clear E a S; rintro a _ w M_10 hM_10 rfl S E
    replace h0 := h0.le hM_10
    replace h1 := h1.le hM_10
    replace hbx1 := hM_10.2 _ _ hbx1
    replace hbx2 := hM_10.2 _ _ hbx2
    replace hb_1 := hM_10.2 _ _ hb_1
    replace f0 := hJM _ _ _ _ hM_10 f0
    refine S_v E rfl (R_assign E rfl) rfl ?_
    clear E a; intro a E
    refine WL_nil ?_
    refine T_n ?_
    refine WP_seq ?_
    refine WP_region ?_
    refine S_v E rfl (R_load E rfl (Try.isAgg145 _) (cell_blk (S.mem (.tail _ (.head _))))) rfl ?_
    clear E a; intro a E
    refine S_v E rfl (R_move E rfl) rfl ?_
    clear E a; intro a E
    replace S := S.front2
    refine S_x (X_lookupE (vf := Value.bool) (zb := false) E S rfl MT145 rfl rfl ?_)
    clear E a S; rintro a w E S
    replace S : St w M_10 (OwnE Value.bool b_3 (dupM f1 (pre)) :: _) := S
    refine S_v E rfl (R_move E rfl) rfl ?_
    clear E a; intro a E
    refine S_v E rfl (R_extract E rfl rfl) rfl ?_
    clear E a; intro a E
    refine S_v E rfl (R_extract E rfl rfl) rfl ?_
    clear E a; intro a E
    refine S_v E rfl (R_assign E rfl) rfl ?_
    clear E a; intro a E
    refine S_v E rfl (R_assign E rfl) rfl ?_
    clear E a; intro a E
    refine WL_nil ?_
    refine T_n ?_
    refine WP_seq ?_
    refine WP_region ?_
    refine S_v E rfl (R_move E rfl) rfl ?_
    clear E a; intro a E
    refine S_v E rfl (R_not E rfl) rfl ?_
    clear E a; intro a E
    refine WL_nil ?_
    refine T_n ?_
    refine WP_cond E rfl (fun hc_11 => ?_) (fun hc_11 => ?_)
    · refine WP_region ?_
      refine S_v E rfl (R_load E rfl (Try.isAgg145 _) (cell_blk (S.mem (.tail _ (.tail _ (.head _)))))) rfl ?_
      clear E a; intro a E
      refine S_v E rfl (R_move E rfl) rfl ?_
      clear E a; intro a E
      refine S_v E rfl (R_move E rfl) rfl ?_
      clear E a; intro a E
      refine S_x0 (X_updateE (vf := Value.bool) (u := hasK (dupM f1 (pre)) (f1 x)) E S MT145 rfl rfl rfl ?_)
      clear E a S; rintro a w E S
      refine WL_nil ?_
      refine B_n ?_
      replace S := S.front3
      replace S := S.front1
      replace S := S.front3
      replace S := S.front2
      replace S := S.front2
      replace S := S.reM (L' := (encE Value.bool (dupM f1 ((pre ++ [x]))))) (congrArg (encE Value.bool) (show putK (dupM f1 (pre)) (f1 x) (hasK (dupM f1 (pre)) (f1 x)) = dupM f1 ((pre ++ [x])) by first | (simp [dupM]; done) | (refine dup1_y ?_; first | assumption | (simp_all; done)) | (refine dup1_n ?_; first | assumption | (simp_all; done))))
      replace S := S.front2
      have S0 := S; clear S; have S := (St.pack [blk b_4 (.cells #[.map (some b_3)] 145), OwnE Value.bool b_3 (dupM f1 ((pre ++ [x]))), c0] S0).swap; clear S0
      exact ⟨M_10, _, hM_10, ⟨_, rfl, J_eq f0 (by ((try clear S); (try clear E); first | assumption | omega | rfl | (simp; done) | (simp_all; done) | (simp [List.take_add_one, *]; done) | grind [List.take_add_one]))⟩, S⟩
    · refine WP_skip ?_
      refine B_n ?_
      replace S := S.front3
      replace S := S.front1
      replace S := S.front3
      replace S := S.front2
      replace S := S.front2
      replace S := S.reM (L' := (encE Value.bool (dupM f1 ((pre ++ [x]))))) (congrArg (encE Value.bool) (show dupM f1 (pre) = dupM f1 ((pre ++ [x])) by first | (simp [dupM]; done) | (refine dup1_y ?_; first | assumption | (simp_all; done)) | (refine dup1_n ?_; first | assumption | (simp_all; done))))
      replace S := S.front2
      have S0 := S; clear S; have S := (St.pack [blk b_4 (.cells #[.map (some b_3)] 145), OwnE Value.bool b_3 (dupM f1 ((pre ++ [x]))), c0] S0).swap; clear S0
      exact ⟨M_10, _, hM_10, ⟨_, rfl, J_eq f0 (by ((try clear S); (try clear E); first | assumption | omega | rfl | (simp; done) | (simp_all; done) | (simp [List.take_add_one, *]; done) | grind [List.take_add_one]))⟩, S⟩
  · rintro a w M_12 _ D_13 hM_12 ⟨c0, rfl, f0⟩ S E
    replace S := S.unpack3
    replace h0 := h0.le hM_12
    replace h1 := h1.le hM_12
    replace hbx1 := hM_12.2 _ _ hbx1
    replace hbx2 := hM_12.2 _ _ hbx2
    replace hb_1 := hM_12.2 _ _ hb_1
    refine B_n ?_
    refine T_n ?_
    refine WP_seq ?_
    refine WP_region ?_
    refine S_v E rfl (R_loadM E rfl Try.isAgg98 S.imm (cellM_box hbx1)) rfl ?_
    clear E a; intro a E
    refine WL_nil ?_
    refine T_n ?_
    refine WP_block ?_
    replace S := S.front2
    replace S := S.front2
    replace S := S.front2
    replace E := E.keep (l' := [(2, .pointer (some ⟨bx2, 0, none⟩)), (3, .pointer (some ⟨b_1, 0, none⟩)), (4, .pointer (some ⟨b_4, 0, none⟩)), (29, v0)]) ⟨rfl, rfl, rfl, rfl, trivial⟩
    replace S := S.front2
    replace S := S.front2
    replace S := S.reM (L' := (encE Value.bool (dupM f1 l0))) (congrArg (encE Value.bool) (show dupM f1 (l0) = dupM f1 l0 by first | rfl | (simp; done)))
    replace S := S.front2
    have S0 := S; clear S; have S := St.pack [blk b_4 (.cells #[.map (some b_3)] 145), OwnE Value.bool b_3 (dupM f1 l0), c0] S0; clear S0
    refine WP_range (RV := RInt) (l := l0) (fun pre M c => ∃ (c1 : HProp), c = bigs [blk b_4 (.cells #[.map (some b_3)] 145), OwnE Value.bool b_3 (dupM f1 l0), c1] ∧ (J ((pre).filter (fun x => !getK false (dupM f1 l0) (f1 x))) M c1)) (fun cd pre M c => cd = .ret ∧ ∃ z, z <+: ((l0).filter (fun x => !getK false (dupM f1 l0) (f1 x))) ∧ X z M c) E S rfl h0 (Hp.le.refl _) (fun _ _ _ h => by rw [h]; rfl) (by decide) (by rintro _ M M' c hM ⟨c1, rfl, f0⟩; exact ⟨_, rfl, hJM _ _ _ _ hM f0⟩) ⟨_, rfl, J_eq f0 (by (simp))⟩ ?_ ?_ ?_
    clear E S
    · rintro lb_15 rec_16 pre x _ a w M_14 _ G hM_14 hp_17 rfl ⟨c1, rfl, f0⟩ E S
      replace E : Env a 45 [] [(30, .int .i64 x), (2, .pointer (some ⟨bx2, 0, none⟩)), (3, .pointer (some ⟨b_1, 0, none⟩)), (4, .pointer (some ⟨b_4, 0, none⟩)), (29, v0)] := E
      replace S := S.swap.unpack3
      have hq1 := prefix_lt hp_17
      replace h0 := h0.le hM_14
      replace h1 := h1.le hM_14
      replace hbx1 := hM_14.2 _ _ hbx1
      replace hbx2 := hM_14.2 _ _ hbx2
      replace hb_1 := hM_14.2 _ _ hb_1
      refine WP_region ?_
      refine S_v E rfl (R_assign E rfl) rfl ?_
      clear E a; intro a E
      refine WL_nil ?_
      refine T_n ?_
      replace S := S.front3
      refine rb S ?_
      clear S; intro w S
      refine WP_block ?_
      refine WP_seq ?_
      refine WP_region ?_
      refine S_v E rfl (R_loadM E rfl Try.isAgg94 S.imm (cellM_box hbx2)) rfl ?_
      clear E a; intro a E
      refine S_v E rfl (R_move E rfl) rfl ?_
      clear E a; intro a E
      refine S_x (X_pu E S rfl rfl rfl (h1.2 x) (Hp.le.refl _) ?_)
      clear E a S; rintro a _ w M_19 hM_19 rfl S E
      replace h0 := h0.le hM_19
      replace h1 := h1.le hM_19
      replace hbx1 := hM_19.2 _ _ hbx1
      replace hbx2 := hM_19.2 _ _ hbx2
      replace hb_1 := hM_19.2 _ _ hb_1
      replace f0 := hJM _ _ _ _ hM_19 f0
      refine S_v E rfl (R_assign E rfl) rfl ?_
      clear E a; intro a E
      refine WL_nil ?_
      refine T_n ?_
      refine WP_seq ?_
      refine WP_region ?_
      refine S_v E rfl (R_load E rfl (Try.isAgg145 _) (cell_blk (S.mem (.tail _ (.head _))))) rfl ?_
      clear E a; intro a E
      refine S_v E rfl (R_move E rfl) rfl ?_
      clear E a; intro a E
      replace S := S.front2
      refine S_x (X_lookupE1 (vf := Value.bool) (zb := false) E S rfl MT145 rfl rfl ?_)
      clear E a S; rintro a w E S
      replace S : St w M_19 (OwnE Value.bool b_3 (dupM f1 l0) :: _) := S
      refine S_v E rfl (R_assign E rfl) rfl ?_
      clear E a; intro a E
      refine WL_nil ?_
      refine T_n ?_
      refine WP_seq ?_
      refine WP_region ?_
      refine S_v E rfl (R_move E rfl) rfl ?_
      clear E a; intro a E
      refine S_v E rfl (R_not E rfl) rfl ?_
      clear E a; intro a E
      refine S_v E rfl (R_move E rfl) rfl ?_
      clear E a; intro a E
      refine split_bool (!(getK false (dupM f1 l0) (f1 x))) (fun hc_20 => ?_) (fun hc_20 => ?_)
      · replace E := E.val (t := 38) rfl hc_20
        replace E := E.val (t := 39) rfl hc_20
        refine WL_guard_yes E rfl rfl ?_
        refine S_v E rfl (R_loadM E rfl Try.isAgg144 S.imm (cellM_box hb_1)) rfl ?_
        clear E a; intro a E
        refine WL_guard_yes E rfl rfl ?_
        refine S_v E rfl (R_move E rfl) rfl ?_
        clear E a; intro a E
        replace S := S.front3
        refine WL_guard_yes E rfl rfl ?_
        refine S_x (X_yield (x := x) E S rfl rfl rfl hY (hM_2.trans (hM_12.trans (hM_14.trans hM_19))) (by (refine flp_yes (g := fun x => !getK false (dupM f1 l0) (f1 x)) (by assumption) ?_; first | assumption | (simp_all; done))) rfl f0 ?_)
        clear E a S; rintro a w M_21 c_22 go_23 hM_21 f0 S E
        replace h0 := h0.le hM_21
        replace h1 := h1.le hM_21
        replace hbx1 := hM_21.2 _ _ hbx1
        replace hbx2 := hM_21.2 _ _ hbx2
        replace hb_1 := hM_21.2 _ _ hb_1
        cases go_23
        · replace f0 : X ((pre).filter (fun x => !getK false (dupM f1 l0) (f1 x)) ++ [x]) M_21 c_22 := f0
          refine WL_guard_yes E rfl rfl ?_
          refine S_v E rfl (R_not E rfl) rfl ?_
          clear E a; intro a E
          refine S_v E rfl (R_pickT E rfl rfl) rfl ?_
          clear E a; intro a E
          refine WL_nil ?_
          refine T_n ?_
          refine WP_condT E rfl rfl ?_
          refine WP_ret ?_
          refine B_r ?_
          replace S := S.front1
          replace S := S.drop
          replace S := S.front2
          replace S := S.drop
          replace S := S.front1
          exact ⟨M_21, _, (hM_19.trans hM_21), ⟨rfl, _, (by first | assumption | ((refine flp_yes (g := fun x => !getK false (dupM f1 l0) (f1 x)) (by assumption) ?_; first | assumption | (simp_all; done))) | ((first | (simp; done) | exact List.prefix_refl _ | (rw [pre_take (by assumption)]; exact List.take_prefix _ _) | exact pre_take_lt (by assumption)))), f0⟩, S⟩
        · replace f0 : J ((pre).filter (fun x => !getK false (dupM f1 l0) (f1 x)) ++ [x]) M_21 c_22 := f0
          refine WL_guard_yes E rfl rfl ?_
          refine S_v E rfl (R_not E rfl) rfl ?_
          clear E a; intro a E
          refine S_v E rfl (R_pickT E rfl rfl) rfl ?_
          clear E a; intro a E
          refine WL_nil ?_
          refine T_n ?_
          refine WP_condF E rfl rfl ?_
          refine WP_skip ?_
          refine B_n ?_
          replace S := S.front1
          replace S := S.front3
          replace S := S.front2
          replace S := S.front2
          replace S := S.front2
          have S0 := S; clear S; have S := (St.pack [blk b_4 (.cells #[.map (some b_3)] 145), OwnE Value.bool b_3 (dupM f1 l0), c_22] S0).swap; clear S0
          exact ⟨M_21, _, (hM_19.trans hM_21), ⟨_, rfl, J_eq f0 (by (first | (refine fla_yes (g := fun x => !getK false (dupM f1 l0) (f1 x)) ?_; first | assumption | (simp_all; done)) | (refine fla_no (g := fun x => !getK false (dupM f1 l0) (f1 x)) ?_; first | assumption | (simp_all; done))))⟩, S⟩
      · replace E := E.val (t := 38) rfl hc_20
        replace E := E.val (t := 39) rfl hc_20
        refine WL_guard_no E rfl rfl rfl rfl fun a E => ?_
        refine WL_guard_no E rfl rfl rfl rfl fun a E => ?_
        refine WL_guard_no E rfl rfl rfl rfl fun a E => ?_
        refine WL_guard_no E rfl rfl rfl rfl fun a E => ?_
        refine S_v E rfl (R_pickF E rfl rfl) rfl ?_
        clear E a; intro a E
        refine WL_nil ?_
        refine T_n ?_
        refine WP_condF E rfl rfl ?_
        refine WP_skip ?_
        refine B_n ?_
        replace S := S.front3
        replace S := S.front1
        replace S := S.front3
        replace S := S.front2
        replace S := S.front2
        replace S := S.front2
        have S0 := S; clear S; have S := (St.pack [blk b_4 (.cells #[.map (some b_3)] 145), OwnE Value.bool b_3 (dupM f1 l0), c1] S0).swap; clear S0
        exact ⟨M_19, _, hM_19, ⟨_, rfl, J_eq f0 (by (first | (refine fla_yes (g := fun x => !getK false (dupM f1 l0) (f1 x)) ?_; first | assumption | (simp_all; done)) | (refine fla_no (g := fun x => !getK false (dupM f1 l0) (f1 x)) ?_; first | assumption | (simp_all; done))))⟩, S⟩
    · rintro a w M_24 _ D_25 hM_24 ⟨c1, rfl, f0⟩ S E
      replace S := S.unpack3
      replace h0 := h0.le hM_24
      replace h1 := h1.le hM_24
      replace hbx1 := hM_24.2 _ _ hbx1
      replace hbx2 := hM_24.2 _ _ hbx2
      replace hb_1 := hM_24.2 _ _ hb_1
      refine B_n ?_
      refine F_nrm ?_
      replace S := S.drop
      replace S := S.drop
      replace S := S.front1
      exact F_retM0 E S Try.results160 (fun w S => ⟨_, rfl, M_24, _, (hM_2.trans (hM_12.trans hM_24)), .inl f0, S⟩)
    · rintro a w M_26 c_ D_27 p_28 _ hM_26 hp_29 ⟨rfl, z_, hz_, f0⟩ S E
      replace h0 := h0.le hM_26
      replace h1 := h1.le hM_26
      replace hbx1 := hM_26.2 _ _ hbx1
      replace hbx2 := hM_26.2 _ _ hbx2
      replace hb_1 := hM_26.2 _ _ hb_1
      refine WP_ret ?_
      refine B_r ?_
      replace S := S.front1
      exact F_retM0 E S Try.results160 (fun w S => ⟨_, rfl, M_26, _, (hM_2.trans (hM_12.trans hM_26)), .inr ⟨z_, (by first | assumption | ((first | (simp; done) | exact List.prefix_refl _ | (rw [pre_take (by assumption)]; exact List.take_prefix _ _) | exact pre_take_lt (by assumption)))), f0⟩, S⟩)
  · rintro _ _ _ _ _ _ _ _ _ hX; exact hX.elim

set_option maxRecDepth 100000 in
set_option maxHeartbeats 4000000 in
theorem it_FindUniquesBy {M : Hp} {v0 : Value} {l0 : List Int} (h0 : SeqV Try.prog v0 M (RInt) l0) {v1 : Value} {f1 : Int → Int} (h1 : PF1I Try.prog v1 M f1) :
    Pu Try.prog (.func (.func 97) #[] #[]) M [v0, v1] (fun r M' => SeqV Try.prog r M' RInt ((l0).filter (fun x => !getK false (dupM f1 l0) (f1 x)))) := by
  refine Pu_enter Try.func97 rfl Try.ntmps97 rfl Try.call97 ?_
  intro a w M1 H hM1 S E
  replace h0 := h0.le hM1
  replace h1 := h1.le hM1
  refine WP_seq ?_
  refine WP_region ?_
  refine S_x (X_box (cs := #[v0]) E S rfl rfl (cells_one h0.1) ?_)
  clear E a S; rintro a w b_1 E S
  obtain ⟨M_2, hM_2, hb_1, S⟩ := S.freezeB
  replace h0 := h0.le hM_2
  replace h1 := h1.le hM_2
  refine S_x (X_box (cs := #[v1]) E S rfl rfl (cells_one h1.1) ?_)
  clear E a S; rintro a w b_3 E S
  obtain ⟨M_4, hM_4, hb_3, S⟩ := S.freezeB
  replace h0 := h0.le hM_4
  replace h1 := h1.le hM_4
  replace hb_1 := hM_4.2 _ _ hb_1
  refine S_v E rfl (R_assign E rfl) rfl ?_
  clear E a; intro a E
  refine WL_nil ?_
  refine T_n ?_
  refine WP_seq ?_
  refine WP_region ?_
  refine S_v E rfl (R_makeFunc E rfl rfl) rfl ?_
  clear E a; intro a E
  refine S_v E rfl (R_assign E rfl) rfl ?_
  clear E a; intro a E
  refine WL_nil ?_
  refine T_n ?_
  refine WP_ret ?_
  exact F_ret1 E Try.results97 rfl ⟨_, rfl, M_4, (hM_2.trans hM_4), (SeqV_eq (it_FindUniquesBy1 (f1 := f1) h0 h1 hb_1 hb_3) (by ((try clear S); (try clear E); first | rfl | (simp; done) | (simp_all; done) | grind [List.take_add_one]))), S⟩

set_option maxRecDepth 100000 in
set_option maxHeartbeats 4000000 in
theorem impl_FindUniquesBySeq {M : Hp} {v0 : Value} {l0 : List Int} (h0 : RdI M v0 l0){kk1 kn1 : Int} (gk1 : -9223372036854775808 ≤ kn1 ∧ kn1 ≤ 9223372036854775807) (hb : l0.length ≤ 1000000000000) :
    Pu Try.prog (.func (.func 24) #[] #[]) M [v0, .agg #[.int .i64 kk1, .int .i64 kn1]] (fun r M' => RdI M' r ((l0).filter (fun x => !getK false (dupM (fun x => keyAt kk1 kn1 x 0) l0) ((fun x => keyAt kk1 kn1 x 0) x)))) := by
  refine Pu_enter Try.func24 rfl Try.ntmps24 rfl Try.call24 ?_
  intro a w M1 H hM1 S E
  replace h0 := h0.le hM1
  have b0 := h0.bound
  have hfl := List.length_filter_le (fun x => !getK false (dupM (fun x => keyAt kk1 kn1 x 0) l0) ((fun x => keyAt kk1 kn1 x 0) x)) l0
  refine WP_seq ?_
  refine WP_region ?_
  refine S_x (X_box (cs := #[.int .i64 kk1, .int .i64 kn1]) E S rfl rfl rfl ?_)
  clear E a S; rintro a w b_1 E S
  obtain ⟨M_2, hM_2, hb_1, S⟩ := S.freezeB
  replace h0 := h0.le hM_2
  refine S_v E rfl (R_assign E rfl) rfl ?_
  clear E a; intro a E
  refine WL_nil ?_
  refine T_n ?_
  refine WP_seq ?_
  have hb_1k2 := hb_1
  replace S := S.mono_heap (w' := World.drew _) rfl
  refine WP_drawn (C := fun x w => agree M_2 w) (bf := (fun i => [])) [0, 2, 3, 6] [0, 2, 3, 1, 4, 5, 6] Try.mixed (by kernel_rfl) (fun x hq => S.imm) ?_
  refine D_v E rfl rfl rfl (fun w hC => (R_move E rfl)) ?_
  clear E a; intro a E
  refine D_v E rfl rfl rfl (fun w hC => (R_loadGM E rfl (Try.isAgg24 _) (Try.sizeOf24 _) hC hb_1k2)) ?_
  clear E a; intro a E
  refine D_v E rfl rfl rfl (fun w hC => (R_makeFunc E rfl rfl)) ?_
  clear E a; intro a E
  refine D_x rfl rfl rfl (X_pu E S rfl rfl rfl (slices_Values h0) (Hp.le.refl _) ?_)
  clear E a S; rintro a v_4 w M_3 hM_3 hv_4 S E
  replace h0 := h0.le hM_3
  replace hb_1 := hM_3.2 _ _ hb_1
  refine ⟨fun x hq hb => (agree_le hM_3 S.imm), ?_⟩
  refine D_x rfl rfl rfl (X_pu E S rfl rfl rfl (it_FindUniquesBy hv_4 ⟨rfl, fun zx1 => Key_of (x1 := zx1) (by omega)⟩) (Hp.le.refl _) ?_)
  clear E a S; rintro a v_6 w M_5 hM_5 hv_6 S E
  replace h0 := h0.le hM_5
  replace hb_1 := hM_5.2 _ _ hb_1
  replace hv_4 := hv_4.le hM_5
  refine ⟨fun x hq hb => (agree_le (hM_3.trans hM_5) S.imm), ?_⟩
  refine D_x rfl rfl rfl (X_pu E S rfl rfl rfl (slices_Collect hv_6 (by (first | omega | (simp; omega) | (simp; done) | (simp_all; omega) | grind))) (Hp.le.refl _) ?_)
  clear E a S; rintro a v_8 w M_7 hM_7 hv_8 S E
  replace h0 := h0.le hM_7
  replace hb_1 := hM_7.2 _ _ hb_1
  replace hv_4 := hv_4.le hM_7
  replace hv_6 := hv_6.le hM_7
  refine ⟨fun x hq hb => (agree_le (hM_3.trans (hM_5.trans hM_7)) S.imm), ?_⟩
  refine D_v E rfl rfl rfl (fun w hC => (R_assign E rfl)) ?_
  clear E a; intro a E
  refine D_end (NoP_n ?_)
  refine T_n ?_
  refine WP_ret ?_
  exact F_ret1 E Try.results24 rfl ⟨_, rfl, M_7, (hM_2.trans (hM_3.trans (hM_5.trans hM_7))), hv_8, S⟩

set_option maxRecDepth 100000 in
set_option maxHeartbeats 4000000 in
theorem laws_count {M : Hp} {v0 : Value} {l0 : List Int} (h0 : RdI M v0 l0){x1 : Int} :
    Pu Try.prog (.func (.func 96) #[] #[]) M [v0, .int .i64 x1] (fun r M' => r = .int .i64 (((l0).count x1 : Nat) : Int)) := by
  refine Pu_enter Try.func96 rfl Try.ntmps96 rfl Try.call96 ?_
  intro a w M1 H hM1 S E
  replace h0 := h0.le hM1
  have b0 := h0.bound
  have c0 := List.count_le_length (a := x1) (l := l0)
  refine WP_seq ?_
  refine WP_region ?_
  refine S_v E rfl (R_assign E rfl) rfl ?_
  clear E a; intro a E
  refine WL_nil ?_
  refine T_n ?_
  refine WP_seq ?_
  refine WP_region ?_
  refine S_v E rfl (R_assign E rfl) rfl ?_
  clear E a; intro a E
  refine WL_nil ?_
  refine T_n ?_
  refine WP_seq ?_
  refine WP_seq ?_
  refine WP_region ?_
  refine S_v E rfl (R_move E rfl) rfl ?_
  clear E a; intro a E
  refine S_v E rfl (R_lenV E rfl T22 h0.len) rfl ?_
  clear E a; intro a E
  refine S_v E rfl (R_move E rfl) rfl ?_
  clear E a; intro a E
  refine WL_nil ?_
  refine T_n ?_
  refine WP_block ?_
  refine WP_loop (γ := Nat) (fun (k : Nat) a w => ∃ (M_1 : Hp), Hp.le M1 M_1 ∧ St w M_1 (H) ∧ Env a 21 [] [(1, .int .i64 x1), (5, .int .i64 (((l0.take k).count x1 : Nat) : Int)), (8, v0), (9, .int .i64 (((l0).length : Nat) : Int)), (10, .int .i64 ((k : Nat) : Int))] ∧ (k ≤ (l0).length)) (fun k => ((l0).length) - k) 0 ⟨M1, Hp.le.refl _, S, E.keep ⟨rfl, look_nat (i := 0) rfl (by ((try clear S); (try clear E); first | assumption | omega | rfl | (simp; done) | (simp_all; done) | (simp [List.take_add_one, *]; done) | grind [List.take_add_one])), rfl, rfl, rfl, trivial⟩, by ((try clear S); (try clear E); first | assumption | omega | rfl | (simp; done) | (simp_all; done) | (simp [List.take_add_one, *]; done) | grind [List.take_add_one])⟩ ?_
  try clear E
  try clear S
  try clear a
  try clear w
  rintro k a w ⟨M_1, hM_1, S, E, hL0_0⟩
  replace h0 := h0.le hM_1
  have c1 := List.count_le_length (a := x1) (l := l0.take k)
  simp only [List.length_take] at c1
  refine WP_seq ?_
  refine WP_region ?_
  refine S_v E rfl (R_lss E rfl rfl) rfl ?_
  clear E a; intro a E
  refine WL_nil ?_
  refine T_n ?_
  refine WP_seq ?_
  refine WP_cond E rfl (fun hc_2 => ?_) (fun hc_2 => ?_)
  · replace hc_2 := of_decide_eq_true hc_2
    refine WP_skip ?_
    refine T_n ?_
    refine WP_seq ?_
    refine WP_block ?_
    refine WP_seq ?_
    refine WP_region ?_
    obtain ⟨x_3, hx_3⟩ : ∃ x, (l0)[k]? = some x := ⟨_, List.getElem?_eq_getElem (by first | omega | (simp; done) | (simp; omega) | (simp_all; omega))⟩
    obtain ⟨p_4, hp_4, qp_4⟩ := h0.at hx_3
    refine S_v E rfl (R_idx E rfl rfl T22 hp_4 rfl) rfl ?_
    clear E a; intro a E
    refine S_v E rfl (R_loadM E rfl Try.isAgg3 S.imm qp_4) rfl ?_
    clear E a; intro a E
    refine S_v E rfl (R_assign E rfl) rfl ?_
    clear E a; intro a E
    refine WL_nil ?_
    refine T_n ?_
    refine WP_seq ?_
    refine WP_region ?_
    refine S_v E rfl (R_move E rfl) rfl ?_
    clear E a; intro a E
    refine S_v E rfl (R_move E rfl) rfl ?_
    clear E a; intro a E
    refine S_v E rfl (R_eql E rfl rfl) rfl ?_
    clear E a; intro a E
    refine WL_nil ?_
    refine T_n ?_
    refine WP_cond E rfl (fun hc_5 => ?_) (fun hc_5 => ?_)
    · replace hc_5 := of_decide_eq_true hc_5
      refine WP_region ?_
      refine S_v E rfl (R_move E rfl) rfl ?_
      clear E a; intro a E
      refine S_v E rfl (R_addx (m := (((l0.take k).count x1 + 1 : Nat) : Int)) E rfl rfl (by omega) (by omega)) rfl ?_
      clear E a; intro a E
      refine S_v E rfl (R_assign E rfl) rfl ?_
      clear E a; intro a E
      refine WL_nil ?_
      refine B_n ?_
      refine T_n ?_
      refine WP_region ?_
      refine S_v E rfl (R_addx (m := ((k + 1 : Nat) : Int)) E rfl rfl (by omega) (by omega)) rfl ?_
      clear E a; intro a E
      refine S_v E rfl (R_move E rfl) rfl ?_
      clear E a; intro a E
      refine WL_nil ?_
      refine T_n ?_
      exact ⟨k + 1, ⟨M_1, hM_1, S, E.keep ⟨rfl, look_nat (i := (l0.take k).count x1 + 1) rfl (by ((try clear S); (try clear E); first | assumption | omega | rfl | (simp; done) | (simp_all; done) | (simp [List.take_add_one, *]; done) | grind [List.take_add_one])), rfl, rfl, rfl, trivial⟩, by ((try clear S); (try clear E); first | assumption | omega | rfl | (simp; done) | (simp_all; done) | (simp [List.take_add_one, *]; done) | grind [List.take_add_one])⟩, by omega⟩
    · replace hc_5 := of_decide_eq_false hc_5
      refine WP_skip ?_
      refine B_n ?_
      refine T_n ?_
      refine WP_region ?_
      refine S_v E rfl (R_addx (m := ((k + 1 : Nat) : Int)) E rfl rfl (by omega) (by omega)) rfl ?_
      clear E a; intro a E
      refine S_v E rfl (R_move E rfl) rfl ?_
      clear E a; intro a E
      refine WL_nil ?_
      refine T_n ?_
      exact ⟨k + 1, ⟨M_1, hM_1, S, E.keep ⟨rfl, look_nat (i := (l0.take k).count x1) rfl (by ((try clear S); (try clear E); first | assumption | omega | rfl | (simp; done) | (simp_all; done) | (simp [List.take_add_one, *]; done) | grind [List.take_add_one])), rfl, rfl, rfl, trivial⟩, by ((try clear S); (try clear E); first | assumption | omega | rfl | (simp; done) | (simp_all; done) | (simp [List.take_add_one, *]; done) | grind [List.take_add_one])⟩, by omega⟩
  · replace hc_2 := of_decide_eq_false hc_2
    refine WP_exit ?_
    refine T_x ?_
    refine T_x ?_
    refine B_x ?_
    refine T_n ?_
    refine WP_seq ?_
    refine WP_region ?_
    refine S_v E rfl (R_move E rfl) rfl ?_
    clear E a; intro a E
    refine S_v E rfl (R_assign E rfl) rfl ?_
    clear E a; intro a E
    refine WL_nil ?_
    refine T_n ?_
    refine WP_ret ?_
    exact F_ret1 E Try.results96 rfl ⟨_, rfl, M_1, hM_1, (congrArg (Value.int .i64) (by ((try clear S); (try clear E); first | assumption | omega | rfl | (simp; done) | (simp_all; done) | (simp [List.take_add_one, *]; done) | grind [List.take_add_one]))), S⟩

set_option maxRecDepth 100000 in
set_option maxHeartbeats 4000000 in
theorem laws_same {M : Hp} {v0 v1 : Value} {l0 l1 : List Int} (h0 : RdI M v0 l0) (h1 : RdI M v1 l1) :
    Pu Try.prog (.func (.func 23) #[] #[]) M [v0, v1] (fun r M' => r = .bool (decide (l0.length = l1.length ∧ ∀ x ∈ l0, l0.count x = l1.count x))) := by
  refine Pu_enter Try.func23 rfl Try.ntmps23 rfl Try.call23 ?_
  intro a w M1 H hM1 S E
  replace h0 := h0.le hM1
  replace h1 := h1.le hM1
  have b0 := h0.bound
  have b1 := h1.bound
  refine WP_seq ?_
  refine WP_region ?_
  refine S_v E rfl (R_assign E rfl) rfl ?_
  clear E a; intro a E
  refine WL_nil ?_
  refine T_n ?_
  refine WP_seq ?_
  refine WP_seq ?_
  refine WP_region ?_
  refine S_v E rfl (R_move E rfl) rfl ?_
  clear E a; intro a E
  refine S_v E rfl (R_lenV E rfl T22 h0.len) rfl ?_
  clear E a; intro a E
  refine S_v E rfl (R_move E rfl) rfl ?_
  clear E a; intro a E
  refine S_v E rfl (R_lenV E rfl T22 h1.len) rfl ?_
  clear E a; intro a E
  refine S_v E rfl (R_neq E rfl rfl) rfl ?_
  clear E a; intro a E
  refine WL_nil ?_
  refine T_n ?_
  refine WP_cond E rfl (fun hc_1 => ?_) (fun hc_1 => ?_)
  · replace hc_1 := of_decide_eq_true hc_1
    refine WP_seq ?_
    refine WP_region ?_
    refine S_v E rfl (R_assign E rfl) rfl ?_
    clear E a; intro a E
    refine WL_nil ?_
    refine T_n ?_
    refine WP_ret ?_
    refine T_r ?_
    exact F_ret1 E Try.results23 rfl ⟨_, rfl, M1, (Hp.le.refl _), (bF (by ((try clear S); (try clear E); first | assumption | omega | rfl | (simp; done) | (simp_all; done) | (simp [List.take_add_one, *]; done) | grind [List.take_add_one]))), S⟩
  · replace hc_1 := of_decide_eq_false hc_1
    refine WP_skip ?_
    refine T_n ?_
    refine WP_seq ?_
    refine WP_seq ?_
    refine WP_region ?_
    refine S_v E rfl (R_move E rfl) rfl ?_
    clear E a; intro a E
    refine S_v E rfl (R_lenV E rfl T22 h0.len) rfl ?_
    clear E a; intro a E
    refine S_v E rfl (R_move E rfl) rfl ?_
    clear E a; intro a E
    refine WL_nil ?_
    refine T_n ?_
    refine WP_block ?_
    refine WP_loop (γ := Nat) (fun (k : Nat) a w => ∃ (M_2 : Hp), Hp.le M1 M_2 ∧ St w M_2 (H) ∧ Env a 26 [] [(0, v0), (1, v1), (12, v0), (13, .int .i64 (((l0).length : Nat) : Int)), (14, .int .i64 ((k : Nat) : Int))] ∧ (k ≤ (l0).length) ∧ (l0.length = l1.length) ∧ (∀ x ∈ l0.take k, l0.count x = l1.count x)) (fun k => ((l0).length) - k) 0 ⟨M1, Hp.le.refl _, S, E.keep ⟨rfl, rfl, rfl, rfl, rfl, trivial⟩, by ((try clear S); (try clear E); first | assumption | omega | rfl | (simp; done) | (simp_all; done) | (simp [List.take_add_one, *]; done) | grind [List.take_add_one]), by ((try clear S); (try clear E); first | assumption | omega | rfl | (simp; done) | (simp_all; done) | (simp [List.take_add_one, *]; done) | grind [List.take_add_one]), by ((try clear S); (try clear E); first | assumption | omega | rfl | (simp; done) | (simp_all; done) | (simp [List.take_add_one, *]; done) | grind [List.take_add_one])⟩ ?_
    try clear E
    try clear S
    try clear a
    try clear w
    rintro k a w ⟨M_2, hM_2, S, E, hL0_0, hL0_1, hL0_2⟩
    replace h0 := h0.le hM_2
    replace h1 := h1.le hM_2
    refine WP_seq ?_
    refine WP_region ?_
    refine S_v E rfl (R_lss E rfl rfl) rfl ?_
    clear E a; intro a E
    refine WL_nil ?_
    refine T_n ?_
    refine WP_seq ?_
    refine WP_cond E rfl (fun hc_3 => ?_) (fun hc_3 => ?_)
    · replace hc_3 := of_decide_eq_true hc_3
      refine WP_skip ?_
      refine T_n ?_
      refine WP_seq ?_
      refine WP_block ?_
      refine WP_seq ?_
      refine WP_region ?_
      obtain ⟨x_4, hx_4⟩ : ∃ x, (l0)[k]? = some x := ⟨_, List.getElem?_eq_getElem (by first | omega | (simp; done) | (simp; omega) | (simp_all; omega))⟩
      obtain ⟨p_5, hp_5, qp_5⟩ := h0.at hx_4
      refine S_v E rfl (R_idx E rfl rfl T22 hp_5 rfl) rfl ?_
      clear E a; intro a E
      refine S_v E rfl (R_loadM E rfl Try.isAgg3 S.imm qp_5) rfl ?_
      clear E a; intro a E
      refine S_v E rfl (R_assign E rfl) rfl ?_
      clear E a; intro a E
      refine WL_nil ?_
      refine T_n ?_
      refine WP_seq ?_
      refine WP_region ?_
      refine S_v E rfl (R_move E rfl) rfl ?_
      clear E a; intro a E
      refine S_v E rfl (R_move E rfl) rfl ?_
      clear E a; intro a E
      refine S_x (X_pu E S rfl rfl rfl (laws_count h0) (Hp.le.refl _) ?_)
      clear E a S; rintro a _ w M_6 hM_6 rfl S E
      replace h0 := h0.le hM_6
      replace h1 := h1.le hM_6
      refine S_v E rfl (R_move E rfl) rfl ?_
      clear E a; intro a E
      refine S_v E rfl (R_move E rfl) rfl ?_
      clear E a; intro a E
      refine S_x (X_pu E S rfl rfl rfl (laws_count h1) (Hp.le.refl _) ?_)
      clear E a S; rintro a _ w M_7 hM_7 rfl S E
      replace h0 := h0.le hM_7
      replace h1 := h1.le hM_7
      refine S_v E rfl (R_neq E rfl rfl) rfl ?_
      clear E a; intro a E
      refine WL_nil ?_
      refine T_n ?_
      refine WP_cond E rfl (fun hc_8 => ?_) (fun hc_8 => ?_)
      · replace hc_8 := of_decide_eq_true hc_8
        refine WP_seq ?_
        refine WP_region ?_
        refine S_v E rfl (R_assign E rfl) rfl ?_
        clear E a; intro a E
        refine WL_nil ?_
        refine T_n ?_
        refine WP_ret ?_
        refine B_r ?_
        refine T_r ?_
        refine T_r ?_
        refine B_r ?_
        refine T_r ?_
        exact F_ret1 E Try.results23 rfl ⟨_, rfl, M_7, (hM_2.trans (hM_6.trans hM_7)), (bF (by ((try clear S); (try clear E); first | assumption | omega | rfl | (simp; done) | (simp_all; done) | (simp [List.take_add_one, *]; done) | grind [List.take_add_one]))), S⟩
      · replace hc_8 := of_decide_eq_false hc_8
        refine WP_skip ?_
        refine B_n ?_
        refine T_n ?_
        refine WP_region ?_
        refine S_v E rfl (R_addx (m := ((k + 1 : Nat) : Int)) E rfl rfl (by omega) (by omega)) rfl ?_
        clear E a; intro a E
        refine S_v E rfl (R_move E rfl) rfl ?_
        clear E a; intro a E
        refine WL_nil ?_
        refine T_n ?_
        exact ⟨k + 1, ⟨M_7, (hM_2.trans (hM_6.trans hM_7)), S, E.keep ⟨rfl, rfl, rfl, rfl, rfl, trivial⟩, by ((try clear S); (try clear E); first | assumption | omega | rfl | (simp; done) | (simp_all; done) | (simp [List.take_add_one, *]; done) | grind [List.take_add_one]), by ((try clear S); (try clear E); first | assumption | omega | rfl | (simp; done) | (simp_all; done) | (simp [List.take_add_one, *]; done) | grind [List.take_add_one]), by ((try clear S); (try clear E); first | assumption | omega | rfl | (simp; done) | (simp_all; done) | (simp [List.take_add_one, *]; done) | grind [List.take_add_one])⟩, by omega⟩
    · replace hc_3 := of_decide_eq_false hc_3
      refine WP_exit ?_
      refine T_x ?_
      refine T_x ?_
      refine B_x ?_
      refine T_n ?_
      refine WP_seq ?_
      refine WP_region ?_
      refine S_v E rfl (R_assign E rfl) rfl ?_
      clear E a; intro a E
      refine WL_nil ?_
      refine T_n ?_
      refine WP_ret ?_
      exact F_ret1 E Try.results23 rfl ⟨_, rfl, M_2, hM_2, (bT (by ((try clear S); (try clear E); first | assumption | omega | rfl | (simp; done) | (simp_all; done) | (simp [List.take_add_one, *]; done) | grind [List.take_add_one]))), S⟩

set_option maxRecDepth 100000 in
set_option maxHeartbeats 4000000 in
theorem it_FindDuplicatesBy1 {M : Hp} {v0 : Value} {l0 : List Int} (h0 : SeqV Try.prog v0 M (RInt) l0) {v1 : Value} {f1 : Int → Int} (h1 : PF1I Try.prog v1 M f1) {bx1 : Nat} (hbx1 : M bx1 = some (.cells #[v0] 98)) {bx2 : Nat} (hbx2 : M bx2 = some (.cells #[v1] 94)) :
    SeqV Try.prog (.func (.func 161) #[] #[.pointer (some ⟨bx1, 0, none⟩), .pointer (some ⟨bx2, 0, none⟩)]) M (RInt) ((tdS f1 l0).2) := by
  refine SeqV_enter Try.func161 rfl Try.ntmps161 rfl Try.call161 ?_
  intro y J X a w M1 c H hJM hM1 hY hJ S E
  replace h0 := h0.le hM1
  replace h1 := h1.le hM1
  replace hbx1 := hM1.2 _ _ hbx1
  replace hbx2 := hM1.2 _ _ hbx2
  refine WP_seq ?_
  refine WP_region ?_
  refine S_x (X_box (cs := #[y]) E S rfl rfl (cells_one hY.1) ?_)
  clear E a S; rintro a w b_1 E S
  obtain ⟨M_2, hM_2, hb_1, S⟩ := S.freezeB
  replace h0 := h0.le hM_2
  replace h1 := h1.le hM_2
  replace hbx1 := hM_2.2 _ _ hbx1
  replace hbx2 := hM_2.2 _ _ hbx2
  replace hJ := hJM _ _ _ _ hM_2 hJ
  refine WL_nil ?_
  refine T_n ?_
  refine WP_seq ?_
  refine WP_region ?_
  refine S_x (X_makeMap E S rfl ?_)
  clear E a S; rintro a w b_3 E S
  replace S : St w M_2 (OwnE (fun t : Int × Bool => Value.agg #[.int .i64 t.1, .bool t.2]) b_3 ([] : List (Int × (Int × Bool))) :: _) := S
  refine S_x (X_alloc (cs := #[.map none]) E S rfl Try.zeroValue147 rfl ?_)
  clear E a S; rintro a w b_4 E S
  refine S_x0 (X_store E S rfl rfl (Try.sizeOf147 _) rfl ?_)
  clear E a S; rintro a w E S
  refine WL_nil ?_
  refine T_n ?_
  refine WP_seq ?_
  refine WP_region ?_
  refine S_v E rfl (R_loadM E rfl Try.isAgg98 S.imm (cellM_box hbx1)) rfl ?_
  clear E a; intro a E
  refine WL_nil ?_
  refine T_n ?_
  refine WP_block ?_
  replace S := S.front3
  replace S := S.front2
  replace S := S.front2
  replace E := E.keep (l' := [(2, .pointer (some ⟨bx2, 0, none⟩)), (3, .pointer (some ⟨b_1, 0, none⟩)), (4, .pointer (some ⟨b_4, 0, none⟩)), (10, v0)]) ⟨rfl, rfl, rfl, rfl, trivial⟩
  replace S := S.front2
  replace S := S.front2
  replace S := S.reM (L' := (encE (fun t : Int × Bool => Value.agg #[.int .i64 t.1, .bool t.2]) ((tdS f1 (([] : List Int))).1))) (congrArg (encE (fun t : Int × Bool => Value.agg #[.int .i64 t.1, .bool t.2])) (show ([] : List (Int × (Int × Bool))) = (tdS f1 (([] : List Int))).1 by first | (simp [tdS]; done) | exact tda_two (by assumption) (by assumption) | exact tda_new (by assumption) | exact tda_more (by assumption) (by assumption)))
  replace S := S.front2
  have S0 := S; clear S; have S := St.pack [blk b_4 (.cells #[.map (some b_3)] 147), OwnE (fun t : Int × Bool => Value.agg #[.int .i64 t.1, .bool t.2]) b_3 ((tdS f1 (([] : List Int))).1), c] S0; clear S0
  refine WP_range (RV := RInt) (l := l0) (fun pre M c => ∃ (c0 : HProp), c = bigs [blk b_4 (.cells #[.map (some b_3)] 147), OwnE (fun t : Int × Bool => Value.agg #[.int .i64 t.1, .bool t.2]) b_3 ((tdS f1 (pre)).1), c0] ∧ (J ((tdS f1 (pre)).2) M c0)) (fun cd pre M c => cd = .ret ∧ ∃ z, z <+: ((tdS f1 l0).2) ∧ X z M c) E S rfl h0 (Hp.le.refl _) (fun _ _ _ h => by rw [h]; rfl) (by decide) (by rintro _ M M' c hM ⟨c0, rfl, f0⟩; exact ⟨_, rfl, hJM _ _ _ _ hM f0⟩) ⟨_, rfl, J_eq hJ (by (simp [tdS]))⟩ ?_ ?_ ?_
  clear E S
  · rintro lb_6 rec_7 pre x _ a w M_5 _ G hM_5 hp_8 rfl ⟨c0, rfl, f0⟩ E S
    replace E : Env a 39 [] [(11, .int .i64 x), (2, .pointer (some ⟨bx2, 0, none⟩)), (3, .pointer (some ⟨b_1, 0, none⟩)), (4, .pointer (some ⟨b_4, 0, none⟩)), (10, v0)] := E
    replace S := S.swap.unpack3
    have hq0 := prefix_lt hp_8
    replace h0 := h0.le hM_5
    replace h1 := h1.le hM_5
    replace hbx1 := hM_5.2 _ _ hbx1
    replace hbx2 := hM_5.2 _ _ hbx2
    replace hb_1 := hM_5.2 _ _ hb_1
    refine WP_region ?_
    refine S_v E rfl (R_assign E rfl) rfl ?_
    clear E a; intro a E
    refine WL_nil ?_
    refine T_n ?_
    replace S := S.front3
    refine rb S ?_
    clear S; intro w S
    refine WP_block ?_
    refine WP_seq ?_
    refine WP_region ?_
    refine S_v E rfl (R_loadM E rfl Try.isAgg94 S.imm (cellM_box hbx2)) rfl ?_
    clear E a; intro a E
    refine S_v E rfl (R_move E rfl) rfl ?_
    clear E a; intro a E
    refine S_x (X_pu E S rfl rfl rfl (h1.2 x) (Hp.le.refl _) ?_)
    clear E a S; rintro a _ w M_10 hM_10 rfl S E
    replace h0 := h0.le hM_10
    replace h1 := h1.le hM_10
    replace hbx1 := hM_10.2 _ _ hbx1
    replace hbx2 := hM_10.2 _ _ hbx2
    replace hb_1 := hM_10.2 _ _ hb_1
    replace f0 := hJM _ _ _ _ hM_10 f0
    refine S_v E rfl (R_assign E rfl) rfl ?_
    clear E a; intro a E
    refine WL_nil ?_
    refine T_n ?_
    refine WP_seq ?_
    refine WP_region ?_
    refine S_v E rfl (R_load E rfl (Try.isAgg147 _) (cell_blk (S.mem (.tail _ (.head _))))) rfl ?_
    clear E a; intro a E
    refine S_v E rfl (R_move E rfl) rfl ?_
    clear E a; intro a E
    replace S := S.front2
    refine S_x (X_lookupE (vf := (fun t : Int × Bool => Value.agg #[.int .i64 t.1, .bool t.2])) (zb := ((0, false) : Int × Bool)) E S rfl MT147 rfl rfl ?_)
    clear E a S; rintro a w E S
    replace S : St w M_10 (OwnE (fun t : Int × Bool => Value.agg #[.int .i64 t.1, .bool t.2]) b_3 ((tdS f1 (pre)).1) :: _) := S
    refine S_v E rfl (R_move E rfl) rfl ?_
    clear E a; intro a E
    refine S_v E rfl (R_extract E rfl rfl) rfl ?_
    clear E a; intro a E
    refine S_v E rfl (R_extract E rfl rfl) rfl ?_
    clear E a; intro a E
    refine S_x (X_alloc (cs := #[.int .i64 0, .bool false]) E S rfl Try.zeroValue149 rfl ?_)
    clear E a S; rintro a w b_11 E S
    refine S_x0 (X_storeG (us := [.int .i64 ((getK ((0, false) : Int × Bool) ((tdS f1 (pre)).1) (f1 x)).1), .bool ((getK ((0, false) : Int × Bool) ((tdS f1 (pre)).1) (f1 x)).2)]) E S rfl rfl (Try.sizeOf149 _) rfl (by intro u hu; simp only [List.mem_cons, List.not_mem_nil, or_false] at hu; rcases hu with rfl | rfl <;> first | exact rfl | exact rfl) ?_)
    clear E a S; rintro a w E S
    replace S : St w M_10 (blk b_11 (.cells #[.int .i64 ((getK ((0, false) : Int × Bool) ((tdS f1 (pre)).1) (f1 x)).1), .bool ((getK ((0, false) : Int × Bool) ((tdS f1 (pre)).1) (f1 x)).2)] 149) :: _) := S
    have S0 := S; clear S
    obtain ⟨M_12, hM_12, hb_13, S⟩ := S0.freezeB
    clear S0
    replace h0 := h0.le hM_12
    replace h1 := h1.le hM_12
    replace hbx1 := hM_12.2 _ _ hbx1
    replace hbx2 := hM_12.2 _ _ hbx2
    replace hb_1 := hM_12.2 _ _ hb_1
    replace f0 := hJM _ _ _ _ hM_12 f0
    refine S_v E rfl (R_assign E rfl) rfl ?_
    clear E a; intro a E
    refine WL_nil ?_
    refine T_n ?_
    refine WP_seq ?_
    refine WP_region ?_
    refine S_v E rfl (R_move E rfl) rfl ?_
    clear E a; intro a E
    refine S_v E rfl (R_not E rfl) rfl ?_
    clear E a; intro a E
    refine WL_nil ?_
    refine T_n ?_
    refine WP_cond E rfl (fun hc_14 => ?_) (fun hc_14 => ?_)
    · refine WP_region ?_
      refine S_v E rfl (R_load E rfl (Try.isAgg147 _) (cell_blk (S.mem (.tail _ (.tail _ (.head _)))))) rfl ?_
      clear E a; intro a E
      refine S_v E rfl (R_move E rfl) rfl ?_
      clear E a; intro a E
      refine S_v E rfl (R_move E rfl) rfl ?_
      clear E a; intro a E
      refine S_v E rfl (R_build (u := .agg #[.int .i64 x, .bool false]) (vs := [.int .i64 x]) E rfl (fun w => FB149_0_i x w)) rfl ?_
      clear E a; intro a E
      refine S_x0 (X_updateE (vf := (fun t : Int × Bool => Value.agg #[.int .i64 t.1, .bool t.2])) (u := (x, false)) E S MT147 rfl rfl rfl ?_)
      clear E a S; rintro a w E S
      refine WL_nil ?_
      refine B_n ?_
      replace S := S.front3
      replace S := S.front1
      replace S := S.front3
      replace S := S.front2
      replace S := S.front2
      replace S := S.reM (L' := (encE (fun t : Int × Bool => Value.agg #[.int .i64 t.1, .bool t.2]) ((tdS f1 ((pre ++ [x]))).1))) (congrArg (encE (fun t : Int × Bool => Value.agg #[.int .i64 t.1, .bool t.2])) (show putK ((tdS f1 (pre)).1) (f1 x) (x, false) = (tdS f1 ((pre ++ [x]))).1 by first | (simp [tdS]; done) | exact tda_two (by assumption) (by assumption) | exact tda_new (by assumption) | exact tda_more (by assumption) (by assumption)))
      replace S := S.front2
      have S0 := S; clear S; have S := (St.pack [blk b_4 (.cells #[.map (some b_3)] 147), OwnE (fun t : Int × Bool => Value.agg #[.int .i64 t.1, .bool t.2]) b_3 ((tdS f1 ((pre ++ [x]))).1), c0] S0).swap; clear S0
      exact ⟨M_12, _, (hM_10.trans hM_12), ⟨_, rfl, J_eq f0 (by (first | exact tdb_two (by assumption) (by assumption) | exact tdb_new (by assumption) | exact tdb_more (by assumption) (by assumption)))⟩, S⟩
    · refine WP_seq ?_
      refine WP_region ?_
      refine S_v E rfl (R_fieldAddr E rfl (FA149_1 _)) rfl ?_
      clear E a; intro a E
      refine S_v E rfl (R_loadM E rfl Try.isAgg4 S.imm (cellM_boxo hb_13 rfl)) rfl ?_
      clear E a; intro a E
      refine S_v E rfl (R_not E rfl) rfl ?_
      clear E a; intro a E
      refine WL_nil ?_
      refine T_n ?_
      refine WP_cond E rfl (fun hc_15 => ?_) (fun hc_15 => ?_)
      · refine WP_seq ?_
        refine WP_seq ?_
        refine WP_region ?_
        refine S_v E rfl (R_loadM E rfl Try.isAgg144 S.imm (cellM_box hb_1)) rfl ?_
        clear E a; intro a E
        refine S_v E rfl (R_fieldAddr E rfl (FA149_0 _)) rfl ?_
        clear E a; intro a E
        refine S_v E rfl (R_loadM E rfl Try.isAgg3 S.imm (cellM_boxo hb_13 rfl)) rfl ?_
        clear E a; intro a E
        replace S := S.front3
        refine S_x (X_yield (x := (getK ((0, false) : Int × Bool) ((tdS f1 (pre)).1) (f1 x)).1) E S rfl rfl rfl hY (hM_2.trans (hM_5.trans (hM_10.trans hM_12))) (by exact tdp (by assumption) (by assumption) (by assumption)) rfl f0 ?_)
        clear E a S; rintro a w M_16 c_17 go_18 hM_16 f0 S E
        replace h0 := h0.le hM_16
        replace h1 := h1.le hM_16
        replace hbx1 := hM_16.2 _ _ hbx1
        replace hbx2 := hM_16.2 _ _ hbx2
        replace hb_1 := hM_16.2 _ _ hb_1
        replace hb_13 := hM_16.2 _ _ hb_13
        cases go_18
        · replace f0 : X ((tdS f1 (pre)).2 ++ [(getK ((0, false) : Int × Bool) ((tdS f1 (pre)).1) (f1 x)).1]) M_16 c_17 := f0
          refine S_v E rfl (R_not E rfl) rfl ?_
          clear E a; intro a E
          refine WL_nil ?_
          refine T_n ?_
          refine WP_condT E rfl rfl ?_
          refine WP_ret ?_
          refine T_r ?_
          refine B_r ?_
          replace S := S.front1
          replace S := S.drop
          replace S := S.front2
          replace S := S.drop
          replace S := S.front1
          exact ⟨M_16, _, (hM_10.trans (hM_12.trans hM_16)), ⟨rfl, _, (by first | assumption | (exact tdp (by assumption) (by assumption) (by assumption)) | ((first | (simp; done) | exact List.prefix_refl _ | (rw [pre_take (by assumption)]; exact List.take_prefix _ _) | exact pre_take_lt (by assumption)))), f0⟩, S⟩
        · replace f0 : J ((tdS f1 (pre)).2 ++ [(getK ((0, false) : Int × Bool) ((tdS f1 (pre)).1) (f1 x)).1]) M_16 c_17 := f0
          refine S_v E rfl (R_not E rfl) rfl ?_
          clear E a; intro a E
          refine WL_nil ?_
          refine T_n ?_
          refine WP_condF E rfl rfl ?_
          refine WP_skip ?_
          refine T_n ?_
          refine WP_region ?_
          refine S_v E rfl (R_load E rfl (Try.isAgg147 _) (cell_blk (S.mem (.tail _ (.tail _ (.tail _ (.head _))))))) rfl ?_
          clear E a; intro a E
          refine S_v E rfl (R_move E rfl) rfl ?_
          clear E a; intro a E
          refine S_v E rfl (R_move E rfl) rfl ?_
          clear E a; intro a E
          refine S_v E rfl (R_build (u := .agg #[.int .i64 x, .bool true]) (vs := [.int .i64 x, .bool true]) E rfl (fun w => FB149_0_1_ib x true w)) rfl ?_
          clear E a; intro a E
          replace S := S.front1
          refine S_x0 (X_updateE (vf := (fun t : Int × Bool => Value.agg #[.int .i64 t.1, .bool t.2])) (u := (x, true)) E S MT147 rfl rfl rfl ?_)
          clear E a S; rintro a w E S
          refine WL_nil ?_
          refine B_n ?_
          replace S := S.front1
          replace S := S.front1
          replace S := S.front3
          replace S := S.front2
          replace S := S.front2
          replace S := S.reM (L' := (encE (fun t : Int × Bool => Value.agg #[.int .i64 t.1, .bool t.2]) ((tdS f1 ((pre ++ [x]))).1))) (congrArg (encE (fun t : Int × Bool => Value.agg #[.int .i64 t.1, .bool t.2])) (show putK ((tdS f1 (pre)).1) (f1 x) (x, true) = (tdS f1 ((pre ++ [x]))).1 by first | (simp [tdS]; done) | exact tda_two (by assumption) (by assumption) | exact tda_new (by assumption) | exact tda_more (by assumption) (by assumption)))
          replace S := S.front2
          have S0 := S; clear S; have S := (St.pack [blk b_4 (.cells #[.map (some b_3)] 147), OwnE (fun t : Int × Bool => Value.agg #[.int .i64 t.1, .bool t.2]) b_3 ((tdS f1 ((pre ++ [x]))).1), c_17] S0).swap; clear S0
          exact ⟨M_16, _, (hM_10.trans (hM_12.trans hM_16)), ⟨_, rfl, J_eq f0 (by (first | exact tdb_two (by assumption) (by assumption) | exact tdb_new (by assumption) | exact tdb_more (by assumption) (by assumption)))⟩, S⟩
      · refine WP_skip ?_
        refine B_n ?_
        replace S := S.front3
        replace S := S.front1
        replace S := S.front3
        replace S := S.front2
        replace S := S.front2
        replace S := S.reM (L' := (encE (fun t : Int × Bool => Value.agg #[.int .i64 t.1, .bool t.2]) ((tdS f1 ((pre ++ [x]))).1))) (congrArg (encE (fun t : Int × Bool => Value.agg #[.int .i64 t.1, .bool t.2])) (show (tdS f1 (pre)).1 = (tdS f1 ((pre ++ [x]))).1 by first | (simp [tdS]; done) | exact tda_two (by assumption) (by assumption) | exact tda_new (by assumption) | exact tda_more (by assumption) (by assumption)))
        replace S := S.front2
        have S0 := S; clear S; have S := (St.pack [blk b_4 (.cells #[.map (some b_3)] 147), OwnE (fun t : Int × Bool => Value.agg #[.int .i64 t.1, .bool t.2]) b_3 ((tdS f1 ((pre ++ [x]))).1), c0] S0).swap; clear S0
        exact ⟨M_12, _, (hM_10.trans hM_12), ⟨_, rfl, J_eq f0 (by (first | exact tdb_two (by assumption) (by assumption) | exact tdb_new (by assumption) | exact tdb_more (by assumption) (by assumption)))⟩, S⟩
  · rintro a w M_19 _ D_20 hM_19 ⟨c0, rfl, f0⟩ S E
    replace S := S.unpack3
    replace h0 := h0.le hM_19
    replace h1 := h1.le hM_19
    replace hbx1 := hM_19.2 _ _ hbx1
    replace hbx2 := hM_19.2 _ _ hbx2
    replace hb_1 := hM_19.2 _ _ hb_1
    refine B_n ?_
    refine F_nrm ?_
    replace S := S.drop
    replace S := S.drop
    replace S := S.front1
    have hpre : (tdS f1 (l0)).2 = (tdS f1 l0).2 := by ((try clear S); (try clear E); first | rfl | (simp; done) | (simp_all; done) | grind [List.take_add_one])
    rw [hpre] at f0
    exact F_retM0 E S Try.results161 (fun w S => ⟨_, rfl, M_19, _, (hM_2.trans hM_19), .inl f0, S⟩)
  · rintro a w M_21 c_ D_22 p_23 _ hM_21 hp_24 ⟨rfl, z_, hz_, f0⟩ S E
    replace h0 := h0.le hM_21
    replace h1 := h1.le hM_21
    replace hbx1 := hM_21.2 _ _ hbx1
    replace hbx2 := hM_21.2 _ _ hbx2
    replace hb_1 := hM_21.2 _ _ hb_1
    refine WP_ret ?_
    refine B_r ?_
    replace S := S.front1
    exact F_retM0 E S Try.results161 (fun w S => ⟨_, rfl, M_21, _, (hM_2.trans hM_21), .inr ⟨z_, (by first | assumption | ((first | (simp; done) | exact List.prefix_refl _ | (rw [pre_take (by assumption)]; exact List.take_prefix _ _) | exact pre_take_lt (by assumption)))), f0⟩, S⟩)

set_option maxRecDepth 100000 in
set_option maxHeartbeats 4000000 in
theorem it_FindDuplicatesBy {M : Hp} {v0 : Value} {l0 : List Int} (h0 : SeqV Try.prog v0 M (RInt) l0) {v1 : Value} {f1 : Int → Int} (h1 : PF1I Try.prog v1 M f1) :
    Pu Try.prog (.func (.func 98) #[] #[]) M [v0, v1] (fun r M' => SeqV Try.prog r M' RInt ((tdS f1 l0).2)) := by
  refine Pu_enter Try.func98 rfl Try.ntmps98 rfl Try.call98 ?_
  intro a w M1 H hM1 S E
  replace h0 := h0.le hM1
  replace h1 := h1.le hM1
  refine WP_seq ?_
  refine WP_region ?_
  refine S_x (X_box (cs := #[v0]) E S rfl rfl (cells_one h0.1) ?_)
  clear E a S; rintro a w b_1 E S
  obtain ⟨M_2, hM_2, hb_1, S⟩ := S.freezeB
  replace h0 := h0.le hM_2
  replace h1 := h1.le hM_2
  refine S_x (X_box (cs := #[v1]) E S rfl rfl (cells_one h1.1) ?_)
  clear E a S; rintro a w b_3 E S
  obtain ⟨M_4, hM_4, hb_3, S⟩ := S.freezeB
  replace h0 := h0.le hM_4
  replace h1 := h1.le hM_4
  replace hb_1 := hM_4.2 _ _ hb_1
  refine S_v E rfl (R_assign E rfl) rfl ?_
  clear E a; intro a E
  refine WL_nil ?_
  refine T_n ?_
  refine WP_seq ?_
  refine WP_region ?_
  refine S_v E rfl (R_makeFunc E rfl rfl) rfl ?_
  clear E a; intro a E
  refine S_v E rfl (R_assign E rfl) rfl ?_
  clear E a; intro a E
  refine WL_nil ?_
  refine T_n ?_
  refine WP_ret ?_
  exact F_ret1 E Try.results98 rfl ⟨_, rfl, M_4, (hM_2.trans hM_4), (SeqV_eq (it_FindDuplicatesBy1 (f1 := f1) h0 h1 hb_1 hb_3) (by ((try clear S); (try clear E); first | rfl | (simp; done) | (simp_all; done) | grind [List.take_add_one]))), S⟩

set_option maxRecDepth 100000 in
set_option maxHeartbeats 4000000 in
theorem impl_FindDuplicatesBySeq {M : Hp} {v0 : Value} {l0 : List Int} (h0 : RdI M v0 l0){kk1 kn1 : Int} (gk1 : -9223372036854775808 ≤ kn1 ∧ kn1 ≤ 9223372036854775807) (hb : l0.length ≤ 1000000000000) :
    Pu Try.prog (.func (.func 25) #[] #[]) M [v0, .agg #[.int .i64 kk1, .int .i64 kn1]] (fun r M' => RdI M' r ((tdS (fun x => keyAt kk1 kn1 x 0) l0).2)) := by
  refine Pu_enter Try.func25 rfl Try.ntmps25 rfl Try.call25 ?_
  intro a w M1 H hM1 S E
  replace h0 := h0.le hM1
  have b0 := h0.bound
  have htl := td_len (fun x => keyAt kk1 kn1 x 0) l0
  refine WP_seq ?_
  refine WP_region ?_
  refine S_x (X_box (cs := #[.int .i64 kk1, .int .i64 kn1]) E S rfl rfl rfl ?_)
  clear E a S; rintro a w b_1 E S
  obtain ⟨M_2, hM_2, hb_1, S⟩ := S.freezeB
  replace h0 := h0.le hM_2
  refine S_v E rfl (R_assign E rfl) rfl ?_
  clear E a; intro a E
  refine WL_nil ?_
  refine T_n ?_
  refine WP_seq ?_
  have hb_1k2 := hb_1
  replace S := S.mono_heap (w' := World.drew _) rfl
  refine WP_drawn (C := fun x w => agree M_2 w) (bf := (fun i => [])) [0, 2, 3, 6] [0, 2, 3, 1, 4, 5, 6] Try.mixed (by kernel_rfl) (fun x hq => S.imm) ?_
  refine D_v E rfl rfl rfl (fun w hC => (R_move E rfl)) ?_
  clear E a; intro a E
  refine D_v E rfl rfl rfl (fun w hC => (R_loadGM E rfl (Try.isAgg24 _) (Try.sizeOf24 _) hC hb_1k2)) ?_
  clear E a; intro a E
  refine D_v E rfl rfl rfl (fun w hC => (R_makeFunc E rfl rfl)) ?_
  clear E a; intro a E
  refine D_x rfl rfl rfl (X_pu E S rfl rfl rfl (slices_Values h0) (Hp.le.refl _) ?_)
  clear E a S; rintro a v_4 w M_3 hM_3 hv_4 S E
  replace h0 := h0.le hM_3
  replace hb_1 := hM_3.2 _ _ hb_1
  refine ⟨fun x hq hb => (agree_le hM_3 S.imm), ?_⟩
  refine D_x rfl rfl rfl (X_pu E S rfl rfl rfl (it_FindDuplicatesBy hv_4 ⟨rfl, fun zx1 => Key_of (x1 := zx1) (by omega)⟩) (Hp.le.refl _) ?_)
  clear E a S; rintro a v_6 w M_5 hM_5 hv_6 S E
  replace h0 := h0.le hM_5
  replace hb_1 := hM_5.2 _ _ hb_1
  replace hv_4 := hv_4.le hM_5
  refine ⟨fun x hq hb => (agree_le (hM_3.trans hM_5) S.imm), ?_⟩
  refine D_x rfl rfl rfl (X_pu E S rfl rfl rfl (slices_Collect hv_6 (by (first | omega | (simp; omega) | (simp; done) | (simp_all; omega) | grind))) (Hp.le.refl _) ?_)
  clear E a S; rintro a v_8 w M_7 hM_7 hv_8 S E
  replace h0 := h0.le hM_7
  replace hb_1 := hM_7.2 _ _ hb_1
  replace hv_4 := hv_4.le hM_7
  replace hv_6 := hv_6.le hM_7
  refine ⟨fun x hq hb => (agree_le (hM_3.trans (hM_5.trans hM_7)) S.imm), ?_⟩
  refine D_v E rfl rfl rfl (fun w hC => (R_assign E rfl)) ?_
  clear E a; intro a E
  refine D_end (NoP_n ?_)
  refine T_n ?_
  refine WP_ret ?_
  exact F_ret1 E Try.results25 rfl ⟨_, rfl, M_7, (hM_2.trans (hM_3.trans (hM_5.trans hM_7))), hv_8, S⟩

set_option maxRecDepth 100000 in
set_option maxHeartbeats 4000000 in
theorem it_CountValuesBy {M : Hp} {v0 : Value} {l0 : List Int} (h0 : SeqV Try.prog v0 M (RInt) l0){v1 : Value} {f1 : Int → Int} (h1 : PF1I Try.prog v1 M f1) (hb : l0.length ≤ 1000000000000) :
    Pu Try.prog (.func (.func 100) #[] #[]) M [v0, v1] (fun r M' => RdM M' r (encE (Value.int .i64) (upM f1 [] l0))) := by
  refine Pu_enter Try.func100 rfl Try.ntmps100 rfl Try.call100 ?_
  intro a w M1 H hM1 S E
  replace h0 := h0.le hM1
  replace h1 := h1.le hM1
  replace S : St w M1 (mks [] :: _) := S.empty
  replace E : Env a 17 (([] : List Nat).map mk) _ := E
  refine WP_seq ?_
  refine WP_region ?_
  refine S_x (X_box (cs := #[v1]) E S rfl rfl (cells_one h1.1) ?_)
  clear E a S; rintro a w b_1 E S
  obtain ⟨M_2, hM_2, hb_1, S⟩ := S.freezeB
  replace h0 := h0.le hM_2
  replace h1 := h1.le hM_2
  refine S_v E rfl (R_assign E rfl) rfl ?_
  clear E a; intro a E
  refine WL_nil ?_
  refine T_n ?_
  refine WP_seq ?_
  refine WP_region ?_
  refine S_x (X_makeMap E S rfl ?_)
  clear E a S; rintro a w b_3 E S
  replace S : St w M_2 (OwnE (Value.int .i64) b_3 ([] : List (Int × Int)) :: _) := S
  refine S_x (X_alloc (cs := #[.map none]) E S rfl Try.zeroValue103 rfl ?_)
  clear E a S; rintro a w b_4 E S
  refine S_x0 (X_store E S rfl rfl (Try.sizeOf103 _) rfl ?_)
  clear E a S; rintro a w E S
  refine WL_nil ?_
  refine T_n ?_
  refine WP_seq ?_
  refine WP_seq ?_
  refine WP_region ?_
  refine S_v E rfl (R_move E rfl) rfl ?_
  clear E a; intro a E
  refine WL_nil ?_
  refine T_n ?_
  refine WP_block ?_
  replace S := S.front1
  replace S := S.front1
  replace E := E.keep (l' := [(3, .pointer (some ⟨b_1, 0, none⟩)), (5, .pointer (some ⟨b_4, 0, none⟩)), (8, v0)]) ⟨rfl, rfl, rfl, trivial⟩
  replace S := S.front1
  replace S := S.reM (L' := (encE (Value.int .i64) (upM f1 [] (([] : List Int))))) (congrArg (encE (Value.int .i64)) (show ([] : List (Int × Int)) = upM f1 [] (([] : List Int)) by first | (simp [upM]; done) | (rw [upM_app])))
  replace S := S.front1
  have S0 := S; clear S; have S := St.pack [blk b_4 (.cells #[.map (some b_3)] 103), OwnE (Value.int .i64) b_3 (upM f1 [] (([] : List Int)))] S0; clear S0
  refine WP_range (RV := RInt) (l := l0) (fun pre M c => c = bigs [blk b_4 (.cells #[.map (some b_3)] 103), OwnE (Value.int .i64) b_3 (upM f1 [] (pre))]) (fun _ _ _ _ => False) E S rfl h0 (Hp.le.refl _) (fun _ _ _ h => by rw [h]; rfl) (by decide) (by rintro _ M M' c hM rfl; exact rfl) rfl ?_ ?_ ?_
  clear E S
  · rintro lb_6 rec_7 pre x _ a w M_5 _ G hM_5 hp_8 rfl rfl E S
    replace E : Env a 17 [] [(9, .int .i64 x), (3, .pointer (some ⟨b_1, 0, none⟩)), (5, .pointer (some ⟨b_4, 0, none⟩)), (8, v0)] := E
    replace S := S.swap.unpack2
    have hq0 := prefix_lt hp_8
    replace h0 := h0.le hM_5
    replace h1 := h1.le hM_5
    replace hb_1 := hM_5.2 _ _ hb_1
    have hpl := hp_8.length_le; simp at hpl; have hbd := upM_bnd f1 (l := pre) (by omega)
    refine WP_region ?_
    refine S_v E rfl (R_assign E rfl) rfl ?_
    clear E a; intro a E
    refine WL_nil ?_
    refine T_n ?_
    replace S := S.front2
    refine rb S ?_
    clear S; intro w S
    refine WP_block ?_
    have hb_1k9 := hb_1
    replace S := S.mono_heap (w' := World.drew _) rfl
    refine WP_drawn (C := fun x w => agree M_5 w ∧ (x = 0 → w.heap[b_4]? = some (.cells #[.map (some b_3)] 103))) (bf := (fun i => bif Nat.beq i 3 then [] else bif Nat.beq i 4 then [0] else bif Nat.beq i 6 then [0] else [])) [0, 1, 2, 5] [0, 1, 2, 3, 4, 5, 6] Try.mixed (by kernel_rfl) (fun x hq => ⟨S.imm, fun _ => (S.mem (.tail _ (.head _)))⟩) ?_
    refine D_v E rfl rfl rfl (fun w hC => (R_load E rfl (Try.isAgg103 _) (cell_blk (hC.2 rfl)))) ?_
    clear E a; intro a E
    refine D_v E rfl rfl rfl (fun w hC => (R_loadM E rfl Try.isAgg94 hC.1 (cellM_box hb_1k9))) ?_
    clear E a; intro a E
    refine D_v E rfl rfl rfl (fun w hC => (R_move E rfl)) ?_
    clear E a; intro a E
    refine D_x rfl rfl rfl (X_pu E S rfl rfl rfl (h1.2 x) (Hp.le.refl _) ?_)
    clear E a S; rintro a _ w M_10 hM_10 rfl S E
    replace h0 := h0.le hM_10
    replace h1 := h1.le hM_10
    replace hb_1 := hM_10.2 _ _ hb_1
    refine ⟨fun x hq hb => ⟨(agree_le hM_10 S.imm), (fun _ => (S.mem (.tail _ (.head _))))⟩, ?_⟩
    replace S := S.front2
    refine D_x rfl rfl rfl (X_lookupE1 (vf := (Value.int .i64)) (zb := (0 : Int)) E S rfl MT103 rfl rfl ?_)
    clear E a S; rintro a w E S
    replace S : St w M_10 (OwnE (Value.int .i64) b_3 (upM f1 [] (pre)) :: _) := S
    refine ⟨fun x hq hb => ⟨(agree_le hM_10 S.imm), (fun e => by subst e; exact absurd hb (by decide))⟩, ?_⟩
    refine D_v E rfl rfl rfl (fun w hC => (R_addx (m := (getK (0 : Int) (upM f1 [] (pre)) (f1 x)) + 1) E rfl rfl (by first | rfl | exact add1_in (hbd _)) (by first | rfl | exact add1_in (hbd _)))) ?_
    clear E a; intro a E
    refine D_x rfl rfl rfl (X_updateE (vf := (Value.int .i64)) (u := (getK (0 : Int) (upM f1 [] (pre)) (f1 x)) + 1) E S MT103 rfl rfl rfl ?_)
    clear E a S; rintro a w E S
    refine ⟨fun x hq hb => ⟨(agree_le hM_10 S.imm), (fun e => by subst e; exact absurd hb (by decide))⟩, ?_⟩
    refine D_end (NoP_n ?_)
    refine B_n ?_
    replace S := S.front2
    replace S := S.front1
    replace S := S.reM (L' := (encE (Value.int .i64) (upM f1 [] ((pre ++ [x]))))) (congrArg (encE (Value.int .i64)) (show putK (upM f1 [] (pre)) (f1 x) ((getK (0 : Int) (upM f1 [] (pre)) (f1 x)) + 1) = upM f1 [] ((pre ++ [x])) by first | (simp [upM]; done) | (rw [upM_app])))
    replace S := S.front1
    have S0 := S; clear S; have S := (St.pack [blk b_4 (.cells #[.map (some b_3)] 103), OwnE (Value.int .i64) b_3 (upM f1 [] ((pre ++ [x])))] S0).swap; clear S0
    exact ⟨M_10, _, hM_10, rfl, S⟩
  · rintro a w M_11 _ D_12 hM_11 rfl S E
    replace S := S.unpack2
    replace h0 := h0.le hM_11
    replace h1 := h1.le hM_11
    replace hb_1 := hM_11.2 _ _ hb_1
    refine B_n ?_
    refine T_n ?_
    refine WP_seq ?_
    refine WP_region ?_
    refine S_v E rfl (R_load E rfl (Try.isAgg103 _) (cell_blk (S.mem (.head _)))) rfl ?_
    clear E a; intro a E
    refine S_v E rfl (R_assign E rfl) rfl ?_
    clear E a; intro a E
    refine WL_nil ?_
    refine T_n ?_
    refine WP_ret ?_
    replace S := S.front1
    have S0 := S; clear S
    obtain ⟨M_13, hM_13, hm_14, S⟩ := S0.freezeM
    clear S0
    replace h0 := h0.le hM_13
    replace h1 := h1.le hM_13
    replace hb_1 := hM_13.2 _ _ hb_1
    replace S := S.drop
    exact F_retM1 E S Try.results100 rfl (fun w S => ⟨_, rfl, M_13, (hM_2.trans (hM_11.trans hM_13)), (by rw [show (upM f1 [] l0) = (upM f1 [] (l0)) from by ((try clear S); (try clear E); first | rfl | (simp; done) | (simp_all; done) | grind [List.take_add_one])]; exact hm_14), S⟩)
  · rintro _ _ _ _ _ _ _ _ _ hX; exact hX.elim

set_option maxRecDepth 100000 in
set_option maxHeartbeats 4000000 in
def Try.gsv6_ren : Go.Shelf.Ren := ⟨fun | 6 => 162 | 10 => 174 | 11 => 175 | 12 => 176 | 13 => 177 | 14 => 178 | 24 => 191 | 25 => 192 | 26 => 193 | 27 => 194 | 28 => 195 | 29 => 196 | 30 => 197 | 31 => 198 | 32 => 199 | 33 => 200 | 34 => 202 | 35 => 203 | 36 => 204 | 37 => 205 | 38 => 206 | 39 => 216 | n => n, fun | 20 => 20 | 26 => 121 | 35 => 162 | 0 => 0 | 37 => 164 | 3 => 3 | 41 => 168 | 44 => 171 | 49 => 177 | 51 => 172 | 4 => 4 | 54 => 181 | 53 => 180 | 58 => 153 | 5 => 5 | 9 => 9 | 60 => 187 | 64 => 191 | 66 => 200 | 67 => 152 | 17 => 17 | 32 => 159 | 33 => 160 | 82 => 220 | 12 => 12 | 75 => 213 | 76 => 214 | 77 => 215 | 78 => 216 | 79 => 217 | 80 => 218 | n => n, fun | n => n⟩
set_option maxRecDepth 100000 in
set_option maxHeartbeats 4000000 in
theorem Try.gsv6 : Go.Proofs.LaysGg.n6 Try.prog Try.gsv6_ren := {
  mixed := by kernel_rfl,
  f6 := Try.func162.trans (congrArg some (by kernel_rfl)),
  f10 := Try.func174.trans (congrArg some (by kernel_rfl)),
  f11 := Try.func175.trans (congrArg some (by kernel_rfl)),
  f12 := Try.func176.trans (congrArg some (by kernel_rfl)),
  f13 := Try.func177.trans (congrArg some (by kernel_rfl)),
  f14 := Try.func178.trans (congrArg some (by kernel_rfl)),
  f24 := Try.func191.trans (congrArg some (by kernel_rfl)),
  f25 := Try.func192.trans (congrArg some (by kernel_rfl)),
  f26 := Try.func193.trans (congrArg some (by kernel_rfl)),
  f27 := Try.func194.trans (congrArg some (by kernel_rfl)),
  f28 := Try.func195.trans (congrArg some (by kernel_rfl)),
  f29 := Try.func196.trans (congrArg some (by kernel_rfl)),
  f30 := Try.func197.trans (congrArg some (by kernel_rfl)),
  f31 := Try.func198.trans (congrArg some (by kernel_rfl)),
  f32 := Try.func199.trans (congrArg some (by kernel_rfl)),
  f33 := Try.func200.trans (congrArg some (by kernel_rfl)),
  f34 := Try.func202.trans (congrArg some (by kernel_rfl)),
  f35 := Try.func203.trans (congrArg some (by kernel_rfl)),
  f36 := Try.func204.trans (congrArg some (by kernel_rfl)),
  f37 := Try.func205.trans (congrArg some (by kernel_rfl)),
  f38 := Try.func206.trans (congrArg some (by kernel_rfl)),
  f39 := Try.func216.trans (congrArg some (by kernel_rfl)),
  t0 := Try.underlying0,
  a0 := Try.isAgg0,
  z0 := Try.sizeOf0,
  v0 := Try.zeroValue0,
  i0 := by kernel_rfl,
  t3 := Try.underlying3,
  a3 := Try.isAgg3,
  z3 := Try.sizeOf3,
  v3 := Try.zeroValue3,
  i3 := by kernel_rfl,
  t4 := Try.underlying4,
  a4 := Try.isAgg4,
  z4 := Try.sizeOf4,
  v4 := Try.zeroValue4,
  i4 := by kernel_rfl,
  t5 := Try.underlying5,
  a5 := Try.isAgg5,
  z5 := Try.sizeOf5,
  v5 := Try.zeroValue5,
  i5 := by kernel_rfl,
  t9 := Try.underlying9,
  a9 := Try.isAgg9,
  z9 := Try.sizeOf9,
  v9 := Try.zeroValue9,
  i9 := by kernel_rfl,
  t12 := Try.underlying12,
  a12 := Try.isAgg12,
  z12 := Try.sizeOf12,
  v12 := Try.zeroValue12,
  i12 := by kernel_rfl,
  t17 := Try.underlying17,
  a17 := Try.isAgg17,
  z17 := Try.sizeOf17,
  v17 := Try.zeroValue17,
  i17 := by kernel_rfl,
  t20 := Try.underlying20,
  a20 := Try.isAgg20,
  z20 := Try.sizeOf20,
  v20 := Try.zeroValue20,
  i20 := by kernel_rfl,
  t26 := Try.underlying121,
  a26 := Try.isAgg121,
  z26 := Try.sizeOf121,
  v26 := Try.zeroValue121,
  i26 := by kernel_rfl,
  t32 := Try.underlying159,
  a32 := Try.isAgg159,
  z32 := Try.sizeOf159,
  v32 := Try.zeroValue159,
  i32 := by kernel_rfl,
  t33 := Try.underlying160,
  a33 := Try.isAgg160,
  z33 := Try.sizeOf160,
  v33 := Try.zeroValue160,
  i33 := by kernel_rfl,
  t35 := Try.underlying162,
  a35 := Try.isAgg162,
  z35 := Try.sizeOf162,
  v35 := Try.zeroValue162,
  i35 := by kernel_rfl,
  t37 := Try.underlying164,
  a37 := Try.isAgg164,
  z37 := Try.sizeOf164,
  v37 := Try.zeroValue164,
  i37 := by kernel_rfl,
  t41 := Try.underlying168,
  a41 := Try.isAgg168,
  z41 := Try.sizeOf168,
  v41 := Try.zeroValue168,
  i41 := by kernel_rfl,
  t44 := Try.underlying171,
  a44 := Try.isAgg171,
  z44 := Try.sizeOf171,
  v44 := Try.zeroValue171,
  i44 := by kernel_rfl,
  t49 := Try.underlying177,
  a49 := Try.isAgg177,
  z49 := Try.sizeOf177,
  v49 := Try.zeroValue177,
  i49 := by kernel_rfl,
  t51 := Try.underlying172,
  a51 := Try.isAgg172,
  z51 := Try.sizeOf172,
  v51 := Try.zeroValue172,
  i51 := by kernel_rfl,
  t53 := Try.underlying180,
  a53 := Try.isAgg180,
  z53 := Try.sizeOf180,
  v53 := Try.zeroValue180,
  i53 := by kernel_rfl,
  t54 := Try.underlying181,
  a54 := Try.isAgg181,
  z54 := Try.sizeOf181,
  v54 := Try.zeroValue181,
  i54 := by kernel_rfl,
  t58 := Try.underlying153,
  a58 := Try.isAgg153,
  z58 := Try.sizeOf153,
  v58 := Try.zeroValue153,
  i58 := by kernel_rfl,
  t60 := Try.underlying187,
  a60 := Try.isAgg187,
  z60 := Try.sizeOf187,
  v60 := Try.zeroValue187,
  i60 := by kernel_rfl,
  t64 := Try.underlying191,
  a64 := Try.isAgg191,
  z64 := Try.sizeOf191,
  v64 := Try.zeroValue191,
  i64 := by kernel_rfl,
  t66 := Try.underlying200,
  a66 := Try.isAgg200,
  z66 := Try.sizeOf200,
  v66 := Try.zeroValue200,
  i66 := by kernel_rfl,
  t67 := Try.underlying152,
  a67 := Try.isAgg152,
  z67 := Try.sizeOf152,
  v67 := Try.zeroValue152,
  i67 := by kernel_rfl,
  t75 := Try.underlying213,
  a75 := Try.isAgg213,
  z75 := Try.sizeOf213,
  v75 := Try.zeroValue213,
  i75 := by kernel_rfl,
  t76 := Try.underlying214,
  a76 := Try.isAgg214,
  z76 := Try.sizeOf214,
  v76 := Try.zeroValue214,
  i76 := by kernel_rfl,
  t77 := Try.underlying215,
  a77 := Try.isAgg215,
  z77 := Try.sizeOf215,
  v77 := Try.zeroValue215,
  i77 := by kernel_rfl,
  t78 := Try.underlying216,
  a78 := Try.isAgg216,
  z78 := Try.sizeOf216,
  v78 := Try.zeroValue216,
  i78 := by kernel_rfl,
  t79 := Try.underlying217,
  a79 := Try.isAgg217,
  z79 := Try.sizeOf217,
  v79 := Try.zeroValue217,
  i79 := by kernel_rfl,
  t80 := Try.underlying218,
  a80 := Try.isAgg218,
  z80 := Try.sizeOf218,
  v80 := Try.zeroValue218,
  i80 := by kernel_rfl,
  t82 := Try.underlying220,
  a82 := Try.isAgg220,
  z82 := Try.sizeOf220,
  v82 := Try.zeroValue220,
  i82 := by kernel_rfl }

set_option maxRecDepth 100000 in
set_option maxHeartbeats 4000000 in
section
open Go Go.Proofs Go.Shelf Go.RowKit Go.Lib Go.Sort
noncomputable def sort_pairsT : TypeInfo := (Try.prog.info? 33).get (by kernel_rfl)
noncomputable def sort_pairsE : TypeInfo := (Try.prog.info? 59).get (by kernel_rfl)
set_option maxHeartbeats 2000000 in
theorem sort_pairs_less (Bs blk off c size : Nat) (W : World) (G : Nat → Int) (hs : W.cell? ⟨Bs, 0, none⟩ = some (.slice (some ⟨blk, off, none⟩) size c))
    (hc : ∀ t, t < size → W.cell? ⟨blk, off + t * 2, none⟩ = some (.int .i64 (G t))) (i j : Nat) (hi : i < size) (hj : j < size) (_hsz : size < 4611686018427387904) :
    Calls Try.prog 163 #[.int .i64 i, .int .i64 j, .pointer (some ⟨Bs, 0, none⟩)] W fun e w' => e = .returned (.bool (decide (G i < G j))) ∧ ∃ q, w' = W.drewN q := by
  have ci := hc i hi
  have cj := hc j hj
  go_enter Try.func163, Try.ntmps163
  go_wp2
  go_quiet (fail)
  go_wp2
  go_ret
  exact ⟨rfl, nq, rfl⟩
theorem sort_pairs_sw2 (n : Nat) (h : 2 ≤ n) : Lib.swapperK n sort_pairsE 25 = 9 := by
  have c : (n == 0) = false := by simp; omega
  have d : (n == 1) = false := by simp; omega
  have e : sort_pairsE.hasPointers = false := by kernel_rfl
  have b : sort_pairsE.bytes = 16 := by kernel_rfl
  simp [Lib.swapperK, c, d, e, b]
theorem sort_pairs_sw1 : Lib.swapperK 1 sort_pairsE 25 = 2 := rfl
theorem sort_pairs_sw0 : Lib.swapperK 0 sort_pairsE 25 = 1 := rfl
theorem sort_pairs {Bs : Nat} {M : Hp} {v : Value} {l : List (Int × Int)} {xs : List Value} (hr : RowsR RP2 2 M l xs) (hn : (l.map Prod.fst).Nodup) (hb : l.length ≤ 1000000000000) :
    Sp Try.prog (.func (.func 162) #[] #[]) M [.iface 33 v, .func (.func 163) #[] #[.pointer (some ⟨Bs, 0, none⟩)]] [OwnC 59 2 v l.length xs, Go.Sl.blk Bs (.cells #[v] 33)]
      (fun r M' C' => ∃ xs', RowsR RP2 2 M' (srtK Prod.fst l) xs' ∧ C' = [OwnC 59 2 v (srtK Prod.fst l).length xs', Go.Sl.blk Bs (.cells #[v] 33)]) :=
  sortK_sp Try.call162 (fun blk off c size W G a b i j c1 c2 c3 => sort_pairs_less Bs blk off c size W G a b i j c1 c2 c3)
    (fun blk c d w h2 hsz hless hH hblk => Any.sort_Slice_cells_sorted Try.gsv6 33 59 sort_pairsT sort_pairsE (by kernel_rfl) (by kernel_rfl) (by kernel_rfl) (by kernel_rfl) 25 (fun _ => by kernel_rfl) encK 2 (fun _ => rfl) (by kernel_rfl) (fun _ => by kernel_rfl)
      encK_one ltK swo_ltK 163 _ (enters_of Try.func163 (by kernel_rfl) rfl) blk 0 c d h2 hsz 190 (by rw [sort_pairs_sw2 _ h2]; kernel_rfl) false
      (fun args W => run_callFunc_extern Try.func190 (by kernel_rfl) (by kernel_rfl) (by kernel_rfl) (e := Extern.ReflectliteSwapper.swap false) (by kernel_rfl) args W) w hless hH hblk)
    (fun p n c w h1 => by
      rcases (show n = 0 ∨ n = 1 by omega) with rfl | rfl
      · exact Any.sort_Slice_tiny Try.gsv6 33 59 sort_pairsT sort_pairsE (by kernel_rfl) (by kernel_rfl) (by kernel_rfl) (by kernel_rfl) 25 (fun _ => by kernel_rfl) p 0 c h1 182 (by rw [sort_pairs_sw0]; kernel_rfl) _ _ _ w
      · exact Any.sort_Slice_tiny Try.gsv6 33 59 sort_pairsT sort_pairsE (by kernel_rfl) (by kernel_rfl) (by kernel_rfl) (by kernel_rfl) 25 (fun _ => by kernel_rfl) p 1 c h1 183 (by rw [sort_pairs_sw1]; kernel_rfl) _ _ _ w)
    (fun M cs x h => RP2_K h) RP2_mono hr hn hb
end

set_option maxRecDepth 100000 in
set_option maxHeartbeats 4000000 in
theorem impl_pairs {M : Hp} {m0 : Value} {q0 : List (Int × Int)} (hm0 : RdM M m0 (encE (Value.int .i64) q0)) (hb : q0.length ≤ 1000000000000) :
    Pu Try.prog (.func (.func 99) #[] #[]) M [m0] (fun r M' => RdS 2 RP2 M' r (srtK Prod.fst q0)) := by
  refine Pu_enter Try.func99 rfl Try.ntmps99 rfl Try.call99 ?_
  intro a w M1 H hM1 S E
  replace hm0 := hm0.le hM1
  have hnq : (q0.map Prod.fst).Nodup := keys_encE (Value.int .i64) q0 ▸ hm0.nodup
  refine WP_seq ?_
  refine WP_region ?_
  refine S_v E rfl (R_assign E rfl) rfl ?_
  clear E a; intro a E
  refine WL_nil ?_
  refine T_n ?_
  refine WP_seq ?_
  refine WP_region ?_
  refine S_x (X_alloc (cs := #[.slice none 0 0]) E S rfl Try.zeroValue33 rfl ?_)
  clear E a S; rintro a w b_1 E S
  refine WL_nil ?_
  refine T_n ?_
  refine WP_seq ?_
  refine WP_seq ?_
  refine WP_region ?_
  refine S_v E rfl (R_move E rfl) rfl ?_
  clear E a; intro a E
  refine S_x (X_range E S rfl MT103 hm0 rfl ?_)
  clear E a S; rintro a w i_2 es_3 ck_4 E hf_5 S
  replace S : St w M1 (ItO m0 es_3 ck_4 i_2 (encE (Value.int .i64) ([] : List (Int × Int))) :: _) := S
  refine WL_nil ?_
  refine T_n ?_
  refine WP_block ?_
  replace S : St w M1 (OwnC 59 2 (.slice none 0 0) ([] : List (Int × Int)).length [] :: _) := S.ownNil
  have hr_7 : RowsR RP2 2 M1 ([] : List (Int × Int)) [] := RowsR.nil
  replace S := S.front1
  replace S := S.front1
  have hre : ([] : List (Int × Int)) = [] := by first | rfl | (simp; done)
  replace S := S.reR hre
  replace hr_7 := hr_7.eq hre
  clear hre
  replace S := S.front1
  replace S := S.reIt (p' := (encE (Value.int .i64) [])) (congrArg (encE (Value.int .i64)) (show ([] : List (Int × Int)) = [] by first | rfl | (simp; done)))
  refine WP_loop (γ := List (Int × Int)) (fun (p : List (Int × Int)) a w => ∃ (M_8 : Hp) (u3 : Value) (xs3 : List Value), Hp.le M1 M_8 ∧ St w M_8 (ItO m0 es_3 ck_4 i_2 (encE (Value.int .i64) p) :: OwnC 59 2 u3 p.length xs3 :: blk b_1 (.cells #[u3] 33) :: H) ∧ Env a 24 [] [(3, .pointer (some ⟨b_1, 0, none⟩)), (7, .pointer (some ⟨i_2, 0, none⟩))] ∧ ((p.map Prod.fst).Nodup) ∧ (∀ z ∈ p, z ∈ q0) ∧ (p.length ≤ q0.length) ∧ RowsR RP2 2 M_8 p xs3) (fun p => q0.length - p.length) [] ⟨M1, _, _, Hp.le.refl _, S, E.keep ⟨rfl, rfl, trivial⟩, (by simp), (by simp), (by simp), hr_7⟩ ?_
  try clear E
  try clear S
  try clear a
  try clear w
  rintro p a w ⟨M_8, u3, xs3, hM_8, S, E, hL0_0, hL0_1, hL0_2, hr3⟩
  replace hm0 := hm0.le hM_8
  replace hf_5 := hf_5.le hM_8
  refine WP_seq ?_
  refine WP_region ?_
  refine S_x (X_nextE (vf := (Value.int .i64)) E S rfl hf_5 rfl (by assumption) (by assumption) ?_ ?_)
  · clear E a S; rintro a E hpm_9 S
    refine S_v E rfl (R_extract E rfl rfl) rfl ?_
    clear E a; intro a E
    refine WL_nil ?_
    refine T_n ?_
    refine WP_seq ?_
    refine WP_condF E rfl rfl ?_
    refine WP_exit ?_
    refine T_x ?_
    refine T_x ?_
    refine B_x ?_
    refine T_n ?_
    refine WP_seq ?_
    refine WP_region ?_
    refine S_v E rfl (R_load E rfl (Try.isAgg33 _) (cell_blk (S.mem (.tail _ (.tail _ (.head _)))))) rfl ?_
    clear E a; intro a E
    refine S_v E rfl (R_iface E rfl T33.und) rfl ?_
    clear E a; intro a E
    refine S_v E rfl (R_makeFunc E rfl rfl) rfl ?_
    clear E a; intro a E
    replace S := S.front2
    replace S := S.front2
    refine S_x (X_sp (p := [OwnC 59 2 u3 p.length xs3, blk b_1 (.cells #[u3] 33)]) E S rfl rfl rfl (sort_pairs hr3 (by first | assumption | exact keys_perm (by assumption) hnq) (by (first | (rw [srtK_len]; omega) | omega | (simp; omega)))) (Hp.le.refl _) ?_)
    clear E a S; rintro a _ w M_10 _ hM_10 ⟨xs_11, hr_12, rfl⟩ S E
    replace S : St w M_10 (OwnC 59 2 u3 (srtK Prod.fst p).length xs_11 :: blk b_1 (.cells #[u3] 33) :: _) := S
    replace hm0 := hm0.le hM_10
    replace hf_5 := hf_5.le hM_10
    refine WL_nil ?_
    refine T_n ?_
    refine WP_seq ?_
    refine WP_region ?_
    refine S_v E rfl (R_load E rfl (Try.isAgg33 _) (cell_blk (S.mem (.tail _ (.head _))))) rfl ?_
    clear E a; intro a E
    refine S_v E rfl (R_assign E rfl) rfl ?_
    clear E a; intro a E
    refine WL_nil ?_
    refine T_n ?_
    refine WP_ret ?_
    have S0 := S; clear S
    obtain ⟨M_13, hM_13, hz_14, S⟩ := S0.freezeR hr_12 RP2_mono (by (first | (rw [srtK_len]; omega) | omega | (simp; omega)))
    clear S0
    replace hm0 := hm0.le hM_13
    replace hf_5 := hf_5.le hM_13
    exact F_ret1 E Try.results99 rfl ⟨_, rfl, M_13, (hM_8.trans (hM_10.trans hM_13)), (by rw [show (srtK Prod.fst q0) = (srtK Prod.fst p) from by (first | exact srtK_perm_eq hnq (by assumption) | exact (srtK_perm_eq hnq (by assumption)).symm)]; exact hz_14), S.drop.drop⟩
  · clear E a S w; rintro a w k_15 u_17 E hk_16 hk_16n hk_16l S
    refine S_v E rfl (R_extract E rfl rfl) rfl ?_
    clear E a; intro a E
    refine WL_nil ?_
    refine T_n ?_
    refine WP_seq ?_
    refine WP_condT E rfl rfl ?_
    refine WP_skip ?_
    refine T_n ?_
    refine WP_block ?_
    refine WP_seq ?_
    refine WP_region ?_
    refine S_v E rfl (R_entry (k := k_15) (v := .int .i64 u_17) E (by have S1 := S; simp only [encE, List.map_append, List.map_cons, List.map_nil] at S1; exact S1) hf_5 rfl) rfl ?_
    clear E a; intro a E
    refine S_v E rfl (R_extract E rfl rfl) rfl ?_
    clear E a; intro a E
    refine S_v E rfl (R_extract E rfl rfl) rfl ?_
    clear E a; intro a E
    refine S_v E rfl (R_assign E rfl) rfl ?_
    clear E a; intro a E
    refine S_v E rfl (R_assign E rfl) rfl ?_
    clear E a; intro a E
    refine WL_nil ?_
    refine T_n ?_
    refine WP_region ?_
    refine S_v E rfl (R_load E rfl (Try.isAgg33 _) (cell_blk (S.mem (.tail _ (.tail _ (.head _)))))) rfl ?_
    clear E a; intro a E
    refine S_v E rfl (R_move E rfl) rfl ?_
    clear E a; intro a E
    refine S_v E rfl (R_move E rfl) rfl ?_
    clear E a; intro a E
    refine S_v E rfl (R_build (u := .agg #[.int .i64 k_15, .int .i64 u_17]) (vs := [.int .i64 k_15, .int .i64 u_17]) E rfl (fun w => FB59_0_1_ii k_15 u_17 w)) rfl ?_
    clear E a; intro a E
    refine S_x (X_buildA1 (R := RP2) (cs := [.int .i64 k_15, .int .i64 u_17]) (x0 := (k_15, u_17)) RP2_mono E S rfl T33 rfl rfl rfl rfl ?_)
    clear E a S; rintro a v_18 w M_19 hM_19 hv_18 S E
    replace hm0 := hm0.le hM_19
    replace hf_5 := hf_5.le hM_19
    replace hr3 := hr3.le RP2_mono hM_19
    replace S := S.front1
    refine S_x (X_appendR (R := RP2) (zs := p) (ys := [(k_15, u_17)]) E S hr3 rfl rfl rfl T33 hv_18 one_RP2 (by first | omega | (simp; done) | (simp; omega) | (simp_all; omega)) (by first | omega | (simp; done) | (simp; omega) | (simp_all; omega)) ?_)
    clear E a S; rintro a w v_20 xs_21 E hr_22 S
    have ho_23 := S.oneC
    replace S := S.front2
    refine S_x0 (X_store E S rfl rfl (Try.sizeOf33 _) ho_23 ?_)
    clear E a S; rintro a w E S
    refine WL_nil ?_
    refine B_n ?_
    refine T_n ?_
    replace S := S.front1
    replace S := S.front2
    replace S := S.front1
    have hre : p ++ [(k_15, u_17)] = (p ++ [(k_15, u_17)]) := by first | rfl | (simp; done)
    replace S := S.reR hre
    replace hr_22 := hr_22.eq hre
    clear hre
    replace S := S.front1
    replace S := S.reIt (p' := (encE (Value.int .i64) (p ++ [(k_15, u_17)]))) (congrArg (encE (Value.int .i64)) (show p ++ [(k_15, u_17)] = (p ++ [(k_15, u_17)]) by first | rfl | (simp; done)))
    exact ⟨(p ++ [(k_15, u_17)]), ⟨M_19, _, _, (hM_8.trans hM_19), S, E.keep ⟨rfl, rfl, trivial⟩, (by exact snocNk (by assumption) (by assumption)), (by exact snocSk (by assumption) (by assumption)), (by simp; omega), hr_22⟩, (by simp; omega)⟩

set_option maxRecDepth 100000 in
set_option maxHeartbeats 4000000 in
theorem impl_CountValuesBySeq {M : Hp} {v0 : Value} {l0 : List Int} (h0 : RdI M v0 l0){kk1 kn1 : Int} (gk1 : -9223372036854775808 ≤ kn1 ∧ kn1 ≤ 9223372036854775807) (hb : l0.length ≤ 1000000000000) :
    Pu Try.prog (.func (.func 27) #[] #[]) M [v0, .agg #[.int .i64 kk1, .int .i64 kn1]] (fun r M' => RdS 2 RP2 M' r (srtK Prod.fst (upM (fun x => keyAt kk1 kn1 x 0) [] l0))) := by
  refine Pu_enter Try.func27 rfl Try.ntmps27 rfl Try.call27 ?_
  intro a w M1 H hM1 S E
  replace h0 := h0.le hM1
  have b0 := h0.bound
  refine WP_seq ?_
  refine WP_region ?_
  refine S_x (X_box (cs := #[.int .i64 kk1, .int .i64 kn1]) E S rfl rfl rfl ?_)
  clear E a S; rintro a w b_1 E S
  obtain ⟨M_2, hM_2, hb_1, S⟩ := S.freezeB
  replace h0 := h0.le hM_2
  refine S_v E rfl (R_assign E rfl) rfl ?_
  clear E a; intro a E
  refine WL_nil ?_
  refine T_n ?_
  refine WP_seq ?_
  have hb_1k2 := hb_1
  replace S := S.mono_heap (w' := World.drew _) rfl
  refine WP_drawn (C := fun x w => agree M_2 w) (bf := (fun i => [])) [0, 2, 3, 6] [0, 2, 3, 1, 4, 5, 6] Try.mixed (by kernel_rfl) (fun x hq => S.imm) ?_
  refine D_v E rfl rfl rfl (fun w hC => (R_move E rfl)) ?_
  clear E a; intro a E
  refine D_v E rfl rfl rfl (fun w hC => (R_loadGM E rfl (Try.isAgg24 _) (Try.sizeOf24 _) hC hb_1k2)) ?_
  clear E a; intro a E
  refine D_v E rfl rfl rfl (fun w hC => (R_makeFunc E rfl rfl)) ?_
  clear E a; intro a E
  refine D_x rfl rfl rfl (X_pu E S rfl rfl rfl (slices_Values h0) (Hp.le.refl _) ?_)
  clear E a S; rintro a v_4 w M_3 hM_3 hv_4 S E
  replace h0 := h0.le hM_3
  replace hb_1 := hM_3.2 _ _ hb_1
  refine ⟨fun x hq hb => (agree_le hM_3 S.imm), ?_⟩
  refine D_x rfl rfl rfl (X_pu E S rfl rfl rfl (it_CountValuesBy hv_4 ⟨rfl, fun zx1 => Key_of (x1 := zx1) (by omega)⟩ (by (first | omega | (simp; omega) | (simp; done) | (simp_all; omega) | grind))) (Hp.le.refl _) ?_)
  clear E a S; rintro a v_6 w M_5 hM_5 hv_6 S E
  replace h0 := h0.le hM_5
  replace hb_1 := hM_5.2 _ _ hb_1
  replace hv_4 := hv_4.le hM_5
  refine ⟨fun x hq hb => (agree_le (hM_3.trans hM_5) S.imm), ?_⟩
  refine D_x rfl rfl rfl (X_pu E S rfl rfl rfl (impl_pairs hv_6 (by first | omega | (exact bigE _ l0 (by first | (rw [ixm_len]; exact Nat.le_refl _) | exact kpix_len _ _ _ | (rw [List.length_map]; exact Nat.le_refl _)) (by omega)) | exact Nat.le_trans (mkE_len _) (by omega) | (exact Nat.le_trans (lk_len (by assumption) (by assumption)) (by first | omega | exact Nat.le_trans (fl_mk _ _) (by omega))) | exact Nat.le_trans (mk_perm_len (by assumption)) (by omega) | exact Nat.le_trans (Nat.le_trans (lk_len (by assumption) (by assumption)) (mkl_len _ _)) (by omega) | (first | omega | (simp; omega) | (simp; done) | (simp_all; omega) | grind) | exact Nat.le_trans (upM_len _ _) (by omega))) (Hp.le.refl _) ?_)
  clear E a S; rintro a v_8 w M_7 hM_7 hv_8 S E
  replace h0 := h0.le hM_7
  replace hb_1 := hM_7.2 _ _ hb_1
  replace hv_4 := hv_4.le hM_7
  replace hv_6 := hv_6.le hM_7
  refine ⟨fun x hq hb => (agree_le (hM_3.trans (hM_5.trans hM_7)) S.imm), ?_⟩
  refine D_v E rfl rfl rfl (fun w hC => (R_assign E rfl)) ?_
  clear E a; intro a E
  refine D_end (NoP_n ?_)
  refine T_n ?_
  refine WP_ret ?_
  exact F_ret1 E Try.results27 rfl ⟨_, rfl, M_7, (hM_2.trans (hM_3.trans (hM_5.trans hM_7))), hv_8, S⟩

set_option maxRecDepth 100000 in
set_option maxHeartbeats 4000000 in
theorem lo_CountValuesBy {M : Hp} {v0 : Value} {l0 : List Int} (h0 : RdI M v0 l0){v1 : Value} {f1 : Int → Int} (h1 : PF1I Try.prog v1 M f1) :
    Pu Try.prog (.func (.func 101) #[] #[]) M [v0, v1] (fun r M' => RdM M' r (encE (Value.int .i64) (upM f1 [] l0))) := by
  refine Pu_enter Try.func101 rfl Try.ntmps101 rfl Try.call101 ?_
  intro a w M1 H hM1 S E
  replace h0 := h0.le hM1
  replace h1 := h1.le hM1
  have b0 := h0.bound
  refine WP_seq ?_
  refine WP_region ?_
  refine S_v E rfl (R_assign E rfl) rfl ?_
  clear E a; intro a E
  refine WL_nil ?_
  refine T_n ?_
  refine WP_seq ?_
  refine WP_region ?_
  refine S_x (X_makeMap E S rfl ?_)
  clear E a S; rintro a w b_1 E S
  replace S : St w M1 (OwnE (Value.int .i64) b_1 ([] : List (Int × Int)) :: _) := S
  refine S_v E rfl (R_assign E rfl) rfl ?_
  clear E a; intro a E
  refine WL_nil ?_
  refine T_n ?_
  refine WP_seq ?_
  refine WP_seq ?_
  refine WP_region ?_
  refine S_v E rfl (R_move E rfl) rfl ?_
  clear E a; intro a E
  refine S_v E rfl (R_lenV E rfl T22 h0.len) rfl ?_
  clear E a; intro a E
  refine S_v E rfl (R_move E rfl) rfl ?_
  clear E a; intro a E
  refine WL_nil ?_
  refine T_n ?_
  refine WP_block ?_
  replace S := S.reM (L' := (encE (Value.int .i64) (upM f1 [] (l0.take 0)))) (congrArg (encE (Value.int .i64)) (show ([] : List (Int × Int)) = upM f1 [] (l0.take 0) by first | (simp [upM]; done) | (rw [upM_take (by assumption)])))
  refine WP_loop (γ := Nat) (fun (k : Nat) a w => ∃ (M_2 : Hp), Hp.le M1 M_2 ∧ St w M_2 (OwnE (Value.int .i64) b_1 (upM f1 [] (l0.take k)) :: H) ∧ Env a 24 [] [(0, v0), (1, v1), (5, .map (some b_1)), (9, .int .i64 (((l0).length : Nat) : Int)), (10, .int .i64 ((k : Nat) : Int))] ∧ (k ≤ (l0).length)) (fun k => ((l0).length) - k) 0 ⟨M1, Hp.le.refl _, S, E.keep ⟨rfl, rfl, rfl, rfl, rfl, trivial⟩, by ((try clear S); (try clear E); first | assumption | omega | rfl | (simp; done) | (simp_all; done) | (simp [List.take_add_one, *]; done) | grind [List.take_add_one])⟩ ?_
  try clear E
  try clear S
  try clear a
  try clear w
  rintro k a w ⟨M_2, hM_2, S, E, hL0_0⟩
  replace h0 := h0.le hM_2
  replace h1 := h1.le hM_2
  have hbd := upM_bnd f1 (l := l0.take k) (by simp; omega)
  refine WP_seq ?_
  refine WP_region ?_
  refine S_v E rfl (R_lss E rfl rfl) rfl ?_
  clear E a; intro a E
  refine WL_nil ?_
  refine T_n ?_
  refine WP_seq ?_
  refine WP_cond E rfl (fun hc_3 => ?_) (fun hc_3 => ?_)
  · replace hc_3 := of_decide_eq_true hc_3
    refine WP_skip ?_
    refine T_n ?_
    refine WP_seq ?_
    refine WP_block ?_
    refine WP_seq ?_
    refine WP_region ?_
    refine S_v E rfl (R_move E rfl) rfl ?_
    clear E a; intro a E
    refine S_v E rfl (R_assign E rfl) rfl ?_
    clear E a; intro a E
    refine WL_nil ?_
    refine T_n ?_
    refine WP_region ?_
    refine S_v E rfl (R_move E rfl) rfl ?_
    clear E a; intro a E
    refine S_v E rfl (R_move E rfl) rfl ?_
    clear E a; intro a E
    refine S_v E rfl (R_move E rfl) rfl ?_
    clear E a; intro a E
    refine S_v E rfl (R_move E rfl) rfl ?_
    clear E a; intro a E
    obtain ⟨x_4, hx_4⟩ : ∃ x, (l0)[k]? = some x := ⟨_, List.getElem?_eq_getElem (by first | omega | (simp; done) | (simp; omega) | (simp_all; omega))⟩
    obtain ⟨p_5, hp_5, qp_5⟩ := h0.at hx_4
    refine S_v E rfl (R_idx E rfl rfl T22 hp_5 rfl) rfl ?_
    clear E a; intro a E
    refine S_v E rfl (R_loadM E rfl Try.isAgg3 S.imm qp_5) rfl ?_
    clear E a; intro a E
    refine S_x (X_pu E S rfl rfl rfl (h1.2 x_4) (Hp.le.refl _) ?_)
    clear E a S; rintro a _ w M_6 hM_6 rfl S E
    replace h0 := h0.le hM_6
    replace h1 := h1.le hM_6
    refine S_x (X_lookupE1 (vf := (Value.int .i64)) (zb := (0 : Int)) E S rfl MT103 rfl rfl ?_)
    clear E a S; rintro a w E S
    replace S : St w M_6 (OwnE (Value.int .i64) b_1 (upM f1 [] (l0.take k)) :: _) := S
    refine S_v E rfl (R_addx (m := (getK (0 : Int) (upM f1 [] (l0.take k)) (f1 x_4)) + 1) E rfl rfl (by first | rfl | exact add1_in (hbd _)) (by first | rfl | exact add1_in (hbd _))) rfl ?_
    clear E a; intro a E
    refine S_x0 (X_updateE (vf := (Value.int .i64)) (u := (getK (0 : Int) (upM f1 [] (l0.take k)) (f1 x_4)) + 1) E S MT103 rfl rfl rfl ?_)
    clear E a S; rintro a w E S
    refine WL_nil ?_
    refine B_n ?_
    refine T_n ?_
    refine WP_region ?_
    refine S_v E rfl (R_addx (m := ((k + 1 : Nat) : Int)) E rfl rfl (by omega) (by omega)) rfl ?_
    clear E a; intro a E
    refine S_v E rfl (R_move E rfl) rfl ?_
    clear E a; intro a E
    refine WL_nil ?_
    refine T_n ?_
    replace S := S.reM (L' := (encE (Value.int .i64) (upM f1 [] (l0.take (k + 1))))) (congrArg (encE (Value.int .i64)) (show putK (upM f1 [] (l0.take k)) (f1 x_4) ((getK (0 : Int) (upM f1 [] (l0.take k)) (f1 x_4)) + 1) = upM f1 [] (l0.take (k + 1)) by first | (simp [upM]; done) | (rw [upM_take (by assumption)])))
    exact ⟨k + 1, ⟨M_6, (hM_2.trans hM_6), S, E.keep ⟨rfl, rfl, rfl, rfl, rfl, trivial⟩, by ((try clear S); (try clear E); first | assumption | omega | rfl | (simp; done) | (simp_all; done) | (simp [List.take_add_one, *]; done) | grind [List.take_add_one])⟩, by omega⟩
  · replace hc_3 := of_decide_eq_false hc_3
    refine WP_exit ?_
    refine T_x ?_
    refine T_x ?_
    refine B_x ?_
    refine T_n ?_
    refine WP_seq ?_
    refine WP_region ?_
    refine S_v E rfl (R_move E rfl) rfl ?_
    clear E a; intro a E
    refine S_v E rfl (R_assign E rfl) rfl ?_
    clear E a; intro a E
    refine WL_nil ?_
    refine T_n ?_
    refine WP_ret ?_
    have S0 := S; clear S
    obtain ⟨M_7, hM_7, hm_8, S⟩ := S0.freezeM
    clear S0
    replace h0 := h0.le hM_7
    replace h1 := h1.le hM_7
    exact F_ret1 E Try.results101 rfl ⟨_, rfl, M_7, (hM_2.trans hM_7), (by rw [show (upM f1 [] l0) = (upM f1 [] (l0.take k)) from by (rw [List.take_of_length_le (by omega)])]; exact hm_8), S⟩

set_option maxRecDepth 100000 in
set_option maxHeartbeats 4000000 in
theorem impl_CountValuesBy {M : Hp} {v0 : Value} {l0 : List Int} (h0 : RdI M v0 l0){kk1 kn1 : Int} (gk1 : -9223372036854775808 ≤ kn1 ∧ kn1 ≤ 9223372036854775807) (hb : l0.length ≤ 1000000000000) :
    Pu Try.prog (.func (.func 28) #[] #[]) M [v0, .agg #[.int .i64 kk1, .int .i64 kn1]] (fun r M' => RdS 2 RP2 M' r (srtK Prod.fst (upM (fun x => keyAt kk1 kn1 x 0) [] l0))) := by
  refine Pu_enter Try.func28 rfl Try.ntmps28 rfl Try.call28 ?_
  intro a w M1 H hM1 S E
  replace h0 := h0.le hM1
  have b0 := h0.bound
  refine WP_seq ?_
  refine WP_region ?_
  refine S_x (X_box (cs := #[.int .i64 kk1, .int .i64 kn1]) E S rfl rfl rfl ?_)
  clear E a S; rintro a w b_1 E S
  obtain ⟨M_2, hM_2, hb_1, S⟩ := S.freezeB
  replace h0 := h0.le hM_2
  refine S_v E rfl (R_assign E rfl) rfl ?_
  clear E a; intro a E
  refine WL_nil ?_
  refine T_n ?_
  refine WP_seq ?_
  refine WP_region ?_
  refine S_v E rfl (R_move E rfl) rfl ?_
  clear E a; intro a E
  refine S_v E rfl (R_loadGM E rfl (Try.isAgg24 _) (Try.sizeOf24 _) S.imm hb_1) rfl ?_
  clear E a; intro a E
  refine S_v E rfl (R_makeFunc E rfl rfl) rfl ?_
  clear E a; intro a E
  refine S_x (X_pu E S rfl rfl rfl (lo_CountValuesBy h0 ⟨rfl, fun zx1 => Key_of (x1 := zx1) (by omega)⟩) (Hp.le.refl _) ?_)
  clear E a S; rintro a v_4 w M_3 hM_3 hv_4 S E
  replace h0 := h0.le hM_3
  replace hb_1 := hM_3.2 _ _ hb_1
  refine S_x (X_pu E S rfl rfl rfl (impl_pairs hv_4 (by first | omega | (exact bigE _ l0 (by first | (rw [ixm_len]; exact Nat.le_refl _) | exact kpix_len _ _ _ | (rw [List.length_map]; exact Nat.le_refl _)) (by omega)) | exact Nat.le_trans (mkE_len _) (by omega) | (exact Nat.le_trans (lk_len (by assumption) (by assumption)) (by first | omega | exact Nat.le_trans (fl_mk _ _) (by omega))) | exact Nat.le_trans (mk_perm_len (by assumption)) (by omega) | exact Nat.le_trans (Nat.le_trans (lk_len (by assumption) (by assumption)) (mkl_len _ _)) (by omega) | (first | omega | (simp; omega) | (simp; done) | (simp_all; omega) | grind) | exact Nat.le_trans (upM_len _ _) (by omega))) (Hp.le.refl _) ?_)
  clear E a S; rintro a v_6 w M_5 hM_5 hv_6 S E
  replace h0 := h0.le hM_5
  replace hb_1 := hM_5.2 _ _ hb_1
  replace hv_4 := hv_4.le hM_5
  refine S_v E rfl (R_assign E rfl) rfl ?_
  clear E a; intro a E
  refine WL_nil ?_
  refine T_n ?_
  refine WP_ret ?_
  exact F_ret1 E Try.results28 rfl ⟨_, rfl, M_5, (hM_2.trans (hM_3.trans hM_5)), hv_6, S⟩

end Go.Proofs.Ytahbobhbookehaa.wFnUniquesBy
