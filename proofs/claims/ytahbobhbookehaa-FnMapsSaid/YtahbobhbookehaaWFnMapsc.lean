/- Walks through the functions that laws.FnMaps reaches: what each computes; no conditions beyond what each theorem states. -/
import Derived.Test.YtahbobhbookehaaWFnMapsb
set_option linter.unusedVariables false
set_option linter.unusedSimpArgs false
namespace Go.Proofs.Ytahbobhbookehaa.wFnMaps
open Go Go.Sl
set_option maxRecDepth 100000 in
set_option maxHeartbeats 4000000 in
theorem laws_zzFits1 {M : Hp} {pk0 pn0 : Int} {w0 : Value} {pl0 : List Int} (hw0 : RdI M w0 pl0) (gn0 : -9223372036854775808 ≤ pn0 ∧ pn0 ≤ 9223372036854775807) :
    Pu Try.prog (.func (.func 43) #[] #[]) M [.agg #[.int .i64 pk0, .int .i64 pn0, w0]] (fun r M' => r = .bool (decide ((pl0).length ≤ 2147483647))) := by
  refine Pu_enter Try.func43 rfl Try.ntmps43 rfl Try.call43 ?_
  intro a w M1 H hM1 S E
  replace hw0 := hw0.le hM1
  have bw0 := hw0.bound
  refine WP_seq ?_
  refine WP_region ?_
  refine S_x (X_box (cs := #[.int .i64 pk0, .int .i64 pn0, w0]) E S rfl rfl rfl ?_)
  clear E a S; rintro a w b_1 E S
  obtain ⟨M_2, hM_2, hb_1, S⟩ := S.freezeB
  replace hw0 := hw0.le hM_2
  refine S_v E rfl (R_assign E rfl) rfl ?_
  clear E a; intro a E
  refine WL_nil ?_
  refine T_n ?_
  refine WP_seq ?_
  refine WP_seq ?_
  refine WP_region ?_
  refine S_v E rfl (R_fieldAddr E rfl (FA54_2 _)) rfl ?_
  clear E a; intro a E
  refine S_v E rfl (R_loadM E rfl Try.isAgg22 S.imm (cellM_boxo hb_1 rfl)) rfl ?_
  clear E a; intro a E
  refine S_v E rfl (R_lenV E rfl T22 hw0.len) rfl ?_
  clear E a; intro a E
  refine S_v E rfl (R_gtr E rfl rfl) rfl ?_
  clear E a; intro a E
  refine WL_nil ?_
  refine T_n ?_
  refine WP_cond E rfl (fun hc_3 => ?_) (fun hc_3 => ?_)
  · replace hc_3 := of_decide_eq_true hc_3
    refine WP_seq ?_
    refine WP_region ?_
    refine S_v E rfl (R_assign E rfl) rfl ?_
    clear E a; intro a E
    refine WL_nil ?_
    refine T_n ?_
    refine WP_ret ?_
    refine T_r ?_
    exact F_ret1 E Try.results43 rfl ⟨_, rfl, M_2, hM_2, (bF (by ((try clear S); (try clear E); first | assumption | omega | rfl | (simp; done) | (simp_all; done) | (simp [List.take_add_one, *]; done) | grind [List.take_add_one]))), S⟩
  · replace hc_3 := of_decide_eq_false hc_3
    refine WP_skip ?_
    refine T_n ?_
    refine WP_seq ?_
    refine WP_region ?_
    refine S_v E rfl (R_assign E rfl) rfl ?_
    clear E a; intro a E
    refine WL_nil ?_
    refine T_n ?_
    refine WP_ret ?_
    exact F_ret1 E Try.results43 rfl ⟨_, rfl, M_2, hM_2, (bT (by ((try clear S); (try clear E); first | assumption | omega | rfl | (simp; done) | (simp_all; done) | (simp [List.take_add_one, *]; done) | grind [List.take_add_one]))), S⟩

set_option maxRecDepth 100000 in
set_option maxHeartbeats 4000000 in
theorem lo_AssociateI {M : Hp} {v0 : Value} {l0 : List Int} (h0 : RdI M v0 l0){v1 : Value} {f1 : Int → Int → Int × Int} (h1 : PF2U Try.prog v1 M f1) :
    Pu Try.prog (.func (.func 116) #[] #[]) M [v0, v1] (fun r M' => RdM M' r (encE (Value.int .i64) (mkE (ixm f1 0 l0)))) := by
  refine Pu_enter Try.func116 rfl Try.ntmps116 rfl Try.call116 ?_
  intro a w M1 H hM1 S E
  replace h0 := h0.le hM1
  replace h1 := h1.le hM1
  have b0 := h0.bound
  refine WP_seq ?_
  refine WP_region ?_
  refine S_v E rfl (R_assign E rfl) rfl ?_
  clear E a; intro a E
  refine WL_nil ?_
  refine T_n ?_
  refine WP_seq ?_
  refine WP_region ?_
  refine S_v E rfl (R_move E rfl) rfl ?_
  clear E a; intro a E
  refine S_v E rfl (R_lenV E rfl T22 h0.len) rfl ?_
  clear E a; intro a E
  refine S_x (X_makeMapR E S rfl MT103 rfl ?_)
  clear E a S; rintro a w b_1 E S
  replace S : St w M1 (OwnE (Value.int .i64) b_1 ([] : List (Int × Int)) :: _) := S
  refine S_v E rfl (R_assign E rfl) rfl ?_
  clear E a; intro a E
  refine WL_nil ?_
  refine T_n ?_
  refine WP_seq ?_
  refine WP_seq ?_
  refine WP_region ?_
  refine S_v E rfl (R_move E rfl) rfl ?_
  clear E a; intro a E
  refine S_v E rfl (R_lenV E rfl T22 h0.len) rfl ?_
  clear E a; intro a E
  refine S_v E rfl (R_move E rfl) rfl ?_
  clear E a; intro a E
  refine WL_nil ?_
  refine T_n ?_
  refine WP_block ?_
  replace S := S.reM (L' := (encE (Value.int .i64) (mkE (ixm f1 0 (l0.take 0))))) (congrArg (encE (Value.int .i64)) (show ([] : List (Int × Int)) = mkE (ixm f1 0 (l0.take 0)) by first | rfl | (simp [mkE, ixm]; done) | exact mkE_ix (by assumption)))
  refine WP_loop (γ := Nat) (fun (k : Nat) a w => ∃ (M_2 : Hp), Hp.le M1 M_2 ∧ St w M_2 (OwnE (Value.int .i64) b_1 (mkE (ixm f1 0 (l0.take k))) :: H) ∧ Env a 32 [] [(1, v1), (5, .map (some b_1)), (13, v0), (14, .int .i64 (((l0).length : Nat) : Int)), (15, .int .i64 ((k : Nat) : Int))] ∧ (k ≤ (l0).length)) (fun k => ((l0).length) - k) 0 ⟨M1, Hp.le.refl _, S, E.keep ⟨rfl, rfl, rfl, rfl, rfl, trivial⟩, by ((try clear S); (try clear E); first | assumption | omega | rfl | (simp; done) | (simp_all; done) | (simp [List.take_add_one, *]; done) | grind [List.take_add_one])⟩ ?_
  try clear E
  try clear S
  try clear a
  try clear w
  rintro k a w ⟨M_2, hM_2, S, E, hL0_0⟩
  replace h0 := h0.le hM_2
  replace h1 := h1.le hM_2
  refine WP_seq ?_
  refine WP_region ?_
  refine S_v E rfl (R_lss E rfl rfl) rfl ?_
  clear E a; intro a E
  refine WL_nil ?_
  refine T_n ?_
  refine WP_seq ?_
  refine WP_cond E rfl (fun hc_3 => ?_) (fun hc_3 => ?_)
  · replace hc_3 := of_decide_eq_true hc_3
    refine WP_skip ?_
    refine T_n ?_
    refine WP_seq ?_
    refine WP_block ?_
    refine WP_seq ?_
    refine WP_region ?_
    refine S_v E rfl (R_move E rfl) rfl ?_
    clear E a; intro a E
    obtain ⟨x_4, hx_4⟩ : ∃ x, (l0)[k]? = some x := ⟨_, List.getElem?_eq_getElem (by first | omega | (simp; done) | (simp; omega) | (simp_all; omega))⟩
    obtain ⟨p_5, hp_5, qp_5⟩ := h0.at hx_4
    refine S_v E rfl (R_idx E rfl rfl T22 hp_5 rfl) rfl ?_
    clear E a; intro a E
    refine S_v E rfl (R_loadM E rfl Try.isAgg3 S.imm qp_5) rfl ?_
    clear E a; intro a E
    refine S_v E rfl (R_assign E rfl) rfl ?_
    clear E a; intro a E
    refine S_v E rfl (R_assign E rfl) rfl ?_
    clear E a; intro a E
    refine WL_nil ?_
    refine T_n ?_
    refine WP_seq ?_
    refine WP_region ?_
    refine S_v E rfl (R_move E rfl) rfl ?_
    clear E a; intro a E
    refine S_v E rfl (R_move E rfl) rfl ?_
    clear E a; intro a E
    refine S_v E rfl (R_move E rfl) rfl ?_
    clear E a; intro a E
    refine S_x (X_pu E S rfl rfl rfl (h1.2 x_4 ((k : Nat) : Int)) (Hp.le.refl _) ?_)
    clear E a S; rintro a _ w M_6 hM_6 rfl S E
    replace h0 := h0.le hM_6
    replace h1 := h1.le hM_6
    refine S_v E rfl (R_move E rfl) rfl ?_
    clear E a; intro a E
    refine S_v E rfl (R_extract E rfl rfl) rfl ?_
    clear E a; intro a E
    refine S_v E rfl (R_extract E rfl rfl) rfl ?_
    clear E a; intro a E
    refine S_v E rfl (R_assign E rfl) rfl ?_
    clear E a; intro a E
    refine S_v E rfl (R_assign E rfl) rfl ?_
    clear E a; intro a E
    refine WL_nil ?_
    refine T_n ?_
    refine WP_region ?_
    refine S_v E rfl (R_move E rfl) rfl ?_
    clear E a; intro a E
    refine S_v E rfl (R_move E rfl) rfl ?_
    clear E a; intro a E
    refine S_v E rfl (R_move E rfl) rfl ?_
    clear E a; intro a E
    refine S_x0 (X_updateE (vf := (Value.int .i64)) (u := (f1 x_4 ((k : Nat) : Int)).2) E S MT103 rfl rfl rfl ?_)
    clear E a S; rintro a w E S
    refine WL_nil ?_
    refine B_n ?_
    refine T_n ?_
    refine WP_region ?_
    refine S_v E rfl (R_addx (m := ((k + 1 : Nat) : Int)) E rfl rfl (by omega) (by omega)) rfl ?_
    clear E a; intro a E
    refine S_v E rfl (R_move E rfl) rfl ?_
    clear E a; intro a E
    refine WL_nil ?_
    refine T_n ?_
    replace S := S.reM (L' := (encE (Value.int .i64) (mkE (ixm f1 0 (l0.take (k + 1)))))) (congrArg (encE (Value.int .i64)) (show putK (mkE (ixm f1 0 (l0.take k))) ((f1 x_4 ((k : Nat) : Int)).1) ((f1 x_4 ((k : Nat) : Int)).2) = mkE (ixm f1 0 (l0.take (k + 1))) by first | rfl | (simp [mkE, ixm]; done) | exact mkE_ix (by assumption)))
    exact ⟨k + 1, ⟨M_6, (hM_2.trans hM_6), S, E.keep ⟨rfl, rfl, rfl, rfl, rfl, trivial⟩, by ((try clear S); (try clear E); first | assumption | omega | rfl | (simp; done) | (simp_all; done) | (simp [List.take_add_one, *]; done) | grind [List.take_add_one])⟩, by omega⟩
  · replace hc_3 := of_decide_eq_false hc_3
    refine WP_exit ?_
    refine T_x ?_
    refine T_x ?_
    refine B_x ?_
    refine T_n ?_
    refine WP_seq ?_
    refine WP_region ?_
    refine S_v E rfl (R_move E rfl) rfl ?_
    clear E a; intro a E
    refine S_v E rfl (R_assign E rfl) rfl ?_
    clear E a; intro a E
    refine WL_nil ?_
    refine T_n ?_
    refine WP_ret ?_
    have S0 := S; clear S
    obtain ⟨M_7, hM_7, hm_8, S⟩ := S0.freezeM
    clear S0
    replace h0 := h0.le hM_7
    replace h1 := h1.le hM_7
    exact F_ret1 E Try.results116 rfl ⟨_, rfl, M_7, (hM_2.trans hM_7), (by rw [show (mkE (ixm f1 0 l0)) = (mkE (ixm f1 0 (l0.take k))) from by (rw [List.take_of_length_le (by omega)])]; exact hm_8), S⟩

set_option maxRecDepth 100000 in
set_option maxHeartbeats 4000000 in
theorem impl_mod {M : Hp} {x0 x1 : Int} (hn : x1 ≠ 0) (g1 : -9223372036854775808 ≤ x1 ∧ x1 ≤ 9223372036854775807) :
    Pu Try.prog (.func (.func 170) #[] #[]) M [.int .i64 x0, .int .i64 x1] (fun r M' => r = .int .i64 (x0 % x1)) := by
  refine Pu_enter Try.func170 rfl Try.ntmps170 rfl Try.call170 ?_
  intro a w M1 H hM1 S E
  have ht := tmod_emod x0 x1 hn
  refine WP_seq ?_
  refine WP_region ?_
  refine S_v E rfl (R_assign E rfl) rfl ?_
  clear E a; intro a E
  refine WL_nil ?_
  refine T_n ?_
  refine WP_seq ?_
  refine WP_region ?_
  refine S_v E rfl (R_move E rfl) rfl ?_
  clear E a; intro a E
  refine S_v E rfl (R_move E rfl) rfl ?_
  clear E a; intro a E
  refine S_v E rfl (R_rem E rfl rfl (by first | decide | omega)) rfl ?_
  clear E a; intro a E
  refine S_v E rfl (R_assign E rfl) rfl ?_
  clear E a; intro a E
  refine WL_nil ?_
  refine T_n ?_
  refine WP_seq ?_
  refine WP_seq ?_
  refine WP_region ?_
  refine S_v E rfl (R_move E rfl) rfl ?_
  clear E a; intro a E
  refine S_v E rfl (R_lss E rfl rfl) rfl ?_
  clear E a; intro a E
  refine WL_nil ?_
  refine T_n ?_
  refine WP_cond E rfl (fun hc_1 => ?_) (fun hc_1 => ?_)
  · replace hc_1 := of_decide_eq_true hc_1
    refine WP_seq ?_
    refine WP_seq ?_
    refine WP_region ?_
    refine S_v E rfl (R_move E rfl) rfl ?_
    clear E a; intro a E
    refine S_v E rfl (R_lss E rfl rfl) rfl ?_
    clear E a; intro a E
    refine WL_nil ?_
    refine T_n ?_
    refine WP_cond E rfl (fun hc_2 => ?_) (fun hc_2 => ?_)
    · replace hc_2 := of_decide_eq_true hc_2
      refine WP_seq ?_
      refine WP_region ?_
      refine S_v E rfl (R_move E rfl) rfl ?_
      clear E a; intro a E
      refine S_v E rfl (R_move E rfl) rfl ?_
      clear E a; intro a E
      refine S_v E rfl (R_subx (m := (Int.tmod x0 x1) - x1) E rfl rfl (by omega) (by omega)) rfl ?_
      clear E a; intro a E
      refine S_v E rfl (R_assign E rfl) rfl ?_
      clear E a; intro a E
      refine WL_nil ?_
      refine T_n ?_
      refine WP_ret ?_
      refine T_r ?_
      refine T_r ?_
      exact F_ret1 E Try.results170 rfl ⟨_, rfl, M1, (Hp.le.refl _), (congrArg (Value.int .i64) (by omega)), S⟩
    · replace hc_2 := of_decide_eq_false hc_2
      refine WP_skip ?_
      refine T_n ?_
      refine WP_seq ?_
      refine WP_region ?_
      refine S_v E rfl (R_move E rfl) rfl ?_
      clear E a; intro a E
      refine S_v E rfl (R_move E rfl) rfl ?_
      clear E a; intro a E
      refine S_v E rfl (R_addx (m := (Int.tmod x0 x1) + x1) E rfl rfl (by omega) (by omega)) rfl ?_
      clear E a; intro a E
      refine S_v E rfl (R_assign E rfl) rfl ?_
      clear E a; intro a E
      refine WL_nil ?_
      refine T_n ?_
      refine WP_ret ?_
      refine T_r ?_
      exact F_ret1 E Try.results170 rfl ⟨_, rfl, M1, (Hp.le.refl _), (congrArg (Value.int .i64) (by omega)), S⟩
  · replace hc_1 := of_decide_eq_false hc_1
    refine WP_skip ?_
    refine T_n ?_
    refine WP_seq ?_
    refine WP_region ?_
    refine S_v E rfl (R_move E rfl) rfl ?_
    clear E a; intro a E
    refine S_v E rfl (R_assign E rfl) rfl ?_
    clear E a; intro a E
    refine WL_nil ?_
    refine T_n ?_
    refine WP_ret ?_
    exact F_ret1 E Try.results170 rfl ⟨_, rfl, M1, (Hp.le.refl _), (congrArg (Value.int .i64) (by omega)), S⟩

set_option maxRecDepth 100000 in
set_option maxHeartbeats 4000000 in
theorem Key_at_c {M : Hp} {kk0 kn0 : Int} (gk0 : -9223372036854775808 ≤ kn0 ∧ kn0 ≤ 9223372036854775807){x1 x2 : Int} :
    PuC Try.prog 118 M [.agg #[.int .i64 kk0, .int .i64 kn0], .int .i64 x1, .int .i64 x2] (fun r M' => r = .int .i64 (keyAt kk0 kn0 x1 x2)) := by
  refine PuC_enter Try.func118 rfl Try.ntmps118 rfl ?_
  intro a w M1 H hM1 S E
  refine WP_seq ?_
  refine WP_region ?_
  refine S_x (X_box (cs := #[.int .i64 kk0, .int .i64 kn0]) E S rfl rfl rfl ?_)
  clear E a S; rintro a w b_1 E S
  obtain ⟨M_2, hM_2, hb_1, S⟩ := S.freezeB
  refine S_v E rfl (R_assign E rfl) rfl ?_
  clear E a; intro a E
  refine WL_nil ?_
  refine T_n ?_
  refine WP_seq ?_
  refine WP_seq ?_
  refine WP_region ?_
  refine S_v E rfl (R_fieldAddr E rfl (FA24_0 _)) rfl ?_
  clear E a; intro a E
  refine S_v E rfl (R_loadM E rfl Try.isAgg3 S.imm (cellM_boxo hb_1 rfl)) rfl ?_
  clear E a; intro a E
  refine WL_nil ?_
  refine T_n ?_
  refine WP_block ?_
  refine WP_seq ?_
  refine WP_region ?_
  refine S_v E rfl (R_eql E rfl rfl) rfl ?_
  clear E a; intro a E
  refine S_v E rfl (R_assign E rfl) rfl ?_
  clear E a; intro a E
  refine WL_nil ?_
  refine T_n ?_
  refine WP_cond E rfl (fun hc_3 => ?_) (fun hc_3 => ?_)
  · replace hc_3 := of_decide_eq_true hc_3
    refine WP_seq ?_
    refine WP_region ?_
    refine S_v E rfl (R_move E rfl) rfl ?_
    clear E a; intro a E
    refine S_v E rfl (R_fieldAddr E rfl (FA24_1 _)) rfl ?_
    clear E a; intro a E
    refine S_v E rfl (R_loadM E rfl Try.isAgg3 S.imm (cellM_boxo hb_1 rfl)) rfl ?_
    clear E a; intro a E
    refine S_v E rfl (R_add E rfl rfl) rfl ?_
    clear E a; intro a E
    refine S_v E rfl (R_assign E rfl) rfl ?_
    clear E a; intro a E
    refine WL_nil ?_
    refine T_n ?_
    refine WP_ret ?_
    refine B_r ?_
    refine T_r ?_
    exact F_ret1 E Try.results118 rfl ⟨_, rfl, M_2, hM_2, (congrArg (Value.int .i64) (by (clear E S; unfold keyAt w64; first | (simp [*]; done) | (simp_all; done)))), S⟩
  · replace hc_3 := of_decide_eq_false hc_3
    refine WP_seq ?_
    refine WP_region ?_
    refine S_v E rfl (R_eql E rfl rfl) rfl ?_
    clear E a; intro a E
    refine S_v E rfl (R_assign E rfl) rfl ?_
    clear E a; intro a E
    refine WL_nil ?_
    refine T_n ?_
    refine WP_cond E rfl (fun hc_4 => ?_) (fun hc_4 => ?_)
    · replace hc_4 := of_decide_eq_true hc_4
      refine WP_seq ?_
      refine WP_region ?_
      refine S_v E rfl (R_move E rfl) rfl ?_
      clear E a; intro a E
      refine S_v E rfl (R_fieldAddr E rfl (FA24_1 _)) rfl ?_
      clear E a; intro a E
      refine S_v E rfl (R_loadM E rfl Try.isAgg3 S.imm (cellM_boxo hb_1 rfl)) rfl ?_
      clear E a; intro a E
      refine S_v E rfl (R_mul E rfl rfl) rfl ?_
      clear E a; intro a E
      refine S_v E rfl (R_assign E rfl) rfl ?_
      clear E a; intro a E
      refine WL_nil ?_
      refine T_n ?_
      refine WP_ret ?_
      refine B_r ?_
      refine T_r ?_
      exact F_ret1 E Try.results118 rfl ⟨_, rfl, M_2, hM_2, (congrArg (Value.int .i64) (by (clear E S; unfold keyAt w64; first | (simp [*]; done) | (simp_all; done)))), S⟩
    · replace hc_4 := of_decide_eq_false hc_4
      refine WP_seq ?_
      refine WP_region ?_
      refine S_v E rfl (R_eql E rfl rfl) rfl ?_
      clear E a; intro a E
      refine S_v E rfl (R_assign E rfl) rfl ?_
      clear E a; intro a E
      refine WL_nil ?_
      refine T_n ?_
      refine WP_cond E rfl (fun hc_5 => ?_) (fun hc_5 => ?_)
      · replace hc_5 := of_decide_eq_true hc_5
        refine WP_seq ?_
        refine WP_region ?_
        refine S_v E rfl (R_fieldAddr E rfl (FA24_1 _)) rfl ?_
        clear E a; intro a E
        refine S_v E rfl (R_loadM E rfl Try.isAgg3 S.imm (cellM_boxo hb_1 rfl)) rfl ?_
        clear E a; intro a E
        refine S_v E rfl (R_neq E rfl rfl) rfl ?_
        clear E a; intro a E
        refine WL_nil ?_
        refine T_n ?_
        refine WP_cond E rfl (fun hc_6 => ?_) (fun hc_6 => ?_)
        · replace hc_6 := of_decide_eq_true hc_6
          refine WP_seq ?_
          refine WP_region ?_
          refine S_v E rfl (R_move E rfl) rfl ?_
          clear E a; intro a E
          refine S_v E rfl (R_fieldAddr E rfl (FA24_1 _)) rfl ?_
          clear E a; intro a E
          refine S_v E rfl (R_loadM E rfl Try.isAgg3 S.imm (cellM_boxo hb_1 rfl)) rfl ?_
          clear E a; intro a E
          refine S_x (X_pu E S rfl rfl rfl (impl_mod (by first | omega | assumption) (by omega)) (Hp.le.refl _) ?_)
          clear E a S; rintro a _ w M_7 hM_7 rfl S E
          replace hb_1 := hM_7.2 _ _ hb_1
          refine S_v E rfl (R_assign E rfl) rfl ?_
          clear E a; intro a E
          refine WL_nil ?_
          refine T_n ?_
          refine WP_ret ?_
          refine B_r ?_
          refine T_r ?_
          exact F_ret1 E Try.results118 rfl ⟨_, rfl, M_7, (hM_2.trans hM_7), (congrArg (Value.int .i64) (by (clear E S; unfold keyAt w64; first | (simp [*]; done) | (simp_all; done)))), S⟩
        · replace hc_6 := of_decide_eq_false hc_6
          refine WP_skip ?_
          refine B_n ?_
          refine T_n ?_
          refine WP_seq ?_
          refine WP_region ?_
          refine S_v E rfl (R_move E rfl) rfl ?_
          clear E a; intro a E
          refine S_v E rfl (R_assign E rfl) rfl ?_
          clear E a; intro a E
          refine WL_nil ?_
          refine T_n ?_
          refine WP_ret ?_
          exact F_ret1 E Try.results118 rfl ⟨_, rfl, M_2, hM_2, (congrArg (Value.int .i64) (by (clear E S; unfold keyAt w64; first | (simp [*]; done) | (simp_all; done)))), S⟩
      · replace hc_5 := of_decide_eq_false hc_5
        refine WP_seq ?_
        refine WP_region ?_
        refine S_v E rfl (R_eql E rfl rfl) rfl ?_
        clear E a; intro a E
        refine S_v E rfl (R_assign E rfl) rfl ?_
        clear E a; intro a E
        refine WL_nil ?_
        refine T_n ?_
        refine WP_cond E rfl (fun hc_8 => ?_) (fun hc_8 => ?_)
        · replace hc_8 := of_decide_eq_true hc_8
          refine WP_seq ?_
          refine WP_region ?_
          refine S_v E rfl (R_fieldAddr E rfl (FA24_1 _)) rfl ?_
          clear E a; intro a E
          refine S_v E rfl (R_loadM E rfl Try.isAgg3 S.imm (cellM_boxo hb_1 rfl)) rfl ?_
          clear E a; intro a E
          refine S_v E rfl (R_assign E rfl) rfl ?_
          clear E a; intro a E
          refine WL_nil ?_
          refine T_n ?_
          refine WP_ret ?_
          refine B_r ?_
          refine T_r ?_
          exact F_ret1 E Try.results118 rfl ⟨_, rfl, M_2, hM_2, (congrArg (Value.int .i64) (by (clear E S; unfold keyAt w64; first | (simp [*]; done) | (simp_all; done)))), S⟩
        · replace hc_8 := of_decide_eq_false hc_8
          refine WP_seq ?_
          refine WP_region ?_
          refine S_v E rfl (R_eql E rfl rfl) rfl ?_
          clear E a; intro a E
          refine S_v E rfl (R_assign E rfl) rfl ?_
          clear E a; intro a E
          refine WL_nil ?_
          refine T_n ?_
          refine WP_cond E rfl (fun hc_9 => ?_) (fun hc_9 => ?_)
          · replace hc_9 := of_decide_eq_true hc_9
            refine WP_seq ?_
            refine WP_region ?_
            refine S_v E rfl (R_move E rfl) rfl ?_
            clear E a; intro a E
            refine S_v E rfl (R_assign E rfl) rfl ?_
            clear E a; intro a E
            refine WL_nil ?_
            refine T_n ?_
            refine WP_ret ?_
            refine B_r ?_
            refine T_r ?_
            exact F_ret1 E Try.results118 rfl ⟨_, rfl, M_2, hM_2, (congrArg (Value.int .i64) (by (clear E S; unfold keyAt w64; first | (simp [*]; done) | (simp_all; done)))), S⟩
          · replace hc_9 := of_decide_eq_false hc_9
            refine WP_skip ?_
            refine B_n ?_
            refine T_n ?_
            refine WP_seq ?_
            refine WP_region ?_
            refine S_v E rfl (R_move E rfl) rfl ?_
            clear E a; intro a E
            refine S_v E rfl (R_assign E rfl) rfl ?_
            clear E a; intro a E
            refine WL_nil ?_
            refine T_n ?_
            refine WP_ret ?_
            exact F_ret1 E Try.results118 rfl ⟨_, rfl, M_2, hM_2, (congrArg (Value.int .i64) (by (clear E S; unfold keyAt w64; first | (simp [*]; done) | (simp_all; done)))), S⟩
theorem Key_at {M : Hp} {kk0 kn0 : Int} (gk0 : -9223372036854775808 ≤ kn0 ∧ kn0 ≤ 9223372036854775807){x1 x2 : Int} :
    Pu Try.prog (.func (.func 118) #[.agg #[.int .i64 kk0, .int .i64 kn0]] #[]) M [.int .i64 x1, .int .i64 x2] (fun r M' => r = .int .i64 (keyAt kk0 kn0 x1 x2)) := PuC.pu Try.call118 rfl (Key_at_c gk0)
theorem Key_at_d {M : Hp} {kk0 kn0 : Int} (gk0 : -9223372036854775808 ≤ kn0 ∧ kn0 ≤ 9223372036854775807){x1 x2 : Int} :
    Pu Try.prog (.func (.func 118) #[] #[]) M [.agg #[.int .i64 kk0, .int .i64 kn0], .int .i64 x1, .int .i64 x2] (fun r M' => r = .int .i64 (keyAt kk0 kn0 x1 x2)) := PuC.pu Try.call118 rfl (Key_at_c gk0)

set_option maxRecDepth 100000 in
set_option maxHeartbeats 4000000 in
theorem impl_Associate1 {M : Hp} {kk8 kn8 : Int} (gk8 : -9223372036854775808 ≤ kn8 ∧ kn8 ≤ 9223372036854775807) {bx8 : Nat} (hbx8 : M bx8 = some (.cells #[.int .i64 kk8, .int .i64 kn8] 24)) {kk9 kn9 : Int} (gk9 : -9223372036854775808 ≤ kn9 ∧ kn9 ≤ 9223372036854775807) {bx9 : Nat} (hbx9 : M bx9 = some (.cells #[.int .i64 kk9, .int .i64 kn9] 24)) {x0 x1 : Int} :
    Pu Try.prog (.func (.func 117) #[] #[.pointer (some ⟨bx8, 0, none⟩), .pointer (some ⟨bx9, 0, none⟩)]) M [.int .i64 x0, .int .i64 x1] (fun r M' => r = .tuple #[.int .i64 (keyAt kk8 kn8 x0 x1), .int .i64 (keyAt kk9 kn9 x0 x1)]) := by
  refine Pu_enter Try.func117 rfl Try.ntmps117 rfl Try.call117 ?_
  intro a w M1 H hM1 S E
  replace hbx8 := hM1.2 _ _ hbx8
  replace hbx9 := hM1.2 _ _ hbx9
  refine WP_seq ?_
  refine WP_region ?_
  refine S_v E rfl (R_assign E rfl) rfl ?_
  clear E a; intro a E
  refine S_v E rfl (R_assign E rfl) rfl ?_
  clear E a; intro a E
  refine WL_nil ?_
  refine T_n ?_
  refine WP_seq ?_
  have hbx8k0 := hbx8
  have hbx9k0 := hbx9
  replace S := S.mono_heap (w' := World.drew _) rfl
  refine WP_drawn (C := fun x w => agree M1 w) (bf := (fun i => [])) [0, 1, 2, 4, 5, 6, 8, 9] [0, 1, 2, 4, 5, 6, 3, 7, 8, 9] Try.mixed (by kernel_rfl) (fun x hq => S.imm) ?_
  refine D_v E rfl rfl rfl (fun w hC => (R_loadGM E rfl (Try.isAgg24 _) (Try.sizeOf24 _) hC hbx8k0)) ?_
  clear E a; intro a E
  refine D_v E rfl rfl rfl (fun w hC => (R_move E rfl)) ?_
  clear E a; intro a E
  refine D_v E rfl rfl rfl (fun w hC => (R_move E rfl)) ?_
  clear E a; intro a E
  refine D_v E rfl rfl rfl (fun w hC => (R_loadGM E rfl (Try.isAgg24 _) (Try.sizeOf24 _) hC hbx9k0)) ?_
  clear E a; intro a E
  refine D_v E rfl rfl rfl (fun w hC => (R_move E rfl)) ?_
  clear E a; intro a E
  refine D_v E rfl rfl rfl (fun w hC => (R_move E rfl)) ?_
  clear E a; intro a E
  refine D_x rfl rfl rfl (X_pu E S rfl rfl rfl (Key_at_d (by omega)) (Hp.le.refl _) ?_)
  clear E a S; rintro a _ w M_1 hM_1 rfl S E
  replace hbx8 := hM_1.2 _ _ hbx8
  replace hbx9 := hM_1.2 _ _ hbx9
  refine ⟨fun x hq hb => (agree_le hM_1 S.imm), ?_⟩
  refine D_x rfl rfl rfl (X_pu E S rfl rfl rfl (Key_at_d (by omega)) (Hp.le.refl _) ?_)
  clear E a S; rintro a _ w M_2 hM_2 rfl S E
  replace hbx8 := hM_2.2 _ _ hbx8
  replace hbx9 := hM_2.2 _ _ hbx9
  refine ⟨fun x hq hb => (agree_le (hM_1.trans hM_2) S.imm), ?_⟩
  refine D_v E rfl rfl rfl (fun w hC => (R_assign E rfl)) ?_
  clear E a; intro a E
  refine D_v E rfl rfl rfl (fun w hC => (R_assign E rfl)) ?_
  clear E a; intro a E
  refine D_end (NoP_n ?_)
  refine T_n ?_
  refine WP_ret ?_
  exact F_ret2 E Try.results117 rfl rfl ⟨_, rfl, M_2, (hM_1.trans hM_2), (by first | rfl | (simp; done) | (simp_all; done)), S⟩

set_option maxRecDepth 100000 in
set_option maxHeartbeats 4000000 in
def Try.gsv6_ren : Go.Shelf.Ren := ⟨fun | 6 => 162 | 10 => 174 | 11 => 175 | 12 => 176 | 13 => 177 | 14 => 178 | 24 => 191 | 25 => 192 | 26 => 193 | 27 => 194 | 28 => 195 | 29 => 196 | 30 => 197 | 31 => 198 | 32 => 199 | 33 => 200 | 34 => 202 | 35 => 203 | 36 => 204 | 37 => 205 | 38 => 206 | 39 => 216 | n => n, fun | 20 => 20 | 26 => 121 | 35 => 162 | 0 => 0 | 37 => 164 | 3 => 3 | 41 => 168 | 44 => 171 | 49 => 177 | 51 => 172 | 4 => 4 | 54 => 181 | 53 => 180 | 58 => 153 | 5 => 5 | 9 => 9 | 60 => 187 | 64 => 191 | 66 => 200 | 67 => 152 | 17 => 17 | 32 => 159 | 33 => 160 | 82 => 220 | 12 => 12 | 75 => 213 | 76 => 214 | 77 => 215 | 78 => 216 | 79 => 217 | 80 => 218 | n => n, fun | n => n⟩
set_option maxRecDepth 100000 in
set_option maxHeartbeats 4000000 in
theorem Try.gsv6 : Go.Proofs.LaysGg.n6 Try.prog Try.gsv6_ren := {
  mixed := by kernel_rfl,
  f6 := Try.func162.trans (congrArg some (by kernel_rfl)),
  f10 := Try.func174.trans (congrArg some (by kernel_rfl)),
  f11 := Try.func175.trans (congrArg some (by kernel_rfl)),
  f12 := Try.func176.trans (congrArg some (by kernel_rfl)),
  f13 := Try.func177.trans (congrArg some (by kernel_rfl)),
  f14 := Try.func178.trans (congrArg some (by kernel_rfl)),
  f24 := Try.func191.trans (congrArg some (by kernel_rfl)),
  f25 := Try.func192.trans (congrArg some (by kernel_rfl)),
  f26 := Try.func193.trans (congrArg some (by kernel_rfl)),
  f27 := Try.func194.trans (congrArg some (by kernel_rfl)),
  f28 := Try.func195.trans (congrArg some (by kernel_rfl)),
  f29 := Try.func196.trans (congrArg some (by kernel_rfl)),
  f30 := Try.func197.trans (congrArg some (by kernel_rfl)),
  f31 := Try.func198.trans (congrArg some (by kernel_rfl)),
  f32 := Try.func199.trans (congrArg some (by kernel_rfl)),
  f33 := Try.func200.trans (congrArg some (by kernel_rfl)),
  f34 := Try.func202.trans (congrArg some (by kernel_rfl)),
  f35 := Try.func203.trans (congrArg some (by kernel_rfl)),
  f36 := Try.func204.trans (congrArg some (by kernel_rfl)),
  f37 := Try.func205.trans (congrArg some (by kernel_rfl)),
  f38 := Try.func206.trans (congrArg some (by kernel_rfl)),
  f39 := Try.func216.trans (congrArg some (by kernel_rfl)),
  t0 := Try.underlying0,
  a0 := Try.isAgg0,
  z0 := Try.sizeOf0,
  v0 := Try.zeroValue0,
  i0 := by kernel_rfl,
  t3 := Try.underlying3,
  a3 := Try.isAgg3,
  z3 := Try.sizeOf3,
  v3 := Try.zeroValue3,
  i3 := by kernel_rfl,
  t4 := Try.underlying4,
  a4 := Try.isAgg4,
  z4 := Try.sizeOf4,
  v4 := Try.zeroValue4,
  i4 := by kernel_rfl,
  t5 := Try.underlying5,
  a5 := Try.isAgg5,
  z5 := Try.sizeOf5,
  v5 := Try.zeroValue5,
  i5 := by kernel_rfl,
  t9 := Try.underlying9,
  a9 := Try.isAgg9,
  z9 := Try.sizeOf9,
  v9 := Try.zeroValue9,
  i9 := by kernel_rfl,
  t12 := Try.underlying12,
  a12 := Try.isAgg12,
  z12 := Try.sizeOf12,
  v12 := Try.zeroValue12,
  i12 := by kernel_rfl,
  t17 := Try.underlying17,
  a17 := Try.isAgg17,
  z17 := Try.sizeOf17,
  v17 := Try.zeroValue17,
  i17 := by kernel_rfl,
  t20 := Try.underlying20,
  a20 := Try.isAgg20,
  z20 := Try.sizeOf20,
  v20 := Try.zeroValue20,
  i20 := by kernel_rfl,
  t26 := Try.underlying121,
  a26 := Try.isAgg121,
  z26 := Try.sizeOf121,
  v26 := Try.zeroValue121,
  i26 := by kernel_rfl,
  t32 := Try.underlying159,
  a32 := Try.isAgg159,
  z32 := Try.sizeOf159,
  v32 := Try.zeroValue159,
  i32 := by kernel_rfl,
  t33 := Try.underlying160,
  a33 := Try.isAgg160,
  z33 := Try.sizeOf160,
  v33 := Try.zeroValue160,
  i33 := by kernel_rfl,
  t35 := Try.underlying162,
  a35 := Try.isAgg162,
  z35 := Try.sizeOf162,
  v35 := Try.zeroValue162,
  i35 := by kernel_rfl,
  t37 := Try.underlying164,
  a37 := Try.isAgg164,
  z37 := Try.sizeOf164,
  v37 := Try.zeroValue164,
  i37 := by kernel_rfl,
  t41 := Try.underlying168,
  a41 := Try.isAgg168,
  z41 := Try.sizeOf168,
  v41 := Try.zeroValue168,
  i41 := by kernel_rfl,
  t44 := Try.underlying171,
  a44 := Try.isAgg171,
  z44 := Try.sizeOf171,
  v44 := Try.zeroValue171,
  i44 := by kernel_rfl,
  t49 := Try.underlying177,
  a49 := Try.isAgg177,
  z49 := Try.sizeOf177,
  v49 := Try.zeroValue177,
  i49 := by kernel_rfl,
  t51 := Try.underlying172,
  a51 := Try.isAgg172,
  z51 := Try.sizeOf172,
  v51 := Try.zeroValue172,
  i51 := by kernel_rfl,
  t53 := Try.underlying180,
  a53 := Try.isAgg180,
  z53 := Try.sizeOf180,
  v53 := Try.zeroValue180,
  i53 := by kernel_rfl,
  t54 := Try.underlying181,
  a54 := Try.isAgg181,
  z54 := Try.sizeOf181,
  v54 := Try.zeroValue181,
  i54 := by kernel_rfl,
  t58 := Try.underlying153,
  a58 := Try.isAgg153,
  z58 := Try.sizeOf153,
  v58 := Try.zeroValue153,
  i58 := by kernel_rfl,
  t60 := Try.underlying187,
  a60 := Try.isAgg187,
  z60 := Try.sizeOf187,
  v60 := Try.zeroValue187,
  i60 := by kernel_rfl,
  t64 := Try.underlying191,
  a64 := Try.isAgg191,
  z64 := Try.sizeOf191,
  v64 := Try.zeroValue191,
  i64 := by kernel_rfl,
  t66 := Try.underlying200,
  a66 := Try.isAgg200,
  z66 := Try.sizeOf200,
  v66 := Try.zeroValue200,
  i66 := by kernel_rfl,
  t67 := Try.underlying152,
  a67 := Try.isAgg152,
  z67 := Try.sizeOf152,
  v67 := Try.zeroValue152,
  i67 := by kernel_rfl,
  t75 := Try.underlying213,
  a75 := Try.isAgg213,
  z75 := Try.sizeOf213,
  v75 := Try.zeroValue213,
  i75 := by kernel_rfl,
  t76 := Try.underlying214,
  a76 := Try.isAgg214,
  z76 := Try.sizeOf214,
  v76 := Try.zeroValue214,
  i76 := by kernel_rfl,
  t77 := Try.underlying215,
  a77 := Try.isAgg215,
  z77 := Try.sizeOf215,
  v77 := Try.zeroValue215,
  i77 := by kernel_rfl,
  t78 := Try.underlying216,
  a78 := Try.isAgg216,
  z78 := Try.sizeOf216,
  v78 := Try.zeroValue216,
  i78 := by kernel_rfl,
  t79 := Try.underlying217,
  a79 := Try.isAgg217,
  z79 := Try.sizeOf217,
  v79 := Try.zeroValue217,
  i79 := by kernel_rfl,
  t80 := Try.underlying218,
  a80 := Try.isAgg218,
  z80 := Try.sizeOf218,
  v80 := Try.zeroValue218,
  i80 := by kernel_rfl,
  t82 := Try.underlying220,
  a82 := Try.isAgg220,
  z82 := Try.sizeOf220,
  v82 := Try.zeroValue220,
  i82 := by kernel_rfl }

set_option maxRecDepth 100000 in
set_option maxHeartbeats 4000000 in
section
open Go Go.Proofs Go.Shelf Go.RowKit Go.Lib Go.Sort
noncomputable def sort_pairsT : TypeInfo := (Try.prog.info? 33).get (by kernel_rfl)
noncomputable def sort_pairsE : TypeInfo := (Try.prog.info? 59).get (by kernel_rfl)
set_option maxHeartbeats 2000000 in
theorem sort_pairs_less (Bs blk off c size : Nat) (W : World) (G : Nat → Int) (hs : W.cell? ⟨Bs, 0, none⟩ = some (.slice (some ⟨blk, off, none⟩) size c))
    (hc : ∀ t, t < size → W.cell? ⟨blk, off + t * 2, none⟩ = some (.int .i64 (G t))) (i j : Nat) (hi : i < size) (hj : j < size) (_hsz : size < 4611686018427387904) :
    Calls Try.prog 163 #[.int .i64 i, .int .i64 j, .pointer (some ⟨Bs, 0, none⟩)] W fun e w' => e = .returned (.bool (decide (G i < G j))) ∧ ∃ q, w' = W.drewN q := by
  have ci := hc i hi
  have cj := hc j hj
  go_enter Try.func163, Try.ntmps163
  go_wp2
  go_quiet (fail)
  go_wp2
  go_ret
  exact ⟨rfl, nq, rfl⟩
theorem sort_pairs_sw2 (n : Nat) (h : 2 ≤ n) : Lib.swapperK n sort_pairsE 25 = 9 := by
  have c : (n == 0) = false := by simp; omega
  have d : (n == 1) = false := by simp; omega
  have e : sort_pairsE.hasPointers = false := by kernel_rfl
  have b : sort_pairsE.bytes = 16 := by kernel_rfl
  simp [Lib.swapperK, c, d, e, b]
theorem sort_pairs_sw1 : Lib.swapperK 1 sort_pairsE 25 = 2 := rfl
theorem sort_pairs_sw0 : Lib.swapperK 0 sort_pairsE 25 = 1 := rfl
theorem sort_pairs {Bs : Nat} {M : Hp} {v : Value} {l : List (Int × Int)} {xs : List Value} (hr : RowsR RP2 2 M l xs) (hn : (l.map Prod.fst).Nodup) (hb : l.length ≤ 1000000000000) :
    Sp Try.prog (.func (.func 162) #[] #[]) M [.iface 33 v, .func (.func 163) #[] #[.pointer (some ⟨Bs, 0, none⟩)]] [OwnC 59 2 v l.length xs, Go.Sl.blk Bs (.cells #[v] 33)]
      (fun r M' C' => ∃ xs', RowsR RP2 2 M' (srtK Prod.fst l) xs' ∧ C' = [OwnC 59 2 v (srtK Prod.fst l).length xs', Go.Sl.blk Bs (.cells #[v] 33)]) :=
  sortK_sp Try.call162 (fun blk off c size W G a b i j c1 c2 c3 => sort_pairs_less Bs blk off c size W G a b i j c1 c2 c3)
    (fun blk c d w h2 hsz hless hH hblk => Any.sort_Slice_cells_sorted Try.gsv6 33 59 sort_pairsT sort_pairsE (by kernel_rfl) (by kernel_rfl) (by kernel_rfl) (by kernel_rfl) 25 (fun _ => by kernel_rfl) encK 2 (fun _ => rfl) (by kernel_rfl) (fun _ => by kernel_rfl)
      encK_one ltK swo_ltK 163 _ (enters_of Try.func163 (by kernel_rfl) rfl) blk 0 c d h2 hsz 190 (by rw [sort_pairs_sw2 _ h2]; kernel_rfl) false
      (fun args W => run_callFunc_extern Try.func190 (by kernel_rfl) (by kernel_rfl) (by kernel_rfl) (e := Extern.ReflectliteSwapper.swap false) (by kernel_rfl) args W) w hless hH hblk)
    (fun p n c w h1 => by
      rcases (show n = 0 ∨ n = 1 by omega) with rfl | rfl
      · exact Any.sort_Slice_tiny Try.gsv6 33 59 sort_pairsT sort_pairsE (by kernel_rfl) (by kernel_rfl) (by kernel_rfl) (by kernel_rfl) 25 (fun _ => by kernel_rfl) p 0 c h1 182 (by rw [sort_pairs_sw0]; kernel_rfl) _ _ _ w
      · exact Any.sort_Slice_tiny Try.gsv6 33 59 sort_pairsT sort_pairsE (by kernel_rfl) (by kernel_rfl) (by kernel_rfl) (by kernel_rfl) 25 (fun _ => by kernel_rfl) p 1 c h1 183 (by rw [sort_pairs_sw1]; kernel_rfl) _ _ _ w)
    (fun M cs x h => RP2_K h) RP2_mono hr hn hb
end

set_option maxRecDepth 100000 in
set_option maxHeartbeats 4000000 in
theorem impl_pairs {M : Hp} {m0 : Value} {q0 : List (Int × Int)} (hm0 : RdM M m0 (encE (Value.int .i64) q0)) (hb : q0.length ≤ 1000000000000) :
    Pu Try.prog (.func (.func 99) #[] #[]) M [m0] (fun r M' => RdS 2 RP2 M' r (srtK Prod.fst q0)) := by
  refine Pu_enter Try.func99 rfl Try.ntmps99 rfl Try.call99 ?_
  intro a w M1 H hM1 S E
  replace hm0 := hm0.le hM1
  have hnq : (q0.map Prod.fst).Nodup := keys_encE (Value.int .i64) q0 ▸ hm0.nodup
  refine WP_seq ?_
  refine WP_region ?_
  refine S_v E rfl (R_assign E rfl) rfl ?_
  clear E a; intro a E
  refine WL_nil ?_
  refine T_n ?_
  refine WP_seq ?_
  refine WP_region ?_
  refine S_x (X_alloc (cs := #[.slice none 0 0]) E S rfl Try.zeroValue33 rfl ?_)
  clear E a S; rintro a w b_1 E S
  refine WL_nil ?_
  refine T_n ?_
  refine WP_seq ?_
  refine WP_seq ?_
  refine WP_region ?_
  refine S_v E rfl (R_move E rfl) rfl ?_
  clear E a; intro a E
  refine S_x (X_range E S rfl MT103 hm0 rfl ?_)
  clear E a S; rintro a w i_2 es_3 ck_4 E hf_5 S
  replace S : St w M1 (ItO m0 es_3 ck_4 i_2 (encE (Value.int .i64) ([] : List (Int × Int))) :: _) := S
  refine WL_nil ?_
  refine T_n ?_
  refine WP_block ?_
  replace S : St w M1 (OwnC 59 2 (.slice none 0 0) ([] : List (Int × Int)).length [] :: _) := S.ownNil
  have hr_7 : RowsR RP2 2 M1 ([] : List (Int × Int)) [] := RowsR.nil
  replace S := S.front1
  replace S := S.front1
  have hre : ([] : List (Int × Int)) = [] := by first | rfl | (simp; done)
  replace S := S.reR hre
  replace hr_7 := hr_7.eq hre
  clear hre
  replace S := S.front1
  replace S := S.reIt (p' := (encE (Value.int .i64) [])) (congrArg (encE (Value.int .i64)) (show ([] : List (Int × Int)) = [] by first | rfl | (simp; done)))
  refine WP_loop (γ := List (Int × Int)) (fun (p : List (Int × Int)) a w => ∃ (M_8 : Hp) (u3 : Value) (xs3 : List Value), Hp.le M1 M_8 ∧ St w M_8 (ItO m0 es_3 ck_4 i_2 (encE (Value.int .i64) p) :: OwnC 59 2 u3 p.length xs3 :: blk b_1 (.cells #[u3] 33) :: H) ∧ Env a 24 [] [(3, .pointer (some ⟨b_1, 0, none⟩)), (7, .pointer (some ⟨i_2, 0, none⟩))] ∧ ((p.map Prod.fst).Nodup) ∧ (∀ z ∈ p, z ∈ q0) ∧ (p.length ≤ q0.length) ∧ RowsR RP2 2 M_8 p xs3) (fun p => q0.length - p.length) [] ⟨M1, _, _, Hp.le.refl _, S, E.keep ⟨rfl, rfl, trivial⟩, (by simp), (by simp), (by simp), hr_7⟩ ?_
  try clear E
  try clear S
  try clear a
  try clear w
  rintro p a w ⟨M_8, u3, xs3, hM_8, S, E, hL0_0, hL0_1, hL0_2, hr3⟩
  replace hm0 := hm0.le hM_8
  replace hf_5 := hf_5.le hM_8
  refine WP_seq ?_
  refine WP_region ?_
  refine S_x (X_nextE (vf := (Value.int .i64)) E S rfl hf_5 rfl (by assumption) (by assumption) ?_ ?_)
  · clear E a S; rintro a E hpm_9 S
    refine S_v E rfl (R_extract E rfl rfl) rfl ?_
    clear E a; intro a E
    refine WL_nil ?_
    refine T_n ?_
    refine WP_seq ?_
    refine WP_condF E rfl rfl ?_
    refine WP_exit ?_
    refine T_x ?_
    refine T_x ?_
    refine B_x ?_
    refine T_n ?_
    refine WP_seq ?_
    refine WP_region ?_
    refine S_v E rfl (R_load E rfl (Try.isAgg33 _) (cell_blk (S.mem (.tail _ (.tail _ (.head _)))))) rfl ?_
    clear E a; intro a E
    refine S_v E rfl (R_iface E rfl T33.und) rfl ?_
    clear E a; intro a E
    refine S_v E rfl (R_makeFunc E rfl rfl) rfl ?_
    clear E a; intro a E
    replace S := S.front2
    replace S := S.front2
    refine S_x (X_sp (p := [OwnC 59 2 u3 p.length xs3, blk b_1 (.cells #[u3] 33)]) E S rfl rfl rfl (sort_pairs hr3 (by first | assumption | exact keys_perm (by assumption) hnq) (by (first | (rw [srtK_len]; omega) | omega | (simp; omega)))) (Hp.le.refl _) ?_)
    clear E a S; rintro a _ w M_10 _ hM_10 ⟨xs_11, hr_12, rfl⟩ S E
    replace S : St w M_10 (OwnC 59 2 u3 (srtK Prod.fst p).length xs_11 :: blk b_1 (.cells #[u3] 33) :: _) := S
    replace hm0 := hm0.le hM_10
    replace hf_5 := hf_5.le hM_10
    refine WL_nil ?_
    refine T_n ?_
    refine WP_seq ?_
    refine WP_region ?_
    refine S_v E rfl (R_load E rfl (Try.isAgg33 _) (cell_blk (S.mem (.tail _ (.head _))))) rfl ?_
    clear E a; intro a E
    refine S_v E rfl (R_assign E rfl) rfl ?_
    clear E a; intro a E
    refine WL_nil ?_
    refine T_n ?_
    refine WP_ret ?_
    have S0 := S; clear S
    obtain ⟨M_13, hM_13, hz_14, S⟩ := S0.freezeR hr_12 RP2_mono (by (first | (rw [srtK_len]; omega) | omega | (simp; omega)))
    clear S0
    replace hm0 := hm0.le hM_13
    replace hf_5 := hf_5.le hM_13
    exact F_ret1 E Try.results99 rfl ⟨_, rfl, M_13, (hM_8.trans (hM_10.trans hM_13)), (by rw [show (srtK Prod.fst q0) = (srtK Prod.fst p) from by (first | exact srtK_perm_eq hnq (by assumption) | exact (srtK_perm_eq hnq (by assumption)).symm)]; exact hz_14), S.drop.drop⟩
  · clear E a S w; rintro a w k_15 u_17 E hk_16 hk_16n hk_16l S
    refine S_v E rfl (R_extract E rfl rfl) rfl ?_
    clear E a; intro a E
    refine WL_nil ?_
    refine T_n ?_
    refine WP_seq ?_
    refine WP_condT E rfl rfl ?_
    refine WP_skip ?_
    refine T_n ?_
    refine WP_block ?_
    refine WP_seq ?_
    refine WP_region ?_
    refine S_v E rfl (R_entry (k := k_15) (v := .int .i64 u_17) E (by have S1 := S; simp only [encE, List.map_append, List.map_cons, List.map_nil] at S1; exact S1) hf_5 rfl) rfl ?_
    clear E a; intro a E
    refine S_v E rfl (R_extract E rfl rfl) rfl ?_
    clear E a; intro a E
    refine S_v E rfl (R_extract E rfl rfl) rfl ?_
    clear E a; intro a E
    refine S_v E rfl (R_assign E rfl) rfl ?_
    clear E a; intro a E
    refine S_v E rfl (R_assign E rfl) rfl ?_
    clear E a; intro a E
    refine WL_nil ?_
    refine T_n ?_
    refine WP_region ?_
    refine S_v E rfl (R_load E rfl (Try.isAgg33 _) (cell_blk (S.mem (.tail _ (.tail _ (.head _)))))) rfl ?_
    clear E a; intro a E
    refine S_v E rfl (R_move E rfl) rfl ?_
    clear E a; intro a E
    refine S_v E rfl (R_move E rfl) rfl ?_
    clear E a; intro a E
    refine S_v E rfl (R_build (u := .agg #[.int .i64 k_15, .int .i64 u_17]) (vs := [.int .i64 k_15, .int .i64 u_17]) E rfl (fun w => FB59_0_1_ii k_15 u_17 w)) rfl ?_
    clear E a; intro a E
    refine S_x (X_buildA1 (R := RP2) (cs := [.int .i64 k_15, .int .i64 u_17]) (x0 := (k_15, u_17)) RP2_mono E S rfl T33 rfl rfl rfl rfl ?_)
    clear E a S; rintro a v_18 w M_19 hM_19 hv_18 S E
    replace hm0 := hm0.le hM_19
    replace hf_5 := hf_5.le hM_19
    replace hr3 := hr3.le RP2_mono hM_19
    replace S := S.front1
    refine S_x (X_appendR (R := RP2) (zs := p) (ys := [(k_15, u_17)]) E S hr3 rfl rfl rfl T33 hv_18 one_RP2 (by first | omega | (simp; done) | (simp; omega) | (simp_all; omega)) (by first | omega | (simp; done) | (simp; omega) | (simp_all; omega)) ?_)
    clear E a S; rintro a w v_20 xs_21 E hr_22 S
    have ho_23 := S.oneC
    replace S := S.front2
    refine S_x0 (X_store E S rfl rfl (Try.sizeOf33 _) ho_23 ?_)
    clear E a S; rintro a w E S
    refine WL_nil ?_
    refine B_n ?_
    refine T_n ?_
    replace S := S.front1
    replace S := S.front2
    replace S := S.front1
    have hre : p ++ [(k_15, u_17)] = (p ++ [(k_15, u_17)]) := by first | rfl | (simp; done)
    replace S := S.reR hre
    replace hr_22 := hr_22.eq hre
    clear hre
    replace S := S.front1
    replace S := S.reIt (p' := (encE (Value.int .i64) (p ++ [(k_15, u_17)]))) (congrArg (encE (Value.int .i64)) (show p ++ [(k_15, u_17)] = (p ++ [(k_15, u_17)]) by first | rfl | (simp; done)))
    exact ⟨(p ++ [(k_15, u_17)]), ⟨M_19, _, _, (hM_8.trans hM_19), S, E.keep ⟨rfl, rfl, trivial⟩, (by exact snocNk (by assumption) (by assumption)), (by exact snocSk (by assumption) (by assumption)), (by simp; omega), hr_22⟩, (by simp; omega)⟩

set_option maxRecDepth 100000 in
set_option maxHeartbeats 4000000 in
theorem impl_Associate {M : Hp} {v0 : Value} {l0 : List Int} (h0 : RdI M v0 l0){kk1 kn1 : Int} (gk1 : -9223372036854775808 ≤ kn1 ∧ kn1 ≤ 9223372036854775807) {kk2 kn2 : Int} (gk2 : -9223372036854775808 ≤ kn2 ∧ kn2 ≤ 9223372036854775807) (hb : l0.length ≤ 1000000000000) :
    Pu Try.prog (.func (.func 44) #[] #[]) M [v0, .agg #[.int .i64 kk1, .int .i64 kn1], .agg #[.int .i64 kk2, .int .i64 kn2]] (fun r M' => RdS 2 RP2 M' r (entE (ixm (fun x i => (keyAt kk1 kn1 x i, keyAt kk2 kn2 x i)) 0 l0))) := by
  refine Pu_enter Try.func44 rfl Try.ntmps44 rfl Try.call44 ?_
  intro a w M1 H hM1 S E
  replace h0 := h0.le hM1
  have b0 := h0.bound
  refine WP_seq ?_
  refine WP_region ?_
  refine S_x (X_box (cs := #[.int .i64 kk1, .int .i64 kn1]) E S rfl rfl rfl ?_)
  clear E a S; rintro a w b_1 E S
  obtain ⟨M_2, hM_2, hb_1, S⟩ := S.freezeB
  replace h0 := h0.le hM_2
  refine S_x (X_box (cs := #[.int .i64 kk2, .int .i64 kn2]) E S rfl rfl rfl ?_)
  clear E a S; rintro a w b_3 E S
  obtain ⟨M_4, hM_4, hb_3, S⟩ := S.freezeB
  replace h0 := h0.le hM_4
  replace hb_1 := hM_4.2 _ _ hb_1
  refine S_v E rfl (R_assign E rfl) rfl ?_
  clear E a; intro a E
  refine WL_nil ?_
  refine T_n ?_
  refine WP_seq ?_
  refine WP_region ?_
  refine S_v E rfl (R_move E rfl) rfl ?_
  clear E a; intro a E
  refine S_v E rfl (R_makeFunc E rfl rfl) rfl ?_
  clear E a; intro a E
  refine S_x (X_pu E S rfl rfl rfl (lo_AssociateI h0 (f1 := (fun x i => (keyAt kk1 kn1 x i, keyAt kk2 kn2 x i))) ⟨rfl, fun zx0 zx1 => impl_Associate1 (x0 := zx0) (x1 := zx1) (by omega) hb_1 (by omega) hb_3⟩) (Hp.le.refl _) ?_)
  clear E a S; rintro a v_6 w M_5 hM_5 hv_6 S E
  replace h0 := h0.le hM_5
  replace hb_1 := hM_5.2 _ _ hb_1
  replace hb_3 := hM_5.2 _ _ hb_3
  refine S_x (X_pu E S rfl rfl rfl (impl_pairs hv_6 (by first | omega | (exact bigE _ l0 (by first | (rw [ixm_len]; exact Nat.le_refl _) | exact kpix_len _ _ _ | (rw [List.length_map]; exact Nat.le_refl _)) (by omega)) | (first | omega | (simp; omega) | (simp; done) | (simp_all; omega) | grind))) (Hp.le.refl _) ?_)
  clear E a S; rintro a v_8 w M_7 hM_7 hv_8 S E
  replace h0 := h0.le hM_7
  replace hb_1 := hM_7.2 _ _ hb_1
  replace hb_3 := hM_7.2 _ _ hb_3
  replace hv_6 := hv_6.le hM_7
  refine S_v E rfl (R_assign E rfl) rfl ?_
  clear E a; intro a E
  refine WL_nil ?_
  refine T_n ?_
  refine WP_ret ?_
  exact F_ret1 E Try.results44 rfl ⟨_, rfl, M_7, (hM_2.trans (hM_4.trans (hM_5.trans hM_7))), (by rw [show (entE (ixm (fun x i => (keyAt kk1 kn1 x i, keyAt kk2 kn2 x i)) 0 l0)) = (srtK Prod.fst (mkE (ixm (fun x i => (keyAt kk1 kn1 x i, keyAt kk2 kn2 x i)) 0 l0))) from by rfl]; exact hv_8), S⟩

set_option maxRecDepth 100000 in
set_option maxHeartbeats 4000000 in
theorem laws_few {M : Hp} {v0 : Value} {l0 : List (List Int)} (h0 : RdII M v0 l0) :
    Pu Try.prog (.func (.func 12) #[] #[]) M [v0] (fun r M' => r = .bool (decide (∀ x ∈ l0, x.length ≤ 300))) := by
  refine Pu_enter Try.func12 rfl Try.ntmps12 rfl Try.call12 ?_
  intro a w M1 H hM1 S E
  replace h0 := h0.le hM1
  have b0 := h0.bound
  refine WP_seq ?_
  refine WP_region ?_
  refine S_v E rfl (R_assign E rfl) rfl ?_
  clear E a; intro a E
  refine WL_nil ?_
  refine T_n ?_
  refine WP_seq ?_
  refine WP_seq ?_
  refine WP_region ?_
  refine S_v E rfl (R_move E rfl) rfl ?_
  clear E a; intro a E
  refine S_v E rfl (R_lenV E rfl T39 h0.len) rfl ?_
  clear E a; intro a E
  refine S_v E rfl (R_move E rfl) rfl ?_
  clear E a; intro a E
  refine WL_nil ?_
  refine T_n ?_
  refine WP_block ?_
  refine WP_loop (γ := Nat) (fun (k : Nat) a w => ∃ (M_1 : Hp), Hp.le M1 M_1 ∧ St w M_1 (H) ∧ Env a 15 [] [(5, v0), (6, .int .i64 (((l0).length : Nat) : Int)), (7, .int .i64 ((k : Nat) : Int))] ∧ (k ≤ (l0).length) ∧ (∀ x ∈ l0.take k, x.length ≤ 300)) (fun k => ((l0).length) - k) 0 ⟨M1, Hp.le.refl _, S, E.keep ⟨rfl, rfl, rfl, trivial⟩, by ((try clear S); (try clear E); first | assumption | omega | rfl | (simp; done) | (simp_all; done) | (simp [List.take_add_one, *]; done) | grind [List.take_add_one]), by ((try clear S); (try clear E); first | assumption | omega | rfl | (simp; done) | (simp_all; done) | (simp [List.take_add_one, *]; done) | grind [List.take_add_one])⟩ ?_
  try clear E
  try clear S
  try clear a
  try clear w
  rintro k a w ⟨M_1, hM_1, S, E, hL0_0, hL0_1⟩
  replace h0 := h0.le hM_1
  refine WP_seq ?_
  refine WP_region ?_
  refine S_v E rfl (R_lss E rfl rfl) rfl ?_
  clear E a; intro a E
  refine WL_nil ?_
  refine T_n ?_
  refine WP_seq ?_
  refine WP_cond E rfl (fun hc_2 => ?_) (fun hc_2 => ?_)
  · replace hc_2 := of_decide_eq_true hc_2
    refine WP_skip ?_
    refine T_n ?_
    refine WP_seq ?_
    refine WP_block ?_
    refine WP_seq ?_
    refine WP_region ?_
    obtain ⟨x_3, hx_3⟩ : ∃ x, (l0)[k]? = some x := ⟨_, List.getElem?_eq_getElem (by first | omega | (simp; done) | (simp; omega) | (simp_all; omega))⟩
    obtain ⟨p_4, u_5, hp_4, qp_4, hu_5⟩ := h0.at hx_3
    have bu_5 := hu_5.bound
    refine S_v E rfl (R_idx E rfl rfl T39 hp_4 rfl) rfl ?_
    clear E a; intro a E
    refine S_v E rfl (R_loadM E rfl Try.isAgg22 S.imm qp_4) rfl ?_
    clear E a; intro a E
    refine S_v E rfl (R_assign E rfl) rfl ?_
    clear E a; intro a E
    refine WL_nil ?_
    refine T_n ?_
    refine WP_seq ?_
    refine WP_region ?_
    refine S_v E rfl (R_move E rfl) rfl ?_
    clear E a; intro a E
    refine S_v E rfl (R_lenV E rfl T22 hu_5.len) rfl ?_
    clear E a; intro a E
    refine S_v E rfl (R_gtr E rfl rfl) rfl ?_
    clear E a; intro a E
    refine WL_nil ?_
    refine T_n ?_
    refine WP_cond E rfl (fun hc_6 => ?_) (fun hc_6 => ?_)
    · replace hc_6 := of_decide_eq_true hc_6
      refine WP_seq ?_
      refine WP_region ?_
      refine S_v E rfl (R_assign E rfl) rfl ?_
      clear E a; intro a E
      refine WL_nil ?_
      refine T_n ?_
      refine WP_ret ?_
      refine B_r ?_
      refine T_r ?_
      refine T_r ?_
      refine B_r ?_
      refine T_r ?_
      exact F_ret1 E Try.results12 rfl ⟨_, rfl, M_1, hM_1, (bF (by ((try clear S); (try clear E); first | assumption | omega | rfl | (simp; done) | (simp_all; done) | (simp [List.take_add_one, *]; done) | grind [List.take_add_one]))), S⟩
    · replace hc_6 := of_decide_eq_false hc_6
      refine WP_skip ?_
      refine B_n ?_
      refine T_n ?_
      refine WP_region ?_
      refine S_v E rfl (R_addx (m := ((k + 1 : Nat) : Int)) E rfl rfl (by omega) (by omega)) rfl ?_
      clear E a; intro a E
      refine S_v E rfl (R_move E rfl) rfl ?_
      clear E a; intro a E
      refine WL_nil ?_
      refine T_n ?_
      exact ⟨k + 1, ⟨M_1, hM_1, S, E.keep ⟨rfl, rfl, rfl, trivial⟩, by ((try clear S); (try clear E); first | assumption | omega | rfl | (simp; done) | (simp_all; done) | (simp [List.take_add_one, *]; done) | grind [List.take_add_one]), by ((try clear S); (try clear E); first | assumption | omega | rfl | (simp; done) | (simp_all; done) | (simp [List.take_add_one, *]; done) | grind [List.take_add_one])⟩, by omega⟩
  · replace hc_2 := of_decide_eq_false hc_2
    refine WP_exit ?_
    refine T_x ?_
    refine T_x ?_
    refine B_x ?_
    refine T_n ?_
    refine WP_seq ?_
    refine WP_region ?_
    refine S_v E rfl (R_assign E rfl) rfl ?_
    clear E a; intro a E
    refine WL_nil ?_
    refine T_n ?_
    refine WP_ret ?_
    exact F_ret1 E Try.results12 rfl ⟨_, rfl, M_1, hM_1, (bT (by ((try clear S); (try clear E); first | assumption | omega | rfl | (simp; done) | (simp_all; done) | (simp [List.take_add_one, *]; done) | grind [List.take_add_one]))), S⟩

set_option maxRecDepth 100000 in
set_option maxHeartbeats 4000000 in
theorem laws_fair {M : Hp} {pk0 pn0 : Int} {w0 : Value} {pl0 : List Int} (hw0 : RdI M w0 pl0) (gn0 : -9223372036854775808 ≤ pn0 ∧ pn0 ≤ 9223372036854775807) :
    Pu Try.prog (.func (.func 45) #[] #[]) M [.agg #[.int .i64 pk0, .int .i64 pn0, w0]] (fun r M' => r = .bool (decide ((-1099511627776 < pn0 ∧ pn0 < 1099511627776) ∧ (pl0).length ≤ 300))) := by
  refine Pu_enter Try.func45 rfl Try.ntmps45 rfl Try.call45 ?_
  intro a w M1 H hM1 S E
  replace hw0 := hw0.le hM1
  have bw0 := hw0.bound
  refine WP_seq ?_
  refine WP_region ?_
  refine S_x (X_box (cs := #[.int .i64 pk0, .int .i64 pn0, w0]) E S rfl rfl rfl ?_)
  clear E a S; rintro a w b_1 E S
  obtain ⟨M_2, hM_2, hb_1, S⟩ := S.freezeB
  replace hw0 := hw0.le hM_2
  refine S_v E rfl (R_assign E rfl) rfl ?_
  clear E a; intro a E
  refine WL_nil ?_
  refine T_n ?_
  refine WP_seq ?_
  refine WP_region ?_
  refine S_v E rfl (R_fieldAddr E rfl (FA54_1 _)) rfl ?_
  clear E a; intro a E
  refine S_v E rfl (R_loadM E rfl Try.isAgg3 S.imm (cellM_boxo hb_1 rfl)) rfl ?_
  clear E a; intro a E
  refine S_v E rfl (R_gtr E rfl rfl) rfl ?_
  clear E a; intro a E
  refine S_v E rfl (R_move E rfl) rfl ?_
  clear E a; intro a E
  refine split_bool (decide ((-1099511627776) < pn0)) (fun hc_3 => ?_) (fun hc_3 => ?_)
  · replace E := E.val (t := 5) rfl hc_3
    replace E := E.val (t := 6) rfl hc_3
    replace hc_3 := of_decide_eq_true hc_3
    refine WL_guard_yes E rfl rfl ?_
    refine S_v E rfl (R_fieldAddr E rfl (FA54_1 _)) rfl ?_
    clear E a; intro a E
    refine WL_guard_yes E rfl rfl ?_
    refine S_v E rfl (R_loadM E rfl Try.isAgg3 S.imm (cellM_boxo hb_1 rfl)) rfl ?_
    clear E a; intro a E
    refine WL_guard_yes E rfl rfl ?_
    refine S_v E rfl (R_lss E rfl rfl) rfl ?_
    clear E a; intro a E
    refine S_v E rfl (R_pickT E rfl rfl) rfl ?_
    clear E a; intro a E
    refine S_v E rfl (R_move E rfl) rfl ?_
    clear E a; intro a E
    refine split_bool (decide (pn0 < 1099511627776)) (fun hc_4 => ?_) (fun hc_4 => ?_)
    · replace E := E.val (t := 9) rfl hc_4
      replace E := E.val (t := 10) rfl hc_4
      replace E := E.val (t := 11) rfl hc_4
      replace hc_4 := of_decide_eq_true hc_4
      refine WL_guard_yes E rfl rfl ?_
      refine S_v E rfl (R_fieldAddr E rfl (FA54_2 _)) rfl ?_
      clear E a; intro a E
      refine WL_guard_yes E rfl rfl ?_
      refine S_v E rfl (R_loadM E rfl Try.isAgg22 S.imm (cellM_boxo hb_1 rfl)) rfl ?_
      clear E a; intro a E
      refine WL_guard_yes E rfl rfl ?_
      refine S_v E rfl (R_lenV E rfl T22 hw0.len) rfl ?_
      clear E a; intro a E
      refine WL_guard_yes E rfl rfl ?_
      refine S_v E rfl (R_leq E rfl rfl) rfl ?_
      clear E a; intro a E
      refine S_v E rfl (R_pickT E rfl rfl) rfl ?_
      clear E a; intro a E
      refine S_v E rfl (R_assign E rfl) rfl ?_
      clear E a; intro a E
      refine WL_nil ?_
      refine T_n ?_
      refine WP_ret ?_
      exact F_ret1 E Try.results45 rfl ⟨_, rfl, M_2, hM_2, (congrArg Value.bool (by ((try clear S); (try clear E); first | assumption | omega | rfl | (simp; done) | (simp_all; done) | (simp [List.take_add_one, *]; done) | grind [List.take_add_one]))), S⟩
    · replace E := E.val (t := 9) rfl hc_4
      replace E := E.val (t := 10) rfl hc_4
      replace E := E.val (t := 11) rfl hc_4
      replace hc_4 := of_decide_eq_false hc_4
      refine WL_guard_no E rfl rfl rfl rfl fun a E => ?_
      refine WL_guard_no E rfl rfl rfl rfl fun a E => ?_
      refine WL_guard_no E rfl rfl rfl rfl fun a E => ?_
      refine WL_guard_no E rfl rfl rfl rfl fun a E => ?_
      refine S_v E rfl (R_pickF E rfl rfl) rfl ?_
      clear E a; intro a E
      refine S_v E rfl (R_assign E rfl) rfl ?_
      clear E a; intro a E
      refine WL_nil ?_
      refine T_n ?_
      refine WP_ret ?_
      exact F_ret1 E Try.results45 rfl ⟨_, rfl, M_2, hM_2, (bF (by ((try clear S); (try clear E); first | assumption | omega | rfl | (simp; done) | (simp_all; done) | (simp [List.take_add_one, *]; done) | grind [List.take_add_one]))), S⟩
  · replace E := E.val (t := 5) rfl hc_3
    replace E := E.val (t := 6) rfl hc_3
    replace hc_3 := of_decide_eq_false hc_3
    refine WL_guard_no E rfl rfl rfl rfl fun a E => ?_
    refine WL_guard_no E rfl rfl rfl rfl fun a E => ?_
    refine WL_guard_no E rfl rfl rfl rfl fun a E => ?_
    refine S_v E rfl (R_pickF E rfl rfl) rfl ?_
    clear E a; intro a E
    refine S_v E rfl (R_move E rfl) rfl ?_
    clear E a; intro a E
    refine WL_guard_no E rfl rfl rfl rfl fun a E => ?_
    refine WL_guard_no E rfl rfl rfl rfl fun a E => ?_
    refine WL_guard_no E rfl rfl rfl rfl fun a E => ?_
    refine WL_guard_no E rfl rfl rfl rfl fun a E => ?_
    refine S_v E rfl (R_pickF E rfl rfl) rfl ?_
    clear E a; intro a E
    refine S_v E rfl (R_assign E rfl) rfl ?_
    clear E a; intro a E
    refine WL_nil ?_
    refine T_n ?_
    refine WP_ret ?_
    exact F_ret1 E Try.results45 rfl ⟨_, rfl, M_2, hM_2, (bF (by ((try clear S); (try clear E); first | assumption | omega | rfl | (simp; done) | (simp_all; done) | (simp [List.take_add_one, *]; done) | grind [List.take_add_one]))), S⟩

set_option maxRecDepth 100000 in
set_option maxHeartbeats 4000000 in
theorem laws_just {M : Hp} {kk0 kn0 : Int} (gk0 : -9223372036854775808 ≤ kn0 ∧ kn0 ≤ 9223372036854775807) :
    Pu Try.prog (.func (.func 13) #[] #[]) M [.agg #[.int .i64 kk0, .int .i64 kn0]] (fun r M' => r = .bool (decide (-1099511627776 < kn0 ∧ kn0 < 1099511627776))) := by
  refine Pu_enter Try.func13 rfl Try.ntmps13 rfl Try.call13 ?_
  intro a w M1 H hM1 S E
  refine WP_seq ?_
  refine WP_region ?_
  refine S_x (X_box (cs := #[.int .i64 kk0, .int .i64 kn0]) E S rfl rfl rfl ?_)
  clear E a S; rintro a w b_1 E S
  obtain ⟨M_2, hM_2, hb_1, S⟩ := S.freezeB
  refine S_v E rfl (R_assign E rfl) rfl ?_
  clear E a; intro a E
  refine WL_nil ?_
  refine T_n ?_
  refine WP_seq ?_
  refine WP_region ?_
  refine S_v E rfl (R_fieldAddr E rfl (FA24_1 _)) rfl ?_
  clear E a; intro a E
  refine S_v E rfl (R_loadM E rfl Try.isAgg3 S.imm (cellM_boxo hb_1 rfl)) rfl ?_
  clear E a; intro a E
  refine S_v E rfl (R_gtr E rfl rfl) rfl ?_
  clear E a; intro a E
  refine S_v E rfl (R_move E rfl) rfl ?_
  clear E a; intro a E
  refine split_bool (decide ((-1099511627776) < kn0)) (fun hc_3 => ?_) (fun hc_3 => ?_)
  · replace E := E.val (t := 5) rfl hc_3
    replace E := E.val (t := 6) rfl hc_3
    replace hc_3 := of_decide_eq_true hc_3
    refine WL_guard_yes E rfl rfl ?_
    refine S_v E rfl (R_fieldAddr E rfl (FA24_1 _)) rfl ?_
    clear E a; intro a E
    refine WL_guard_yes E rfl rfl ?_
    refine S_v E rfl (R_loadM E rfl Try.isAgg3 S.imm (cellM_boxo hb_1 rfl)) rfl ?_
    clear E a; intro a E
    refine WL_guard_yes E rfl rfl ?_
    refine S_v E rfl (R_lss E rfl rfl) rfl ?_
    clear E a; intro a E
    refine S_v E rfl (R_pickT E rfl rfl) rfl ?_
    clear E a; intro a E
    refine S_v E rfl (R_assign E rfl) rfl ?_
    clear E a; intro a E
    refine WL_nil ?_
    refine T_n ?_
    refine WP_ret ?_
    exact F_ret1 E Try.results13 rfl ⟨_, rfl, M_2, hM_2, (congrArg Value.bool (by ((try clear S); (try clear E); first | assumption | omega | rfl | (simp; done) | (simp_all; done) | (simp [List.take_add_one, *]; done) | grind [List.take_add_one]))), S⟩
  · replace E := E.val (t := 5) rfl hc_3
    replace E := E.val (t := 6) rfl hc_3
    replace hc_3 := of_decide_eq_false hc_3
    refine WL_guard_no E rfl rfl rfl rfl fun a E => ?_
    refine WL_guard_no E rfl rfl rfl rfl fun a E => ?_
    refine WL_guard_no E rfl rfl rfl rfl fun a E => ?_
    refine S_v E rfl (R_pickF E rfl rfl) rfl ?_
    clear E a; intro a E
    refine S_v E rfl (R_assign E rfl) rfl ?_
    clear E a; intro a E
    refine WL_nil ?_
    refine T_n ?_
    refine WP_ret ?_
    exact F_ret1 E Try.results13 rfl ⟨_, rfl, M_2, hM_2, (bF (by ((try clear S); (try clear E); first | assumption | omega | rfl | (simp; done) | (simp_all; done) | (simp [List.take_add_one, *]; done) | grind [List.take_add_one]))), S⟩

set_option maxRecDepth 100000 in
set_option maxHeartbeats 4000000 in
theorem laws_modulo {M : Hp} {x0 x1 : Int} (hn : x1 ≠ 0) (g1 : -1099511627776 < x1 ∧ x1 < 1099511627776) :
    Pu Try.prog (.func (.func 87) #[] #[]) M [.int .i64 x0, .int .i64 x1] (fun r M' => r = .int .i64 (x0 % x1)) := by
  refine Pu_enter Try.func87 rfl Try.ntmps87 rfl Try.call87 ?_
  intro a w M1 H hM1 S E
  have ht := tmod_emod x0 x1 hn
  have ht2 := tmod_emod x0 (-x1) (by omega)
  have he : x0 % (-x1) = x0 % x1 := Int.emod_neg ..
  refine WP_seq ?_
  refine WP_region ?_
  refine S_v E rfl (R_assign E rfl) rfl ?_
  clear E a; intro a E
  refine WL_nil ?_
  refine T_n ?_
  refine WP_seq ?_
  refine WP_seq ?_
  refine WP_region ?_
  refine S_v E rfl (R_move E rfl) rfl ?_
  clear E a; intro a E
  refine S_v E rfl (R_lss E rfl rfl) rfl ?_
  clear E a; intro a E
  refine WL_nil ?_
  refine T_n ?_
  refine WP_cond E rfl (fun hc_1 => ?_) (fun hc_1 => ?_)
  · replace hc_1 := of_decide_eq_true hc_1
    refine WP_region ?_
    refine S_v E rfl (R_move E rfl) rfl ?_
    clear E a; intro a E
    refine S_v E rfl (R_negx (m := -x1) E rfl rfl (by omega)) rfl ?_
    clear E a; intro a E
    refine S_v E rfl (R_assign E rfl) rfl ?_
    clear E a; intro a E
    refine WL_nil ?_
    refine T_n ?_
    refine WP_seq ?_
    refine WP_region ?_
    refine S_v E rfl (R_move E rfl) rfl ?_
    clear E a; intro a E
    refine S_v E rfl (R_move E rfl) rfl ?_
    clear E a; intro a E
    refine S_v E rfl (R_rem E rfl rfl (by first | decide | omega)) rfl ?_
    clear E a; intro a E
    refine S_v E rfl (R_assign E rfl) rfl ?_
    clear E a; intro a E
    refine WL_nil ?_
    refine T_n ?_
    refine WP_seq ?_
    refine WP_seq ?_
    refine WP_region ?_
    refine S_v E rfl (R_move E rfl) rfl ?_
    clear E a; intro a E
    refine S_v E rfl (R_lss E rfl rfl) rfl ?_
    clear E a; intro a E
    refine WL_nil ?_
    refine T_n ?_
    refine WP_cond E rfl (fun hc_2 => ?_) (fun hc_2 => ?_)
    · replace hc_2 := of_decide_eq_true hc_2
      refine WP_region ?_
      refine S_v E rfl (R_move E rfl) rfl ?_
      clear E a; intro a E
      refine S_v E rfl (R_move E rfl) rfl ?_
      clear E a; intro a E
      refine S_v E rfl (R_addx (m := (Int.tmod x0 (-x1)) + (-x1)) E rfl rfl (by omega) (by omega)) rfl ?_
      clear E a; intro a E
      refine S_v E rfl (R_assign E rfl) rfl ?_
      clear E a; intro a E
      refine WL_nil ?_
      refine T_n ?_
      refine WP_seq ?_
      refine WP_region ?_
      refine S_v E rfl (R_move E rfl) rfl ?_
      clear E a; intro a E
      refine S_v E rfl (R_assign E rfl) rfl ?_
      clear E a; intro a E
      refine WL_nil ?_
      refine T_n ?_
      refine WP_ret ?_
      exact F_ret1 E Try.results87 rfl ⟨_, rfl, M1, (Hp.le.refl _), (congrArg (Value.int .i64) (by omega)), S⟩
    · replace hc_2 := of_decide_eq_false hc_2
      refine WP_skip ?_
      refine T_n ?_
      refine WP_seq ?_
      refine WP_region ?_
      refine S_v E rfl (R_move E rfl) rfl ?_
      clear E a; intro a E
      refine S_v E rfl (R_assign E rfl) rfl ?_
      clear E a; intro a E
      refine WL_nil ?_
      refine T_n ?_
      refine WP_ret ?_
      exact F_ret1 E Try.results87 rfl ⟨_, rfl, M1, (Hp.le.refl _), (congrArg (Value.int .i64) (by omega)), S⟩
  · replace hc_1 := of_decide_eq_false hc_1
    refine WP_skip ?_
    refine T_n ?_
    refine WP_seq ?_
    refine WP_region ?_
    refine S_v E rfl (R_move E rfl) rfl ?_
    clear E a; intro a E
    refine S_v E rfl (R_move E rfl) rfl ?_
    clear E a; intro a E
    refine S_v E rfl (R_rem E rfl rfl (by first | decide | omega)) rfl ?_
    clear E a; intro a E
    refine S_v E rfl (R_assign E rfl) rfl ?_
    clear E a; intro a E
    refine WL_nil ?_
    refine T_n ?_
    refine WP_seq ?_
    refine WP_seq ?_
    refine WP_region ?_
    refine S_v E rfl (R_move E rfl) rfl ?_
    clear E a; intro a E
    refine S_v E rfl (R_lss E rfl rfl) rfl ?_
    clear E a; intro a E
    refine WL_nil ?_
    refine T_n ?_
    refine WP_cond E rfl (fun hc_3 => ?_) (fun hc_3 => ?_)
    · replace hc_3 := of_decide_eq_true hc_3
      refine WP_region ?_
      refine S_v E rfl (R_move E rfl) rfl ?_
      clear E a; intro a E
      refine S_v E rfl (R_move E rfl) rfl ?_
      clear E a; intro a E
      refine S_v E rfl (R_addx (m := (Int.tmod x0 x1) + x1) E rfl rfl (by omega) (by omega)) rfl ?_
      clear E a; intro a E
      refine S_v E rfl (R_assign E rfl) rfl ?_
      clear E a; intro a E
      refine WL_nil ?_
      refine T_n ?_
      refine WP_seq ?_
      refine WP_region ?_
      refine S_v E rfl (R_move E rfl) rfl ?_
      clear E a; intro a E
      refine S_v E rfl (R_assign E rfl) rfl ?_
      clear E a; intro a E
      refine WL_nil ?_
      refine T_n ?_
      refine WP_ret ?_
      exact F_ret1 E Try.results87 rfl ⟨_, rfl, M1, (Hp.le.refl _), (congrArg (Value.int .i64) (by omega)), S⟩
    · replace hc_3 := of_decide_eq_false hc_3
      refine WP_skip ?_
      refine T_n ?_
      refine WP_seq ?_
      refine WP_region ?_
      refine S_v E rfl (R_move E rfl) rfl ?_
      clear E a; intro a E
      refine S_v E rfl (R_assign E rfl) rfl ?_
      clear E a; intro a E
      refine WL_nil ?_
      refine T_n ?_
      refine WP_ret ?_
      exact F_ret1 E Try.results87 rfl ⟨_, rfl, M1, (Hp.le.refl _), (congrArg (Value.int .i64) (by omega)), S⟩

set_option maxRecDepth 100000 in
set_option maxHeartbeats 4000000 in
theorem laws_stands {M : Hp} {kk0 kn0 : Int} (gk0 : -1099511627776 < kn0 ∧ kn0 < 1099511627776){x1 x2 : Int} :
    Pu Try.prog (.func (.func 14) #[] #[]) M [.agg #[.int .i64 kk0, .int .i64 kn0], .int .i64 x1, .int .i64 x2] (fun r M' => r = .int .i64 (keyAt kk0 kn0 x1 x2)) := by
  refine Pu_enter Try.func14 rfl Try.ntmps14 rfl Try.call14 ?_
  intro a w M1 H hM1 S E
  refine WP_seq ?_
  refine WP_region ?_
  refine S_x (X_box (cs := #[.int .i64 kk0, .int .i64 kn0]) E S rfl rfl rfl ?_)
  clear E a S; rintro a w b_1 E S
  obtain ⟨M_2, hM_2, hb_1, S⟩ := S.freezeB
  refine S_v E rfl (R_assign E rfl) rfl ?_
  clear E a; intro a E
  refine WL_nil ?_
  refine T_n ?_
  refine WP_seq ?_
  refine WP_seq ?_
  refine WP_region ?_
  refine S_v E rfl (R_fieldAddr E rfl (FA24_0 _)) rfl ?_
  clear E a; intro a E
  refine S_v E rfl (R_loadM E rfl Try.isAgg3 S.imm (cellM_boxo hb_1 rfl)) rfl ?_
  clear E a; intro a E
  refine WL_nil ?_
  refine T_n ?_
  refine WP_block ?_
  refine WP_seq ?_
  refine WP_region ?_
  refine S_v E rfl (R_eql E rfl rfl) rfl ?_
  clear E a; intro a E
  refine S_v E rfl (R_assign E rfl) rfl ?_
  clear E a; intro a E
  refine WL_nil ?_
  refine T_n ?_
  refine WP_cond E rfl (fun hc_3 => ?_) (fun hc_3 => ?_)
  · replace hc_3 := of_decide_eq_true hc_3
    refine WP_seq ?_
    refine WP_region ?_
    refine S_v E rfl (R_move E rfl) rfl ?_
    clear E a; intro a E
    refine S_v E rfl (R_fieldAddr E rfl (FA24_1 _)) rfl ?_
    clear E a; intro a E
    refine S_v E rfl (R_loadM E rfl Try.isAgg3 S.imm (cellM_boxo hb_1 rfl)) rfl ?_
    clear E a; intro a E
    refine S_v E rfl (R_add E rfl rfl) rfl ?_
    clear E a; intro a E
    refine S_v E rfl (R_assign E rfl) rfl ?_
    clear E a; intro a E
    refine WL_nil ?_
    refine T_n ?_
    refine WP_ret ?_
    refine B_r ?_
    refine T_r ?_
    exact F_ret1 E Try.results14 rfl ⟨_, rfl, M_2, hM_2, (congrArg (Value.int .i64) (by (clear E S; unfold keyAt w64; first | (simp [*]; done) | (simp_all; done)))), S⟩
  · replace hc_3 := of_decide_eq_false hc_3
    refine WP_seq ?_
    refine WP_region ?_
    refine S_v E rfl (R_eql E rfl rfl) rfl ?_
    clear E a; intro a E
    refine S_v E rfl (R_assign E rfl) rfl ?_
    clear E a; intro a E
    refine WL_nil ?_
    refine T_n ?_
    refine WP_cond E rfl (fun hc_4 => ?_) (fun hc_4 => ?_)
    · replace hc_4 := of_decide_eq_true hc_4
      refine WP_seq ?_
      refine WP_region ?_
      refine S_v E rfl (R_move E rfl) rfl ?_
      clear E a; intro a E
      refine S_v E rfl (R_fieldAddr E rfl (FA24_1 _)) rfl ?_
      clear E a; intro a E
      refine S_v E rfl (R_loadM E rfl Try.isAgg3 S.imm (cellM_boxo hb_1 rfl)) rfl ?_
      clear E a; intro a E
      refine S_v E rfl (R_mul E rfl rfl) rfl ?_
      clear E a; intro a E
      refine S_v E rfl (R_assign E rfl) rfl ?_
      clear E a; intro a E
      refine WL_nil ?_
      refine T_n ?_
      refine WP_ret ?_
      refine B_r ?_
      refine T_r ?_
      exact F_ret1 E Try.results14 rfl ⟨_, rfl, M_2, hM_2, (congrArg (Value.int .i64) (by (clear E S; unfold keyAt w64; first | (simp [*]; done) | (simp_all; done)))), S⟩
    · replace hc_4 := of_decide_eq_false hc_4
      refine WP_seq ?_
      refine WP_region ?_
      refine S_v E rfl (R_eql E rfl rfl) rfl ?_
      clear E a; intro a E
      refine S_v E rfl (R_assign E rfl) rfl ?_
      clear E a; intro a E
      refine WL_nil ?_
      refine T_n ?_
      refine WP_cond E rfl (fun hc_5 => ?_) (fun hc_5 => ?_)
      · replace hc_5 := of_decide_eq_true hc_5
        refine WP_seq ?_
        refine WP_region ?_
        refine S_v E rfl (R_fieldAddr E rfl (FA24_1 _)) rfl ?_
        clear E a; intro a E
        refine S_v E rfl (R_loadM E rfl Try.isAgg3 S.imm (cellM_boxo hb_1 rfl)) rfl ?_
        clear E a; intro a E
        refine S_v E rfl (R_neq E rfl rfl) rfl ?_
        clear E a; intro a E
        refine WL_nil ?_
        refine T_n ?_
        refine WP_cond E rfl (fun hc_6 => ?_) (fun hc_6 => ?_)
        · replace hc_6 := of_decide_eq_true hc_6
          refine WP_seq ?_
          refine WP_region ?_
          refine S_v E rfl (R_move E rfl) rfl ?_
          clear E a; intro a E
          refine S_v E rfl (R_fieldAddr E rfl (FA24_1 _)) rfl ?_
          clear E a; intro a E
          refine S_v E rfl (R_loadM E rfl Try.isAgg3 S.imm (cellM_boxo hb_1 rfl)) rfl ?_
          clear E a; intro a E
          refine S_x (X_pu E S rfl rfl rfl (laws_modulo (by first | omega | assumption) (by omega)) (Hp.le.refl _) ?_)
          clear E a S; rintro a _ w M_7 hM_7 rfl S E
          replace hb_1 := hM_7.2 _ _ hb_1
          refine S_v E rfl (R_assign E rfl) rfl ?_
          clear E a; intro a E
          refine WL_nil ?_
          refine T_n ?_
          refine WP_ret ?_
          refine B_r ?_
          refine T_r ?_
          exact F_ret1 E Try.results14 rfl ⟨_, rfl, M_7, (hM_2.trans hM_7), (congrArg (Value.int .i64) (by (clear E S; unfold keyAt w64; first | (simp [*]; done) | (simp_all; done)))), S⟩
        · replace hc_6 := of_decide_eq_false hc_6
          refine WP_skip ?_
          refine B_n ?_
          refine T_n ?_
          refine WP_seq ?_
          refine WP_region ?_
          refine S_v E rfl (R_move E rfl) rfl ?_
          clear E a; intro a E
          refine S_v E rfl (R_assign E rfl) rfl ?_
          clear E a; intro a E
          refine WL_nil ?_
          refine T_n ?_
          refine WP_ret ?_
          exact F_ret1 E Try.results14 rfl ⟨_, rfl, M_2, hM_2, (congrArg (Value.int .i64) (by (clear E S; unfold keyAt w64; first | (simp [*]; done) | (simp_all; done)))), S⟩
      · replace hc_5 := of_decide_eq_false hc_5
        refine WP_seq ?_
        refine WP_region ?_
        refine S_v E rfl (R_eql E rfl rfl) rfl ?_
        clear E a; intro a E
        refine S_v E rfl (R_assign E rfl) rfl ?_
        clear E a; intro a E
        refine WL_nil ?_
        refine T_n ?_
        refine WP_cond E rfl (fun hc_8 => ?_) (fun hc_8 => ?_)
        · replace hc_8 := of_decide_eq_true hc_8
          refine WP_seq ?_
          refine WP_region ?_
          refine S_v E rfl (R_fieldAddr E rfl (FA24_1 _)) rfl ?_
          clear E a; intro a E
          refine S_v E rfl (R_loadM E rfl Try.isAgg3 S.imm (cellM_boxo hb_1 rfl)) rfl ?_
          clear E a; intro a E
          refine S_v E rfl (R_assign E rfl) rfl ?_
          clear E a; intro a E
          refine WL_nil ?_
          refine T_n ?_
          refine WP_ret ?_
          refine B_r ?_
          refine T_r ?_
          exact F_ret1 E Try.results14 rfl ⟨_, rfl, M_2, hM_2, (congrArg (Value.int .i64) (by (clear E S; unfold keyAt w64; first | (simp [*]; done) | (simp_all; done)))), S⟩
        · replace hc_8 := of_decide_eq_false hc_8
          refine WP_seq ?_
          refine WP_region ?_
          refine S_v E rfl (R_eql E rfl rfl) rfl ?_
          clear E a; intro a E
          refine S_v E rfl (R_assign E rfl) rfl ?_
          clear E a; intro a E
          refine WL_nil ?_
          refine T_n ?_
          refine WP_cond E rfl (fun hc_9 => ?_) (fun hc_9 => ?_)
          · replace hc_9 := of_decide_eq_true hc_9
            refine WP_seq ?_
            refine WP_region ?_
            refine S_v E rfl (R_move E rfl) rfl ?_
            clear E a; intro a E
            refine S_v E rfl (R_assign E rfl) rfl ?_
            clear E a; intro a E
            refine WL_nil ?_
            refine T_n ?_
            refine WP_ret ?_
            refine B_r ?_
            refine T_r ?_
            exact F_ret1 E Try.results14 rfl ⟨_, rfl, M_2, hM_2, (congrArg (Value.int .i64) (by (clear E S; unfold keyAt w64; first | (simp [*]; done) | (simp_all; done)))), S⟩
          · replace hc_9 := of_decide_eq_false hc_9
            refine WP_skip ?_
            refine B_n ?_
            refine T_n ?_
            refine WP_seq ?_
            refine WP_region ?_
            refine S_v E rfl (R_move E rfl) rfl ?_
            clear E a; intro a E
            refine S_v E rfl (R_assign E rfl) rfl ?_
            clear E a; intro a E
            refine WL_nil ?_
            refine T_n ?_
            refine WP_ret ?_
            exact F_ret1 E Try.results14 rfl ⟨_, rfl, M_2, hM_2, (congrArg (Value.int .i64) (by (clear E S; unfold keyAt w64; first | (simp [*]; done) | (simp_all; done)))), S⟩

set_option maxRecDepth 100000 in
set_option maxHeartbeats 4000000 in
theorem laws_in {M : Hp} {v0 : Value} {l0 : List Int} (h0 : RdI M v0 l0){x1 : Int} :
    Pu Try.prog (.func (.func 15) #[] #[]) M [v0, .int .i64 x1] (fun r M' => r = .bool (decide (x1 ∈ l0))) := by
  refine Pu_enter Try.func15 rfl Try.ntmps15 rfl Try.call15 ?_
  intro a w M1 H hM1 S E
  replace h0 := h0.le hM1
  have b0 := h0.bound
  refine WP_seq ?_
  refine WP_region ?_
  refine S_v E rfl (R_assign E rfl) rfl ?_
  clear E a; intro a E
  refine WL_nil ?_
  refine T_n ?_
  refine WP_seq ?_
  refine WP_seq ?_
  refine WP_region ?_
  refine S_v E rfl (R_move E rfl) rfl ?_
  clear E a; intro a E
  refine S_v E rfl (R_lenV E rfl T22 h0.len) rfl ?_
  clear E a; intro a E
  refine S_v E rfl (R_move E rfl) rfl ?_
  clear E a; intro a E
  refine WL_nil ?_
  refine T_n ?_
  refine WP_block ?_
  refine WP_loop (γ := Nat) (fun (k : Nat) a w => ∃ (M_1 : Hp), Hp.le M1 M_1 ∧ St w M_1 (H) ∧ Env a 17 [] [(1, .int .i64 x1), (7, v0), (8, .int .i64 (((l0).length : Nat) : Int)), (9, .int .i64 ((k : Nat) : Int))] ∧ (k ≤ (l0).length) ∧ (x1 ∉ l0.take k)) (fun k => ((l0).length) - k) 0 ⟨M1, Hp.le.refl _, S, E.keep ⟨rfl, rfl, rfl, rfl, trivial⟩, by ((try clear S); (try clear E); first | assumption | omega | rfl | (simp; done) | (simp_all; done) | (simp [List.take_add_one, *]; done) | grind [List.take_add_one]), by ((try clear S); (try clear E); first | assumption | omega | rfl | (simp; done) | (simp_all; done) | (simp [List.take_add_one, *]; done) | grind [List.take_add_one])⟩ ?_
  try clear E
  try clear S
  try clear a
  try clear w
  rintro k a w ⟨M_1, hM_1, S, E, hL0_0, hL0_1⟩
  replace h0 := h0.le hM_1
  refine WP_seq ?_
  refine WP_region ?_
  refine S_v E rfl (R_lss E rfl rfl) rfl ?_
  clear E a; intro a E
  refine WL_nil ?_
  refine T_n ?_
  refine WP_seq ?_
  refine WP_cond E rfl (fun hc_2 => ?_) (fun hc_2 => ?_)
  · replace hc_2 := of_decide_eq_true hc_2
    refine WP_skip ?_
    refine T_n ?_
    refine WP_seq ?_
    refine WP_block ?_
    refine WP_seq ?_
    refine WP_region ?_
    obtain ⟨x_3, hx_3⟩ : ∃ x, (l0)[k]? = some x := ⟨_, List.getElem?_eq_getElem (by first | omega | (simp; done) | (simp; omega) | (simp_all; omega))⟩
    obtain ⟨p_4, hp_4, qp_4⟩ := h0.at hx_3
    refine S_v E rfl (R_idx E rfl rfl T22 hp_4 rfl) rfl ?_
    clear E a; intro a E
    refine S_v E rfl (R_loadM E rfl Try.isAgg3 S.imm qp_4) rfl ?_
    clear E a; intro a E
    refine S_v E rfl (R_assign E rfl) rfl ?_
    clear E a; intro a E
    refine WL_nil ?_
    refine T_n ?_
    refine WP_seq ?_
    refine WP_region ?_
    refine S_v E rfl (R_move E rfl) rfl ?_
    clear E a; intro a E
    refine S_v E rfl (R_move E rfl) rfl ?_
    clear E a; intro a E
    refine S_v E rfl (R_eql E rfl rfl) rfl ?_
    clear E a; intro a E
    refine WL_nil ?_
    refine T_n ?_
    refine WP_cond E rfl (fun hc_5 => ?_) (fun hc_5 => ?_)
    · replace hc_5 := of_decide_eq_true hc_5
      refine WP_seq ?_
      refine WP_region ?_
      refine S_v E rfl (R_assign E rfl) rfl ?_
      clear E a; intro a E
      refine WL_nil ?_
      refine T_n ?_
      refine WP_ret ?_
      refine B_r ?_
      refine T_r ?_
      refine T_r ?_
      refine B_r ?_
      refine T_r ?_
      exact F_ret1 E Try.results15 rfl ⟨_, rfl, M_1, hM_1, (bT (by (refine List.mem_of_getElem? (i := k) ?_; simp_all))), S⟩
    · replace hc_5 := of_decide_eq_false hc_5
      refine WP_skip ?_
      refine B_n ?_
      refine T_n ?_
      refine WP_region ?_
      refine S_v E rfl (R_addx (m := ((k + 1 : Nat) : Int)) E rfl rfl (by omega) (by omega)) rfl ?_
      clear E a; intro a E
      refine S_v E rfl (R_move E rfl) rfl ?_
      clear E a; intro a E
      refine WL_nil ?_
      refine T_n ?_
      exact ⟨k + 1, ⟨M_1, hM_1, S, E.keep ⟨rfl, rfl, rfl, rfl, trivial⟩, by ((try clear S); (try clear E); first | assumption | omega | rfl | (simp; done) | (simp_all; done) | (simp [List.take_add_one, *]; done) | grind [List.take_add_one]), by ((try clear S); (try clear E); first | assumption | omega | rfl | (simp; done) | (simp_all; done) | (simp [List.take_add_one, *]; done) | grind [List.take_add_one])⟩, by omega⟩
  · replace hc_2 := of_decide_eq_false hc_2
    refine WP_exit ?_
    refine T_x ?_
    refine T_x ?_
    refine B_x ?_
    refine T_n ?_
    refine WP_seq ?_
    refine WP_region ?_
    refine S_v E rfl (R_assign E rfl) rfl ?_
    clear E a; intro a E
    refine WL_nil ?_
    refine T_n ?_
    refine WP_ret ?_
    exact F_ret1 E Try.results15 rfl ⟨_, rfl, M_1, hM_1, (bF (by (rw [List.take_of_length_le (by omega)] at hL0_1; exact hL0_1))), S⟩

set_option maxRecDepth 100000 in
set_option maxHeartbeats 4000000 in
theorem laws_holds {M : Hp} {pk0 pn0 : Int} {w0 : Value} {pl0 : List Int} (hw0 : RdI M w0 pl0) (gn0 : -1099511627776 < pn0 ∧ pn0 < 1099511627776) {x1 x2 : Int} :
    Pu Try.prog (.func (.func 46) #[] #[]) M [.agg #[.int .i64 pk0, .int .i64 pn0, w0], .int .i64 x1, .int .i64 x2] (fun r M' => r = .bool (predAt pk0 pn0 pl0 x1 x2)) := by
  refine Pu_enter Try.func46 rfl Try.ntmps46 rfl Try.call46 ?_
  intro a w M1 H hM1 S E
  replace hw0 := hw0.le hM1
  have bw0 := hw0.bound
  refine WP_seq ?_
  refine WP_region ?_
  refine S_x (X_box (cs := #[.int .i64 pk0, .int .i64 pn0, w0]) E S rfl rfl rfl ?_)
  clear E a S; rintro a w b_1 E S
  obtain ⟨M_2, hM_2, hb_1, S⟩ := S.freezeB
  replace hw0 := hw0.le hM_2
  refine S_v E rfl (R_assign E rfl) rfl ?_
  clear E a; intro a E
  refine WL_nil ?_
  refine T_n ?_
  refine WP_seq ?_
  refine WP_seq ?_
  refine WP_region ?_
  refine S_v E rfl (R_fieldAddr E rfl (FA54_0 _)) rfl ?_
  clear E a; intro a E
  refine S_v E rfl (R_loadM E rfl Try.isAgg3 S.imm (cellM_boxo hb_1 rfl)) rfl ?_
  clear E a; intro a E
  refine WL_nil ?_
  refine T_n ?_
  refine WP_block ?_
  refine WP_seq ?_
  refine WP_region ?_
  refine S_v E rfl (R_eql E rfl rfl) rfl ?_
  clear E a; intro a E
  refine S_v E rfl (R_assign E rfl) rfl ?_
  clear E a; intro a E
  refine WL_nil ?_
  refine T_n ?_
  refine WP_cond E rfl (fun hc_3 => ?_) (fun hc_3 => ?_)
  · replace hc_3 := of_decide_eq_true hc_3
    refine WP_seq ?_
    refine WP_region ?_
    refine S_v E rfl (R_move E rfl) rfl ?_
    clear E a; intro a E
    refine S_v E rfl (R_fieldAddr E rfl (FA54_1 _)) rfl ?_
    clear E a; intro a E
    refine S_v E rfl (R_loadM E rfl Try.isAgg3 S.imm (cellM_boxo hb_1 rfl)) rfl ?_
    clear E a; intro a E
    refine S_v E rfl (R_lss E rfl rfl) rfl ?_
    clear E a; intro a E
    refine S_v E rfl (R_assign E rfl) rfl ?_
    clear E a; intro a E
    refine WL_nil ?_
    refine T_n ?_
    refine WP_ret ?_
    refine B_r ?_
    refine T_r ?_
    exact F_ret1 E Try.results46 rfl ⟨_, rfl, M_2, hM_2, (congrArg Value.bool (by (clear E S; unfold predAt; first | (have e := (first_eq (l := pl0) (by assumption)).1; simp_all; done) | (have e : pl0 = [] := List.eq_nil_of_length_eq_zero (by omega); simp_all; done) | (simp_all; done)))), S⟩
  · replace hc_3 := of_decide_eq_false hc_3
    refine WP_seq ?_
    refine WP_region ?_
    refine S_v E rfl (R_eql E rfl rfl) rfl ?_
    clear E a; intro a E
    refine S_v E rfl (R_assign E rfl) rfl ?_
    clear E a; intro a E
    refine WL_nil ?_
    refine T_n ?_
    refine WP_cond E rfl (fun hc_4 => ?_) (fun hc_4 => ?_)
    · replace hc_4 := of_decide_eq_true hc_4
      refine WP_seq ?_
      refine WP_region ?_
      refine S_v E rfl (R_assign E rfl) rfl ?_
      clear E a; intro a E
      refine WL_nil ?_
      refine T_n ?_
      refine WP_seq ?_
      refine WP_seq ?_
      refine WP_region ?_
      refine S_v E rfl (R_fieldAddr E rfl (FA54_2 _)) rfl ?_
      clear E a; intro a E
      refine S_v E rfl (R_loadM E rfl Try.isAgg22 S.imm (cellM_boxo hb_1 rfl)) rfl ?_
      clear E a; intro a E
      refine S_v E rfl (R_lenV E rfl T22 hw0.len) rfl ?_
      clear E a; intro a E
      refine S_v E rfl (R_gtr E rfl rfl) rfl ?_
      clear E a; intro a E
      refine WL_nil ?_
      refine T_n ?_
      refine WP_cond E rfl (fun hc_5 => ?_) (fun hc_5 => ?_)
      · replace hc_5 := of_decide_eq_true hc_5
        refine WP_region ?_
        refine S_v E rfl (R_fieldAddr E rfl (FA54_2 _)) rfl ?_
        clear E a; intro a E
        refine S_v E rfl (R_loadM E rfl Try.isAgg22 S.imm (cellM_boxo hb_1 rfl)) rfl ?_
        clear E a; intro a E
        obtain ⟨x_6, hx_6⟩ : ∃ x, (pl0)[0]? = some x := ⟨_, List.getElem?_eq_getElem (by first | omega | (simp; done) | (simp; omega) | (simp_all; omega))⟩
        obtain ⟨p_7, hp_7, qp_7⟩ := hw0.at hx_6
        refine S_v E rfl (R_idx E rfl rfl T22 hp_7 (by omega)) rfl ?_
        clear E a; intro a E
        refine S_v E rfl (R_loadM E rfl Try.isAgg3 S.imm qp_7) rfl ?_
        clear E a; intro a E
        refine S_v E rfl (R_assign E rfl) rfl ?_
        clear E a; intro a E
        refine WL_nil ?_
        refine T_n ?_
        refine WP_seq ?_
        refine WP_region ?_
        refine S_v E rfl (R_fieldAddr E rfl (FA54_1 _)) rfl ?_
        clear E a; intro a E
        refine S_v E rfl (R_loadM E rfl Try.isAgg3 S.imm (cellM_boxo hb_1 rfl)) rfl ?_
        clear E a; intro a E
        refine S_v E rfl (R_neq E rfl rfl) rfl ?_
        clear E a; intro a E
        refine S_v E rfl (R_move E rfl) rfl ?_
        clear E a; intro a E
        refine split_bool (decide (pn0 ≠ 0)) (fun hc_8 => ?_) (fun hc_8 => ?_)
        · replace E := E.val (t := 28) rfl hc_8
          replace E := E.val (t := 29) rfl hc_8
          replace hc_8 := of_decide_eq_true hc_8
          refine WL_guard_yes E rfl rfl ?_
          refine S_v E rfl (R_move E rfl) rfl ?_
          clear E a; intro a E
          refine WL_guard_yes E rfl rfl ?_
          refine S_v E rfl (R_fieldAddr E rfl (FA54_1 _)) rfl ?_
          clear E a; intro a E
          refine WL_guard_yes E rfl rfl ?_
          refine S_v E rfl (R_loadM E rfl Try.isAgg3 S.imm (cellM_boxo hb_1 rfl)) rfl ?_
          clear E a; intro a E
          refine WL_guard_yes E rfl rfl ?_
          refine S_x (X_pu E S rfl rfl rfl (laws_modulo (by first | omega | assumption) (by omega)) (Hp.le.refl _) ?_)
          clear E a S; rintro a _ w M_9 hM_9 rfl S E
          replace hw0 := hw0.le hM_9
          replace hb_1 := hM_9.2 _ _ hb_1
          refine WL_guard_yes E rfl rfl ?_
          refine S_v E rfl (R_move E rfl) rfl ?_
          clear E a; intro a E
          refine WL_guard_yes E rfl rfl ?_
          refine S_v E rfl (R_eql E rfl rfl) rfl ?_
          clear E a; intro a E
          refine S_v E rfl (R_pickT E rfl rfl) rfl ?_
          clear E a; intro a E
          refine S_v E rfl (R_assign E rfl) rfl ?_
          clear E a; intro a E
          refine WL_nil ?_
          refine T_n ?_
          refine WP_ret ?_
          refine B_r ?_
          refine T_r ?_
          exact F_ret1 E Try.results46 rfl ⟨_, rfl, M_9, (hM_2.trans hM_9), (congrArg Value.bool (by (clear E S; unfold predAt; first | (have e := (first_eq (l := pl0) (by assumption)).1; simp_all; done) | (have e : pl0 = [] := List.eq_nil_of_length_eq_zero (by omega); simp_all; done) | (simp_all; done)))), S⟩
        · replace E := E.val (t := 28) rfl hc_8
          replace E := E.val (t := 29) rfl hc_8
          replace hc_8 := of_decide_eq_false hc_8
          refine WL_guard_no E rfl rfl rfl rfl fun a E => ?_
          refine WL_guard_no E rfl rfl rfl rfl fun a E => ?_
          refine WL_guard_no E rfl rfl rfl rfl fun a E => ?_
          refine WL_guard_no E rfl rfl rfl rfl fun a E => ?_
          refine WL_guard_no E rfl rfl rfl rfl fun a E => ?_
          refine WL_guard_no E rfl rfl rfl rfl fun a E => ?_
          refine S_v E rfl (R_pickF E rfl rfl) rfl ?_
          clear E a; intro a E
          refine S_v E rfl (R_assign E rfl) rfl ?_
          clear E a; intro a E
          refine WL_nil ?_
          refine T_n ?_
          refine WP_ret ?_
          refine B_r ?_
          refine T_r ?_
          exact F_ret1 E Try.results46 rfl ⟨_, rfl, M_2, hM_2, (congrArg Value.bool (by (clear E S; unfold predAt; first | (have e := (first_eq (l := pl0) (by assumption)).1; simp_all; done) | (have e : pl0 = [] := List.eq_nil_of_length_eq_zero (by omega); simp_all; done) | (simp_all; done)))), S⟩
      · replace hc_5 := of_decide_eq_false hc_5
        refine WP_skip ?_
        refine T_n ?_
        refine WP_seq ?_
        refine WP_region ?_
        refine S_v E rfl (R_fieldAddr E rfl (FA54_1 _)) rfl ?_
        clear E a; intro a E
        refine S_v E rfl (R_loadM E rfl Try.isAgg3 S.imm (cellM_boxo hb_1 rfl)) rfl ?_
        clear E a; intro a E
        refine S_v E rfl (R_neq E rfl rfl) rfl ?_
        clear E a; intro a E
        refine S_v E rfl (R_move E rfl) rfl ?_
        clear E a; intro a E
        refine split_bool (decide (pn0 ≠ 0)) (fun hc_10 => ?_) (fun hc_10 => ?_)
        · replace E := E.val (t := 28) rfl hc_10
          replace E := E.val (t := 29) rfl hc_10
          replace hc_10 := of_decide_eq_true hc_10
          refine WL_guard_yes E rfl rfl ?_
          refine S_v E rfl (R_move E rfl) rfl ?_
          clear E a; intro a E
          refine WL_guard_yes E rfl rfl ?_
          refine S_v E rfl (R_fieldAddr E rfl (FA54_1 _)) rfl ?_
          clear E a; intro a E
          refine WL_guard_yes E rfl rfl ?_
          refine S_v E rfl (R_loadM E rfl Try.isAgg3 S.imm (cellM_boxo hb_1 rfl)) rfl ?_
          clear E a; intro a E
          refine WL_guard_yes E rfl rfl ?_
          refine S_x (X_pu E S rfl rfl rfl (laws_modulo (by first | omega | assumption) (by omega)) (Hp.le.refl _) ?_)
          clear E a S; rintro a _ w M_11 hM_11 rfl S E
          replace hw0 := hw0.le hM_11
          replace hb_1 := hM_11.2 _ _ hb_1
          refine WL_guard_yes E rfl rfl ?_
          refine S_v E rfl (R_move E rfl) rfl ?_
          clear E a; intro a E
          refine WL_guard_yes E rfl rfl ?_
          refine S_v E rfl (R_eql E rfl rfl) rfl ?_
          clear E a; intro a E
          refine S_v E rfl (R_pickT E rfl rfl) rfl ?_
          clear E a; intro a E
          refine S_v E rfl (R_assign E rfl) rfl ?_
          clear E a; intro a E
          refine WL_nil ?_
          refine T_n ?_
          refine WP_ret ?_
          refine B_r ?_
          refine T_r ?_
          exact F_ret1 E Try.results46 rfl ⟨_, rfl, M_11, (hM_2.trans hM_11), (congrArg Value.bool (by (clear E S; unfold predAt; first | (have e := (first_eq (l := pl0) (by assumption)).1; simp_all; done) | (have e : pl0 = [] := List.eq_nil_of_length_eq_zero (by omega); simp_all; done) | (simp_all; done)))), S⟩
        · replace E := E.val (t := 28) rfl hc_10
          replace E := E.val (t := 29) rfl hc_10
          replace hc_10 := of_decide_eq_false hc_10
          refine WL_guard_no E rfl rfl rfl rfl fun a E => ?_
          refine WL_guard_no E rfl rfl rfl rfl fun a E => ?_
          refine WL_guard_no E rfl rfl rfl rfl fun a E => ?_
          refine WL_guard_no E rfl rfl rfl rfl fun a E => ?_
          refine WL_guard_no E rfl rfl rfl rfl fun a E => ?_
          refine WL_guard_no E rfl rfl rfl rfl fun a E => ?_
          refine S_v E rfl (R_pickF E rfl rfl) rfl ?_
          clear E a; intro a E
          refine S_v E rfl (R_assign E rfl) rfl ?_
          clear E a; intro a E
          refine WL_nil ?_
          refine T_n ?_
          refine WP_ret ?_
          refine B_r ?_
          refine T_r ?_
          exact F_ret1 E Try.results46 rfl ⟨_, rfl, M_2, hM_2, (congrArg Value.bool (by (clear E S; unfold predAt; first | (have e := (first_eq (l := pl0) (by assumption)).1; simp_all; done) | (have e : pl0 = [] := List.eq_nil_of_length_eq_zero (by omega); simp_all; done) | (simp_all; done)))), S⟩
    · replace hc_4 := of_decide_eq_false hc_4
      refine WP_seq ?_
      refine WP_region ?_
      refine S_v E rfl (R_eql E rfl rfl) rfl ?_
      clear E a; intro a E
      refine S_v E rfl (R_assign E rfl) rfl ?_
      clear E a; intro a E
      refine WL_nil ?_
      refine T_n ?_
      refine WP_cond E rfl (fun hc_12 => ?_) (fun hc_12 => ?_)
      · replace hc_12 := of_decide_eq_true hc_12
        refine WP_seq ?_
        refine WP_region ?_
        refine S_v E rfl (R_fieldAddr E rfl (FA54_2 _)) rfl ?_
        clear E a; intro a E
        refine S_v E rfl (R_loadM E rfl Try.isAgg22 S.imm (cellM_boxo hb_1 rfl)) rfl ?_
        clear E a; intro a E
        refine S_v E rfl (R_move E rfl) rfl ?_
        clear E a; intro a E
        refine S_x (X_pu E S rfl rfl rfl (laws_in hw0) (Hp.le.refl _) ?_)
        clear E a S; rintro a _ w M_13 hM_13 rfl S E
        replace hw0 := hw0.le hM_13
        replace hb_1 := hM_13.2 _ _ hb_1
        refine S_v E rfl (R_assign E rfl) rfl ?_
        clear E a; intro a E
        refine WL_nil ?_
        refine T_n ?_
        refine WP_ret ?_
        refine B_r ?_
        refine T_r ?_
        exact F_ret1 E Try.results46 rfl ⟨_, rfl, M_13, (hM_2.trans hM_13), (congrArg Value.bool (by (clear E S; unfold predAt; first | (have e := (first_eq (l := pl0) (by assumption)).1; simp_all; done) | (have e : pl0 = [] := List.eq_nil_of_length_eq_zero (by omega); simp_all; done) | (simp_all; done)))), S⟩
      · replace hc_12 := of_decide_eq_false hc_12
        refine WP_seq ?_
        refine WP_region ?_
        refine S_v E rfl (R_eql E rfl rfl) rfl ?_
        clear E a; intro a E
        refine S_v E rfl (R_assign E rfl) rfl ?_
        clear E a; intro a E
        refine WL_nil ?_
        refine T_n ?_
        refine WP_cond E rfl (fun hc_14 => ?_) (fun hc_14 => ?_)
        · replace hc_14 := of_decide_eq_true hc_14
          refine WP_seq ?_
          refine WP_region ?_
          refine S_v E rfl (R_move E rfl) rfl ?_
          clear E a; intro a E
          refine S_v E rfl (R_rem E rfl rfl (by first | decide | omega)) rfl ?_
          clear E a; intro a E
          refine S_v E rfl (R_eql E rfl rfl) rfl ?_
          clear E a; intro a E
          refine S_v E rfl (R_assign E rfl) rfl ?_
          clear E a; intro a E
          refine WL_nil ?_
          refine T_n ?_
          refine WP_ret ?_
          refine B_r ?_
          refine T_r ?_
          exact F_ret1 E Try.results46 rfl ⟨_, rfl, M_2, hM_2, (congrArg Value.bool (by (clear E S; unfold predAt; first | (have e := (first_eq (l := pl0) (by assumption)).1; simp_all; done) | (have e : pl0 = [] := List.eq_nil_of_length_eq_zero (by omega); simp_all; done) | (simp_all; done)))), S⟩
        · replace hc_14 := of_decide_eq_false hc_14
          refine WP_seq ?_
          refine WP_region ?_
          refine S_v E rfl (R_eql E rfl rfl) rfl ?_
          clear E a; intro a E
          refine S_v E rfl (R_assign E rfl) rfl ?_
          clear E a; intro a E
          refine WL_nil ?_
          refine T_n ?_
          refine WP_cond E rfl (fun hc_15 => ?_) (fun hc_15 => ?_)
          · replace hc_15 := of_decide_eq_true hc_15
            refine WP_seq ?_
            refine WP_region ?_
            refine S_v E rfl (R_assign E rfl) rfl ?_
            clear E a; intro a E
            refine WL_nil ?_
            refine T_n ?_
            refine WP_ret ?_
            refine B_r ?_
            refine T_r ?_
            exact F_ret1 E Try.results46 rfl ⟨_, rfl, M_2, hM_2, (congrArg Value.bool (by (clear E S; unfold predAt; first | (have e := (first_eq (l := pl0) (by assumption)).1; simp_all; done) | (have e : pl0 = [] := List.eq_nil_of_length_eq_zero (by omega); simp_all; done) | (simp_all; done)))), S⟩
          · replace hc_15 := of_decide_eq_false hc_15
            refine WP_skip ?_
            refine B_n ?_
            refine T_n ?_
            refine WP_seq ?_
            refine WP_region ?_
            refine S_v E rfl (R_assign E rfl) rfl ?_
            clear E a; intro a E
            refine WL_nil ?_
            refine T_n ?_
            refine WP_ret ?_
            exact F_ret1 E Try.results46 rfl ⟨_, rfl, M_2, hM_2, (congrArg Value.bool (by (clear E S; unfold predAt; first | (have e := (first_eq (l := pl0) (by assumption)).1; simp_all; done) | (have e : pl0 = [] := List.eq_nil_of_length_eq_zero (by omega); simp_all; done) | (simp_all; done)))), S⟩

set_option maxRecDepth 100000 in
set_option maxHeartbeats 4000000 in
theorem laws_sorted {M : Hp} {v0 : Value} {l0 : List Int} (h0 : RdI M v0 l0) (hb : l0.length ≤ 1000000000000) :
    Pu Try.prog (.func (.func 31) #[] #[]) M [v0] (fun r M' => RdI M' r (setI l0)) := by
  refine Pu_enter Try.func31 rfl Try.ntmps31 rfl Try.call31 ?_
  intro a w M1 H hM1 S E
  replace h0 := h0.le hM1
  have b0 := h0.bound
  refine WP_seq ?_
  refine WP_region ?_
  refine S_v E rfl (R_assign E rfl) rfl ?_
  clear E a; intro a E
  refine WL_nil ?_
  refine T_n ?_
  refine WP_seq ?_
  refine WP_region ?_
  refine S_v E rfl (R_assign E rfl) rfl ?_
  clear E a; intro a E
  refine WL_nil ?_
  refine T_n ?_
  refine WP_seq ?_
  refine WP_seq ?_
  refine WP_region ?_
  refine S_v E rfl (R_move E rfl) rfl ?_
  clear E a; intro a E
  refine S_v E rfl (R_lenV E rfl T22 h0.len) rfl ?_
  clear E a; intro a E
  refine S_v E rfl (R_move E rfl) rfl ?_
  clear E a; intro a E
  refine WL_nil ?_
  refine T_n ?_
  refine WP_block ?_
  replace S := (S.ownNil (e := 3) (sz := 1)).made0
  replace S := S.re1 (l' := setI (l0.take 0)) (by first | (simp [setI]; done) | (rw [setI_take' (by assumption), insU_same (by rw [show l0[k]? = some _ by assumption]; assumption)]; done) | (rw [setI_take' (by assumption)]; exact set_bubble hsu.1 (by rw [show l0[k]? = some _ by assumption]; assumption) hL1_1 (by omega) (by first | (left; omega) | (right; exact ⟨_, bub_left (s := setI (l0.take k)) (x := (l0[k]?.getD 0)) (i := (setI (l0.take k)).length - j) (by omega) (by omega) (by assumption), by rw [← bub_at (s := setI (l0.take k)) (x := (l0[k]?.getD 0)) (i := (setI (l0.take k)).length - j) (by omega) (by assumption)]; assumption⟩))))
  refine WP_loop (γ := Nat) (fun (k : Nat) a w => ∃ (M_2 : Hp) (u3 : Value), Hp.le M1 M_2 ∧ St w M_2 (OwnI 3 u3 (setI (l0.take k)) :: H) ∧ Env a 57 [] [(3, u3), (7, v0), (8, .int .i64 (((l0).length : Nat) : Int)), (9, .int .i64 ((k : Nat) : Int))] ∧ (k ≤ (l0).length)) (fun k => ((l0).length) - k) 0 ⟨M1, _, Hp.le.refl _, S, E.keep ⟨rfl, rfl, rfl, rfl, trivial⟩, by ((try clear S); (try clear E); first | assumption | omega | rfl | (simp; done) | (simp_all; done) | (simp [List.take_add_one, *]; done) | grind [List.take_add_one])⟩ ?_
  try clear E
  try clear S
  try clear a
  try clear w
  rintro k a w ⟨M_2, u3, hM_2, S, E, hL0_0⟩
  replace h0 := h0.le hM_2
  have hsu := setI_spec (l0.take k); have hsl := hsu.2.2; simp only [List.length_take] at hsl
  refine WP_seq ?_
  refine WP_region ?_
  refine S_v E rfl (R_lss E rfl rfl) rfl ?_
  clear E a; intro a E
  refine WL_nil ?_
  refine T_n ?_
  refine WP_seq ?_
  refine WP_cond E rfl (fun hc_3 => ?_) (fun hc_3 => ?_)
  · replace hc_3 := of_decide_eq_true hc_3
    refine WP_skip ?_
    refine T_n ?_
    refine WP_seq ?_
    refine WP_block ?_
    refine WP_seq ?_
    refine WP_region ?_
    obtain ⟨x_4, hx_4⟩ : ∃ x, (l0)[k]? = some x := ⟨_, List.getElem?_eq_getElem (by first | omega | (simp; done) | (simp; omega) | (simp_all; omega))⟩
    obtain ⟨p_5, hp_5, qp_5⟩ := h0.at hx_4
    refine S_v E rfl (R_idx E rfl rfl T22 hp_5 rfl) rfl ?_
    clear E a; intro a E
    refine S_v E rfl (R_loadM E rfl Try.isAgg3 S.imm qp_5) rfl ?_
    clear E a; intro a E
    refine S_v E rfl (R_assign E rfl) rfl ?_
    clear E a; intro a E
    refine WL_nil ?_
    refine T_n ?_
    refine WP_seq ?_
    refine WP_seq ?_
    refine WP_region ?_
    refine S_v E rfl (R_move E rfl) rfl ?_
    clear E a; intro a E
    refine S_v E rfl (R_move E rfl) rfl ?_
    clear E a; intro a E
    obtain ⟨ML_6, hl_7, hv_8, S1, back⟩ := S.lendI (by omega)
    refine S_x (X_pu E S1 rfl rfl rfl (laws_in hv_8) (Hp.le.refl _) ?_)
    clear E a S; rintro a _ w M_9 hM_10 rfl S E
    replace S := back _ _ hM_10 S
    clear back S1
    refine WL_nil ?_
    refine T_n ?_
    refine WP_cond E rfl (fun hc_11 => ?_) (fun hc_11 => ?_)
    · replace hc_11 := of_decide_eq_true hc_11
      refine WP_exit ?_
      refine T_x ?_
      refine B_x ?_
      refine T_n ?_
      refine WP_region ?_
      refine S_v E rfl (R_addx (m := ((k + 1 : Nat) : Int)) E rfl rfl (by omega) (by omega)) rfl ?_
      clear E a; intro a E
      refine S_v E rfl (R_move E rfl) rfl ?_
      clear E a; intro a E
      refine WL_nil ?_
      refine T_n ?_
      replace S := S.re1 (l' := setI (l0.take (k + 1))) (by first | (simp [setI]; done) | (rw [setI_take' (by assumption), insU_same (by rw [show l0[k]? = some _ by assumption]; assumption)]; done) | (rw [setI_take' (by assumption)]; exact set_bubble hsu.1 (by rw [show l0[k]? = some _ by assumption]; assumption) hL1_1 (by omega) (by first | (left; omega) | (right; exact ⟨_, bub_left (s := setI (l0.take k)) (x := (l0[k]?.getD 0)) (i := (setI (l0.take k)).length - j) (by omega) (by omega) (by assumption), by rw [← bub_at (s := setI (l0.take k)) (x := (l0[k]?.getD 0)) (i := (setI (l0.take k)).length - j) (by omega) (by assumption)]; assumption⟩))))
      exact ⟨k + 1, ⟨M_2, _, hM_2, S, E.keep ⟨rfl, rfl, rfl, rfl, trivial⟩, by ((try clear S); (try clear E); first | assumption | omega | rfl | (simp; done) | (simp_all; done) | (simp [List.take_add_one, *]; done) | grind [List.take_add_one])⟩, by omega⟩
    · replace hc_11 := of_decide_eq_false hc_11
      refine WP_skip ?_
      refine T_n ?_
      refine WP_seq ?_
      refine WP_region ?_
      refine S_v E rfl (R_move E rfl) rfl ?_
      clear E a; intro a E
      refine S_v E rfl (R_move E rfl) rfl ?_
      clear E a; intro a E
      refine S_x (X_buildI (ys := [x_4]) E S rfl T22 rfl rfl rfl ?_)
      clear E a S; rintro a w v_12 E S
      replace S := S.front1
      replace S := S.front1
      refine S_x (X_appendB (xs := setI (l0.take k)) (ys := [x_4]) E S rfl rfl rfl T22 (by first | omega | (simp; done) | (simp; omega) | (simp_all; omega)) ?_)
      clear E a S; rintro a w v_13 E S
      refine S_v E rfl (R_assign E rfl) rfl ?_
      clear E a; intro a E
      refine WL_nil ?_
      refine T_n ?_
      refine WP_seq ?_
      refine WP_region ?_
      refine S_v E rfl (R_move E rfl) rfl ?_
      clear E a; intro a E
      refine S_v E rfl (R_lenV E rfl T22 S.lenC) rfl ?_
      clear E a; intro a E
      refine S_v E rfl (R_subx (m := ((((setI (l0.take k)) ++ [x_4]).length - 1 : Nat) : Int)) E rfl rfl (by first | omega | (simp; done) | (simp; omega)) (by first | omega | (simp; done) | (simp; omega))) rfl ?_
      clear E a; intro a E
      refine S_v E rfl (R_assign E rfl) rfl ?_
      clear E a; intro a E
      refine WL_nil ?_
      refine T_n ?_
      refine WP_block ?_
      replace S := S.re1 (l' := (setI (l0.take k)).take ((setI (l0.take k)).length - 0) ++ [(l0[k]?.getD 0)] ++ (setI (l0.take k)).drop ((setI (l0.take k)).length - 0)) (by first | (rw [show l0[k]? = some _ by assumption]; simp; done) | (have e1 := bub_at (s := setI (l0.take k)) (x := (l0[k]?.getD 0)) (i := (setI (l0.take k)).length - j) (by omega) (by assumption); have e2 := bub_left (s := setI (l0.take k)) (x := (l0[k]?.getD 0)) (i := (setI (l0.take k)).length - j) (by omega) (by omega) (by assumption); rw [show (setI (l0.take k)).length - (j + 1) = (setI (l0.take k)).length - j - 1 by omega, bubble_step (by omega) (by omega) e2, e1]))
      refine WP_loop (γ := Nat) (fun (j : Nat) a w => ∃ (M_14 : Hp), Hp.le M_2 M_14 ∧ St w M_14 (OwnI 3 v_13 ((setI (l0.take k)).take ((setI (l0.take k)).length - j) ++ [(l0[k]?.getD 0)] ++ (setI (l0.take k)).drop ((setI (l0.take k)).length - j)) :: H) ∧ Env a 57 [] [(3, v_13), (6, .int .i64 (((setI (l0.take k)).length - j : Nat) : Int)), (7, v0), (8, .int .i64 (((l0).length : Nat) : Int)), (9, .int .i64 ((k : Nat) : Int))] ∧ (j ≤ (setI (l0.take k)).length) ∧ (∀ y ∈ (setI (l0.take k)).drop ((setI (l0.take k)).length - j), (l0[k]?.getD 0) < y)) (fun j => (setI (l0.take k)).length - j) 0 ⟨M_2, Hp.le.refl _, S, E.keep ⟨rfl, look_nat (i := ((setI (l0.take k)) ++ [x_4]).length - 1) rfl (by (first | (simp; done) | (simp; omega))), rfl, rfl, rfl, trivial⟩, (by omega), (by simp)⟩ ?_
      try clear E
      try clear S
      try clear a
      try clear w
      rintro j a w ⟨M_14, hM_14, S, E, hL1_0, hL1_1⟩
      replace h0 := h0.le hM_14
      refine WP_seq ?_
      refine WP_seq ?_
      replace S := S.mono_heap (w' := World.drew _) rfl
      obtain ⟨p_15, hp_15⟩ := S.ptrC (k := (setI (l0.take k)).length - j) (by first | omega | (simp; done) | (simp; omega) | (simp_all; omega))
      obtain ⟨x_16, hx_16⟩ : ∃ x, ((setI (l0.take k)).take ((setI (l0.take k)).length - j) ++ [(l0[k]?.getD 0)] ++ (setI (l0.take k)).drop ((setI (l0.take k)).length - j))[(setI (l0.take k)).length - j]? = some x := ⟨_, List.getElem?_eq_getElem (by first | omega | (simp; done) | (simp; omega) | (simp_all; omega))⟩
      obtain ⟨p_17, hp_17⟩ := S.ptrC (k := (setI (l0.take k)).length - j - 1) (by first | omega | (simp; done) | (simp; omega) | (simp_all; omega))
      obtain ⟨x_18, hx_18⟩ : ∃ x, ((setI (l0.take k)).take ((setI (l0.take k)).length - j) ++ [(l0[k]?.getD 0)] ++ (setI (l0.take k)).drop ((setI (l0.take k)).length - j))[(setI (l0.take k)).length - j - 1]? = some x := ⟨_, List.getElem?_eq_getElem (by first | omega | (simp; done) | (simp; omega) | (simp_all; omega))⟩
      refine WP_drawn (C := fun x w => agree M_14 w ∧ (x = 6 → w.cell? p_15 = some (.int .i64 x_16)) ∧ (x = 11 → w.cell? p_17 = some (.int .i64 x_18))) (bf := (fun i => [])) [0, 1, 2, 3, 4, 5, 6, 7, 8, 9, 10, 11, 12, 13] [0, 1, 2, 3, 4, 5, 6, 7, 8, 9, 10, 11, 12, 13] Try.mixed (by kernel_rfl) (fun x hq => ⟨S.imm, fun _ => S.cellI hp_15 hx_16, fun _ => S.cellI hp_17 hx_18⟩) ?_
      refine D_v E rfl rfl rfl (fun w hC => (R_move E rfl)) ?_
      clear E a; intro a E
      refine D_v E rfl rfl rfl (fun w hC => (R_gtr E rfl rfl)) ?_
      clear E a; intro a E
      refine D_v E rfl rfl rfl (fun w hC => (R_move E rfl)) ?_
      clear E a; intro a E
      refine split_bool (decide (0 < (((setI (l0.take k)).length - j : Nat) : Int))) (fun hc_19 => ?_) (fun hc_19 => ?_)
      · replace E := E.val (t := 24) rfl hc_19
        replace E := E.val (t := 25) rfl hc_19
        replace hc_19 := of_decide_eq_true hc_19
        refine D_vyes E rfl rfl rfl rfl rfl (fun w hC => (R_move E rfl)) ?_
        clear E a; intro a E
        refine D_vyes E rfl rfl rfl rfl rfl (fun w hC => (R_move E rfl)) ?_
        clear E a; intro a E
        refine D_vyes E rfl rfl rfl rfl rfl (fun w hC => (R_idx E rfl rfl T22 hp_15 rfl)) ?_
        clear E a; intro a E
        refine D_vyes E rfl rfl rfl rfl rfl (fun w hC => (R_load E rfl (Try.isAgg3 _) (hC.2.1 rfl))) ?_
        clear E a; intro a E
        refine D_vyes E rfl rfl rfl rfl rfl (fun w hC => (R_move E rfl)) ?_
        clear E a; intro a E
        refine D_vyes E rfl rfl rfl rfl rfl (fun w hC => (R_move E rfl)) ?_
        clear E a; intro a E
        refine D_vyes E rfl rfl rfl rfl rfl (fun w hC => (R_subx (m := (((setI (l0.take k)).length - j - 1 : Nat) : Int)) E rfl rfl (by first | omega | (simp; done) | (simp; omega)) (by first | omega | (simp; done) | (simp; omega)))) ?_
        clear E a; intro a E
        refine D_vyes E rfl rfl rfl rfl rfl (fun w hC => (R_idx E rfl rfl T22 hp_17 rfl)) ?_
        clear E a; intro a E
        refine D_vyes E rfl rfl rfl rfl rfl (fun w hC => (R_load E rfl (Try.isAgg3 _) (hC.2.2 rfl))) ?_
        clear E a; intro a E
        refine D_vyes E rfl rfl rfl rfl rfl (fun w hC => (R_lss E rfl rfl)) ?_
        clear E a; intro a E
        refine D_v E rfl rfl rfl (fun w hC => (R_pickT E rfl rfl)) ?_
        clear E a; intro a E
        refine D_end (NoP_n ?_)
        refine T_n ?_
        refine WP_cond E rfl (fun hc_20 => ?_) (fun hc_20 => ?_)
        · replace hc_20 := of_decide_eq_true hc_20
          refine WP_skip ?_
          refine T_n ?_
          refine WP_seq ?_
          refine WP_block ?_
          replace S := S.mono_heap (w' := World.drew _) rfl
          refine WP_drawn (C := fun x w => agree M_14 w ∧ (x = 9 → w.cell? p_17 = some (.int .i64 x_18)) ∧ (x = 13 → w.cell? p_15 = some (.int .i64 x_16))) (bf := (fun i => bif Nat.beq i 15 then [9, 13] else bif Nat.beq i 17 then [9, 13] else [])) [0, 1, 2, 3, 4, 5, 6, 7, 8, 9, 10, 11, 12, 13, 14, 16] [0, 1, 2, 3, 4, 5, 6, 7, 8, 9, 10, 11, 12, 13, 14, 15, 16, 17] Try.mixed (by kernel_rfl) (fun x hq => ⟨S.imm, fun _ => S.cellI hp_17 hx_18, fun _ => S.cellI hp_15 hx_16⟩) ?_
          refine D_v E rfl rfl rfl (fun w hC => (R_move E rfl)) ?_
          clear E a; intro a E
          refine D_v E rfl rfl rfl (fun w hC => (R_move E rfl)) ?_
          clear E a; intro a E
          refine D_v E rfl rfl rfl (fun w hC => (R_move E rfl)) ?_
          clear E a; intro a E
          refine D_v E rfl rfl rfl (fun w hC => (R_move E rfl)) ?_
          clear E a; intro a E
          refine D_v E rfl rfl rfl (fun w hC => (R_subx (m := (((setI (l0.take k)).length - j - 1 : Nat) : Int)) E rfl rfl (by omega) (by omega))) ?_
          clear E a; intro a E
          refine D_v E rfl rfl rfl (fun w hC => (R_move E rfl)) ?_
          clear E a; intro a E
          refine D_v E rfl rfl rfl (fun w hC => (R_move E rfl)) ?_
          clear E a; intro a E
          refine D_v E rfl rfl rfl (fun w hC => (R_subx (m := (((setI (l0.take k)).length - j - 1 : Nat) : Int)) E rfl rfl (by omega) (by omega))) ?_
          clear E a; intro a E
          refine D_v E rfl rfl rfl (fun w hC => (R_idx E rfl rfl T22 hp_17 rfl)) ?_
          clear E a; intro a E
          refine D_v E rfl rfl rfl (fun w hC => (R_load E rfl (Try.isAgg3 _) (hC.2.1 rfl))) ?_
          clear E a; intro a E
          refine D_v E rfl rfl rfl (fun w hC => (R_move E rfl)) ?_
          clear E a; intro a E
          refine D_v E rfl rfl rfl (fun w hC => (R_move E rfl)) ?_
          clear E a; intro a E
          refine D_v E rfl rfl rfl (fun w hC => (R_idx E rfl rfl T22 hp_15 rfl)) ?_
          clear E a; intro a E
          refine D_v E rfl rfl rfl (fun w hC => (R_load E rfl (Try.isAgg3 _) (hC.2.2 rfl))) ?_
          clear E a; intro a E
          refine D_v E rfl rfl rfl (fun w hC => (R_idx E rfl rfl T22 hp_15 rfl)) ?_
          clear E a; intro a E
          refine D_x rfl rfl rfl (X_storeI E S rfl rfl (Try.sizeOf3 _) hp_15 ?_)
          clear E a S; rintro a w E S
          refine ⟨fun x hq hb => ⟨(agree_le (Hp.le.refl _) S.imm), (fun e => by subst e; exact absurd hb (by decide)), (fun e => by subst e; exact absurd hb (by decide))⟩, ?_⟩
          refine D_v E rfl rfl rfl (fun w hC => (R_idx E rfl rfl T22 hp_17 rfl)) ?_
          clear E a; intro a E
          refine D_x rfl rfl rfl (X_storeI E S rfl rfl (Try.sizeOf3 _) hp_17 ?_)
          clear E a S; rintro a w E S
          refine ⟨fun x hq hb => ⟨(agree_le (Hp.le.refl _) S.imm), (fun e => by subst e; exact absurd hb (by decide)), (fun e => by subst e; exact absurd hb (by decide))⟩, ?_⟩
          refine D_end (NoP_n ?_)
          refine B_n ?_
          refine T_n ?_
          refine WP_region ?_
          refine S_v E rfl (R_move E rfl) rfl ?_
          clear E a; intro a E
          refine S_v E rfl (R_subx (m := (((setI (l0.take k)).length - j - 1 : Nat) : Int)) E rfl rfl (by first | omega | (simp; done) | (simp; omega)) (by first | omega | (simp; done) | (simp; omega))) rfl ?_
          clear E a; intro a E
          refine S_v E rfl (R_assign E rfl) rfl ?_
          clear E a; intro a E
          refine WL_nil ?_
          refine T_n ?_
          replace S := S.re1 (l' := (setI (l0.take k)).take ((setI (l0.take k)).length - (j + 1)) ++ [(l0[k]?.getD 0)] ++ (setI (l0.take k)).drop ((setI (l0.take k)).length - (j + 1))) (by first | (rw [show l0[k]? = some _ by assumption]; simp; done) | (have e1 := bub_at (s := setI (l0.take k)) (x := (l0[k]?.getD 0)) (i := (setI (l0.take k)).length - j) (by omega) (by assumption); have e2 := bub_left (s := setI (l0.take k)) (x := (l0[k]?.getD 0)) (i := (setI (l0.take k)).length - j) (by omega) (by omega) (by assumption); rw [show (setI (l0.take k)).length - (j + 1) = (setI (l0.take k)).length - j - 1 by omega, bubble_step (by omega) (by omega) e2, e1]))
          exact ⟨j + 1, ⟨M_14, hM_14, S, E.keep ⟨rfl, look_nat (i := (setI (l0.take k)).length - j - 1) rfl (by (omega)), rfl, rfl, rfl, trivial⟩, (by omega), (by rw [show (setI (l0.take k)).length - (j + 1) = (setI (l0.take k)).length - j - 1 by omega]; exact drop_bub hL1_1 (by omega) (by omega) (bub_left (s := setI (l0.take k)) (x := (l0[k]?.getD 0)) (i := (setI (l0.take k)).length - j) (by omega) (by omega) (by assumption)) (by rw [← bub_at (s := setI (l0.take k)) (x := (l0[k]?.getD 0)) (i := (setI (l0.take k)).length - j) (by omega) (by assumption)]; assumption))⟩, by omega⟩
        · replace hc_20 := of_decide_eq_false hc_20
          refine WP_exit ?_
          refine T_x ?_
          refine T_x ?_
          refine B_x ?_
          refine B_n ?_
          refine T_n ?_
          refine WP_region ?_
          refine S_v E rfl (R_addx (m := ((k + 1 : Nat) : Int)) E rfl rfl (by omega) (by omega)) rfl ?_
          clear E a; intro a E
          refine S_v E rfl (R_move E rfl) rfl ?_
          clear E a; intro a E
          refine WL_nil ?_
          refine T_n ?_
          replace S := S.re1 (l' := setI (l0.take (k + 1))) (by first | (simp [setI]; done) | (rw [setI_take' (by assumption), insU_same (by rw [show l0[k]? = some _ by assumption]; assumption)]; done) | (rw [setI_take' (by assumption)]; exact set_bubble hsu.1 (by rw [show l0[k]? = some _ by assumption]; assumption) hL1_1 (by omega) (by first | (left; omega) | (right; exact ⟨_, bub_left (s := setI (l0.take k)) (x := (l0[k]?.getD 0)) (i := (setI (l0.take k)).length - j) (by omega) (by omega) (by assumption), by rw [← bub_at (s := setI (l0.take k)) (x := (l0[k]?.getD 0)) (i := (setI (l0.take k)).length - j) (by omega) (by assumption)]; assumption⟩))))
          exact ⟨k + 1, ⟨M_14, _, (hM_2.trans hM_14), S, E.keep ⟨rfl, rfl, rfl, rfl, trivial⟩, by ((try clear S); (try clear E); first | assumption | omega | rfl | (simp; done) | (simp_all; done) | (simp [List.take_add_one, *]; done) | grind [List.take_add_one])⟩, by omega⟩
      · replace E := E.val (t := 24) rfl hc_19
        replace E := E.val (t := 25) rfl hc_19
        replace hc_19 := of_decide_eq_false hc_19
        refine D_no E rfl rfl rfl rfl rfl fun a E => ?_
        refine D_no E rfl rfl rfl rfl rfl fun a E => ?_
        refine D_no E rfl rfl rfl rfl rfl fun a E => ?_
        refine D_no E rfl rfl rfl rfl rfl fun a E => ?_
        refine D_no E rfl rfl rfl rfl rfl fun a E => ?_
        refine D_no E rfl rfl rfl rfl rfl fun a E => ?_
        refine D_no E rfl rfl rfl rfl rfl fun a E => ?_
        refine D_no E rfl rfl rfl rfl rfl fun a E => ?_
        refine D_no E rfl rfl rfl rfl rfl fun a E => ?_
        refine D_no E rfl rfl rfl rfl rfl fun a E => ?_
        refine D_v E rfl rfl rfl (fun w hC => (R_pickF E rfl rfl)) ?_
        clear E a; intro a E
        refine D_end (NoP_n ?_)
        refine T_n ?_
        refine WP_condF E rfl rfl ?_
        refine WP_exit ?_
        refine T_x ?_
        refine T_x ?_
        refine B_x ?_
        refine B_n ?_
        refine T_n ?_
        refine WP_region ?_
        refine S_v E rfl (R_addx (m := ((k + 1 : Nat) : Int)) E rfl rfl (by omega) (by omega)) rfl ?_
        clear E a; intro a E
        refine S_v E rfl (R_move E rfl) rfl ?_
        clear E a; intro a E
        refine WL_nil ?_
        refine T_n ?_
        replace S := S.re1 (l' := setI (l0.take (k + 1))) (by first | (simp [setI]; done) | (rw [setI_take' (by assumption), insU_same (by rw [show l0[k]? = some _ by assumption]; assumption)]; done) | (rw [setI_take' (by assumption)]; exact set_bubble hsu.1 (by rw [show l0[k]? = some _ by assumption]; assumption) hL1_1 (by omega) (by first | (left; omega) | (right; exact ⟨_, bub_left (s := setI (l0.take k)) (x := (l0[k]?.getD 0)) (i := (setI (l0.take k)).length - j) (by omega) (by omega) (by assumption), by rw [← bub_at (s := setI (l0.take k)) (x := (l0[k]?.getD 0)) (i := (setI (l0.take k)).length - j) (by omega) (by assumption)]; assumption⟩))))
        exact ⟨k + 1, ⟨M_14, _, (hM_2.trans hM_14), S, E.keep ⟨rfl, rfl, rfl, rfl, trivial⟩, by ((try clear S); (try clear E); first | assumption | omega | rfl | (simp; done) | (simp_all; done) | (simp [List.take_add_one, *]; done) | grind [List.take_add_one])⟩, by omega⟩
  · replace hc_3 := of_decide_eq_false hc_3
    refine WP_exit ?_
    refine T_x ?_
    refine T_x ?_
    refine B_x ?_
    refine T_n ?_
    refine WP_seq ?_
    refine WP_region ?_
    refine S_v E rfl (R_move E rfl) rfl ?_
    clear E a; intro a E
    refine S_v E rfl (R_assign E rfl) rfl ?_
    clear E a; intro a E
    refine WL_nil ?_
    refine T_n ?_
    refine WP_ret ?_
    have S0 := S; clear S
    obtain ⟨M_21, hM_21, hz_22, S⟩ := S0.freezeI (by (first | omega | (simp; omega) | (simp; done) | (simp_all; omega) | grind))
    clear S0
    replace h0 := h0.le hM_21
    exact F_ret1 E Try.results31 rfl ⟨_, rfl, M_21, (hM_2.trans hM_21), (by rw [show (setI l0) = (setI (l0.take k)) from by (rw [List.take_of_length_le (by omega)])]; exact hz_22), S⟩

set_option maxRecDepth 100000 in
set_option maxHeartbeats 4000000 in
theorem lo_KeyBy {M : Hp} {v0 : Value} {l0 : List Int} (h0 : RdI M v0 l0){v1 : Value} {f1 : Int → Int} (h1 : PF1I Try.prog v1 M f1) :
    Pu Try.prog (.func (.func 119) #[] #[]) M [v0, v1] (fun r M' => RdM M' r (encE (Value.int .i64) (mkE ((l0).map fun x => (f1 x, x))))) := by
  refine Pu_enter Try.func119 rfl Try.ntmps119 rfl Try.call119 ?_
  intro a w M1 H hM1 S E
  replace h0 := h0.le hM1
  replace h1 := h1.le hM1
  have b0 := h0.bound
  refine WP_seq ?_
  refine WP_region ?_
  refine S_v E rfl (R_assign E rfl) rfl ?_
  clear E a; intro a E
  refine WL_nil ?_
  refine T_n ?_
  refine WP_seq ?_
  refine WP_region ?_
  refine S_v E rfl (R_move E rfl) rfl ?_
  clear E a; intro a E
  refine S_v E rfl (R_lenV E rfl T22 h0.len) rfl ?_
  clear E a; intro a E
  refine S_x (X_makeMapR E S rfl MT103 rfl ?_)
  clear E a S; rintro a w b_1 E S
  replace S : St w M1 (OwnE (Value.int .i64) b_1 ([] : List (Int × Int)) :: _) := S
  refine S_v E rfl (R_assign E rfl) rfl ?_
  clear E a; intro a E
  refine WL_nil ?_
  refine T_n ?_
  refine WP_seq ?_
  refine WP_seq ?_
  refine WP_region ?_
  refine S_v E rfl (R_move E rfl) rfl ?_
  clear E a; intro a E
  refine S_v E rfl (R_lenV E rfl T22 h0.len) rfl ?_
  clear E a; intro a E
  refine S_v E rfl (R_move E rfl) rfl ?_
  clear E a; intro a E
  refine WL_nil ?_
  refine T_n ?_
  refine WP_block ?_
  replace S := S.reM (L' := (encE (Value.int .i64) (mkE ((l0.take 0).map fun x => (f1 x, x))))) (congrArg (encE (Value.int .i64)) (show ([] : List (Int × Int)) = mkE ((l0.take 0).map fun x => (f1 x, x)) by first | rfl | (simp [mkE]; done) | exact mkE_by (by assumption)))
  refine WP_loop (γ := Nat) (fun (k : Nat) a w => ∃ (M_2 : Hp), Hp.le M1 M_2 ∧ St w M_2 (OwnE (Value.int .i64) b_1 (mkE ((l0.take k).map fun x => (f1 x, x))) :: H) ∧ Env a 30 [] [(0, v0), (1, v1), (5, .map (some b_1)), (12, .int .i64 (((l0).length : Nat) : Int)), (13, .int .i64 ((k : Nat) : Int))] ∧ (k ≤ (l0).length)) (fun k => ((l0).length) - k) 0 ⟨M1, Hp.le.refl _, S, E.keep ⟨rfl, rfl, rfl, rfl, rfl, trivial⟩, by ((try clear S); (try clear E); first | assumption | omega | rfl | (simp; done) | (simp_all; done) | (simp [List.take_add_one, *]; done) | grind [List.take_add_one])⟩ ?_
  try clear E
  try clear S
  try clear a
  try clear w
  rintro k a w ⟨M_2, hM_2, S, E, hL0_0⟩
  replace h0 := h0.le hM_2
  replace h1 := h1.le hM_2
  refine WP_seq ?_
  refine WP_region ?_
  refine S_v E rfl (R_lss E rfl rfl) rfl ?_
  clear E a; intro a E
  refine WL_nil ?_
  refine T_n ?_
  refine WP_seq ?_
  refine WP_cond E rfl (fun hc_3 => ?_) (fun hc_3 => ?_)
  · replace hc_3 := of_decide_eq_true hc_3
    refine WP_skip ?_
    refine T_n ?_
    refine WP_seq ?_
    refine WP_block ?_
    refine WP_seq ?_
    refine WP_region ?_
    refine S_v E rfl (R_move E rfl) rfl ?_
    clear E a; intro a E
    refine S_v E rfl (R_assign E rfl) rfl ?_
    clear E a; intro a E
    refine WL_nil ?_
    refine T_n ?_
    refine WP_seq ?_
    refine WP_region ?_
    refine S_v E rfl (R_move E rfl) rfl ?_
    clear E a; intro a E
    refine S_v E rfl (R_move E rfl) rfl ?_
    clear E a; intro a E
    refine S_v E rfl (R_move E rfl) rfl ?_
    clear E a; intro a E
    obtain ⟨x_4, hx_4⟩ : ∃ x, (l0)[k]? = some x := ⟨_, List.getElem?_eq_getElem (by first | omega | (simp; done) | (simp; omega) | (simp_all; omega))⟩
    obtain ⟨p_5, hp_5, qp_5⟩ := h0.at hx_4
    refine S_v E rfl (R_idx E rfl rfl T22 hp_5 rfl) rfl ?_
    clear E a; intro a E
    refine S_v E rfl (R_loadM E rfl Try.isAgg3 S.imm qp_5) rfl ?_
    clear E a; intro a E
    refine S_x (X_pu E S rfl rfl rfl (h1.2 x_4) (Hp.le.refl _) ?_)
    clear E a S; rintro a _ w M_6 hM_6 rfl S E
    replace h0 := h0.le hM_6
    replace h1 := h1.le hM_6
    refine S_v E rfl (R_assign E rfl) rfl ?_
    clear E a; intro a E
    refine WL_nil ?_
    refine T_n ?_
    refine WP_region ?_
    refine S_v E rfl (R_move E rfl) rfl ?_
    clear E a; intro a E
    refine S_v E rfl (R_move E rfl) rfl ?_
    clear E a; intro a E
    refine S_v E rfl (R_move E rfl) rfl ?_
    clear E a; intro a E
    refine S_v E rfl (R_move E rfl) rfl ?_
    clear E a; intro a E
    obtain ⟨p_7, hp_7, qp_7⟩ := h0.at hx_4
    refine S_v E rfl (R_idx E rfl rfl T22 hp_7 rfl) rfl ?_
    clear E a; intro a E
    refine S_v E rfl (R_loadM E rfl Try.isAgg3 S.imm qp_7) rfl ?_
    clear E a; intro a E
    refine S_x0 (X_updateE (vf := (Value.int .i64)) (u := x_4) E S MT103 rfl rfl rfl ?_)
    clear E a S; rintro a w E S
    refine WL_nil ?_
    refine B_n ?_
    refine T_n ?_
    refine WP_region ?_
    refine S_v E rfl (R_addx (m := ((k + 1 : Nat) : Int)) E rfl rfl (by omega) (by omega)) rfl ?_
    clear E a; intro a E
    refine S_v E rfl (R_move E rfl) rfl ?_
    clear E a; intro a E
    refine WL_nil ?_
    refine T_n ?_
    replace S := S.reM (L' := (encE (Value.int .i64) (mkE ((l0.take (k + 1)).map fun x => (f1 x, x))))) (congrArg (encE (Value.int .i64)) (show putK (mkE ((l0.take k).map fun x => (f1 x, x))) (f1 x_4) x_4 = mkE ((l0.take (k + 1)).map fun x => (f1 x, x)) by first | rfl | (simp [mkE]; done) | exact mkE_by (by assumption)))
    exact ⟨k + 1, ⟨M_6, (hM_2.trans hM_6), S, E.keep ⟨rfl, rfl, rfl, rfl, rfl, trivial⟩, by ((try clear S); (try clear E); first | assumption | omega | rfl | (simp; done) | (simp_all; done) | (simp [List.take_add_one, *]; done) | grind [List.take_add_one])⟩, by omega⟩
  · replace hc_3 := of_decide_eq_false hc_3
    refine WP_exit ?_
    refine T_x ?_
    refine T_x ?_
    refine B_x ?_
    refine T_n ?_
    refine WP_seq ?_
    refine WP_region ?_
    refine S_v E rfl (R_move E rfl) rfl ?_
    clear E a; intro a E
    refine S_v E rfl (R_assign E rfl) rfl ?_
    clear E a; intro a E
    refine WL_nil ?_
    refine T_n ?_
    refine WP_ret ?_
    have S0 := S; clear S
    obtain ⟨M_8, hM_8, hm_9, S⟩ := S0.freezeM
    clear S0
    replace h0 := h0.le hM_8
    replace h1 := h1.le hM_8
    exact F_ret1 E Try.results119 rfl ⟨_, rfl, M_8, (hM_2.trans hM_8), (by rw [show (mkE ((l0).map fun x => (f1 x, x))) = (mkE ((l0.take k).map fun x => (f1 x, x))) from by (rw [List.take_of_length_le (by omega)])]; exact hm_9), S⟩

set_option maxRecDepth 100000 in
set_option maxHeartbeats 4000000 in
theorem Key_of_c {M : Hp} {kk0 kn0 : Int} (gk0 : -9223372036854775808 ≤ kn0 ∧ kn0 ≤ 9223372036854775807){x1 : Int} :
    PuC Try.prog 86 M [.agg #[.int .i64 kk0, .int .i64 kn0], .int .i64 x1] (fun r M' => r = .int .i64 (keyAt kk0 kn0 x1 0)) := by
  refine PuC_enter Try.func86 rfl Try.ntmps86 rfl ?_
  intro a w M1 H hM1 S E
  refine WP_seq ?_
  refine WP_region ?_
  refine S_x (X_box (cs := #[.int .i64 kk0, .int .i64 kn0]) E S rfl rfl rfl ?_)
  clear E a S; rintro a w b_1 E S
  obtain ⟨M_2, hM_2, hb_1, S⟩ := S.freezeB
  refine S_v E rfl (R_assign E rfl) rfl ?_
  clear E a; intro a E
  refine WL_nil ?_
  refine T_n ?_
  refine WP_seq ?_
  refine WP_region ?_
  refine S_v E rfl (R_loadGM E rfl (Try.isAgg24 _) (Try.sizeOf24 _) S.imm hb_1) rfl ?_
  clear E a; intro a E
  refine S_v E rfl (R_move E rfl) rfl ?_
  clear E a; intro a E
  refine S_x (X_pu E S rfl rfl rfl (Key_at_d (by omega)) (Hp.le.refl _) ?_)
  clear E a S; rintro a _ w M_3 hM_3 rfl S E
  replace hb_1 := hM_3.2 _ _ hb_1
  refine S_v E rfl (R_assign E rfl) rfl ?_
  clear E a; intro a E
  refine WL_nil ?_
  refine T_n ?_
  refine WP_ret ?_
  exact F_ret1 E Try.results86 rfl ⟨_, rfl, M_3, (hM_2.trans hM_3), rfl, S⟩
theorem Key_of {M : Hp} {kk0 kn0 : Int} (gk0 : -9223372036854775808 ≤ kn0 ∧ kn0 ≤ 9223372036854775807){x1 : Int} :
    Pu Try.prog (.func (.func 86) #[.agg #[.int .i64 kk0, .int .i64 kn0]] #[]) M [.int .i64 x1] (fun r M' => r = .int .i64 (keyAt kk0 kn0 x1 0)) := PuC.pu Try.call86 rfl (Key_of_c gk0)
theorem Key_of_d {M : Hp} {kk0 kn0 : Int} (gk0 : -9223372036854775808 ≤ kn0 ∧ kn0 ≤ 9223372036854775807){x1 : Int} :
    Pu Try.prog (.func (.func 86) #[] #[]) M [.agg #[.int .i64 kk0, .int .i64 kn0], .int .i64 x1] (fun r M' => r = .int .i64 (keyAt kk0 kn0 x1 0)) := PuC.pu Try.call86 rfl (Key_of_c gk0)

set_option maxRecDepth 100000 in
set_option maxHeartbeats 4000000 in
theorem impl_KeyBy {M : Hp} {v0 : Value} {l0 : List Int} (h0 : RdI M v0 l0){kk1 kn1 : Int} (gk1 : -9223372036854775808 ≤ kn1 ∧ kn1 ≤ 9223372036854775807) (hb : l0.length ≤ 1000000000000) :
    Pu Try.prog (.func (.func 47) #[] #[]) M [v0, .agg #[.int .i64 kk1, .int .i64 kn1]] (fun r M' => RdS 2 RP2 M' r (entE ((l0).map fun x => (keyAt kk1 kn1 x 0, x)))) := by
  refine Pu_enter Try.func47 rfl Try.ntmps47 rfl Try.call47 ?_
  intro a w M1 H hM1 S E
  replace h0 := h0.le hM1
  have b0 := h0.bound
  refine WP_seq ?_
  refine WP_region ?_
  refine S_x (X_box (cs := #[.int .i64 kk1, .int .i64 kn1]) E S rfl rfl rfl ?_)
  clear E a S; rintro a w b_1 E S
  obtain ⟨M_2, hM_2, hb_1, S⟩ := S.freezeB
  replace h0 := h0.le hM_2
  refine S_v E rfl (R_assign E rfl) rfl ?_
  clear E a; intro a E
  refine WL_nil ?_
  refine T_n ?_
  refine WP_seq ?_
  refine WP_region ?_
  refine S_v E rfl (R_move E rfl) rfl ?_
  clear E a; intro a E
  refine S_v E rfl (R_loadGM E rfl (Try.isAgg24 _) (Try.sizeOf24 _) S.imm hb_1) rfl ?_
  clear E a; intro a E
  refine S_v E rfl (R_makeFunc E rfl rfl) rfl ?_
  clear E a; intro a E
  refine S_x (X_pu E S rfl rfl rfl (lo_KeyBy h0 ⟨rfl, fun zx1 => Key_of (x1 := zx1) (by omega)⟩) (Hp.le.refl _) ?_)
  clear E a S; rintro a v_4 w M_3 hM_3 hv_4 S E
  replace h0 := h0.le hM_3
  replace hb_1 := hM_3.2 _ _ hb_1
  refine S_x (X_pu E S rfl rfl rfl (impl_pairs hv_4 (by first | omega | (exact bigE _ l0 (by first | (rw [ixm_len]; exact Nat.le_refl _) | exact kpix_len _ _ _ | (rw [List.length_map]; exact Nat.le_refl _)) (by omega)) | (first | omega | (simp; omega) | (simp; done) | (simp_all; omega) | grind))) (Hp.le.refl _) ?_)
  clear E a S; rintro a v_6 w M_5 hM_5 hv_6 S E
  replace h0 := h0.le hM_5
  replace hb_1 := hM_5.2 _ _ hb_1
  replace hv_4 := hv_4.le hM_5
  refine S_v E rfl (R_assign E rfl) rfl ?_
  clear E a; intro a E
  refine WL_nil ?_
  refine T_n ?_
  refine WP_ret ?_
  exact F_ret1 E Try.results47 rfl ⟨_, rfl, M_5, (hM_2.trans (hM_3.trans hM_5)), (by rw [show (entE ((l0).map fun x => (keyAt kk1 kn1 x 0, x))) = (srtK Prod.fst (mkE ((l0).map fun x => ((fun x => keyAt kk1 kn1 x 0) x, x)))) from by rfl]; exact hv_6), S⟩

set_option maxRecDepth 100000 in
set_option maxHeartbeats 4000000 in
theorem laws_eqPairs {M : Hp} {v0 : Value} {l0 : List (Int × Int)} (h0 : RdS 2 RP2 M v0 l0) {v1 : Value} {l1 : List (Int × Int)} (h1 : RdS 2 RP2 M v1 l1) :
    Pu Try.prog (.func (.func 26) #[] #[]) M [v0, v1] (fun r M' => r = .bool (decide (l0 = l1))) := by
  refine Pu_enter Try.func26 rfl Try.ntmps26 rfl Try.call26 ?_
  intro a w M1 H hM1 S E
  replace h0 := h0.le RP2_mono hM1
  replace h1 := h1.le RP2_mono hM1
  have b0 := h0.bound
  have b1 := h1.bound
  refine WP_seq ?_
  refine WP_region ?_
  refine S_v E rfl (R_assign E rfl) rfl ?_
  clear E a; intro a E
  refine WL_nil ?_
  refine T_n ?_
  refine WP_seq ?_
  refine WP_seq ?_
  refine WP_region ?_
  refine S_v E rfl (R_move E rfl) rfl ?_
  clear E a; intro a E
  refine S_v E rfl (R_lenV E rfl T33 h0.len) rfl ?_
  clear E a; intro a E
  refine S_v E rfl (R_move E rfl) rfl ?_
  clear E a; intro a E
  refine S_v E rfl (R_lenV E rfl T33 h1.len) rfl ?_
  clear E a; intro a E
  refine S_v E rfl (R_neq E rfl rfl) rfl ?_
  clear E a; intro a E
  refine WL_nil ?_
  refine T_n ?_
  refine WP_cond E rfl (fun hc_1 => ?_) (fun hc_1 => ?_)
  · replace hc_1 := of_decide_eq_true hc_1
    refine WP_seq ?_
    refine WP_region ?_
    refine S_v E rfl (R_assign E rfl) rfl ?_
    clear E a; intro a E
    refine WL_nil ?_
    refine T_n ?_
    refine WP_ret ?_
    refine T_r ?_
    exact F_ret1 E Try.results26 rfl ⟨_, rfl, M1, (Hp.le.refl _), (bF (by (first | (simp; done) | exact eqp_no (by assumption) (by assumption) (p2_ne (by assumption)) | (have h9 : l0.take k = l1.take k := (by assumption); rwa [List.take_of_length_le (by omega), List.take_of_length_le (by omega)] at h9) | (intro h9; subst h9; omega) | (intro h9; subst h9; simp_all; done)))), S⟩
  · replace hc_1 := of_decide_eq_false hc_1
    refine WP_skip ?_
    refine T_n ?_
    refine WP_seq ?_
    refine WP_seq ?_
    refine WP_region ?_
    refine S_v E rfl (R_move E rfl) rfl ?_
    clear E a; intro a E
    refine S_v E rfl (R_lenV E rfl T33 h0.len) rfl ?_
    clear E a; intro a E
    refine S_v E rfl (R_move E rfl) rfl ?_
    clear E a; intro a E
    refine WL_nil ?_
    refine T_n ?_
    refine WP_block ?_
    refine WP_loop (γ := Nat) (fun (k : Nat) a w => ∃ (M_2 : Hp), Hp.le M1 M_2 ∧ St w M_2 (H) ∧ Env a 26 [] [(0, v0), (1, v1), (12, .int .i64 (((l0).length : Nat) : Int)), (13, .int .i64 ((k : Nat) : Int))] ∧ (k ≤ (l0).length) ∧ (l0.length = l1.length) ∧ (l0.take k = l1.take k)) (fun k => ((l0).length) - k) 0 ⟨M1, Hp.le.refl _, S, E.keep ⟨rfl, rfl, rfl, rfl, trivial⟩, by ((try clear S); (try clear E); first | assumption | omega | rfl | (simp; done) | (simp_all; done) | (simp [List.take_add_one, *]; done) | grind [List.take_add_one]), by ((try clear S); (try clear E); first | assumption | omega | rfl | (simp; done) | (simp_all; done) | (simp [List.take_add_one, *]; done) | grind [List.take_add_one]), by ((try clear S); (try clear E); first | assumption | omega | rfl | (simp; done) | (simp_all; done) | (simp [List.take_add_one, *]; done) | grind [List.take_add_one])⟩ ?_
    try clear E
    try clear S
    try clear a
    try clear w
    rintro k a w ⟨M_2, hM_2, S, E, hL0_0, hL0_1, hL0_2⟩
    replace h0 := h0.le RP2_mono hM_2
    replace h1 := h1.le RP2_mono hM_2
    refine WP_seq ?_
    refine WP_region ?_
    refine S_v E rfl (R_lss E rfl rfl) rfl ?_
    clear E a; intro a E
    refine WL_nil ?_
    refine T_n ?_
    refine WP_seq ?_
    refine WP_cond E rfl (fun hc_3 => ?_) (fun hc_3 => ?_)
    · replace hc_3 := of_decide_eq_true hc_3
      refine WP_skip ?_
      refine T_n ?_
      refine WP_seq ?_
      refine WP_block ?_
      refine WP_seq ?_
      refine WP_region ?_
      refine S_v E rfl (R_move E rfl) rfl ?_
      clear E a; intro a E
      refine S_v E rfl (R_assign E rfl) rfl ?_
      clear E a; intro a E
      refine WL_nil ?_
      refine T_n ?_
      refine WP_seq ?_
      replace S := S.mono_heap (w' := World.drew _) rfl
      refine WP_drawn (C := fun x w => agree M_2 w) (bf := (fun i => [])) [0, 1, 2, 3, 4, 5, 6, 7, 8] [0, 1, 2, 3, 4, 5, 6, 7, 8] Try.mixed (by kernel_rfl) (fun x hq => S.imm) ?_
      refine D_v E rfl rfl rfl (fun w hC => (R_move E rfl)) ?_
      clear E a; intro a E
      refine D_v E rfl rfl rfl (fun w hC => (R_move E rfl)) ?_
      clear E a; intro a E
      obtain ⟨x_4, hx_4⟩ : ∃ x, (l0)[k]? = some x := ⟨_, List.getElem?_eq_getElem (by first | omega | (simp; done) | (simp; omega) | (simp_all; omega))⟩
      obtain ⟨p_5, hp_5, qp_5⟩ := RdP2.at h0 hx_4
      refine D_v E rfl rfl rfl (fun w hC => (R_idx E rfl rfl T33 hp_5 rfl)) ?_
      clear E a; intro a E
      refine D_v E rfl rfl rfl (fun w hC => (R_loadA (cs := [.int .i64 x_4.1, .int .i64 x_4.2]) E rfl (Try.isAgg59 _) (Try.sizeOf59 _) hC qp_5)) ?_
      clear E a; intro a E
      refine D_v E rfl rfl rfl (fun w hC => (R_move E rfl)) ?_
      clear E a; intro a E
      refine D_v E rfl rfl rfl (fun w hC => (R_move E rfl)) ?_
      clear E a; intro a E
      obtain ⟨x_6, hx_6⟩ : ∃ x, (l1)[k]? = some x := ⟨_, List.getElem?_eq_getElem (by first | omega | (simp; done) | (simp; omega) | (simp_all; omega))⟩
      obtain ⟨p_7, hp_7, qp_7⟩ := RdP2.at h1 hx_6
      refine D_v E rfl rfl rfl (fun w hC => (R_idx E rfl rfl T33 hp_7 rfl)) ?_
      clear E a; intro a E
      refine D_v E rfl rfl rfl (fun w hC => (R_loadA (cs := [.int .i64 x_6.1, .int .i64 x_6.2]) E rfl (Try.isAgg59 _) (Try.sizeOf59 _) hC qp_7)) ?_
      clear E a; intro a E
      refine D_v E rfl rfl rfl (fun w hC => (R_neqA E rfl rfl (by kernel_rfl) (EQ59 x_4.1 x_4.2 x_6.1 x_6.2 _))) ?_
      clear E a; intro a E
      refine D_end (NoP_n ?_)
      refine T_n ?_
      refine WP_cond E rfl (fun hc_8 => ?_) (fun hc_8 => ?_)
      · replace hc_8 := of_decide_eq_true hc_8
        refine WP_seq ?_
        refine WP_region ?_
        refine S_v E rfl (R_assign E rfl) rfl ?_
        clear E a; intro a E
        refine WL_nil ?_
        refine T_n ?_
        refine WP_ret ?_
        refine B_r ?_
        refine T_r ?_
        refine T_r ?_
        refine B_r ?_
        refine T_r ?_
        exact F_ret1 E Try.results26 rfl ⟨_, rfl, M_2, hM_2, (bF (by (first | (simp; done) | exact eqp_no (by assumption) (by assumption) (p2_ne (by assumption)) | (have h9 : l0.take k = l1.take k := (by assumption); rwa [List.take_of_length_le (by omega), List.take_of_length_le (by omega)] at h9) | (intro h9; subst h9; omega) | (intro h9; subst h9; simp_all; done)))), S⟩
      · replace hc_8 := of_decide_eq_false hc_8
        refine WP_skip ?_
        refine B_n ?_
        refine T_n ?_
        refine WP_region ?_
        refine S_v E rfl (R_addx (m := ((k + 1 : Nat) : Int)) E rfl rfl (by omega) (by omega)) rfl ?_
        clear E a; intro a E
        refine S_v E rfl (R_move E rfl) rfl ?_
        clear E a; intro a E
        refine WL_nil ?_
        refine T_n ?_
        exact ⟨k + 1, ⟨M_2, hM_2, S, E.keep ⟨rfl, rfl, rfl, rfl, trivial⟩, by ((try clear S); (try clear E); first | assumption | omega | rfl | (simp; done) | (simp_all; done) | (simp [List.take_add_one, *]; done) | grind [List.take_add_one]), by ((try clear S); (try clear E); first | assumption | omega | rfl | (simp; done) | (simp_all; done) | (simp [List.take_add_one, *]; done) | grind [List.take_add_one]), (by exact eqp_step (by assumption) (by assumption) (by assumption) (p2_eq (by first | assumption | exact Decidable.not_not.1 (by assumption))))⟩, by omega⟩
    · replace hc_3 := of_decide_eq_false hc_3
      refine WP_exit ?_
      refine T_x ?_
      refine T_x ?_
      refine B_x ?_
      refine T_n ?_
      refine WP_seq ?_
      refine WP_region ?_
      refine S_v E rfl (R_assign E rfl) rfl ?_
      clear E a; intro a E
      refine WL_nil ?_
      refine T_n ?_
      refine WP_ret ?_
      exact F_ret1 E Try.results26 rfl ⟨_, rfl, M_2, hM_2, (bT (by (first | (simp; done) | exact eqp_no (by assumption) (by assumption) (p2_ne (by assumption)) | (have h9 : l0.take k = l1.take k := (by assumption); rwa [List.take_of_length_le (by omega), List.take_of_length_le (by omega)] at h9) | (intro h9; subst h9; omega) | (intro h9; subst h9; simp_all; done)))), S⟩

set_option maxRecDepth 100000 in
set_option maxHeartbeats 4000000 in
theorem spec_mod {M : Hp} {x0 x1 : Int} (hn : x1 ≠ 0) (g0 : -9223372036854775808 ≤ x0 ∧ x0 ≤ 9223372036854775807) (g1 : -9223372036854775808 ≤ x1 ∧ x1 ≤ 9223372036854775807) :
    Pu Try.prog (.func (.func 169) #[] #[]) M [.int .i64 x0, .int .i64 x1] (fun r M' => r = .int .i64 (x0 % x1)) := by
  refine Pu_enter Try.func169 rfl Try.ntmps169 rfl Try.call169 ?_
  intro a w M1 H hM1 S E
  refine WP_seq ?_
  refine WP_region ?_
  refine S_v E rfl (R_assign E rfl) rfl ?_
  clear E a; intro a E
  refine WL_nil ?_
  refine T_n ?_
  refine WP_seq ?_
  refine WP_region ?_
  refine S_v E rfl (R_move E rfl) rfl ?_
  clear E a; intro a E
  refine S_v E rfl (R_convm (m := x1 % 18446744073709551616) E rfl Try.underlying3 Try.underlying172 (by first | (rw [u64_wrap]; omega) | (rw [u64_wrap]; simp; omega) | rw [u64_wrap])) rfl ?_
  clear E a; intro a E
  refine S_v E rfl (R_assign E rfl) rfl ?_
  clear E a; intro a E
  refine WL_nil ?_
  refine T_n ?_
  refine WP_seq ?_
  refine WP_seq ?_
  refine WP_region ?_
  refine S_v E rfl (R_move E rfl) rfl ?_
  clear E a; intro a E
  refine S_v E rfl (R_lss E rfl rfl) rfl ?_
  clear E a; intro a E
  refine WL_nil ?_
  refine T_n ?_
  refine WP_cond E rfl (fun hc_1 => ?_) (fun hc_1 => ?_)
  · replace hc_1 := of_decide_eq_true hc_1
    refine WP_region ?_
    refine S_v E rfl (R_move E rfl) rfl ?_
    clear E a; intro a E
    refine S_v E rfl (R_negm (m := -x1) E rfl (by first | (rw [u64_wrap]; omega) | rw [u64_wrap])) rfl ?_
    clear E a; intro a E
    refine S_v E rfl (R_assign E rfl) rfl ?_
    clear E a; intro a E
    refine WL_nil ?_
    refine T_n ?_
    refine WP_seq ?_
    refine WP_seq ?_
    refine WP_region ?_
    refine S_v E rfl (R_move E rfl) rfl ?_
    clear E a; intro a E
    refine S_v E rfl (R_geq E rfl rfl) rfl ?_
    clear E a; intro a E
    refine WL_nil ?_
    refine T_n ?_
    refine WP_cond E rfl (fun hc_2 => ?_) (fun hc_2 => ?_)
    · replace hc_2 := of_decide_eq_true hc_2
      refine WP_seq ?_
      refine WP_region ?_
      refine S_v E rfl (R_move E rfl) rfl ?_
      clear E a; intro a E
      refine S_v E rfl (R_convm (m := x0) E rfl Try.underlying3 Try.underlying172 (by first | (rw [u64_wrap]; omega) | (rw [u64_wrap]; simp; omega) | rw [u64_wrap])) rfl ?_
      clear E a; intro a E
      refine S_v E rfl (R_move E rfl) rfl ?_
      clear E a; intro a E
      have hr_3 := tmod_nn (p := x0) (q := -x1) (by omega) (by omega)
      refine S_v E rfl (R_rem E rfl rfl (by first | decide | omega)) rfl ?_
      clear E a; intro a E
      refine S_v E rfl (R_convx E rfl Try.underlying172 Try.underlying3 (by omega)) rfl ?_
      clear E a; intro a E
      refine S_v E rfl (R_assign E rfl) rfl ?_
      clear E a; intro a E
      refine WL_nil ?_
      refine T_n ?_
      refine WP_ret ?_
      refine T_r ?_
      exact F_ret1 E Try.results169 rfl ⟨_, rfl, M1, (Hp.le.refl _), (congrArg (Value.int .i64) (by (clear E S; first | (have en : x1 < 0 := (by omega); have e3 : x0 % (-x1) = x0 % x1 := Int.emod_neg ..; have a1 := modA x0 (-x1) (by omega); omega) | (have e : x1 % 18446744073709551616 = x1 := (by omega); simp only [e] at *; have a1 := modA x0 x1 (by omega); omega)))), S⟩
    · replace hc_2 := of_decide_eq_false hc_2
      refine WP_skip ?_
      refine T_n ?_
      refine WP_seq ?_
      refine WP_region ?_
      refine S_v E rfl (R_move E rfl) rfl ?_
      clear E a; intro a E
      refine S_v E rfl (R_convm (m := x0 % 18446744073709551616) E rfl Try.underlying3 Try.underlying172 (by first | (rw [u64_wrap]; omega) | (rw [u64_wrap]; simp; omega) | rw [u64_wrap])) rfl ?_
      clear E a; intro a E
      refine S_v E rfl (R_negm (m := -x0) E rfl (by first | (rw [u64_wrap]; omega) | rw [u64_wrap])) rfl ?_
      clear E a; intro a E
      refine S_v E rfl (R_move E rfl) rfl ?_
      clear E a; intro a E
      have hr_4 := tmod_nn (p := -x0) (q := -x1) (by omega) (by omega)
      refine S_v E rfl (R_rem E rfl rfl (by first | decide | omega)) rfl ?_
      clear E a; intro a E
      refine S_v E rfl (R_assign E rfl) rfl ?_
      clear E a; intro a E
      refine WL_nil ?_
      refine T_n ?_
      refine WP_seq ?_
      refine WP_seq ?_
      refine WP_region ?_
      refine S_v E rfl (R_move E rfl) rfl ?_
      clear E a; intro a E
      refine S_v E rfl (R_gtr E rfl rfl) rfl ?_
      clear E a; intro a E
      refine WL_nil ?_
      refine T_n ?_
      refine WP_cond E rfl (fun hc_5 => ?_) (fun hc_5 => ?_)
      · replace hc_5 := of_decide_eq_true hc_5
        refine WP_region ?_
        refine S_v E rfl (R_move E rfl) rfl ?_
        clear E a; intro a E
        refine S_v E rfl (R_move E rfl) rfl ?_
        clear E a; intro a E
        refine S_v E rfl (R_subm (m := (-x1) - (Int.tmod (-x0) (-x1))) E rfl rfl (by first | (rw [u64_wrap]; omega) | rw [u64_wrap])) rfl ?_
        clear E a; intro a E
        refine S_v E rfl (R_assign E rfl) rfl ?_
        clear E a; intro a E
        refine WL_nil ?_
        refine T_n ?_
        refine WP_seq ?_
        refine WP_region ?_
        refine S_v E rfl (R_move E rfl) rfl ?_
        clear E a; intro a E
        refine S_v E rfl (R_convx E rfl Try.underlying172 Try.underlying3 (by omega)) rfl ?_
        clear E a; intro a E
        refine S_v E rfl (R_assign E rfl) rfl ?_
        clear E a; intro a E
        refine WL_nil ?_
        refine T_n ?_
        refine WP_ret ?_
        exact F_ret1 E Try.results169 rfl ⟨_, rfl, M1, (Hp.le.refl _), (congrArg (Value.int .i64) (by (clear E S; first | (have en : x1 < 0 := (by omega); have e3 : x0 % (-x1) = x0 % x1 := Int.emod_neg ..; have a1 := modA x0 (-x1) (by omega); omega) | (have e : x1 % 18446744073709551616 = x1 := (by omega); simp only [e] at *; have a1 := modA x0 x1 (by omega); omega)))), S⟩
      · replace hc_5 := of_decide_eq_false hc_5
        refine WP_skip ?_
        refine T_n ?_
        refine WP_seq ?_
        refine WP_region ?_
        refine S_v E rfl (R_move E rfl) rfl ?_
        clear E a; intro a E
        refine S_v E rfl (R_convx E rfl Try.underlying172 Try.underlying3 (by omega)) rfl ?_
        clear E a; intro a E
        refine S_v E rfl (R_assign E rfl) rfl ?_
        clear E a; intro a E
        refine WL_nil ?_
        refine T_n ?_
        refine WP_ret ?_
        exact F_ret1 E Try.results169 rfl ⟨_, rfl, M1, (Hp.le.refl _), (congrArg (Value.int .i64) (by (clear E S; first | (have en : x1 < 0 := (by omega); have e3 : x0 % (-x1) = x0 % x1 := Int.emod_neg ..; have a1 := modA x0 (-x1) (by omega); omega) | (have e : x1 % 18446744073709551616 = x1 := (by omega); simp only [e] at *; have a1 := modA x0 x1 (by omega); omega)))), S⟩
  · replace hc_1 := of_decide_eq_false hc_1
    refine WP_skip ?_
    refine T_n ?_
    refine WP_seq ?_
    refine WP_seq ?_
    refine WP_region ?_
    refine S_v E rfl (R_move E rfl) rfl ?_
    clear E a; intro a E
    refine S_v E rfl (R_geq E rfl rfl) rfl ?_
    clear E a; intro a E
    refine WL_nil ?_
    refine T_n ?_
    refine WP_cond E rfl (fun hc_6 => ?_) (fun hc_6 => ?_)
    · replace hc_6 := of_decide_eq_true hc_6
      refine WP_seq ?_
      refine WP_region ?_
      refine S_v E rfl (R_move E rfl) rfl ?_
      clear E a; intro a E
      refine S_v E rfl (R_convm (m := x0) E rfl Try.underlying3 Try.underlying172 (by first | (rw [u64_wrap]; omega) | (rw [u64_wrap]; simp; omega) | rw [u64_wrap])) rfl ?_
      clear E a; intro a E
      refine S_v E rfl (R_move E rfl) rfl ?_
      clear E a; intro a E
      have hr_7 := tmod_nn (p := x0) (q := x1 % 18446744073709551616) (by omega) (by omega)
      refine S_v E rfl (R_rem E rfl rfl (by first | decide | omega)) rfl ?_
      clear E a; intro a E
      refine S_v E rfl (R_convx E rfl Try.underlying172 Try.underlying3 (by omega)) rfl ?_
      clear E a; intro a E
      refine S_v E rfl (R_assign E rfl) rfl ?_
      clear E a; intro a E
      refine WL_nil ?_
      refine T_n ?_
      refine WP_ret ?_
      refine T_r ?_
      exact F_ret1 E Try.results169 rfl ⟨_, rfl, M1, (Hp.le.refl _), (congrArg (Value.int .i64) (by (clear E S; first | (have en : x1 < 0 := (by omega); have e3 : x0 % (-x1) = x0 % x1 := Int.emod_neg ..; have a1 := modA x0 (-x1) (by omega); omega) | (have e : x1 % 18446744073709551616 = x1 := (by omega); simp only [e] at *; have a1 := modA x0 x1 (by omega); omega)))), S⟩
    · replace hc_6 := of_decide_eq_false hc_6
      refine WP_skip ?_
      refine T_n ?_
      refine WP_seq ?_
      refine WP_region ?_
      refine S_v E rfl (R_move E rfl) rfl ?_
      clear E a; intro a E
      refine S_v E rfl (R_convm (m := x0 % 18446744073709551616) E rfl Try.underlying3 Try.underlying172 (by first | (rw [u64_wrap]; omega) | (rw [u64_wrap]; simp; omega) | rw [u64_wrap])) rfl ?_
      clear E a; intro a E
      refine S_v E rfl (R_negm (m := -x0) E rfl (by first | (rw [u64_wrap]; omega) | rw [u64_wrap])) rfl ?_
      clear E a; intro a E
      refine S_v E rfl (R_move E rfl) rfl ?_
      clear E a; intro a E
      have hr_8 := tmod_nn (p := -x0) (q := x1 % 18446744073709551616) (by omega) (by omega)
      refine S_v E rfl (R_rem E rfl rfl (by first | decide | omega)) rfl ?_
      clear E a; intro a E
      refine S_v E rfl (R_assign E rfl) rfl ?_
      clear E a; intro a E
      refine WL_nil ?_
      refine T_n ?_
      refine WP_seq ?_
      refine WP_seq ?_
      refine WP_region ?_
      refine S_v E rfl (R_move E rfl) rfl ?_
      clear E a; intro a E
      refine S_v E rfl (R_gtr E rfl rfl) rfl ?_
      clear E a; intro a E
      refine WL_nil ?_
      refine T_n ?_
      refine WP_cond E rfl (fun hc_9 => ?_) (fun hc_9 => ?_)
      · replace hc_9 := of_decide_eq_true hc_9
        refine WP_region ?_
        refine S_v E rfl (R_move E rfl) rfl ?_
        clear E a; intro a E
        refine S_v E rfl (R_move E rfl) rfl ?_
        clear E a; intro a E
        refine S_v E rfl (R_subm (m := (x1 % 18446744073709551616) - (Int.tmod (-x0) (x1 % 18446744073709551616))) E rfl rfl (by first | (rw [u64_wrap]; omega) | rw [u64_wrap])) rfl ?_
        clear E a; intro a E
        refine S_v E rfl (R_assign E rfl) rfl ?_
        clear E a; intro a E
        refine WL_nil ?_
        refine T_n ?_
        refine WP_seq ?_
        refine WP_region ?_
        refine S_v E rfl (R_move E rfl) rfl ?_
        clear E a; intro a E
        refine S_v E rfl (R_convx E rfl Try.underlying172 Try.underlying3 (by omega)) rfl ?_
        clear E a; intro a E
        refine S_v E rfl (R_assign E rfl) rfl ?_
        clear E a; intro a E
        refine WL_nil ?_
        refine T_n ?_
        refine WP_ret ?_
        exact F_ret1 E Try.results169 rfl ⟨_, rfl, M1, (Hp.le.refl _), (congrArg (Value.int .i64) (by (clear E S; first | (have en : x1 < 0 := (by omega); have e3 : x0 % (-x1) = x0 % x1 := Int.emod_neg ..; have a1 := modA x0 (-x1) (by omega); omega) | (have e : x1 % 18446744073709551616 = x1 := (by omega); simp only [e] at *; have a1 := modA x0 x1 (by omega); omega)))), S⟩
      · replace hc_9 := of_decide_eq_false hc_9
        refine WP_skip ?_
        refine T_n ?_
        refine WP_seq ?_
        refine WP_region ?_
        refine S_v E rfl (R_move E rfl) rfl ?_
        clear E a; intro a E
        refine S_v E rfl (R_convx E rfl Try.underlying172 Try.underlying3 (by omega)) rfl ?_
        clear E a; intro a E
        refine S_v E rfl (R_assign E rfl) rfl ?_
        clear E a; intro a E
        refine WL_nil ?_
        refine T_n ?_
        refine WP_ret ?_
        exact F_ret1 E Try.results169 rfl ⟨_, rfl, M1, (Hp.le.refl _), (congrArg (Value.int .i64) (by (clear E S; first | (have en : x1 < 0 := (by omega); have e3 : x0 % (-x1) = x0 % x1 := Int.emod_neg ..; have a1 := modA x0 (-x1) (by omega); omega) | (have e : x1 % 18446744073709551616 = x1 := (by omega); simp only [e] at *; have a1 := modA x0 x1 (by omega); omega)))), S⟩

set_option maxRecDepth 100000 in
set_option maxHeartbeats 4000000 in
theorem SKey_Of_c {M : Hp} {kk0 kn0 : Int} (gk0 : -9223372036854775808 ≤ kn0 ∧ kn0 ≤ 9223372036854775807){x1 x2 : Int} (gx : -9223372036854775808 ≤ x1 ∧ x1 ≤ 9223372036854775807) :
    PuC Try.prog 115 M [.agg #[.int .i64 kk0, .int .i64 kn0], .int .i64 x1, .int .i64 x2] (fun r M' => r = .int .i64 (keyAt kk0 kn0 x1 x2)) := by
  refine PuC_enter Try.func115 rfl Try.ntmps115 rfl ?_
  intro a w M1 H hM1 S E
  refine WP_seq ?_
  refine WP_region ?_
  refine S_x (X_box (cs := #[.int .i64 kk0, .int .i64 kn0]) E S rfl rfl rfl ?_)
  clear E a S; rintro a w b_1 E S
  obtain ⟨M_2, hM_2, hb_1, S⟩ := S.freezeB
  refine S_v E rfl (R_assign E rfl) rfl ?_
  clear E a; intro a E
  refine WL_nil ?_
  refine T_n ?_
  refine WP_seq ?_
  refine WP_seq ?_
  refine WP_region ?_
  refine S_v E rfl (R_fieldAddr E rfl (FA45_0 _)) rfl ?_
  clear E a; intro a E
  refine S_v E rfl (R_loadM E rfl Try.isAgg3 S.imm (cellM_boxo hb_1 rfl)) rfl ?_
  clear E a; intro a E
  refine WL_nil ?_
  refine T_n ?_
  refine WP_block ?_
  refine WP_seq ?_
  refine WP_region ?_
  refine S_v E rfl (R_eql E rfl rfl) rfl ?_
  clear E a; intro a E
  refine S_v E rfl (R_assign E rfl) rfl ?_
  clear E a; intro a E
  refine WL_nil ?_
  refine T_n ?_
  refine WP_cond E rfl (fun hc_3 => ?_) (fun hc_3 => ?_)
  · replace hc_3 := of_decide_eq_true hc_3
    refine WP_seq ?_
    refine WP_region ?_
    refine S_v E rfl (R_move E rfl) rfl ?_
    clear E a; intro a E
    refine S_v E rfl (R_fieldAddr E rfl (FA45_1 _)) rfl ?_
    clear E a; intro a E
    refine S_v E rfl (R_loadM E rfl Try.isAgg3 S.imm (cellM_boxo hb_1 rfl)) rfl ?_
    clear E a; intro a E
    refine S_v E rfl (R_add E rfl rfl) rfl ?_
    clear E a; intro a E
    refine S_v E rfl (R_assign E rfl) rfl ?_
    clear E a; intro a E
    refine WL_nil ?_
    refine T_n ?_
    refine WP_ret ?_
    refine B_r ?_
    refine T_r ?_
    exact F_ret1 E Try.results115 rfl ⟨_, rfl, M_2, hM_2, (congrArg (Value.int .i64) (by (clear E S; unfold keyAt w64; first | (simp [*]; done) | (simp_all; done)))), S⟩
  · replace hc_3 := of_decide_eq_false hc_3
    refine WP_seq ?_
    refine WP_region ?_
    refine S_v E rfl (R_eql E rfl rfl) rfl ?_
    clear E a; intro a E
    refine S_v E rfl (R_assign E rfl) rfl ?_
    clear E a; intro a E
    refine WL_nil ?_
    refine T_n ?_
    refine WP_cond E rfl (fun hc_4 => ?_) (fun hc_4 => ?_)
    · replace hc_4 := of_decide_eq_true hc_4
      refine WP_seq ?_
      refine WP_region ?_
      refine S_v E rfl (R_move E rfl) rfl ?_
      clear E a; intro a E
      refine S_v E rfl (R_fieldAddr E rfl (FA45_1 _)) rfl ?_
      clear E a; intro a E
      refine S_v E rfl (R_loadM E rfl Try.isAgg3 S.imm (cellM_boxo hb_1 rfl)) rfl ?_
      clear E a; intro a E
      refine S_v E rfl (R_mul E rfl rfl) rfl ?_
      clear E a; intro a E
      refine S_v E rfl (R_assign E rfl) rfl ?_
      clear E a; intro a E
      refine WL_nil ?_
      refine T_n ?_
      refine WP_ret ?_
      refine B_r ?_
      refine T_r ?_
      exact F_ret1 E Try.results115 rfl ⟨_, rfl, M_2, hM_2, (congrArg (Value.int .i64) (by (clear E S; unfold keyAt w64; first | (simp [*]; done) | (simp_all; done)))), S⟩
    · replace hc_4 := of_decide_eq_false hc_4
      refine WP_seq ?_
      refine WP_region ?_
      refine S_v E rfl (R_eql E rfl rfl) rfl ?_
      clear E a; intro a E
      refine S_v E rfl (R_assign E rfl) rfl ?_
      clear E a; intro a E
      refine WL_nil ?_
      refine T_n ?_
      refine WP_cond E rfl (fun hc_5 => ?_) (fun hc_5 => ?_)
      · replace hc_5 := of_decide_eq_true hc_5
        refine WP_seq ?_
        refine WP_region ?_
        refine S_v E rfl (R_fieldAddr E rfl (FA45_1 _)) rfl ?_
        clear E a; intro a E
        refine S_v E rfl (R_loadM E rfl Try.isAgg3 S.imm (cellM_boxo hb_1 rfl)) rfl ?_
        clear E a; intro a E
        refine S_v E rfl (R_neq E rfl rfl) rfl ?_
        clear E a; intro a E
        refine WL_nil ?_
        refine T_n ?_
        refine WP_cond E rfl (fun hc_6 => ?_) (fun hc_6 => ?_)
        · replace hc_6 := of_decide_eq_true hc_6
          refine WP_seq ?_
          refine WP_region ?_
          refine S_v E rfl (R_move E rfl) rfl ?_
          clear E a; intro a E
          refine S_v E rfl (R_fieldAddr E rfl (FA45_1 _)) rfl ?_
          clear E a; intro a E
          refine S_v E rfl (R_loadM E rfl Try.isAgg3 S.imm (cellM_boxo hb_1 rfl)) rfl ?_
          clear E a; intro a E
          refine S_x (X_pu E S rfl rfl rfl (spec_mod (by first | omega | assumption) (by omega) (by omega)) (Hp.le.refl _) ?_)
          clear E a S; rintro a _ w M_7 hM_7 rfl S E
          replace hb_1 := hM_7.2 _ _ hb_1
          refine S_v E rfl (R_assign E rfl) rfl ?_
          clear E a; intro a E
          refine WL_nil ?_
          refine T_n ?_
          refine WP_ret ?_
          refine B_r ?_
          refine T_r ?_
          exact F_ret1 E Try.results115 rfl ⟨_, rfl, M_7, (hM_2.trans hM_7), (congrArg (Value.int .i64) (by (clear E S; unfold keyAt w64; first | (simp [*]; done) | (simp_all; done)))), S⟩
        · replace hc_6 := of_decide_eq_false hc_6
          refine WP_skip ?_
          refine B_n ?_
          refine T_n ?_
          refine WP_seq ?_
          refine WP_region ?_
          refine S_v E rfl (R_move E rfl) rfl ?_
          clear E a; intro a E
          refine S_v E rfl (R_assign E rfl) rfl ?_
          clear E a; intro a E
          refine WL_nil ?_
          refine T_n ?_
          refine WP_ret ?_
          exact F_ret1 E Try.results115 rfl ⟨_, rfl, M_2, hM_2, (congrArg (Value.int .i64) (by (clear E S; unfold keyAt w64; first | (simp [*]; done) | (simp_all; done)))), S⟩
      · replace hc_5 := of_decide_eq_false hc_5
        refine WP_seq ?_
        refine WP_region ?_
        refine S_v E rfl (R_eql E rfl rfl) rfl ?_
        clear E a; intro a E
        refine S_v E rfl (R_assign E rfl) rfl ?_
        clear E a; intro a E
        refine WL_nil ?_
        refine T_n ?_
        refine WP_cond E rfl (fun hc_8 => ?_) (fun hc_8 => ?_)
        · replace hc_8 := of_decide_eq_true hc_8
          refine WP_seq ?_
          refine WP_region ?_
          refine S_v E rfl (R_fieldAddr E rfl (FA45_1 _)) rfl ?_
          clear E a; intro a E
          refine S_v E rfl (R_loadM E rfl Try.isAgg3 S.imm (cellM_boxo hb_1 rfl)) rfl ?_
          clear E a; intro a E
          refine S_v E rfl (R_assign E rfl) rfl ?_
          clear E a; intro a E
          refine WL_nil ?_
          refine T_n ?_
          refine WP_ret ?_
          refine B_r ?_
          refine T_r ?_
          exact F_ret1 E Try.results115 rfl ⟨_, rfl, M_2, hM_2, (congrArg (Value.int .i64) (by (clear E S; unfold keyAt w64; first | (simp [*]; done) | (simp_all; done)))), S⟩
        · replace hc_8 := of_decide_eq_false hc_8
          refine WP_seq ?_
          refine WP_region ?_
          refine S_v E rfl (R_eql E rfl rfl) rfl ?_
          clear E a; intro a E
          refine S_v E rfl (R_assign E rfl) rfl ?_
          clear E a; intro a E
          refine WL_nil ?_
          refine T_n ?_
          refine WP_cond E rfl (fun hc_9 => ?_) (fun hc_9 => ?_)
          · replace hc_9 := of_decide_eq_true hc_9
            refine WP_seq ?_
            refine WP_region ?_
            refine S_v E rfl (R_move E rfl) rfl ?_
            clear E a; intro a E
            refine S_v E rfl (R_assign E rfl) rfl ?_
            clear E a; intro a E
            refine WL_nil ?_
            refine T_n ?_
            refine WP_ret ?_
            refine B_r ?_
            refine T_r ?_
            exact F_ret1 E Try.results115 rfl ⟨_, rfl, M_2, hM_2, (congrArg (Value.int .i64) (by (clear E S; unfold keyAt w64; first | (simp [*]; done) | (simp_all; done)))), S⟩
          · replace hc_9 := of_decide_eq_false hc_9
            refine WP_skip ?_
            refine B_n ?_
            refine T_n ?_
            refine WP_seq ?_
            refine WP_region ?_
            refine S_v E rfl (R_move E rfl) rfl ?_
            clear E a; intro a E
            refine S_v E rfl (R_assign E rfl) rfl ?_
            clear E a; intro a E
            refine WL_nil ?_
            refine T_n ?_
            refine WP_ret ?_
            exact F_ret1 E Try.results115 rfl ⟨_, rfl, M_2, hM_2, (congrArg (Value.int .i64) (by (clear E S; unfold keyAt w64; first | (simp [*]; done) | (simp_all; done)))), S⟩
theorem SKey_Of {M : Hp} {kk0 kn0 : Int} (gk0 : -9223372036854775808 ≤ kn0 ∧ kn0 ≤ 9223372036854775807){x1 x2 : Int} (gx : -9223372036854775808 ≤ x1 ∧ x1 ≤ 9223372036854775807) :
    Pu Try.prog (.func (.func 115) #[.agg #[.int .i64 kk0, .int .i64 kn0]] #[]) M [.int .i64 x1, .int .i64 x2] (fun r M' => r = .int .i64 (keyAt kk0 kn0 x1 x2)) := PuC.pu Try.call115 rfl (SKey_Of_c gk0 gx)
theorem SKey_Of_d {M : Hp} {kk0 kn0 : Int} (gk0 : -9223372036854775808 ≤ kn0 ∧ kn0 ≤ 9223372036854775807){x1 x2 : Int} (gx : -9223372036854775808 ≤ x1 ∧ x1 ≤ 9223372036854775807) :
    Pu Try.prog (.func (.func 115) #[] #[]) M [.agg #[.int .i64 kk0, .int .i64 kn0], .int .i64 x1, .int .i64 x2] (fun r M' => r = .int .i64 (keyAt kk0 kn0 x1 x2)) := PuC.pu Try.call115 rfl (SKey_Of_c gk0 gx)

set_option maxRecDepth 100000 in
set_option maxHeartbeats 4000000 in
theorem spec_Entries {M : Hp} {v0 : Value} {l0 : List (Int × Int)} (h0 : RdS 2 RP2 M v0 l0) (hb : l0.length ≤ 1000000000000) :
    Pu Try.prog (.func (.func 120) #[] #[]) M [v0] (fun r M' => RdS 2 RP2 M' r (entE l0)) := by
  refine Pu_enter Try.func120 rfl Try.ntmps120 rfl Try.call120 ?_
  intro a w M1 H hM1 S E
  replace h0 := h0.le RP2_mono hM1
  have b0 := h0.bound
  refine WP_seq ?_
  refine WP_region ?_
  refine S_v E rfl (R_assign E rfl) rfl ?_
  clear E a; intro a E
  refine WL_nil ?_
  refine T_n ?_
  refine WP_seq ?_
  refine WP_region ?_
  refine S_v E rfl (R_assign E rfl) rfl ?_
  clear E a; intro a E
  refine WL_nil ?_
  refine T_n ?_
  refine WP_seq ?_
  refine WP_seq ?_
  refine WP_region ?_
  refine S_v E rfl (R_move E rfl) rfl ?_
  clear E a; intro a E
  refine S_v E rfl (R_lenV E rfl T61 h0.len) rfl ?_
  clear E a; intro a E
  refine S_v E rfl (R_move E rfl) rfl ?_
  clear E a; intro a E
  refine WL_nil ?_
  refine T_n ?_
  refine WP_block ?_
  refine WP_loop (γ := Nat) (fun (k : Nat) a w => ∃ (M_1 : Hp) (u3 : Value), Hp.le M1 M_1 ∧ St w M_1 (H) ∧ Env a 67 [] [(0, v0), (3, u3), (10, v0), (11, .int .i64 (((l0).length : Nat) : Int)), (12, .int .i64 ((k : Nat) : Int))] ∧ (k ≤ (l0).length) ∧ RdS 2 RP2 M_1 u3 (srtK Prod.fst (lastsT (l0.drop k) (l0.take k)))) (fun k => ((l0).length) - k) 0 ⟨M1, _, Hp.le.refl _, S, E.keep ⟨rfl, rfl, rfl, rfl, rfl, trivial⟩, by ((try clear S); (try clear E); first | assumption | omega | rfl | (simp; done) | (simp_all; done) | (simp [List.take_add_one, *]; done) | grind [List.take_add_one]), (SLeqR (RdS.nil _) (by simp [lastsT, srtK]))⟩ ?_
  try clear E
  try clear S
  try clear a
  try clear w
  rintro k a w ⟨M_1, u3, hM_1, S, E, hL0_0, hs3_0⟩
  replace h0 := h0.le RP2_mono hM_1
  have hll := lastsT_len (l0.drop k) (l0.take k)
  rw [List.length_take] at hll
  have hsl := srtK_len Prod.fst (lastsT (l0.drop k) (l0.take k))
  refine WP_seq ?_
  refine WP_region ?_
  refine S_v E rfl (R_lss E rfl rfl) rfl ?_
  clear E a; intro a E
  refine WL_nil ?_
  refine T_n ?_
  refine WP_seq ?_
  refine WP_cond E rfl (fun hc_2 => ?_) (fun hc_2 => ?_)
  · replace hc_2 := of_decide_eq_true hc_2
    refine WP_skip ?_
    refine T_n ?_
    refine WP_seq ?_
    refine WP_block ?_
    refine WP_seq ?_
    refine WP_region ?_
    refine S_v E rfl (R_move E rfl) rfl ?_
    clear E a; intro a E
    obtain ⟨x_3, hx_3⟩ : ∃ x, (l0)[k]? = some x := ⟨_, List.getElem?_eq_getElem (by first | omega | (simp; done) | (simp; omega) | (simp_all; omega))⟩
    obtain ⟨p_4, hp_4, qp_4⟩ := RdP2.at h0 hx_3
    refine S_v E rfl (R_idx E rfl rfl T61 hp_4 rfl) rfl ?_
    clear E a; intro a E
    refine S_v E rfl (R_loadA (cs := [.int .i64 x_3.1, .int .i64 x_3.2]) E rfl (Try.isAgg119 _) (Try.sizeOf119 _) S.imm qp_4) rfl ?_
    clear E a; intro a E
    refine S_x (X_alloc (cs := #[.int .i64 0, .int .i64 0]) E S rfl Try.zeroValue119 rfl ?_)
    clear E a S; rintro a w b_5 E S
    refine S_v E rfl (R_assign E rfl) rfl ?_
    clear E a; intro a E
    refine S_x0 (X_storeG (us := [.int .i64 x_3.1, .int .i64 x_3.2]) E S rfl rfl (Try.sizeOf119 _) rfl (by intro u hu; simp only [List.mem_cons, List.not_mem_nil, or_false] at hu; rcases hu with rfl | rfl <;> first | exact rfl | exact rfl) ?_)
    clear E a S; rintro a w E S
    replace S : St w M_1 (blk b_5 (.cells #[.int .i64 x_3.1, .int .i64 x_3.2] 119) :: _) := S
    have S0 := S; clear S
    obtain ⟨M_6, hM_6, hb_7, S⟩ := S0.freezeB
    clear S0
    replace h0 := h0.le RP2_mono hM_6
    replace hs3_0 := hs3_0.le RP2_mono hM_6
    refine WL_nil ?_
    refine T_n ?_
    refine WP_seq ?_
    refine WP_region ?_
    refine S_v E rfl (R_assign E rfl) rfl ?_
    clear E a; intro a E
    refine WL_nil ?_
    refine T_n ?_
    refine WP_seq ?_
    refine WP_seq ?_
    refine WP_region ?_
    refine S_v E rfl (R_move E rfl) rfl ?_
    clear E a; intro a E
    refine S_v E rfl (R_move E rfl) rfl ?_
    clear E a; intro a E
    refine S_v E rfl (R_addx (m := ((k + 1 : Nat) : Int)) E rfl rfl (by omega) (by omega)) rfl ?_
    clear E a; intro a E
    obtain ⟨v_8, sv_8, hv_8⟩ := h0.subv (k + 1) ((l0).length) (by first | omega | (simp; done) | (simp; omega) | (simp_all; omega)) (by first | omega | (simp; done) | (simp; omega) | (simp_all; omega))
    simp only [List.take_length] at hv_8
    refine S_v E rfl (R_sliceL E rfl rfl T61 h0.len sv_8 (by omega)) rfl ?_
    clear E a; intro a E
    refine S_v E rfl (R_lenV E rfl T61 hv_8.len) rfl ?_
    clear E a; intro a E
    refine S_v E rfl (R_move E rfl) rfl ?_
    clear E a; intro a E
    refine WL_nil ?_
    refine T_n ?_
    refine WP_block ?_
    refine WP_loop (γ := Nat) (fun (j : Nat) a w => ∃ (M_9 : Hp), Hp.le M_6 M_9 ∧ St w M_9 (H) ∧ Env a 67 [] [(0, v0), (3, u3), (5, .pointer (some ⟨b_5, 0, none⟩)), (6, .bool (!decide (x_3.1 ∈ ((l0.drop (k + 1)).take j).map Prod.fst))), (10, v0), (11, .int .i64 (((l0).length : Nat) : Int)), (12, .int .i64 ((k : Nat) : Int)), (20, v_8), (21, .int .i64 ((((l0).drop (k + 1)).length : Nat) : Int)), (22, .int .i64 ((j : Nat) : Int))] ∧ (j ≤ ((l0).drop (k + 1)).length)) (fun j => (((l0).drop (k + 1)).length) - j) 0 ⟨M_6, Hp.le.refl _, S, E.keep ⟨rfl, rfl, rfl, look_bool (i := true) rfl (by (simp)), rfl, rfl, rfl, rfl, rfl, rfl, trivial⟩, by ((try clear S); (try clear E); first | assumption | omega | rfl | (simp; done) | (simp_all; done) | (simp [List.take_add_one, *]; done) | grind [List.take_add_one])⟩ ?_
    try clear E
    try clear S
    try clear a
    try clear w
    rintro j a w ⟨M_9, hM_9, S, E, hL1_0⟩
    replace h0 := h0.le RP2_mono hM_9
    replace hs3_0 := hs3_0.le RP2_mono hM_9
    replace hb_7 := hM_9.2 _ _ hb_7
    replace hv_8 := hv_8.le RP2_mono hM_9
    have hdl : (l0.drop (k + 1)).length = l0.length - (k + 1) := List.length_drop
    refine WP_seq ?_
    refine WP_region ?_
    refine S_v E rfl (R_lss E rfl rfl) rfl ?_
    clear E a; intro a E
    refine WL_nil ?_
    refine T_n ?_
    refine WP_seq ?_
    refine WP_cond E rfl (fun hc_10 => ?_) (fun hc_10 => ?_)
    · replace hc_10 := of_decide_eq_true hc_10
      refine WP_skip ?_
      refine T_n ?_
      refine WP_seq ?_
      refine WP_block ?_
      refine WP_seq ?_
      refine WP_region ?_
      obtain ⟨x_11, hx_11⟩ : ∃ x, ((l0).drop (k + 1))[j]? = some x := ⟨_, List.getElem?_eq_getElem (by first | omega | (simp; done) | (simp; omega) | (simp_all; omega))⟩
      obtain ⟨p_12, hp_12, qp_12⟩ := RdP2.at hv_8 hx_11
      refine S_v E rfl (R_idx E rfl rfl T61 hp_12 rfl) rfl ?_
      clear E a; intro a E
      refine S_v E rfl (R_loadA (cs := [.int .i64 x_11.1, .int .i64 x_11.2]) E rfl (Try.isAgg119 _) (Try.sizeOf119 _) S.imm qp_12) rfl ?_
      clear E a; intro a E
      refine S_x (X_alloc (cs := #[.int .i64 0, .int .i64 0]) E S rfl Try.zeroValue119 rfl ?_)
      clear E a S; rintro a w b_13 E S
      refine S_x0 (X_storeG (us := [.int .i64 x_11.1, .int .i64 x_11.2]) E S rfl rfl (Try.sizeOf119 _) rfl (by intro u hu; simp only [List.mem_cons, List.not_mem_nil, or_false] at hu; rcases hu with rfl | rfl <;> first | exact rfl | exact rfl) ?_)
      clear E a S; rintro a w E S
      replace S : St w M_9 (blk b_13 (.cells #[.int .i64 x_11.1, .int .i64 x_11.2] 119) :: _) := S
      have S0 := S; clear S
      obtain ⟨M_14, hM_14, hb_15, S⟩ := S0.freezeB
      clear S0
      replace h0 := h0.le RP2_mono hM_14
      replace hs3_0 := hs3_0.le RP2_mono hM_14
      replace hb_7 := hM_14.2 _ _ hb_7
      replace hv_8 := hv_8.le RP2_mono hM_14
      refine WL_nil ?_
      refine T_n ?_
      refine WP_region ?_
      refine S_v E rfl (R_move E rfl) rfl ?_
      clear E a; intro a E
      refine S_v E rfl (R_move E rfl) rfl ?_
      clear E a; intro a E
      refine split_bool (!decide (x_3.1 ∈ ((l0.drop (k + 1)).take j).map Prod.fst)) (fun hc_16 => ?_) (fun hc_16 => ?_)
      · replace E := E.val (t := 6) rfl hc_16
        replace E := E.val (t := 26) rfl hc_16
        replace E := E.val (t := 27) rfl hc_16
        refine WL_guard_yes E rfl rfl ?_
        refine S_v E rfl (R_fieldAddr E rfl (FA119_0 _)) rfl ?_
        clear E a; intro a E
        refine WL_guard_yes E rfl rfl ?_
        refine S_v E rfl (R_loadM E rfl Try.isAgg3 S.imm (cellM_boxo hb_15 rfl)) rfl ?_
        clear E a; intro a E
        refine WL_guard_yes E rfl rfl ?_
        refine S_v E rfl (R_fieldAddr E rfl (FA119_0 _)) rfl ?_
        clear E a; intro a E
        refine WL_guard_yes E rfl rfl ?_
        refine S_v E rfl (R_loadM E rfl Try.isAgg3 S.imm (cellM_boxo hb_7 rfl)) rfl ?_
        clear E a; intro a E
        refine WL_guard_yes E rfl rfl ?_
        refine S_v E rfl (R_neq E rfl rfl) rfl ?_
        clear E a; intro a E
        refine S_v E rfl (R_pickT E rfl rfl) rfl ?_
        clear E a; intro a E
        refine S_v E rfl (R_assign E rfl) rfl ?_
        clear E a; intro a E
        refine WL_nil ?_
        refine B_n ?_
        refine T_n ?_
        refine WP_region ?_
        refine S_v E rfl (R_addx (m := ((j + 1 : Nat) : Int)) E rfl rfl (by omega) (by omega)) rfl ?_
        clear E a; intro a E
        refine S_v E rfl (R_move E rfl) rfl ?_
        clear E a; intro a E
        refine WL_nil ?_
        refine T_n ?_
        exact ⟨j + 1, ⟨M_14, (hM_9.trans hM_14), S, E.keep ⟨rfl, rfl, rfl, look_bool (i := decide (x_11.1 ≠ x_3.1)) rfl (by (first | exact lst_y (by assumption) (by assumption) | exact lst_n (by assumption) (by assumption))), rfl, rfl, rfl, rfl, rfl, rfl, trivial⟩, by ((try clear S); (try clear E); first | assumption | omega | rfl | (simp; done) | (simp_all; done) | (simp [List.take_add_one, *]; done) | grind [List.take_add_one])⟩, by omega⟩
      · replace E := E.val (t := 6) rfl hc_16
        replace E := E.val (t := 26) rfl hc_16
        replace E := E.val (t := 27) rfl hc_16
        refine WL_guard_no E rfl rfl rfl rfl fun a E => ?_
        refine WL_guard_no E rfl rfl rfl rfl fun a E => ?_
        refine WL_guard_no E rfl rfl rfl rfl fun a E => ?_
        refine WL_guard_no E rfl rfl rfl rfl fun a E => ?_
        refine WL_guard_no E rfl rfl rfl rfl fun a E => ?_
        refine S_v E rfl (R_pickF E rfl rfl) rfl ?_
        clear E a; intro a E
        refine S_v E rfl (R_assign E rfl) rfl ?_
        clear E a; intro a E
        refine WL_nil ?_
        refine B_n ?_
        refine T_n ?_
        refine WP_region ?_
        refine S_v E rfl (R_addx (m := ((j + 1 : Nat) : Int)) E rfl rfl (by omega) (by omega)) rfl ?_
        clear E a; intro a E
        refine S_v E rfl (R_move E rfl) rfl ?_
        clear E a; intro a E
        refine WL_nil ?_
        refine T_n ?_
        exact ⟨j + 1, ⟨M_14, (hM_9.trans hM_14), S, E.keep ⟨rfl, rfl, rfl, look_bool (i := false) rfl (by (first | exact lst_y (by assumption) (by assumption) | exact lst_n (by assumption) (by assumption))), rfl, rfl, rfl, rfl, rfl, rfl, trivial⟩, by ((try clear S); (try clear E); first | assumption | omega | rfl | (simp; done) | (simp_all; done) | (simp [List.take_add_one, *]; done) | grind [List.take_add_one])⟩, by omega⟩
    · replace hc_10 := of_decide_eq_false hc_10
      refine WP_exit ?_
      refine T_x ?_
      refine T_x ?_
      refine B_x ?_
      refine T_n ?_
      refine WP_seq ?_
      refine WP_seq ?_
      refine WP_region ?_
      refine S_v E rfl (R_move E rfl) rfl ?_
      clear E a; intro a E
      refine S_v E rfl (R_not E rfl) rfl ?_
      clear E a; intro a E
      refine WL_nil ?_
      refine T_n ?_
      refine WP_cond E rfl (fun hc_17 => ?_) (fun hc_17 => ?_)
      · refine WP_exit ?_
        refine T_x ?_
        refine B_x ?_
        refine T_n ?_
        refine WP_region ?_
        refine S_v E rfl (R_addx (m := ((k + 1 : Nat) : Int)) E rfl rfl (by omega) (by omega)) rfl ?_
        clear E a; intro a E
        refine S_v E rfl (R_move E rfl) rfl ?_
        clear E a; intro a E
        refine WL_nil ?_
        refine T_n ?_
        exact ⟨k + 1, ⟨M_9, _, (hM_1.trans (hM_6.trans hM_9)), S, E.keep ⟨rfl, rfl, rfl, rfl, rfl, trivial⟩, by ((try clear S); (try clear E); first | assumption | omega | rfl | (simp; done) | (simp_all; done) | (simp [List.take_add_one, *]; done) | grind [List.take_add_one]), (SLeqR hs3_0 (by first | exact ent_skip (by assumption) (in_all (by assumption) (by assumption)) | exact ent_put (by assumption) (in_none (by assumption) (by assumption)) (by assumption) (by first | exact gt_len (by assumption) | exact gt_at (by assumption) (by assumption))))⟩, by omega⟩
      · refine WP_skip ?_
        refine T_n ?_
        refine WP_seq ?_
        refine WP_region ?_
        refine S_v E rfl (R_assign E rfl) rfl ?_
        clear E a; intro a E
        refine WL_nil ?_
        refine T_n ?_
        refine WP_seq ?_
        refine WP_block ?_
        refine WP_loop (γ := Nat) (fun (n : Nat) a w => ∃ (M_18 : Hp), Hp.le M_9 M_18 ∧ St w M_18 (H) ∧ Env a 67 [] [(0, v0), (3, u3), (5, .pointer (some ⟨b_5, 0, none⟩)), (9, .int .i64 ((n : Nat) : Int)), (10, v0), (11, .int .i64 (((l0).length : Nat) : Int)), (12, .int .i64 ((k : Nat) : Int))] ∧ (n ≤ (srtK Prod.fst (lastsT (l0.drop k) (l0.take k))).length) ∧ (∀ q ∈ (srtK Prod.fst (lastsT (l0.drop k) (l0.take k))).take n, q.1 < x_3.1)) (fun n => (srtK Prod.fst (lastsT (l0.drop k) (l0.take k))).length - n) 0 ⟨M_9, Hp.le.refl _, S, E.keep ⟨rfl, rfl, rfl, rfl, rfl, rfl, rfl, trivial⟩, (by omega), (by simp)⟩ ?_
        try clear E
        try clear S
        try clear a
        try clear w
        rintro n a w ⟨M_18, hM_18, S, E, hL2_0, hL2_1⟩
        replace h0 := h0.le RP2_mono hM_18
        replace hs3_0 := hs3_0.le RP2_mono hM_18
        replace hb_7 := hM_18.2 _ _ hb_7
        replace hv_8 := hv_8.le RP2_mono hM_18
        refine WP_seq ?_
        refine WP_seq ?_
        have hb_7k18 := hb_7
        replace S := S.mono_heap (w' := World.drew _) rfl
        refine WP_drawn (C := fun x w => agree M_18 w) (bf := (fun i => [])) [0, 1, 2, 3, 4, 5, 6, 7, 8, 9, 10, 11, 12, 13] [0, 1, 2, 3, 4, 5, 6, 7, 8, 9, 10, 11, 12, 13] Try.mixed (by kernel_rfl) (fun x hq => S.imm) ?_
        refine D_v E rfl rfl rfl (fun w hC => (R_move E rfl)) ?_
        clear E a; intro a E
        refine D_v E rfl rfl rfl (fun w hC => (R_move E rfl)) ?_
        clear E a; intro a E
        refine D_v E rfl rfl rfl (fun w hC => (R_lenV E rfl T61 hs3_0.len)) ?_
        clear E a; intro a E
        refine D_v E rfl rfl rfl (fun w hC => (R_lss E rfl rfl)) ?_
        clear E a; intro a E
        refine D_v E rfl rfl rfl (fun w hC => (R_move E rfl)) ?_
        clear E a; intro a E
        refine split_bool (decide (((n : Nat) : Int) < (((srtK Prod.fst (lastsT (l0.drop k) (l0.take k))).length : Nat) : Int))) (fun hc_19 => ?_) (fun hc_19 => ?_)
        · replace E := E.val (t := 40) rfl hc_19
          replace E := E.val (t := 41) rfl hc_19
          replace hc_19 := of_decide_eq_true hc_19
          refine D_vyes E rfl rfl rfl rfl rfl (fun w hC => (R_move E rfl)) ?_
          clear E a; intro a E
          refine D_vyes E rfl rfl rfl rfl rfl (fun w hC => (R_move E rfl)) ?_
          clear E a; intro a E
          obtain ⟨x_20, hx_20⟩ : ∃ x, (srtK Prod.fst (lastsT (l0.drop k) (l0.take k)))[n]? = some x := ⟨_, List.getElem?_eq_getElem (by first | omega | (simp; done) | (simp; omega) | (simp_all; omega))⟩
          obtain ⟨p_21, hp_21, qp_21⟩ := RdP2.at hs3_0 hx_20
          refine D_vyes E rfl rfl rfl rfl rfl (fun w hC => (R_idx E rfl rfl T61 hp_21 rfl)) ?_
          clear E a; intro a E
          have qf_22 := qp_21 0 _ rfl
          refine D_vyes E rfl rfl rfl rfl rfl (fun w hC => (R_fieldAddr E rfl (FA119_0 _))) ?_
          clear E a; intro a E
          refine D_vyes E rfl rfl rfl rfl rfl (fun w hC => (R_loadM E rfl Try.isAgg3 hC qf_22)) ?_
          clear E a; intro a E
          refine D_vyes E rfl rfl rfl rfl rfl (fun w hC => (R_fieldAddr E rfl (FA119_0 _))) ?_
          clear E a; intro a E
          refine D_vyes E rfl rfl rfl rfl rfl (fun w hC => (R_loadM E rfl Try.isAgg3 hC (cellM_boxo hb_7k18 rfl))) ?_
          clear E a; intro a E
          refine D_vyes E rfl rfl rfl rfl rfl (fun w hC => (R_lss E rfl rfl)) ?_
          clear E a; intro a E
          refine D_v E rfl rfl rfl (fun w hC => (R_pickT E rfl rfl)) ?_
          clear E a; intro a E
          refine D_end (NoP_n ?_)
          refine T_n ?_
          refine WP_cond E rfl (fun hc_23 => ?_) (fun hc_23 => ?_)
          · replace hc_23 := of_decide_eq_true hc_23
            refine WP_skip ?_
            refine T_n ?_
            refine WP_block ?_
            refine WP_region ?_
            refine S_v E rfl (R_move E rfl) rfl ?_
            clear E a; intro a E
            refine S_v E rfl (R_addx (m := ((n + 1 : Nat) : Int)) E rfl rfl (by omega) (by omega)) rfl ?_
            clear E a; intro a E
            refine S_v E rfl (R_assign E rfl) rfl ?_
            clear E a; intro a E
            refine WL_nil ?_
            refine B_n ?_
            refine T_n ?_
            exact ⟨n + 1, ⟨M_18, hM_18, S, E.keep ⟨rfl, rfl, rfl, rfl, rfl, rfl, rfl, trivial⟩, (by omega), (by exact lt_snoc (by assumption) (by assumption) (by assumption))⟩, by omega⟩
          · replace hc_23 := of_decide_eq_false hc_23
            refine WP_exit ?_
            refine T_x ?_
            refine T_x ?_
            refine B_x ?_
            refine T_n ?_
            refine DG_start Try.mixed ?_
            refine DG_split 0 6 (by decide) (by kernel_rfl) ?_ ?_
            · refine DG_split 4 6 (by decide) (by kernel_rfl) ?_ ?_
              · have hb_7k23 := hb_7
                have qp_21k23 := qp_21
                have qf_22k23 := qf_22
                replace S := S.mono_heap (w' := World.drew _) rfl
                refine DG_end (C := fun x w => agree M_18 w) (bf := (fun i => [])) [1, 2, 3, 5, 8, 9, 10, 12] [1, 2, 3, 5, 8, 9, 10, 0, 4, 6, 7, 11, 12] (by kernel_rfl) (fun x hq => S.imm) ?_
                refine D_v E rfl rfl rfl (fun w hC => (R_move E rfl)) ?_
                clear E a; intro a E
                refine D_v E rfl rfl rfl (fun w hC => (R_move E rfl)) ?_
                clear E a; intro a E
                obtain ⟨v_24, sv_24, hv_24⟩ := hs3_0.subv 0 n (by first | omega | (simp; done) | (simp; omega) | (simp_all; omega)) (by first | omega | (simp; done) | (simp; omega) | (simp_all; omega))
                simp only [List.drop_zero] at hv_24
                refine D_v E rfl rfl rfl (fun w hC => (R_sliceH E rfl rfl T61 sv_24 (by omega))) ?_
                clear E a; intro a E
                refine D_v E rfl rfl rfl (fun w hC => (R_loadGM E rfl (Try.isAgg119 _) (Try.sizeOf119 _) hC hb_7k23)) ?_
                clear E a; intro a E
                refine D_v E rfl rfl rfl (fun w hC => (R_move E rfl)) ?_
                clear E a; intro a E
                refine D_v E rfl rfl rfl (fun w hC => (R_move E rfl)) ?_
                clear E a; intro a E
                obtain ⟨v_25, sv_25, hv_25⟩ := hs3_0.subv n ((srtK Prod.fst (lastsT (l0.drop k) (l0.take k))).length) (by first | omega | (simp; done) | (simp; omega) | (simp_all; omega)) (by first | omega | (simp; done) | (simp; omega) | (simp_all; omega))
                simp only [List.take_length] at hv_25
                refine D_v E rfl rfl rfl (fun w hC => (R_sliceL E rfl rfl T61 hs3_0.len sv_25 (by omega))) ?_
                clear E a; intro a E
                refine D_x rfl rfl rfl (X_buildA0 E S rfl T61 ?_)
                clear E a S; rintro a w v_26 E S
                have hr_27 : RowsR RP2 2 M_18 ([] : List (Int × Int)) [] := RowsR.nil
                replace S : St w M_18 (OwnC 119 2 v_26 ([] : List (Int × Int)).length [] :: _) := S
                refine ⟨fun x hq hb => (agree_le (Hp.le.refl _) S.imm), ?_⟩
                refine D_x rfl rfl rfl (X_appendR (R := RP2) (zs := ([] : List (Int × Int))) (ys := (srtK Prod.fst (lastsT (l0.drop k) (l0.take k))).take n) E S hr_27 rfl rfl rfl T61 hv_24 one_RP2 (by first | omega | (simp; done) | (simp; omega) | (simp_all; omega)) (by first | omega | (simp; done) | (simp; omega) | (simp_all; omega)) ?_)
                clear E a S; rintro a w v_28 xs_29 E hr_30 S
                refine ⟨fun x hq hb => (agree_le (Hp.le.refl _) S.imm), ?_⟩
                refine D_x rfl rfl rfl (X_buildA1 (R := RP2) (cs := [.int .i64 x_3.1, .int .i64 x_3.2]) (x0 := x_3) RP2_mono E S rfl T61 rfl rfl rfl rfl ?_)
                clear E a S; rintro a v_31 w M_32 hM_32 hv_31 S E
                replace h0 := h0.le RP2_mono hM_32
                replace hs3_0 := hs3_0.le RP2_mono hM_32
                replace hb_7 := hM_32.2 _ _ hb_7
                replace hv_8 := hv_8.le RP2_mono hM_32
                replace qp_21 := cellsM_le hM_32 qp_21
                replace hv_24 := hv_24.le RP2_mono hM_32
                replace hv_25 := hv_25.le RP2_mono hM_32
                replace hr_30 := hr_30.le RP2_mono hM_32
                refine ⟨fun x hq hb => (agree_le hM_32 S.imm), ?_⟩
                refine D_x rfl rfl rfl (X_appendR (R := RP2) (zs := ([] : List (Int × Int)) ++ ((srtK Prod.fst (lastsT (l0.drop k) (l0.take k))).take n)) (ys := [x_3]) E S hr_30 rfl rfl rfl T61 hv_31 one_RP2 (by first | omega | (simp; done) | (simp; omega) | (simp_all; omega)) (by first | omega | (simp; done) | (simp; omega) | (simp_all; omega)) ?_)
                clear E a S; rintro a w v_33 xs_34 E hr_35 S
                refine ⟨fun x hq hb => (agree_le hM_32 S.imm), ?_⟩
                refine D_x rfl rfl rfl (X_appendR (R := RP2) (zs := (([] : List (Int × Int)) ++ ((srtK Prod.fst (lastsT (l0.drop k) (l0.take k))).take n)) ++ [x_3]) (ys := (srtK Prod.fst (lastsT (l0.drop k) (l0.take k))).drop n) E S hr_35 rfl rfl rfl T61 hv_25 one_RP2 (by first | omega | (simp; done) | (simp; omega) | (simp_all; omega)) (by first | omega | (simp; done) | (simp; omega) | (simp_all; omega)) ?_)
                clear E a S; rintro a w v_36 xs_37 E hr_38 S
                refine ⟨fun x hq hb => (agree_le hM_32 S.imm), ?_⟩
                refine D_v E rfl rfl rfl (fun w hC => (R_assign E rfl)) ?_
                clear E a; intro a E
                refine D_end (NoP_n ?_)
                refine B_n ?_
                refine T_n ?_
                refine WP_region ?_
                refine S_v E rfl (R_addx (m := ((k + 1 : Nat) : Int)) E rfl rfl (by omega) (by omega)) rfl ?_
                clear E a; intro a E
                refine S_v E rfl (R_move E rfl) rfl ?_
                clear E a; intro a E
                refine WL_nil ?_
                refine T_n ?_
                have S0 := S; clear S
                obtain ⟨M_39, hM_39, hz_40, S⟩ := S0.freezeR hr_38 RP2_mono (by (first | omega | (simp; omega) | (simp; done) | (simp_all; omega) | grind))
                clear S0
                replace h0 := h0.le RP2_mono hM_39
                replace hs3_0 := hs3_0.le RP2_mono hM_39
                replace hb_7 := hM_39.2 _ _ hb_7
                replace hv_8 := hv_8.le RP2_mono hM_39
                replace qp_21 := cellsM_le hM_39 qp_21
                replace hv_24 := hv_24.le RP2_mono hM_39
                replace hv_25 := hv_25.le RP2_mono hM_39
                replace hv_31 := hv_31.le RP2_mono hM_39
                exact ⟨k + 1, ⟨M_39, _, (hM_1.trans (hM_6.trans (hM_9.trans (hM_18.trans (hM_32.trans hM_39))))), S, E.keep ⟨rfl, rfl, rfl, rfl, rfl, trivial⟩, by ((try clear S); (try clear E); first | assumption | omega | rfl | (simp; done) | (simp_all; done) | (simp [List.take_add_one, *]; done) | grind [List.take_add_one]), (SLeqR hz_40 (by first | exact ent_skip (by assumption) (in_all (by assumption) (by assumption)) | exact ent_put (by assumption) (in_none (by assumption) (by assumption)) (by assumption) (by first | exact gt_len (by assumption) | exact gt_at (by assumption) (by assumption))))⟩, by omega⟩
              · have hb_7k40 := hb_7
                have qp_21k40 := qp_21
                have qf_22k40 := qf_22
                replace S := S.mono_heap (w' := World.drew _) rfl
                refine DG_end (C := fun x w => agree M_18 w) (bf := (fun i => [])) [1, 2, 3, 5, 8, 9, 10, 12] [1, 2, 3, 5, 8, 9, 10, 0, 6, 4, 7, 11, 12] (by kernel_rfl) (fun x hq => S.imm) ?_
                refine D_v E rfl rfl rfl (fun w hC => (R_move E rfl)) ?_
                clear E a; intro a E
                refine D_v E rfl rfl rfl (fun w hC => (R_move E rfl)) ?_
                clear E a; intro a E
                obtain ⟨v_41, sv_41, hv_41⟩ := hs3_0.subv 0 n (by first | omega | (simp; done) | (simp; omega) | (simp_all; omega)) (by first | omega | (simp; done) | (simp; omega) | (simp_all; omega))
                simp only [List.drop_zero] at hv_41
                refine D_v E rfl rfl rfl (fun w hC => (R_sliceH E rfl rfl T61 sv_41 (by omega))) ?_
                clear E a; intro a E
                refine D_v E rfl rfl rfl (fun w hC => (R_loadGM E rfl (Try.isAgg119 _) (Try.sizeOf119 _) hC hb_7k40)) ?_
                clear E a; intro a E
                refine D_v E rfl rfl rfl (fun w hC => (R_move E rfl)) ?_
                clear E a; intro a E
                refine D_v E rfl rfl rfl (fun w hC => (R_move E rfl)) ?_
                clear E a; intro a E
                obtain ⟨v_42, sv_42, hv_42⟩ := hs3_0.subv n ((srtK Prod.fst (lastsT (l0.drop k) (l0.take k))).length) (by first | omega | (simp; done) | (simp; omega) | (simp_all; omega)) (by first | omega | (simp; done) | (simp; omega) | (simp_all; omega))
                simp only [List.take_length] at hv_42
                refine D_v E rfl rfl rfl (fun w hC => (R_sliceL E rfl rfl T61 hs3_0.len sv_42 (by omega))) ?_
                clear E a; intro a E
                refine D_x rfl rfl rfl (X_buildA0 E S rfl T61 ?_)
                clear E a S; rintro a w v_43 E S
                have hr_44 : RowsR RP2 2 M_18 ([] : List (Int × Int)) [] := RowsR.nil
                replace S : St w M_18 (OwnC 119 2 v_43 ([] : List (Int × Int)).length [] :: _) := S
                refine ⟨fun x hq hb => (agree_le (Hp.le.refl _) S.imm), ?_⟩
                refine D_x rfl rfl rfl (X_buildA1 (R := RP2) (cs := [.int .i64 x_3.1, .int .i64 x_3.2]) (x0 := x_3) RP2_mono E S rfl T61 rfl rfl rfl rfl ?_)
                clear E a S; rintro a v_45 w M_46 hM_46 hv_45 S E
                replace h0 := h0.le RP2_mono hM_46
                replace hs3_0 := hs3_0.le RP2_mono hM_46
                replace hb_7 := hM_46.2 _ _ hb_7
                replace hv_8 := hv_8.le RP2_mono hM_46
                replace qp_21 := cellsM_le hM_46 qp_21
                replace hv_41 := hv_41.le RP2_mono hM_46
                replace hv_42 := hv_42.le RP2_mono hM_46
                replace hr_44 := hr_44.le RP2_mono hM_46
                refine ⟨fun x hq hb => (agree_le hM_46 S.imm), ?_⟩
                refine D_x rfl rfl rfl (X_appendR (R := RP2) (zs := ([] : List (Int × Int))) (ys := (srtK Prod.fst (lastsT (l0.drop k) (l0.take k))).take n) E S hr_44 rfl rfl rfl T61 hv_41 one_RP2 (by first | omega | (simp; done) | (simp; omega) | (simp_all; omega)) (by first | omega | (simp; done) | (simp; omega) | (simp_all; omega)) ?_)
                clear E a S; rintro a w v_47 xs_48 E hr_49 S
                refine ⟨fun x hq hb => (agree_le hM_46 S.imm), ?_⟩
                refine D_x rfl rfl rfl (X_appendR (R := RP2) (zs := ([] : List (Int × Int)) ++ ((srtK Prod.fst (lastsT (l0.drop k) (l0.take k))).take n)) (ys := [x_3]) E S hr_49 rfl rfl rfl T61 hv_45 one_RP2 (by first | omega | (simp; done) | (simp; omega) | (simp_all; omega)) (by first | omega | (simp; done) | (simp; omega) | (simp_all; omega)) ?_)
                clear E a S; rintro a w v_50 xs_51 E hr_52 S
                refine ⟨fun x hq hb => (agree_le hM_46 S.imm), ?_⟩
                refine D_x rfl rfl rfl (X_appendR (R := RP2) (zs := (([] : List (Int × Int)) ++ ((srtK Prod.fst (lastsT (l0.drop k) (l0.take k))).take n)) ++ [x_3]) (ys := (srtK Prod.fst (lastsT (l0.drop k) (l0.take k))).drop n) E S hr_52 rfl rfl rfl T61 hv_42 one_RP2 (by first | omega | (simp; done) | (simp; omega) | (simp_all; omega)) (by first | omega | (simp; done) | (simp; omega) | (simp_all; omega)) ?_)
                clear E a S; rintro a w v_53 xs_54 E hr_55 S
                refine ⟨fun x hq hb => (agree_le hM_46 S.imm), ?_⟩
                refine D_v E rfl rfl rfl (fun w hC => (R_assign E rfl)) ?_
                clear E a; intro a E
                refine D_end (NoP_n ?_)
                refine B_n ?_
                refine T_n ?_
                refine WP_region ?_
                refine S_v E rfl (R_addx (m := ((k + 1 : Nat) : Int)) E rfl rfl (by omega) (by omega)) rfl ?_
                clear E a; intro a E
                refine S_v E rfl (R_move E rfl) rfl ?_
                clear E a; intro a E
                refine WL_nil ?_
                refine T_n ?_
                have S0 := S; clear S
                obtain ⟨M_56, hM_56, hz_57, S⟩ := S0.freezeR hr_55 RP2_mono (by (first | omega | (simp; omega) | (simp; done) | (simp_all; omega) | grind))
                clear S0
                replace h0 := h0.le RP2_mono hM_56
                replace hs3_0 := hs3_0.le RP2_mono hM_56
                replace hb_7 := hM_56.2 _ _ hb_7
                replace hv_8 := hv_8.le RP2_mono hM_56
                replace qp_21 := cellsM_le hM_56 qp_21
                replace hv_41 := hv_41.le RP2_mono hM_56
                replace hv_42 := hv_42.le RP2_mono hM_56
                replace hv_45 := hv_45.le RP2_mono hM_56
                exact ⟨k + 1, ⟨M_56, _, (hM_1.trans (hM_6.trans (hM_9.trans (hM_18.trans (hM_46.trans hM_56))))), S, E.keep ⟨rfl, rfl, rfl, rfl, rfl, trivial⟩, by ((try clear S); (try clear E); first | assumption | omega | rfl | (simp; done) | (simp_all; done) | (simp [List.take_add_one, *]; done) | grind [List.take_add_one]), (SLeqR hz_57 (by first | exact ent_skip (by assumption) (in_all (by assumption) (by assumption)) | exact ent_put (by assumption) (in_none (by assumption) (by assumption)) (by assumption) (by first | exact gt_len (by assumption) | exact gt_at (by assumption) (by assumption))))⟩, by omega⟩
            · have hb_7k57 := hb_7
              have qp_21k57 := qp_21
              have qf_22k57 := qf_22
              replace S := S.mono_heap (w' := World.drew _) rfl
              refine DG_end (C := fun x w => agree M_18 w) (bf := (fun i => [])) [1, 2, 3, 5, 8, 9, 10, 12] [1, 2, 3, 5, 8, 9, 10, 6, 0, 4, 7, 11, 12] (by kernel_rfl) (fun x hq => S.imm) ?_
              refine D_v E rfl rfl rfl (fun w hC => (R_move E rfl)) ?_
              clear E a; intro a E
              refine D_v E rfl rfl rfl (fun w hC => (R_move E rfl)) ?_
              clear E a; intro a E
              obtain ⟨v_58, sv_58, hv_58⟩ := hs3_0.subv 0 n (by first | omega | (simp; done) | (simp; omega) | (simp_all; omega)) (by first | omega | (simp; done) | (simp; omega) | (simp_all; omega))
              simp only [List.drop_zero] at hv_58
              refine D_v E rfl rfl rfl (fun w hC => (R_sliceH E rfl rfl T61 sv_58 (by omega))) ?_
              clear E a; intro a E
              refine D_v E rfl rfl rfl (fun w hC => (R_loadGM E rfl (Try.isAgg119 _) (Try.sizeOf119 _) hC hb_7k57)) ?_
              clear E a; intro a E
              refine D_v E rfl rfl rfl (fun w hC => (R_move E rfl)) ?_
              clear E a; intro a E
              refine D_v E rfl rfl rfl (fun w hC => (R_move E rfl)) ?_
              clear E a; intro a E
              obtain ⟨v_59, sv_59, hv_59⟩ := hs3_0.subv n ((srtK Prod.fst (lastsT (l0.drop k) (l0.take k))).length) (by first | omega | (simp; done) | (simp; omega) | (simp_all; omega)) (by first | omega | (simp; done) | (simp; omega) | (simp_all; omega))
              simp only [List.take_length] at hv_59
              refine D_v E rfl rfl rfl (fun w hC => (R_sliceL E rfl rfl T61 hs3_0.len sv_59 (by omega))) ?_
              clear E a; intro a E
              refine D_x rfl rfl rfl (X_buildA1 (R := RP2) (cs := [.int .i64 x_3.1, .int .i64 x_3.2]) (x0 := x_3) RP2_mono E S rfl T61 rfl rfl rfl rfl ?_)
              clear E a S; rintro a v_60 w M_61 hM_61 hv_60 S E
              replace h0 := h0.le RP2_mono hM_61
              replace hs3_0 := hs3_0.le RP2_mono hM_61
              replace hb_7 := hM_61.2 _ _ hb_7
              replace hv_8 := hv_8.le RP2_mono hM_61
              replace qp_21 := cellsM_le hM_61 qp_21
              replace hv_58 := hv_58.le RP2_mono hM_61
              replace hv_59 := hv_59.le RP2_mono hM_61
              refine ⟨fun x hq hb => (agree_le hM_61 S.imm), ?_⟩
              refine D_x rfl rfl rfl (X_buildA0 E S rfl T61 ?_)
              clear E a S; rintro a w v_62 E S
              have hr_63 : RowsR RP2 2 M_61 ([] : List (Int × Int)) [] := RowsR.nil
              replace S : St w M_61 (OwnC 119 2 v_62 ([] : List (Int × Int)).length [] :: _) := S
              refine ⟨fun x hq hb => (agree_le hM_61 S.imm), ?_⟩
              refine D_x rfl rfl rfl (X_appendR (R := RP2) (zs := ([] : List (Int × Int))) (ys := (srtK Prod.fst (lastsT (l0.drop k) (l0.take k))).take n) E S hr_63 rfl rfl rfl T61 hv_58 one_RP2 (by first | omega | (simp; done) | (simp; omega) | (simp_all; omega)) (by first | omega | (simp; done) | (simp; omega) | (simp_all; omega)) ?_)
              clear E a S; rintro a w v_64 xs_65 E hr_66 S
              refine ⟨fun x hq hb => (agree_le hM_61 S.imm), ?_⟩
              refine D_x rfl rfl rfl (X_appendR (R := RP2) (zs := ([] : List (Int × Int)) ++ ((srtK Prod.fst (lastsT (l0.drop k) (l0.take k))).take n)) (ys := [x_3]) E S hr_66 rfl rfl rfl T61 hv_60 one_RP2 (by first | omega | (simp; done) | (simp; omega) | (simp_all; omega)) (by first | omega | (simp; done) | (simp; omega) | (simp_all; omega)) ?_)
              clear E a S; rintro a w v_67 xs_68 E hr_69 S
              refine ⟨fun x hq hb => (agree_le hM_61 S.imm), ?_⟩
              refine D_x rfl rfl rfl (X_appendR (R := RP2) (zs := (([] : List (Int × Int)) ++ ((srtK Prod.fst (lastsT (l0.drop k) (l0.take k))).take n)) ++ [x_3]) (ys := (srtK Prod.fst (lastsT (l0.drop k) (l0.take k))).drop n) E S hr_69 rfl rfl rfl T61 hv_59 one_RP2 (by first | omega | (simp; done) | (simp; omega) | (simp_all; omega)) (by first | omega | (simp; done) | (simp; omega) | (simp_all; omega)) ?_)
              clear E a S; rintro a w v_70 xs_71 E hr_72 S
              refine ⟨fun x hq hb => (agree_le hM_61 S.imm), ?_⟩
              refine D_v E rfl rfl rfl (fun w hC => (R_assign E rfl)) ?_
              clear E a; intro a E
              refine D_end (NoP_n ?_)
              refine B_n ?_
              refine T_n ?_
              refine WP_region ?_
              refine S_v E rfl (R_addx (m := ((k + 1 : Nat) : Int)) E rfl rfl (by omega) (by omega)) rfl ?_
              clear E a; intro a E
              refine S_v E rfl (R_move E rfl) rfl ?_
              clear E a; intro a E
              refine WL_nil ?_
              refine T_n ?_
              have S0 := S; clear S
              obtain ⟨M_73, hM_73, hz_74, S⟩ := S0.freezeR hr_72 RP2_mono (by (first | omega | (simp; omega) | (simp; done) | (simp_all; omega) | grind))
              clear S0
              replace h0 := h0.le RP2_mono hM_73
              replace hs3_0 := hs3_0.le RP2_mono hM_73
              replace hb_7 := hM_73.2 _ _ hb_7
              replace hv_8 := hv_8.le RP2_mono hM_73
              replace qp_21 := cellsM_le hM_73 qp_21
              replace hv_58 := hv_58.le RP2_mono hM_73
              replace hv_59 := hv_59.le RP2_mono hM_73
              replace hv_60 := hv_60.le RP2_mono hM_73
              exact ⟨k + 1, ⟨M_73, _, (hM_1.trans (hM_6.trans (hM_9.trans (hM_18.trans (hM_61.trans hM_73))))), S, E.keep ⟨rfl, rfl, rfl, rfl, rfl, trivial⟩, by ((try clear S); (try clear E); first | assumption | omega | rfl | (simp; done) | (simp_all; done) | (simp [List.take_add_one, *]; done) | grind [List.take_add_one]), (SLeqR hz_74 (by first | exact ent_skip (by assumption) (in_all (by assumption) (by assumption)) | exact ent_put (by assumption) (in_none (by assumption) (by assumption)) (by assumption) (by first | exact gt_len (by assumption) | exact gt_at (by assumption) (by assumption))))⟩, by omega⟩
        · replace E := E.val (t := 40) rfl hc_19
          replace E := E.val (t := 41) rfl hc_19
          replace hc_19 := of_decide_eq_false hc_19
          refine D_no E rfl rfl rfl rfl rfl fun a E => ?_
          refine D_no E rfl rfl rfl rfl rfl fun a E => ?_
          refine D_no E rfl rfl rfl rfl rfl fun a E => ?_
          refine D_no E rfl rfl rfl rfl rfl fun a E => ?_
          refine D_no E rfl rfl rfl rfl rfl fun a E => ?_
          refine D_no E rfl rfl rfl rfl rfl fun a E => ?_
          refine D_no E rfl rfl rfl rfl rfl fun a E => ?_
          refine D_no E rfl rfl rfl rfl rfl fun a E => ?_
          refine D_v E rfl rfl rfl (fun w hC => (R_pickF E rfl rfl)) ?_
          clear E a; intro a E
          refine D_end (NoP_n ?_)
          refine T_n ?_
          refine WP_condF E rfl rfl ?_
          refine WP_exit ?_
          refine T_x ?_
          refine T_x ?_
          refine B_x ?_
          refine T_n ?_
          refine DG_start Try.mixed ?_
          refine DG_split 0 6 (by decide) (by kernel_rfl) ?_ ?_
          · refine DG_split 4 6 (by decide) (by kernel_rfl) ?_ ?_
            · have hb_7k74 := hb_7
              replace S := S.mono_heap (w' := World.drew _) rfl
              refine DG_end (C := fun x w => agree M_18 w) (bf := (fun i => [])) [1, 2, 3, 5, 8, 9, 10, 12] [1, 2, 3, 5, 8, 9, 10, 0, 4, 6, 7, 11, 12] (by kernel_rfl) (fun x hq => S.imm) ?_
              refine D_v E rfl rfl rfl (fun w hC => (R_move E rfl)) ?_
              clear E a; intro a E
              refine D_v E rfl rfl rfl (fun w hC => (R_move E rfl)) ?_
              clear E a; intro a E
              obtain ⟨v_75, sv_75, hv_75⟩ := hs3_0.subv 0 n (by first | omega | (simp; done) | (simp; omega) | (simp_all; omega)) (by first | omega | (simp; done) | (simp; omega) | (simp_all; omega))
              simp only [List.drop_zero] at hv_75
              refine D_v E rfl rfl rfl (fun w hC => (R_sliceH E rfl rfl T61 sv_75 (by omega))) ?_
              clear E a; intro a E
              refine D_v E rfl rfl rfl (fun w hC => (R_loadGM E rfl (Try.isAgg119 _) (Try.sizeOf119 _) hC hb_7k74)) ?_
              clear E a; intro a E
              refine D_v E rfl rfl rfl (fun w hC => (R_move E rfl)) ?_
              clear E a; intro a E
              refine D_v E rfl rfl rfl (fun w hC => (R_move E rfl)) ?_
              clear E a; intro a E
              obtain ⟨v_76, sv_76, hv_76⟩ := hs3_0.subv n ((srtK Prod.fst (lastsT (l0.drop k) (l0.take k))).length) (by first | omega | (simp; done) | (simp; omega) | (simp_all; omega)) (by first | omega | (simp; done) | (simp; omega) | (simp_all; omega))
              simp only [List.take_length] at hv_76
              refine D_v E rfl rfl rfl (fun w hC => (R_sliceL E rfl rfl T61 hs3_0.len sv_76 (by omega))) ?_
              clear E a; intro a E
              refine D_x rfl rfl rfl (X_buildA0 E S rfl T61 ?_)
              clear E a S; rintro a w v_77 E S
              have hr_78 : RowsR RP2 2 M_18 ([] : List (Int × Int)) [] := RowsR.nil
              replace S : St w M_18 (OwnC 119 2 v_77 ([] : List (Int × Int)).length [] :: _) := S
              refine ⟨fun x hq hb => (agree_le (Hp.le.refl _) S.imm), ?_⟩
              refine D_x rfl rfl rfl (X_appendR (R := RP2) (zs := ([] : List (Int × Int))) (ys := (srtK Prod.fst (lastsT (l0.drop k) (l0.take k))).take n) E S hr_78 rfl rfl rfl T61 hv_75 one_RP2 (by first | omega | (simp; done) | (simp; omega) | (simp_all; omega)) (by first | omega | (simp; done) | (simp; omega) | (simp_all; omega)) ?_)
              clear E a S; rintro a w v_79 xs_80 E hr_81 S
              refine ⟨fun x hq hb => (agree_le (Hp.le.refl _) S.imm), ?_⟩
              refine D_x rfl rfl rfl (X_buildA1 (R := RP2) (cs := [.int .i64 x_3.1, .int .i64 x_3.2]) (x0 := x_3) RP2_mono E S rfl T61 rfl rfl rfl rfl ?_)
              clear E a S; rintro a v_82 w M_83 hM_83 hv_82 S E
              replace h0 := h0.le RP2_mono hM_83
              replace hs3_0 := hs3_0.le RP2_mono hM_83
              replace hb_7 := hM_83.2 _ _ hb_7
              replace hv_8 := hv_8.le RP2_mono hM_83
              replace hv_75 := hv_75.le RP2_mono hM_83
              replace hv_76 := hv_76.le RP2_mono hM_83
              replace hr_81 := hr_81.le RP2_mono hM_83
              refine ⟨fun x hq hb => (agree_le hM_83 S.imm), ?_⟩
              refine D_x rfl rfl rfl (X_appendR (R := RP2) (zs := ([] : List (Int × Int)) ++ ((srtK Prod.fst (lastsT (l0.drop k) (l0.take k))).take n)) (ys := [x_3]) E S hr_81 rfl rfl rfl T61 hv_82 one_RP2 (by first | omega | (simp; done) | (simp; omega) | (simp_all; omega)) (by first | omega | (simp; done) | (simp; omega) | (simp_all; omega)) ?_)
              clear E a S; rintro a w v_84 xs_85 E hr_86 S
              refine ⟨fun x hq hb => (agree_le hM_83 S.imm), ?_⟩
              refine D_x rfl rfl rfl (X_appendR (R := RP2) (zs := (([] : List (Int × Int)) ++ ((srtK Prod.fst (lastsT (l0.drop k) (l0.take k))).take n)) ++ [x_3]) (ys := (srtK Prod.fst (lastsT (l0.drop k) (l0.take k))).drop n) E S hr_86 rfl rfl rfl T61 hv_76 one_RP2 (by first | omega | (simp; done) | (simp; omega) | (simp_all; omega)) (by first | omega | (simp; done) | (simp; omega) | (simp_all; omega)) ?_)
              clear E a S; rintro a w v_87 xs_88 E hr_89 S
              refine ⟨fun x hq hb => (agree_le hM_83 S.imm), ?_⟩
              refine D_v E rfl rfl rfl (fun w hC => (R_assign E rfl)) ?_
              clear E a; intro a E
              refine D_end (NoP_n ?_)
              refine B_n ?_
              refine T_n ?_
              refine WP_region ?_
              refine S_v E rfl (R_addx (m := ((k + 1 : Nat) : Int)) E rfl rfl (by omega) (by omega)) rfl ?_
              clear E a; intro a E
              refine S_v E rfl (R_move E rfl) rfl ?_
              clear E a; intro a E
              refine WL_nil ?_
              refine T_n ?_
              have S0 := S; clear S
              obtain ⟨M_90, hM_90, hz_91, S⟩ := S0.freezeR hr_89 RP2_mono (by (first | omega | (simp; omega) | (simp; done) | (simp_all; omega) | grind))
              clear S0
              replace h0 := h0.le RP2_mono hM_90
              replace hs3_0 := hs3_0.le RP2_mono hM_90
              replace hb_7 := hM_90.2 _ _ hb_7
              replace hv_8 := hv_8.le RP2_mono hM_90
              replace hv_75 := hv_75.le RP2_mono hM_90
              replace hv_76 := hv_76.le RP2_mono hM_90
              replace hv_82 := hv_82.le RP2_mono hM_90
              exact ⟨k + 1, ⟨M_90, _, (hM_1.trans (hM_6.trans (hM_9.trans (hM_18.trans (hM_83.trans hM_90))))), S, E.keep ⟨rfl, rfl, rfl, rfl, rfl, trivial⟩, by ((try clear S); (try clear E); first | assumption | omega | rfl | (simp; done) | (simp_all; done) | (simp [List.take_add_one, *]; done) | grind [List.take_add_one]), (SLeqR hz_91 (by first | exact ent_skip (by assumption) (in_all (by assumption) (by assumption)) | exact ent_put (by assumption) (in_none (by assumption) (by assumption)) (by assumption) (by first | exact gt_len (by assumption) | exact gt_at (by assumption) (by assumption))))⟩, by omega⟩
            · have hb_7k91 := hb_7
              replace S := S.mono_heap (w' := World.drew _) rfl
              refine DG_end (C := fun x w => agree M_18 w) (bf := (fun i => [])) [1, 2, 3, 5, 8, 9, 10, 12] [1, 2, 3, 5, 8, 9, 10, 0, 6, 4, 7, 11, 12] (by kernel_rfl) (fun x hq => S.imm) ?_
              refine D_v E rfl rfl rfl (fun w hC => (R_move E rfl)) ?_
              clear E a; intro a E
              refine D_v E rfl rfl rfl (fun w hC => (R_move E rfl)) ?_
              clear E a; intro a E
              obtain ⟨v_92, sv_92, hv_92⟩ := hs3_0.subv 0 n (by first | omega | (simp; done) | (simp; omega) | (simp_all; omega)) (by first | omega | (simp; done) | (simp; omega) | (simp_all; omega))
              simp only [List.drop_zero] at hv_92
              refine D_v E rfl rfl rfl (fun w hC => (R_sliceH E rfl rfl T61 sv_92 (by omega))) ?_
              clear E a; intro a E
              refine D_v E rfl rfl rfl (fun w hC => (R_loadGM E rfl (Try.isAgg119 _) (Try.sizeOf119 _) hC hb_7k91)) ?_
              clear E a; intro a E
              refine D_v E rfl rfl rfl (fun w hC => (R_move E rfl)) ?_
              clear E a; intro a E
              refine D_v E rfl rfl rfl (fun w hC => (R_move E rfl)) ?_
              clear E a; intro a E
              obtain ⟨v_93, sv_93, hv_93⟩ := hs3_0.subv n ((srtK Prod.fst (lastsT (l0.drop k) (l0.take k))).length) (by first | omega | (simp; done) | (simp; omega) | (simp_all; omega)) (by first | omega | (simp; done) | (simp; omega) | (simp_all; omega))
              simp only [List.take_length] at hv_93
              refine D_v E rfl rfl rfl (fun w hC => (R_sliceL E rfl rfl T61 hs3_0.len sv_93 (by omega))) ?_
              clear E a; intro a E
              refine D_x rfl rfl rfl (X_buildA0 E S rfl T61 ?_)
              clear E a S; rintro a w v_94 E S
              have hr_95 : RowsR RP2 2 M_18 ([] : List (Int × Int)) [] := RowsR.nil
              replace S : St w M_18 (OwnC 119 2 v_94 ([] : List (Int × Int)).length [] :: _) := S
              refine ⟨fun x hq hb => (agree_le (Hp.le.refl _) S.imm), ?_⟩
              refine D_x rfl rfl rfl (X_buildA1 (R := RP2) (cs := [.int .i64 x_3.1, .int .i64 x_3.2]) (x0 := x_3) RP2_mono E S rfl T61 rfl rfl rfl rfl ?_)
              clear E a S; rintro a v_96 w M_97 hM_97 hv_96 S E
              replace h0 := h0.le RP2_mono hM_97
              replace hs3_0 := hs3_0.le RP2_mono hM_97
              replace hb_7 := hM_97.2 _ _ hb_7
              replace hv_8 := hv_8.le RP2_mono hM_97
              replace hv_92 := hv_92.le RP2_mono hM_97
              replace hv_93 := hv_93.le RP2_mono hM_97
              replace hr_95 := hr_95.le RP2_mono hM_97
              refine ⟨fun x hq hb => (agree_le hM_97 S.imm), ?_⟩
              refine D_x rfl rfl rfl (X_appendR (R := RP2) (zs := ([] : List (Int × Int))) (ys := (srtK Prod.fst (lastsT (l0.drop k) (l0.take k))).take n) E S hr_95 rfl rfl rfl T61 hv_92 one_RP2 (by first | omega | (simp; done) | (simp; omega) | (simp_all; omega)) (by first | omega | (simp; done) | (simp; omega) | (simp_all; omega)) ?_)
              clear E a S; rintro a w v_98 xs_99 E hr_100 S
              refine ⟨fun x hq hb => (agree_le hM_97 S.imm), ?_⟩
              refine D_x rfl rfl rfl (X_appendR (R := RP2) (zs := ([] : List (Int × Int)) ++ ((srtK Prod.fst (lastsT (l0.drop k) (l0.take k))).take n)) (ys := [x_3]) E S hr_100 rfl rfl rfl T61 hv_96 one_RP2 (by first | omega | (simp; done) | (simp; omega) | (simp_all; omega)) (by first | omega | (simp; done) | (simp; omega) | (simp_all; omega)) ?_)
              clear E a S; rintro a w v_101 xs_102 E hr_103 S
              refine ⟨fun x hq hb => (agree_le hM_97 S.imm), ?_⟩
              refine D_x rfl rfl rfl (X_appendR (R := RP2) (zs := (([] : List (Int × Int)) ++ ((srtK Prod.fst (lastsT (l0.drop k) (l0.take k))).take n)) ++ [x_3]) (ys := (srtK Prod.fst (lastsT (l0.drop k) (l0.take k))).drop n) E S hr_103 rfl rfl rfl T61 hv_93 one_RP2 (by first | omega | (simp; done) | (simp; omega) | (simp_all; omega)) (by first | omega | (simp; done) | (simp; omega) | (simp_all; omega)) ?_)
              clear E a S; rintro a w v_104 xs_105 E hr_106 S
              refine ⟨fun x hq hb => (agree_le hM_97 S.imm), ?_⟩
              refine D_v E rfl rfl rfl (fun w hC => (R_assign E rfl)) ?_
              clear E a; intro a E
              refine D_end (NoP_n ?_)
              refine B_n ?_
              refine T_n ?_
              refine WP_region ?_
              refine S_v E rfl (R_addx (m := ((k + 1 : Nat) : Int)) E rfl rfl (by omega) (by omega)) rfl ?_
              clear E a; intro a E
              refine S_v E rfl (R_move E rfl) rfl ?_
              clear E a; intro a E
              refine WL_nil ?_
              refine T_n ?_
              have S0 := S; clear S
              obtain ⟨M_107, hM_107, hz_108, S⟩ := S0.freezeR hr_106 RP2_mono (by (first | omega | (simp; omega) | (simp; done) | (simp_all; omega) | grind))
              clear S0
              replace h0 := h0.le RP2_mono hM_107
              replace hs3_0 := hs3_0.le RP2_mono hM_107
              replace hb_7 := hM_107.2 _ _ hb_7
              replace hv_8 := hv_8.le RP2_mono hM_107
              replace hv_92 := hv_92.le RP2_mono hM_107
              replace hv_93 := hv_93.le RP2_mono hM_107
              replace hv_96 := hv_96.le RP2_mono hM_107
              exact ⟨k + 1, ⟨M_107, _, (hM_1.trans (hM_6.trans (hM_9.trans (hM_18.trans (hM_97.trans hM_107))))), S, E.keep ⟨rfl, rfl, rfl, rfl, rfl, trivial⟩, by ((try clear S); (try clear E); first | assumption | omega | rfl | (simp; done) | (simp_all; done) | (simp [List.take_add_one, *]; done) | grind [List.take_add_one]), (SLeqR hz_108 (by first | exact ent_skip (by assumption) (in_all (by assumption) (by assumption)) | exact ent_put (by assumption) (in_none (by assumption) (by assumption)) (by assumption) (by first | exact gt_len (by assumption) | exact gt_at (by assumption) (by assumption))))⟩, by omega⟩
          · have hb_7k108 := hb_7
            replace S := S.mono_heap (w' := World.drew _) rfl
            refine DG_end (C := fun x w => agree M_18 w) (bf := (fun i => [])) [1, 2, 3, 5, 8, 9, 10, 12] [1, 2, 3, 5, 8, 9, 10, 6, 0, 4, 7, 11, 12] (by kernel_rfl) (fun x hq => S.imm) ?_
            refine D_v E rfl rfl rfl (fun w hC => (R_move E rfl)) ?_
            clear E a; intro a E
            refine D_v E rfl rfl rfl (fun w hC => (R_move E rfl)) ?_
            clear E a; intro a E
            obtain ⟨v_109, sv_109, hv_109⟩ := hs3_0.subv 0 n (by first | omega | (simp; done) | (simp; omega) | (simp_all; omega)) (by first | omega | (simp; done) | (simp; omega) | (simp_all; omega))
            simp only [List.drop_zero] at hv_109
            refine D_v E rfl rfl rfl (fun w hC => (R_sliceH E rfl rfl T61 sv_109 (by omega))) ?_
            clear E a; intro a E
            refine D_v E rfl rfl rfl (fun w hC => (R_loadGM E rfl (Try.isAgg119 _) (Try.sizeOf119 _) hC hb_7k108)) ?_
            clear E a; intro a E
            refine D_v E rfl rfl rfl (fun w hC => (R_move E rfl)) ?_
            clear E a; intro a E
            refine D_v E rfl rfl rfl (fun w hC => (R_move E rfl)) ?_
            clear E a; intro a E
            obtain ⟨v_110, sv_110, hv_110⟩ := hs3_0.subv n ((srtK Prod.fst (lastsT (l0.drop k) (l0.take k))).length) (by first | omega | (simp; done) | (simp; omega) | (simp_all; omega)) (by first | omega | (simp; done) | (simp; omega) | (simp_all; omega))
            simp only [List.take_length] at hv_110
            refine D_v E rfl rfl rfl (fun w hC => (R_sliceL E rfl rfl T61 hs3_0.len sv_110 (by omega))) ?_
            clear E a; intro a E
            refine D_x rfl rfl rfl (X_buildA1 (R := RP2) (cs := [.int .i64 x_3.1, .int .i64 x_3.2]) (x0 := x_3) RP2_mono E S rfl T61 rfl rfl rfl rfl ?_)
            clear E a S; rintro a v_111 w M_112 hM_112 hv_111 S E
            replace h0 := h0.le RP2_mono hM_112
            replace hs3_0 := hs3_0.le RP2_mono hM_112
            replace hb_7 := hM_112.2 _ _ hb_7
            replace hv_8 := hv_8.le RP2_mono hM_112
            replace hv_109 := hv_109.le RP2_mono hM_112
            replace hv_110 := hv_110.le RP2_mono hM_112
            refine ⟨fun x hq hb => (agree_le hM_112 S.imm), ?_⟩
            refine D_x rfl rfl rfl (X_buildA0 E S rfl T61 ?_)
            clear E a S; rintro a w v_113 E S
            have hr_114 : RowsR RP2 2 M_112 ([] : List (Int × Int)) [] := RowsR.nil
            replace S : St w M_112 (OwnC 119 2 v_113 ([] : List (Int × Int)).length [] :: _) := S
            refine ⟨fun x hq hb => (agree_le hM_112 S.imm), ?_⟩
            refine D_x rfl rfl rfl (X_appendR (R := RP2) (zs := ([] : List (Int × Int))) (ys := (srtK Prod.fst (lastsT (l0.drop k) (l0.take k))).take n) E S hr_114 rfl rfl rfl T61 hv_109 one_RP2 (by first | omega | (simp; done) | (simp; omega) | (simp_all; omega)) (by first | omega | (simp; done) | (simp; omega) | (simp_all; omega)) ?_)
            clear E a S; rintro a w v_115 xs_116 E hr_117 S
            refine ⟨fun x hq hb => (agree_le hM_112 S.imm), ?_⟩
            refine D_x rfl rfl rfl (X_appendR (R := RP2) (zs := ([] : List (Int × Int)) ++ ((srtK Prod.fst (lastsT (l0.drop k) (l0.take k))).take n)) (ys := [x_3]) E S hr_117 rfl rfl rfl T61 hv_111 one_RP2 (by first | omega | (simp; done) | (simp; omega) | (simp_all; omega)) (by first | omega | (simp; done) | (simp; omega) | (simp_all; omega)) ?_)
            clear E a S; rintro a w v_118 xs_119 E hr_120 S
            refine ⟨fun x hq hb => (agree_le hM_112 S.imm), ?_⟩
            refine D_x rfl rfl rfl (X_appendR (R := RP2) (zs := (([] : List (Int × Int)) ++ ((srtK Prod.fst (lastsT (l0.drop k) (l0.take k))).take n)) ++ [x_3]) (ys := (srtK Prod.fst (lastsT (l0.drop k) (l0.take k))).drop n) E S hr_120 rfl rfl rfl T61 hv_110 one_RP2 (by first | omega | (simp; done) | (simp; omega) | (simp_all; omega)) (by first | omega | (simp; done) | (simp; omega) | (simp_all; omega)) ?_)
            clear E a S; rintro a w v_121 xs_122 E hr_123 S
            refine ⟨fun x hq hb => (agree_le hM_112 S.imm), ?_⟩
            refine D_v E rfl rfl rfl (fun w hC => (R_assign E rfl)) ?_
            clear E a; intro a E
            refine D_end (NoP_n ?_)
            refine B_n ?_
            refine T_n ?_
            refine WP_region ?_
            refine S_v E rfl (R_addx (m := ((k + 1 : Nat) : Int)) E rfl rfl (by omega) (by omega)) rfl ?_
            clear E a; intro a E
            refine S_v E rfl (R_move E rfl) rfl ?_
            clear E a; intro a E
            refine WL_nil ?_
            refine T_n ?_
            have S0 := S; clear S
            obtain ⟨M_124, hM_124, hz_125, S⟩ := S0.freezeR hr_123 RP2_mono (by (first | omega | (simp; omega) | (simp; done) | (simp_all; omega) | grind))
            clear S0
            replace h0 := h0.le RP2_mono hM_124
            replace hs3_0 := hs3_0.le RP2_mono hM_124
            replace hb_7 := hM_124.2 _ _ hb_7
            replace hv_8 := hv_8.le RP2_mono hM_124
            replace hv_109 := hv_109.le RP2_mono hM_124
            replace hv_110 := hv_110.le RP2_mono hM_124
            replace hv_111 := hv_111.le RP2_mono hM_124
            exact ⟨k + 1, ⟨M_124, _, (hM_1.trans (hM_6.trans (hM_9.trans (hM_18.trans (hM_112.trans hM_124))))), S, E.keep ⟨rfl, rfl, rfl, rfl, rfl, trivial⟩, by ((try clear S); (try clear E); first | assumption | omega | rfl | (simp; done) | (simp_all; done) | (simp [List.take_add_one, *]; done) | grind [List.take_add_one]), (SLeqR hz_125 (by first | exact ent_skip (by assumption) (in_all (by assumption) (by assumption)) | exact ent_put (by assumption) (in_none (by assumption) (by assumption)) (by assumption) (by first | exact gt_len (by assumption) | exact gt_at (by assumption) (by assumption))))⟩, by omega⟩
  · replace hc_2 := of_decide_eq_false hc_2
    refine WP_exit ?_
    refine T_x ?_
    refine T_x ?_
    refine B_x ?_
    refine T_n ?_
    refine WP_seq ?_
    refine WP_region ?_
    refine S_v E rfl (R_move E rfl) rfl ?_
    clear E a; intro a E
    refine S_v E rfl (R_assign E rfl) rfl ?_
    clear E a; intro a E
    refine WL_nil ?_
    refine T_n ?_
    refine WP_ret ?_
    exact F_ret1 E Try.results120 rfl ⟨_, rfl, M_1, hM_1, (by rw [show (entE l0) = (srtK Prod.fst (lastsT (l0.drop k) (l0.take k))) from by (rw [List.take_of_length_le (show l0.length ≤ k by omega), List.drop_eq_nil_of_le (show l0.length ≤ k by omega)]; first | exact entE_lasts l0 | exact (entE_lasts l0).symm)]; exact hs3_0), S⟩

set_option maxRecDepth 100000 in
set_option maxHeartbeats 4000000 in
theorem spec_Associate {M : Hp} {v0 : Value} {l0 : List Int} (h0 : RdI M v0 l0){kk1 kn1 : Int} (gk1 : -9223372036854775808 ≤ kn1 ∧ kn1 ≤ 9223372036854775807) {kk2 kn2 : Int} (gk2 : -9223372036854775808 ≤ kn2 ∧ kn2 ≤ 9223372036854775807) (hb : l0.length ≤ 1000000000000) (hr0 : (∀ x ∈ l0, -9223372036854775808 ≤ x ∧ x ≤ 9223372036854775807)) :
    Pu Try.prog (.func (.func 49) #[] #[]) M [v0, .agg #[.int .i64 kk1, .int .i64 kn1], .agg #[.int .i64 kk2, .int .i64 kn2]] (fun r M' => RdS 2 RP2 M' r (entE (ixm (fun x i => (keyAt kk1 kn1 x i, keyAt kk2 kn2 x i)) 0 l0))) := by
  refine Pu_enter Try.func49 rfl Try.ntmps49 rfl Try.call49 ?_
  intro a w M1 H hM1 S E
  replace h0 := h0.le hM1
  have b0 := h0.bound
  refine WP_seq ?_
  refine WP_region ?_
  refine S_x (X_box (cs := #[.int .i64 kk1, .int .i64 kn1]) E S rfl rfl rfl ?_)
  clear E a S; rintro a w b_1 E S
  obtain ⟨M_2, hM_2, hb_1, S⟩ := S.freezeB
  replace h0 := h0.le hM_2
  refine S_x (X_box (cs := #[.int .i64 kk2, .int .i64 kn2]) E S rfl rfl rfl ?_)
  clear E a S; rintro a w b_3 E S
  obtain ⟨M_4, hM_4, hb_3, S⟩ := S.freezeB
  replace h0 := h0.le hM_4
  replace hb_1 := hM_4.2 _ _ hb_1
  refine S_v E rfl (R_assign E rfl) rfl ?_
  clear E a; intro a E
  refine WL_nil ?_
  refine T_n ?_
  refine WP_seq ?_
  refine WP_region ?_
  refine S_v E rfl (R_assign E rfl) rfl ?_
  clear E a; intro a E
  refine WL_nil ?_
  refine T_n ?_
  refine WP_seq ?_
  refine WP_seq ?_
  refine WP_region ?_
  refine S_v E rfl (R_move E rfl) rfl ?_
  clear E a; intro a E
  refine S_v E rfl (R_lenV E rfl T22 h0.len) rfl ?_
  clear E a; intro a E
  refine S_v E rfl (R_move E rfl) rfl ?_
  clear E a; intro a E
  refine WL_nil ?_
  refine T_n ?_
  refine WP_block ?_
  replace S : St w M_4 (OwnC 119 2 (.slice none 0 0) ([] : List (Int × Int)).length [] :: _) := S.ownNil
  have hr_6 : RowsR RP2 2 M_4 ([] : List (Int × Int)) [] := RowsR.nil
  have hre : ([] : List (Int × Int)) = ixm (fun x i => (keyAt kk1 kn1 x i, keyAt kk2 kn2 x i)) 0 (l0.take 0) := by first | (simp [ixm]; done) | exact (ixm_succ (by assumption)).symm
  replace S := S.reR hre
  replace hr_6 := hr_6.eq hre
  clear hre
  refine WP_loop (γ := Nat) (fun (k : Nat) a w => ∃ (M_7 : Hp) (u7 : Value) (xs7 : List Value), Hp.le M_4 M_7 ∧ St w M_7 (OwnC 119 2 u7 (ixm (fun x i => (keyAt kk1 kn1 x i, keyAt kk2 kn2 x i)) 0 (l0.take k)).length xs7 :: H) ∧ Env a 32 [] [(4, .pointer (some ⟨b_1, 0, none⟩)), (5, .pointer (some ⟨b_3, 0, none⟩)), (7, u7), (10, v0), (11, .int .i64 (((l0).length : Nat) : Int)), (12, .int .i64 ((k : Nat) : Int))] ∧ (k ≤ (l0).length) ∧ RowsR RP2 2 M_7 (ixm (fun x i => (keyAt kk1 kn1 x i, keyAt kk2 kn2 x i)) 0 (l0.take k)) xs7) (fun k => ((l0).length) - k) 0 ⟨M_4, _, _, Hp.le.refl _, S, E.keep ⟨rfl, rfl, rfl, rfl, rfl, rfl, trivial⟩, by ((try clear S); (try clear E); first | assumption | omega | rfl | (simp; done) | (simp_all; done) | (simp [List.take_add_one, *]; done) | grind [List.take_add_one]), hr_6⟩ ?_
  try clear E
  try clear S
  try clear a
  try clear w
  rintro k a w ⟨M_7, u7, xs7, hM_7, S, E, hL0_0, hr7⟩
  replace h0 := h0.le hM_7
  replace hb_1 := hM_7.2 _ _ hb_1
  replace hb_3 := hM_7.2 _ _ hb_3
  have hil := ixm_len (fun x i => (keyAt kk1 kn1 x i, keyAt kk2 kn2 x i)) (l0.take k) 0; rw [List.length_take] at hil
  refine WP_seq ?_
  refine WP_region ?_
  refine S_v E rfl (R_lss E rfl rfl) rfl ?_
  clear E a; intro a E
  refine WL_nil ?_
  refine T_n ?_
  refine WP_seq ?_
  refine WP_cond E rfl (fun hc_8 => ?_) (fun hc_8 => ?_)
  · replace hc_8 := of_decide_eq_true hc_8
    refine WP_skip ?_
    refine T_n ?_
    refine WP_seq ?_
    refine WP_block ?_
    refine WP_seq ?_
    refine WP_region ?_
    refine S_v E rfl (R_move E rfl) rfl ?_
    clear E a; intro a E
    obtain ⟨x_9, hx_9⟩ : ∃ x, (l0)[k]? = some x := ⟨_, List.getElem?_eq_getElem (by first | omega | (simp; done) | (simp; omega) | (simp_all; omega))⟩
    obtain ⟨p_10, hp_10, qp_10⟩ := h0.at hx_9
    refine S_v E rfl (R_idx E rfl rfl T22 hp_10 rfl) rfl ?_
    clear E a; intro a E
    refine S_v E rfl (R_loadM E rfl Try.isAgg3 S.imm qp_10) rfl ?_
    clear E a; intro a E
    refine S_v E rfl (R_assign E rfl) rfl ?_
    clear E a; intro a E
    refine S_v E rfl (R_assign E rfl) rfl ?_
    clear E a; intro a E
    refine WL_nil ?_
    refine T_n ?_
    have hb_1k10 := hb_1
    have hb_3k10 := hb_3
    have qp_10k10 := qp_10
    replace S := S.mono_heap (w' := World.drew _) rfl
    refine WP_drawn (C := fun x w => agree M_7 w) (bf := (fun i => [])) [0, 1, 2, 3, 5, 6, 7, 9, 12] [0, 1, 2, 3, 5, 6, 7, 4, 8, 9, 10, 11, 12] Try.mixed (by kernel_rfl) (fun x hq => S.imm) ?_
    refine D_v E rfl rfl rfl (fun w hC => (R_move E rfl)) ?_
    clear E a; intro a E
    refine D_v E rfl rfl rfl (fun w hC => (R_loadGM E rfl (Try.isAgg45 _) (Try.sizeOf45 _) hC hb_1k10)) ?_
    clear E a; intro a E
    refine D_v E rfl rfl rfl (fun w hC => (R_move E rfl)) ?_
    clear E a; intro a E
    refine D_v E rfl rfl rfl (fun w hC => (R_move E rfl)) ?_
    clear E a; intro a E
    refine D_v E rfl rfl rfl (fun w hC => (R_loadGM E rfl (Try.isAgg45 _) (Try.sizeOf45 _) hC hb_3k10)) ?_
    clear E a; intro a E
    refine D_v E rfl rfl rfl (fun w hC => (R_move E rfl)) ?_
    clear E a; intro a E
    refine D_v E rfl rfl rfl (fun w hC => (R_move E rfl)) ?_
    clear E a; intro a E
    refine D_x rfl rfl rfl (X_pu E S rfl rfl rfl (SKey_Of_d (by omega) (by first | omega | assumption | exact hr0 _ (List.mem_of_getElem? (by assumption)) | exact zi2_rng hr0 (by assumption))) (Hp.le.refl _) ?_)
    clear E a S; rintro a _ w M_11 hM_11 rfl S E
    replace h0 := h0.le hM_11
    replace hb_1 := hM_11.2 _ _ hb_1
    replace hb_3 := hM_11.2 _ _ hb_3
    replace hr7 := hr7.le RP2_mono hM_11
    refine ⟨fun x hq hb => (agree_le hM_11 S.imm), ?_⟩
    refine D_x rfl rfl rfl (X_pu E S rfl rfl rfl (SKey_Of_d (by omega) (by first | omega | assumption | exact hr0 _ (List.mem_of_getElem? (by assumption)) | exact zi2_rng hr0 (by assumption))) (Hp.le.refl _) ?_)
    clear E a S; rintro a _ w M_12 hM_12 rfl S E
    replace h0 := h0.le hM_12
    replace hb_1 := hM_12.2 _ _ hb_1
    replace hb_3 := hM_12.2 _ _ hb_3
    replace hr7 := hr7.le RP2_mono hM_12
    refine ⟨fun x hq hb => (agree_le (hM_11.trans hM_12) S.imm), ?_⟩
    refine D_v E rfl rfl rfl (fun w hC => (R_build (u := .agg #[.int .i64 (keyAt kk1 kn1 x_9 ((k : Nat) : Int)), .int .i64 (keyAt kk2 kn2 x_9 ((k : Nat) : Int))]) (vs := [.int .i64 (keyAt kk1 kn1 x_9 ((k : Nat) : Int)), .int .i64 (keyAt kk2 kn2 x_9 ((k : Nat) : Int))]) E rfl (fun w => FB119_0_1_ii (keyAt kk1 kn1 x_9 ((k : Nat) : Int)) (keyAt kk2 kn2 x_9 ((k : Nat) : Int)) w))) ?_
    clear E a; intro a E
    refine D_x rfl rfl rfl (X_buildA1 (R := RP2) (cs := [.int .i64 (keyAt kk1 kn1 x_9 ((k : Nat) : Int)), .int .i64 (keyAt kk2 kn2 x_9 ((k : Nat) : Int))]) (x0 := (keyAt kk1 kn1 x_9 ((k : Nat) : Int), keyAt kk2 kn2 x_9 ((k : Nat) : Int))) RP2_mono E S rfl T61 rfl rfl rfl rfl ?_)
    clear E a S; rintro a v_13 w M_14 hM_14 hv_13 S E
    replace h0 := h0.le hM_14
    replace hb_1 := hM_14.2 _ _ hb_1
    replace hb_3 := hM_14.2 _ _ hb_3
    replace hr7 := hr7.le RP2_mono hM_14
    refine ⟨fun x hq hb => (agree_le (hM_11.trans (hM_12.trans hM_14)) S.imm), ?_⟩
    refine D_x rfl rfl rfl (X_appendR (R := RP2) (zs := ixm (fun x i => (keyAt kk1 kn1 x i, keyAt kk2 kn2 x i)) 0 (l0.take k)) (ys := [(keyAt kk1 kn1 x_9 ((k : Nat) : Int), keyAt kk2 kn2 x_9 ((k : Nat) : Int))]) E S hr7 rfl rfl rfl T61 hv_13 one_RP2 (by (first | omega | (simp only [List.length_cons, List.length_nil, List.length_map, List.length_take, ixm_len] at *; omega))) (by (first | omega | (simp only [List.length_cons, List.length_nil, List.length_map, List.length_take, ixm_len] at *; omega))) ?_)
    clear E a S; rintro a w v_15 xs_16 E hr_17 S
    refine ⟨fun x hq hb => (agree_le (hM_11.trans (hM_12.trans hM_14)) S.imm), ?_⟩
    refine D_v E rfl rfl rfl (fun w hC => (R_assign E rfl)) ?_
    clear E a; intro a E
    refine D_end (NoP_n ?_)
    refine B_n ?_
    refine T_n ?_
    refine WP_region ?_
    refine S_v E rfl (R_addx (m := ((k + 1 : Nat) : Int)) E rfl rfl (by omega) (by omega)) rfl ?_
    clear E a; intro a E
    refine S_v E rfl (R_move E rfl) rfl ?_
    clear E a; intro a E
    refine WL_nil ?_
    refine T_n ?_
    have hre : (ixm (fun x i => (keyAt kk1 kn1 x i, keyAt kk2 kn2 x i)) 0 (l0.take k)) ++ [(keyAt kk1 kn1 x_9 ((k : Nat) : Int), keyAt kk2 kn2 x_9 ((k : Nat) : Int))] = ixm (fun x i => (keyAt kk1 kn1 x i, keyAt kk2 kn2 x i)) 0 (l0.take (k + 1)) := by first | (simp [ixm]; done) | exact (ixm_succ (by assumption)).symm
    replace S := S.reR hre
    replace hr_17 := hr_17.eq hre
    clear hre
    exact ⟨k + 1, ⟨M_14, _, _, (hM_7.trans (hM_11.trans (hM_12.trans hM_14))), S, E.keep ⟨rfl, rfl, rfl, rfl, rfl, rfl, trivial⟩, by ((try clear S); (try clear E); first | assumption | omega | rfl | (simp; done) | (simp_all; done) | (simp [List.take_add_one, *]; done) | grind [List.take_add_one]), hr_17⟩, by omega⟩
  · replace hc_8 := of_decide_eq_false hc_8
    refine WP_exit ?_
    refine T_x ?_
    refine T_x ?_
    refine B_x ?_
    refine T_n ?_
    refine WP_seq ?_
    refine WP_region ?_
    refine S_v E rfl (R_move E rfl) rfl ?_
    clear E a; intro a E
    have S0 := S; clear S
    obtain ⟨M_18, hM_18, hz_19, S⟩ := S0.freezeR hr7 RP2_mono (by (first | omega | (simp [ixm_len]; omega)))
    clear S0
    replace h0 := h0.le hM_18
    replace hb_1 := hM_18.2 _ _ hb_1
    replace hb_3 := hM_18.2 _ _ hb_3
    refine S_x (X_pu E S rfl rfl rfl (spec_Entries hz_19 (by first | omega | (simp [ixm_len]; done) | (simp [ixm_len]; omega) | (have h9 := kpix_len _ _ _; exact Nat.le_trans h9 (by omega)) | exact Nat.le_trans (kpix_len _ _ _) (by first | omega | (simp; omega)))) (Hp.le.refl _) ?_)
    clear E a S; rintro a v_21 w M_20 hM_20 hv_21 S E
    replace h0 := h0.le hM_20
    replace hb_1 := hM_20.2 _ _ hb_1
    replace hb_3 := hM_20.2 _ _ hb_3
    replace hz_19 := hz_19.le RP2_mono hM_20
    refine S_v E rfl (R_assign E rfl) rfl ?_
    clear E a; intro a E
    refine WL_nil ?_
    refine T_n ?_
    refine WP_ret ?_
    exact F_ret1 E Try.results49 rfl ⟨_, rfl, M_20, (hM_2.trans (hM_4.trans (hM_7.trans (hM_18.trans hM_20)))), (by rw [show (entE (ixm (fun x i => (keyAt kk1 kn1 x i, keyAt kk2 kn2 x i)) 0 l0)) = (entE (ixm (fun x i => (keyAt kk1 kn1 x i, keyAt kk2 kn2 x i)) 0 (l0.take k))) from by (rw [List.take_of_length_le (by omega)])]; exact hv_21), S⟩

set_option maxRecDepth 100000 in
set_option maxHeartbeats 4000000 in
theorem laws_eqRef {M : Hp} {v0 : Value} {l0 : List (Int × Int)} (h0 : RdS 2 RP2 M v0 l0) {v1 : Value} {l1 : List (Int × Int)} (h1 : RdS 2 RP2 M v1 l1) :
    Pu Try.prog (.func (.func 48) #[] #[]) M [v0, v1] (fun r M' => r = .bool (decide (l0 = l1))) := by
  refine Pu_enter Try.func48 rfl Try.ntmps48 rfl Try.call48 ?_
  intro a w M1 H hM1 S E
  replace h0 := h0.le RP2_mono hM1
  replace h1 := h1.le RP2_mono hM1
  have b0 := h0.bound
  have b1 := h1.bound
  refine WP_seq ?_
  refine WP_region ?_
  refine S_v E rfl (R_assign E rfl) rfl ?_
  clear E a; intro a E
  refine WL_nil ?_
  refine T_n ?_
  refine WP_seq ?_
  refine WP_seq ?_
  refine WP_region ?_
  refine S_v E rfl (R_move E rfl) rfl ?_
  clear E a; intro a E
  refine S_v E rfl (R_lenV E rfl T33 h0.len) rfl ?_
  clear E a; intro a E
  refine S_v E rfl (R_move E rfl) rfl ?_
  clear E a; intro a E
  refine S_v E rfl (R_lenV E rfl T61 h1.len) rfl ?_
  clear E a; intro a E
  refine S_v E rfl (R_neq E rfl rfl) rfl ?_
  clear E a; intro a E
  refine WL_nil ?_
  refine T_n ?_
  refine WP_cond E rfl (fun hc_1 => ?_) (fun hc_1 => ?_)
  · replace hc_1 := of_decide_eq_true hc_1
    refine WP_seq ?_
    refine WP_region ?_
    refine S_v E rfl (R_assign E rfl) rfl ?_
    clear E a; intro a E
    refine WL_nil ?_
    refine T_n ?_
    refine WP_ret ?_
    refine T_r ?_
    exact F_ret1 E Try.results48 rfl ⟨_, rfl, M1, (Hp.le.refl _), (bF (by (first | (simp; done) | exact eqp_no (by assumption) (by assumption) (p2_ne (by assumption)) | (have h9 : l0.take k = l1.take k := (by assumption); rwa [List.take_of_length_le (by omega), List.take_of_length_le (by omega)] at h9) | (intro h9; subst h9; omega) | (intro h9; subst h9; simp_all; done)))), S⟩
  · replace hc_1 := of_decide_eq_false hc_1
    refine WP_skip ?_
    refine T_n ?_
    refine WP_seq ?_
    refine WP_seq ?_
    refine WP_region ?_
    refine S_v E rfl (R_move E rfl) rfl ?_
    clear E a; intro a E
    refine S_v E rfl (R_lenV E rfl T33 h0.len) rfl ?_
    clear E a; intro a E
    refine S_v E rfl (R_move E rfl) rfl ?_
    clear E a; intro a E
    refine WL_nil ?_
    refine T_n ?_
    refine WP_block ?_
    refine WP_loop (γ := Nat) (fun (k : Nat) a w => ∃ (M_2 : Hp), Hp.le M1 M_2 ∧ St w M_2 (H) ∧ Env a 26 [] [(0, v0), (1, v1), (12, .int .i64 (((l0).length : Nat) : Int)), (13, .int .i64 ((k : Nat) : Int))] ∧ (k ≤ (l0).length) ∧ (l0.length = l1.length) ∧ (l0.take k = l1.take k)) (fun k => ((l0).length) - k) 0 ⟨M1, Hp.le.refl _, S, E.keep ⟨rfl, rfl, rfl, rfl, trivial⟩, by ((try clear S); (try clear E); first | assumption | omega | rfl | (simp; done) | (simp_all; done) | (simp [List.take_add_one, *]; done) | grind [List.take_add_one]), by ((try clear S); (try clear E); first | assumption | omega | rfl | (simp; done) | (simp_all; done) | (simp [List.take_add_one, *]; done) | grind [List.take_add_one]), by ((try clear S); (try clear E); first | assumption | omega | rfl | (simp; done) | (simp_all; done) | (simp [List.take_add_one, *]; done) | grind [List.take_add_one])⟩ ?_
    try clear E
    try clear S
    try clear a
    try clear w
    rintro k a w ⟨M_2, hM_2, S, E, hL0_0, hL0_1, hL0_2⟩
    replace h0 := h0.le RP2_mono hM_2
    replace h1 := h1.le RP2_mono hM_2
    refine WP_seq ?_
    refine WP_region ?_
    refine S_v E rfl (R_lss E rfl rfl) rfl ?_
    clear E a; intro a E
    refine WL_nil ?_
    refine T_n ?_
    refine WP_seq ?_
    refine WP_cond E rfl (fun hc_3 => ?_) (fun hc_3 => ?_)
    · replace hc_3 := of_decide_eq_true hc_3
      refine WP_skip ?_
      refine T_n ?_
      refine WP_seq ?_
      refine WP_block ?_
      refine WP_seq ?_
      refine WP_region ?_
      refine S_v E rfl (R_move E rfl) rfl ?_
      clear E a; intro a E
      refine S_v E rfl (R_assign E rfl) rfl ?_
      clear E a; intro a E
      refine WL_nil ?_
      refine T_n ?_
      refine WP_seq ?_
      replace S := S.mono_heap (w' := World.drew _) rfl
      refine WP_drawn (C := fun x w => agree M_2 w) (bf := (fun i => [])) [0, 1, 2, 3, 4, 5, 6, 7, 8] [0, 1, 2, 3, 4, 5, 6, 7, 8] Try.mixed (by kernel_rfl) (fun x hq => S.imm) ?_
      refine D_v E rfl rfl rfl (fun w hC => (R_move E rfl)) ?_
      clear E a; intro a E
      refine D_v E rfl rfl rfl (fun w hC => (R_move E rfl)) ?_
      clear E a; intro a E
      obtain ⟨x_4, hx_4⟩ : ∃ x, (l0)[k]? = some x := ⟨_, List.getElem?_eq_getElem (by first | omega | (simp; done) | (simp; omega) | (simp_all; omega))⟩
      obtain ⟨p_5, hp_5, qp_5⟩ := RdP2.at h0 hx_4
      refine D_v E rfl rfl rfl (fun w hC => (R_idx E rfl rfl T33 hp_5 rfl)) ?_
      clear E a; intro a E
      refine D_v E rfl rfl rfl (fun w hC => (R_loadA (cs := [.int .i64 x_4.1, .int .i64 x_4.2]) E rfl (Try.isAgg59 _) (Try.sizeOf59 _) hC qp_5)) ?_
      clear E a; intro a E
      refine D_v E rfl rfl rfl (fun w hC => (R_move E rfl)) ?_
      clear E a; intro a E
      refine D_v E rfl rfl rfl (fun w hC => (R_move E rfl)) ?_
      clear E a; intro a E
      obtain ⟨x_6, hx_6⟩ : ∃ x, (l1)[k]? = some x := ⟨_, List.getElem?_eq_getElem (by first | omega | (simp; done) | (simp; omega) | (simp_all; omega))⟩
      obtain ⟨p_7, hp_7, qp_7⟩ := RdP2.at h1 hx_6
      refine D_v E rfl rfl rfl (fun w hC => (R_idx E rfl rfl T61 hp_7 rfl)) ?_
      clear E a; intro a E
      refine D_v E rfl rfl rfl (fun w hC => (R_loadA (cs := [.int .i64 x_6.1, .int .i64 x_6.2]) E rfl (Try.isAgg119 _) (Try.sizeOf119 _) hC qp_7)) ?_
      clear E a; intro a E
      refine D_v E rfl rfl rfl (fun w hC => (R_neqA E rfl rfl (by kernel_rfl) (EQ119 x_4.1 x_4.2 x_6.1 x_6.2 _))) ?_
      clear E a; intro a E
      refine D_end (NoP_n ?_)
      refine T_n ?_
      refine WP_cond E rfl (fun hc_8 => ?_) (fun hc_8 => ?_)
      · replace hc_8 := of_decide_eq_true hc_8
        refine WP_seq ?_
        refine WP_region ?_
        refine S_v E rfl (R_assign E rfl) rfl ?_
        clear E a; intro a E
        refine WL_nil ?_
        refine T_n ?_
        refine WP_ret ?_
        refine B_r ?_
        refine T_r ?_
        refine T_r ?_
        refine B_r ?_
        refine T_r ?_
        exact F_ret1 E Try.results48 rfl ⟨_, rfl, M_2, hM_2, (bF (by (first | (simp; done) | exact eqp_no (by assumption) (by assumption) (p2_ne (by assumption)) | (have h9 : l0.take k = l1.take k := (by assumption); rwa [List.take_of_length_le (by omega), List.take_of_length_le (by omega)] at h9) | (intro h9; subst h9; omega) | (intro h9; subst h9; simp_all; done)))), S⟩
      · replace hc_8 := of_decide_eq_false hc_8
        refine WP_skip ?_
        refine B_n ?_
        refine T_n ?_
        refine WP_region ?_
        refine S_v E rfl (R_addx (m := ((k + 1 : Nat) : Int)) E rfl rfl (by omega) (by omega)) rfl ?_
        clear E a; intro a E
        refine S_v E rfl (R_move E rfl) rfl ?_
        clear E a; intro a E
        refine WL_nil ?_
        refine T_n ?_
        exact ⟨k + 1, ⟨M_2, hM_2, S, E.keep ⟨rfl, rfl, rfl, rfl, trivial⟩, by ((try clear S); (try clear E); first | assumption | omega | rfl | (simp; done) | (simp_all; done) | (simp [List.take_add_one, *]; done) | grind [List.take_add_one]), by ((try clear S); (try clear E); first | assumption | omega | rfl | (simp; done) | (simp_all; done) | (simp [List.take_add_one, *]; done) | grind [List.take_add_one]), (by exact eqp_step (by assumption) (by assumption) (by assumption) (p2_eq (by first | assumption | exact Decidable.not_not.1 (by assumption))))⟩, by omega⟩
    · replace hc_3 := of_decide_eq_false hc_3
      refine WP_exit ?_
      refine T_x ?_
      refine T_x ?_
      refine B_x ?_
      refine T_n ?_
      refine WP_seq ?_
      refine WP_region ?_
      refine S_v E rfl (R_assign E rfl) rfl ?_
      clear E a; intro a E
      refine WL_nil ?_
      refine T_n ?_
      refine WP_ret ?_
      exact F_ret1 E Try.results48 rfl ⟨_, rfl, M_2, hM_2, (bT (by (first | (simp; done) | exact eqp_no (by assumption) (by assumption) (p2_ne (by assumption)) | (have h9 : l0.take k = l1.take k := (by assumption); rwa [List.take_of_length_le (by omega), List.take_of_length_le (by omega)] at h9) | (intro h9; subst h9; omega) | (intro h9; subst h9; simp_all; done)))), S⟩

set_option maxRecDepth 100000 in
set_option maxHeartbeats 4000000 in
theorem spec_IndexOf {M : Hp} {v0 : Value} {l0 : List Int} (h0 : RdI M v0 l0){x1 : Int} :
    Pu Try.prog (.func (.func 106) #[] #[]) M [v0, .int .i64 x1] (fun r M' => r = .int .i64 (fiI (eqx x1) l0)) := by
  refine Pu_enter Try.func106 rfl Try.ntmps106 rfl Try.call106 ?_
  intro a w M1 H hM1 S E
  replace h0 := h0.le hM1
  have b0 := h0.bound
  refine WP_seq ?_
  refine WP_region ?_
  refine S_v E rfl (R_assign E rfl) rfl ?_
  clear E a; intro a E
  refine WL_nil ?_
  refine T_n ?_
  refine WP_seq ?_
  refine WP_seq ?_
  refine WP_region ?_
  refine S_v E rfl (R_move E rfl) rfl ?_
  clear E a; intro a E
  refine S_v E rfl (R_lenV E rfl T22 h0.len) rfl ?_
  clear E a; intro a E
  refine S_v E rfl (R_move E rfl) rfl ?_
  clear E a; intro a E
  refine WL_nil ?_
  refine T_n ?_
  refine WP_block ?_
  refine WP_loop (γ := Nat) (fun (k : Nat) a w => ∃ (M_1 : Hp), Hp.le M1 M_1 ∧ St w M_1 (H) ∧ Env a 19 [] [(0, v0), (1, .int .i64 x1), (7, .int .i64 (((l0).length : Nat) : Int)), (8, .int .i64 ((k : Nat) : Int))] ∧ (k ≤ (l0).length) ∧ (∀ y ∈ l0.take k, eqx x1 y = false)) (fun k => ((l0).length) - k) 0 ⟨M1, Hp.le.refl _, S, E.keep ⟨rfl, rfl, rfl, rfl, trivial⟩, by ((try clear S); (try clear E); first | assumption | omega | rfl | (simp; done) | (simp_all; done) | (simp [List.take_add_one, *]; done) | grind [List.take_add_one]), (by simp)⟩ ?_
  try clear E
  try clear S
  try clear a
  try clear w
  rintro k a w ⟨M_1, hM_1, S, E, hL0_0, hL0_1⟩
  replace h0 := h0.le hM_1
  refine WP_seq ?_
  refine WP_region ?_
  refine S_v E rfl (R_lss E rfl rfl) rfl ?_
  clear E a; intro a E
  refine WL_nil ?_
  refine T_n ?_
  refine WP_seq ?_
  refine WP_cond E rfl (fun hc_2 => ?_) (fun hc_2 => ?_)
  · replace hc_2 := of_decide_eq_true hc_2
    refine WP_skip ?_
    refine T_n ?_
    refine WP_seq ?_
    refine WP_block ?_
    refine WP_seq ?_
    refine WP_region ?_
    refine S_v E rfl (R_move E rfl) rfl ?_
    clear E a; intro a E
    refine S_v E rfl (R_assign E rfl) rfl ?_
    clear E a; intro a E
    refine WL_nil ?_
    refine T_n ?_
    refine WP_seq ?_
    refine WP_region ?_
    refine S_v E rfl (R_move E rfl) rfl ?_
    clear E a; intro a E
    refine S_v E rfl (R_move E rfl) rfl ?_
    clear E a; intro a E
    obtain ⟨x_3, hx_3⟩ : ∃ x, (l0)[k]? = some x := ⟨_, List.getElem?_eq_getElem (by first | omega | (simp; done) | (simp; omega) | (simp_all; omega))⟩
    obtain ⟨p_4, hp_4, qp_4⟩ := h0.at hx_3
    refine S_v E rfl (R_idx E rfl rfl T22 hp_4 rfl) rfl ?_
    clear E a; intro a E
    refine S_v E rfl (R_loadM E rfl Try.isAgg3 S.imm qp_4) rfl ?_
    clear E a; intro a E
    refine S_v E rfl (R_move E rfl) rfl ?_
    clear E a; intro a E
    refine S_v E rfl (R_eql E rfl rfl) rfl ?_
    clear E a; intro a E
    refine WL_nil ?_
    refine T_n ?_
    refine WP_cond E rfl (fun hc_5 => ?_) (fun hc_5 => ?_)
    · replace hc_5 := of_decide_eq_true hc_5
      refine WP_seq ?_
      refine WP_region ?_
      refine S_v E rfl (R_move E rfl) rfl ?_
      clear E a; intro a E
      refine S_v E rfl (R_assign E rfl) rfl ?_
      clear E a; intro a E
      refine WL_nil ?_
      refine T_n ?_
      refine WP_ret ?_
      refine B_r ?_
      refine T_r ?_
      refine T_r ?_
      refine B_r ?_
      refine T_r ?_
      exact F_ret1 E Try.results106 rfl ⟨_, rfl, M_1, hM_1, (congrArg (Value.int .i64) (by (first | exact (fi_yes (f := eqx x1) hL0_1 (by assumption) (by first | exact eqx_yes (by assumption) | exact eqx_yes' (by assumption))).1 | exact ((fi_yes (f := eqx x1) hL0_1 (by assumption) (by first | exact eqx_yes (by assumption) | exact eqx_yes' (by assumption))).1).symm | exact (fi_no (f := eqx x1) hL0_1 (by omega)).1 | exact ((fi_no (f := eqx x1) hL0_1 (by omega)).1).symm))), S⟩
    · replace hc_5 := of_decide_eq_false hc_5
      refine WP_skip ?_
      refine B_n ?_
      refine T_n ?_
      refine WP_region ?_
      refine S_v E rfl (R_addx (m := ((k + 1 : Nat) : Int)) E rfl rfl (by omega) (by omega)) rfl ?_
      clear E a; intro a E
      refine S_v E rfl (R_move E rfl) rfl ?_
      clear E a; intro a E
      refine WL_nil ?_
      refine T_n ?_
      exact ⟨k + 1, ⟨M_1, hM_1, S, E.keep ⟨rfl, rfl, rfl, rfl, trivial⟩, by ((try clear S); (try clear E); first | assumption | omega | rfl | (simp; done) | (simp_all; done) | (simp [List.take_add_one, *]; done) | grind [List.take_add_one]), (by exact take_all (P := fun y => eqx x1 y = false) hL0_1 (by assumption) (by first | exact eqx_no (by assumption) | exact eqx_no' (by assumption)))⟩, by omega⟩
  · replace hc_2 := of_decide_eq_false hc_2
    refine WP_exit ?_
    refine T_x ?_
    refine T_x ?_
    refine B_x ?_
    refine T_n ?_
    refine WP_seq ?_
    refine WP_region ?_
    refine S_v E rfl (R_assign E rfl) rfl ?_
    clear E a; intro a E
    refine WL_nil ?_
    refine T_n ?_
    refine WP_ret ?_
    exact F_ret1 E Try.results106 rfl ⟨_, rfl, M_1, hM_1, (congrArg (Value.int .i64) (by (first | exact (fi_yes (f := eqx x1) hL0_1 (by assumption) (by first | exact eqx_yes (by assumption) | exact eqx_yes' (by assumption))).1 | exact ((fi_yes (f := eqx x1) hL0_1 (by assumption) (by first | exact eqx_yes (by assumption) | exact eqx_yes' (by assumption))).1).symm | exact (fi_no (f := eqx x1) hL0_1 (by omega)).1 | exact ((fi_no (f := eqx x1) hL0_1 (by omega)).1).symm))), S⟩

set_option maxRecDepth 100000 in
set_option maxHeartbeats 4000000 in
theorem spec_Contains {M : Hp} {v0 : Value} {l0 : List Int} (h0 : RdI M v0 l0){x1 : Int} :
    Pu Try.prog (.func (.func 146) #[] #[]) M [v0, .int .i64 x1] (fun r M' => r = .bool (decide (x1 ∈ l0))) := by
  refine Pu_enter Try.func146 rfl Try.ntmps146 rfl Try.call146 ?_
  intro a w M1 H hM1 S E
  replace h0 := h0.le hM1
  have b0 := h0.bound
  refine WP_seq ?_
  refine WP_region ?_
  refine S_v E rfl (R_assign E rfl) rfl ?_
  clear E a; intro a E
  refine WL_nil ?_
  refine T_n ?_
  refine WP_seq ?_
  refine WP_region ?_
  refine S_v E rfl (R_move E rfl) rfl ?_
  clear E a; intro a E
  refine S_v E rfl (R_move E rfl) rfl ?_
  clear E a; intro a E
  refine S_x (X_pu E S rfl rfl rfl (spec_IndexOf h0) (Hp.le.refl _) ?_)
  clear E a S; rintro a _ w M_1 hM_1 rfl S E
  replace h0 := h0.le hM_1
  refine S_v E rfl (R_geq E rfl rfl) rfl ?_
  clear E a; intro a E
  refine S_v E rfl (R_assign E rfl) rfl ?_
  clear E a; intro a E
  refine WL_nil ?_
  refine T_n ?_
  refine WP_ret ?_
  exact F_ret1 E Try.results146 rfl ⟨_, rfl, M_1, hM_1, (congrArg Value.bool (by (first | exact decide_eq_decide.1 (fi_mem l0 x1) | exact (decide_eq_decide.1 (fi_mem l0 x1)).symm | exact fi_mem l0 x1 | exact (fi_mem l0 x1).symm))), S⟩

set_option maxRecDepth 100000 in
set_option maxHeartbeats 4000000 in
theorem SPred_Holds_c {M : Hp} {pk0 pn0 : Int} {w0 : Value} {pl0 : List Int} (hw0 : RdI M w0 pl0) (gn0 : -9223372036854775808 ≤ pn0 ∧ pn0 ≤ 9223372036854775807){x1 x2 : Int} (gx : -9223372036854775808 ≤ x1 ∧ x1 ≤ 9223372036854775807) :
    PuC Try.prog 121 M [.agg #[.int .i64 pk0, .int .i64 pn0, w0], .int .i64 x1, .int .i64 x2] (fun r M' => r = .bool (predAt pk0 pn0 pl0 x1 x2)) := by
  refine PuC_enter Try.func121 rfl Try.ntmps121 rfl ?_
  intro a w M1 H hM1 S E
  replace hw0 := hw0.le hM1
  have bw0 := hw0.bound
  refine WP_seq ?_
  refine WP_region ?_
  refine S_x (X_box (cs := #[.int .i64 pk0, .int .i64 pn0, w0]) E S rfl rfl rfl ?_)
  clear E a S; rintro a w b_1 E S
  obtain ⟨M_2, hM_2, hb_1, S⟩ := S.freezeB
  replace hw0 := hw0.le hM_2
  refine S_v E rfl (R_assign E rfl) rfl ?_
  clear E a; intro a E
  refine WL_nil ?_
  refine T_n ?_
  refine WP_seq ?_
  refine WP_seq ?_
  refine WP_region ?_
  refine S_v E rfl (R_fieldAddr E rfl (FA64_0 _)) rfl ?_
  clear E a; intro a E
  refine S_v E rfl (R_loadM E rfl Try.isAgg3 S.imm (cellM_boxo hb_1 rfl)) rfl ?_
  clear E a; intro a E
  refine WL_nil ?_
  refine T_n ?_
  refine WP_block ?_
  refine WP_seq ?_
  refine WP_region ?_
  refine S_v E rfl (R_eql E rfl rfl) rfl ?_
  clear E a; intro a E
  refine S_v E rfl (R_assign E rfl) rfl ?_
  clear E a; intro a E
  refine WL_nil ?_
  refine T_n ?_
  refine WP_cond E rfl (fun hc_3 => ?_) (fun hc_3 => ?_)
  · replace hc_3 := of_decide_eq_true hc_3
    refine WP_seq ?_
    refine WP_region ?_
    refine S_v E rfl (R_move E rfl) rfl ?_
    clear E a; intro a E
    refine S_v E rfl (R_fieldAddr E rfl (FA64_1 _)) rfl ?_
    clear E a; intro a E
    refine S_v E rfl (R_loadM E rfl Try.isAgg3 S.imm (cellM_boxo hb_1 rfl)) rfl ?_
    clear E a; intro a E
    refine S_v E rfl (R_lss E rfl rfl) rfl ?_
    clear E a; intro a E
    refine S_v E rfl (R_assign E rfl) rfl ?_
    clear E a; intro a E
    refine WL_nil ?_
    refine T_n ?_
    refine WP_ret ?_
    refine B_r ?_
    refine T_r ?_
    exact F_ret1 E Try.results121 rfl ⟨_, rfl, M_2, hM_2, (congrArg Value.bool (by (clear E S; unfold predAt; first | (have e := (first_eq (l := pl0) (by assumption)).1; simp_all; done) | (have e : pl0 = [] := List.eq_nil_of_length_eq_zero (by omega); simp_all; done) | (simp_all; done)))), S⟩
  · replace hc_3 := of_decide_eq_false hc_3
    refine WP_seq ?_
    refine WP_region ?_
    refine S_v E rfl (R_eql E rfl rfl) rfl ?_
    clear E a; intro a E
    refine S_v E rfl (R_assign E rfl) rfl ?_
    clear E a; intro a E
    refine WL_nil ?_
    refine T_n ?_
    refine WP_cond E rfl (fun hc_4 => ?_) (fun hc_4 => ?_)
    · replace hc_4 := of_decide_eq_true hc_4
      refine WP_seq ?_
      refine WP_region ?_
      refine S_v E rfl (R_assign E rfl) rfl ?_
      clear E a; intro a E
      refine WL_nil ?_
      refine T_n ?_
      refine WP_seq ?_
      refine WP_seq ?_
      refine WP_region ?_
      refine S_v E rfl (R_fieldAddr E rfl (FA64_2 _)) rfl ?_
      clear E a; intro a E
      refine S_v E rfl (R_loadM E rfl Try.isAgg22 S.imm (cellM_boxo hb_1 rfl)) rfl ?_
      clear E a; intro a E
      refine S_v E rfl (R_lenV E rfl T22 hw0.len) rfl ?_
      clear E a; intro a E
      refine S_v E rfl (R_gtr E rfl rfl) rfl ?_
      clear E a; intro a E
      refine WL_nil ?_
      refine T_n ?_
      refine WP_cond E rfl (fun hc_5 => ?_) (fun hc_5 => ?_)
      · replace hc_5 := of_decide_eq_true hc_5
        refine WP_region ?_
        refine S_v E rfl (R_fieldAddr E rfl (FA64_2 _)) rfl ?_
        clear E a; intro a E
        refine S_v E rfl (R_loadM E rfl Try.isAgg22 S.imm (cellM_boxo hb_1 rfl)) rfl ?_
        clear E a; intro a E
        obtain ⟨x_6, hx_6⟩ : ∃ x, (pl0)[0]? = some x := ⟨_, List.getElem?_eq_getElem (by first | omega | (simp; done) | (simp; omega) | (simp_all; omega))⟩
        obtain ⟨p_7, hp_7, qp_7⟩ := hw0.at hx_6
        refine S_v E rfl (R_idx E rfl rfl T22 hp_7 (by omega)) rfl ?_
        clear E a; intro a E
        refine S_v E rfl (R_loadM E rfl Try.isAgg3 S.imm qp_7) rfl ?_
        clear E a; intro a E
        refine S_v E rfl (R_assign E rfl) rfl ?_
        clear E a; intro a E
        refine WL_nil ?_
        refine T_n ?_
        refine WP_seq ?_
        refine WP_region ?_
        refine S_v E rfl (R_fieldAddr E rfl (FA64_1 _)) rfl ?_
        clear E a; intro a E
        refine S_v E rfl (R_loadM E rfl Try.isAgg3 S.imm (cellM_boxo hb_1 rfl)) rfl ?_
        clear E a; intro a E
        refine S_v E rfl (R_neq E rfl rfl) rfl ?_
        clear E a; intro a E
        refine S_v E rfl (R_move E rfl) rfl ?_
        clear E a; intro a E
        refine split_bool (decide (pn0 ≠ 0)) (fun hc_8 => ?_) (fun hc_8 => ?_)
        · replace E := E.val (t := 28) rfl hc_8
          replace E := E.val (t := 29) rfl hc_8
          replace hc_8 := of_decide_eq_true hc_8
          refine WL_guard_yes E rfl rfl ?_
          refine S_v E rfl (R_move E rfl) rfl ?_
          clear E a; intro a E
          refine WL_guard_yes E rfl rfl ?_
          refine S_v E rfl (R_fieldAddr E rfl (FA64_1 _)) rfl ?_
          clear E a; intro a E
          refine WL_guard_yes E rfl rfl ?_
          refine S_v E rfl (R_loadM E rfl Try.isAgg3 S.imm (cellM_boxo hb_1 rfl)) rfl ?_
          clear E a; intro a E
          refine WL_guard_yes E rfl rfl ?_
          refine S_x (X_pu E S rfl rfl rfl (spec_mod (by first | omega | assumption) (by omega) (by omega)) (Hp.le.refl _) ?_)
          clear E a S; rintro a _ w M_9 hM_9 rfl S E
          replace hw0 := hw0.le hM_9
          replace hb_1 := hM_9.2 _ _ hb_1
          refine WL_guard_yes E rfl rfl ?_
          refine S_v E rfl (R_move E rfl) rfl ?_
          clear E a; intro a E
          refine WL_guard_yes E rfl rfl ?_
          refine S_v E rfl (R_eql E rfl rfl) rfl ?_
          clear E a; intro a E
          refine S_v E rfl (R_pickT E rfl rfl) rfl ?_
          clear E a; intro a E
          refine S_v E rfl (R_assign E rfl) rfl ?_
          clear E a; intro a E
          refine WL_nil ?_
          refine T_n ?_
          refine WP_ret ?_
          refine B_r ?_
          refine T_r ?_
          exact F_ret1 E Try.results121 rfl ⟨_, rfl, M_9, (hM_2.trans hM_9), (congrArg Value.bool (by (clear E S; unfold predAt; first | (have e := (first_eq (l := pl0) (by assumption)).1; simp_all; done) | (have e : pl0 = [] := List.eq_nil_of_length_eq_zero (by omega); simp_all; done) | (simp_all; done)))), S⟩
        · replace E := E.val (t := 28) rfl hc_8
          replace E := E.val (t := 29) rfl hc_8
          replace hc_8 := of_decide_eq_false hc_8
          refine WL_guard_no E rfl rfl rfl rfl fun a E => ?_
          refine WL_guard_no E rfl rfl rfl rfl fun a E => ?_
          refine WL_guard_no E rfl rfl rfl rfl fun a E => ?_
          refine WL_guard_no E rfl rfl rfl rfl fun a E => ?_
          refine WL_guard_no E rfl rfl rfl rfl fun a E => ?_
          refine WL_guard_no E rfl rfl rfl rfl fun a E => ?_
          refine S_v E rfl (R_pickF E rfl rfl) rfl ?_
          clear E a; intro a E
          refine S_v E rfl (R_assign E rfl) rfl ?_
          clear E a; intro a E
          refine WL_nil ?_
          refine T_n ?_
          refine WP_ret ?_
          refine B_r ?_
          refine T_r ?_
          exact F_ret1 E Try.results121 rfl ⟨_, rfl, M_2, hM_2, (congrArg Value.bool (by (clear E S; unfold predAt; first | (have e := (first_eq (l := pl0) (by assumption)).1; simp_all; done) | (have e : pl0 = [] := List.eq_nil_of_length_eq_zero (by omega); simp_all; done) | (simp_all; done)))), S⟩
      · replace hc_5 := of_decide_eq_false hc_5
        refine WP_skip ?_
        refine T_n ?_
        refine WP_seq ?_
        refine WP_region ?_
        refine S_v E rfl (R_fieldAddr E rfl (FA64_1 _)) rfl ?_
        clear E a; intro a E
        refine S_v E rfl (R_loadM E rfl Try.isAgg3 S.imm (cellM_boxo hb_1 rfl)) rfl ?_
        clear E a; intro a E
        refine S_v E rfl (R_neq E rfl rfl) rfl ?_
        clear E a; intro a E
        refine S_v E rfl (R_move E rfl) rfl ?_
        clear E a; intro a E
        refine split_bool (decide (pn0 ≠ 0)) (fun hc_10 => ?_) (fun hc_10 => ?_)
        · replace E := E.val (t := 28) rfl hc_10
          replace E := E.val (t := 29) rfl hc_10
          replace hc_10 := of_decide_eq_true hc_10
          refine WL_guard_yes E rfl rfl ?_
          refine S_v E rfl (R_move E rfl) rfl ?_
          clear E a; intro a E
          refine WL_guard_yes E rfl rfl ?_
          refine S_v E rfl (R_fieldAddr E rfl (FA64_1 _)) rfl ?_
          clear E a; intro a E
          refine WL_guard_yes E rfl rfl ?_
          refine S_v E rfl (R_loadM E rfl Try.isAgg3 S.imm (cellM_boxo hb_1 rfl)) rfl ?_
          clear E a; intro a E
          refine WL_guard_yes E rfl rfl ?_
          refine S_x (X_pu E S rfl rfl rfl (spec_mod (by first | omega | assumption) (by omega) (by omega)) (Hp.le.refl _) ?_)
          clear E a S; rintro a _ w M_11 hM_11 rfl S E
          replace hw0 := hw0.le hM_11
          replace hb_1 := hM_11.2 _ _ hb_1
          refine WL_guard_yes E rfl rfl ?_
          refine S_v E rfl (R_move E rfl) rfl ?_
          clear E a; intro a E
          refine WL_guard_yes E rfl rfl ?_
          refine S_v E rfl (R_eql E rfl rfl) rfl ?_
          clear E a; intro a E
          refine S_v E rfl (R_pickT E rfl rfl) rfl ?_
          clear E a; intro a E
          refine S_v E rfl (R_assign E rfl) rfl ?_
          clear E a; intro a E
          refine WL_nil ?_
          refine T_n ?_
          refine WP_ret ?_
          refine B_r ?_
          refine T_r ?_
          exact F_ret1 E Try.results121 rfl ⟨_, rfl, M_11, (hM_2.trans hM_11), (congrArg Value.bool (by (clear E S; unfold predAt; first | (have e := (first_eq (l := pl0) (by assumption)).1; simp_all; done) | (have e : pl0 = [] := List.eq_nil_of_length_eq_zero (by omega); simp_all; done) | (simp_all; done)))), S⟩
        · replace E := E.val (t := 28) rfl hc_10
          replace E := E.val (t := 29) rfl hc_10
          replace hc_10 := of_decide_eq_false hc_10
          refine WL_guard_no E rfl rfl rfl rfl fun a E => ?_
          refine WL_guard_no E rfl rfl rfl rfl fun a E => ?_
          refine WL_guard_no E rfl rfl rfl rfl fun a E => ?_
          refine WL_guard_no E rfl rfl rfl rfl fun a E => ?_
          refine WL_guard_no E rfl rfl rfl rfl fun a E => ?_
          refine WL_guard_no E rfl rfl rfl rfl fun a E => ?_
          refine S_v E rfl (R_pickF E rfl rfl) rfl ?_
          clear E a; intro a E
          refine S_v E rfl (R_assign E rfl) rfl ?_
          clear E a; intro a E
          refine WL_nil ?_
          refine T_n ?_
          refine WP_ret ?_
          refine B_r ?_
          refine T_r ?_
          exact F_ret1 E Try.results121 rfl ⟨_, rfl, M_2, hM_2, (congrArg Value.bool (by (clear E S; unfold predAt; first | (have e := (first_eq (l := pl0) (by assumption)).1; simp_all; done) | (have e : pl0 = [] := List.eq_nil_of_length_eq_zero (by omega); simp_all; done) | (simp_all; done)))), S⟩
    · replace hc_4 := of_decide_eq_false hc_4
      refine WP_seq ?_
      refine WP_region ?_
      refine S_v E rfl (R_eql E rfl rfl) rfl ?_
      clear E a; intro a E
      refine S_v E rfl (R_assign E rfl) rfl ?_
      clear E a; intro a E
      refine WL_nil ?_
      refine T_n ?_
      refine WP_cond E rfl (fun hc_12 => ?_) (fun hc_12 => ?_)
      · replace hc_12 := of_decide_eq_true hc_12
        refine WP_seq ?_
        refine WP_region ?_
        refine S_v E rfl (R_fieldAddr E rfl (FA64_2 _)) rfl ?_
        clear E a; intro a E
        refine S_v E rfl (R_loadM E rfl Try.isAgg22 S.imm (cellM_boxo hb_1 rfl)) rfl ?_
        clear E a; intro a E
        refine S_v E rfl (R_move E rfl) rfl ?_
        clear E a; intro a E
        refine S_x (X_pu E S rfl rfl rfl (spec_Contains hw0) (Hp.le.refl _) ?_)
        clear E a S; rintro a _ w M_13 hM_13 rfl S E
        replace hw0 := hw0.le hM_13
        replace hb_1 := hM_13.2 _ _ hb_1
        refine S_v E rfl (R_assign E rfl) rfl ?_
        clear E a; intro a E
        refine WL_nil ?_
        refine T_n ?_
        refine WP_ret ?_
        refine B_r ?_
        refine T_r ?_
        exact F_ret1 E Try.results121 rfl ⟨_, rfl, M_13, (hM_2.trans hM_13), (congrArg Value.bool (by (clear E S; unfold predAt; first | (have e := (first_eq (l := pl0) (by assumption)).1; simp_all; done) | (have e : pl0 = [] := List.eq_nil_of_length_eq_zero (by omega); simp_all; done) | (simp_all; done)))), S⟩
      · replace hc_12 := of_decide_eq_false hc_12
        refine WP_seq ?_
        refine WP_region ?_
        refine S_v E rfl (R_eql E rfl rfl) rfl ?_
        clear E a; intro a E
        refine S_v E rfl (R_assign E rfl) rfl ?_
        clear E a; intro a E
        refine WL_nil ?_
        refine T_n ?_
        refine WP_cond E rfl (fun hc_14 => ?_) (fun hc_14 => ?_)
        · replace hc_14 := of_decide_eq_true hc_14
          refine WP_seq ?_
          refine WP_region ?_
          refine S_v E rfl (R_move E rfl) rfl ?_
          clear E a; intro a E
          refine S_v E rfl (R_rem E rfl rfl (by first | decide | omega)) rfl ?_
          clear E a; intro a E
          refine S_v E rfl (R_eql E rfl rfl) rfl ?_
          clear E a; intro a E
          refine S_v E rfl (R_assign E rfl) rfl ?_
          clear E a; intro a E
          refine WL_nil ?_
          refine T_n ?_
          refine WP_ret ?_
          refine B_r ?_
          refine T_r ?_
          exact F_ret1 E Try.results121 rfl ⟨_, rfl, M_2, hM_2, (congrArg Value.bool (by (clear E S; unfold predAt; first | (have e := (first_eq (l := pl0) (by assumption)).1; simp_all; done) | (have e : pl0 = [] := List.eq_nil_of_length_eq_zero (by omega); simp_all; done) | (simp_all; done)))), S⟩
        · replace hc_14 := of_decide_eq_false hc_14
          refine WP_skip ?_
          refine B_n ?_
          refine T_n ?_
          refine WP_seq ?_
          refine WP_region ?_
          refine S_v E rfl (R_fieldAddr E rfl (FA64_0 _)) rfl ?_
          clear E a; intro a E
          refine S_v E rfl (R_loadM E rfl Try.isAgg3 S.imm (cellM_boxo hb_1 rfl)) rfl ?_
          clear E a; intro a E
          refine S_v E rfl (R_eql E rfl rfl) rfl ?_
          clear E a; intro a E
          refine S_v E rfl (R_assign E rfl) rfl ?_
          clear E a; intro a E
          refine WL_nil ?_
          refine T_n ?_
          refine WP_ret ?_
          exact F_ret1 E Try.results121 rfl ⟨_, rfl, M_2, hM_2, (congrArg Value.bool (by (clear E S; unfold predAt; first | (have e := (first_eq (l := pl0) (by assumption)).1; simp_all; done) | (have e : pl0 = [] := List.eq_nil_of_length_eq_zero (by omega); simp_all; done) | (simp_all; done)))), S⟩
theorem SPred_Holds {M : Hp} {pk0 pn0 : Int} {w0 : Value} {pl0 : List Int} (hw0 : RdI M w0 pl0) (gn0 : -9223372036854775808 ≤ pn0 ∧ pn0 ≤ 9223372036854775807){x1 x2 : Int} (gx : -9223372036854775808 ≤ x1 ∧ x1 ≤ 9223372036854775807) :
    Pu Try.prog (.func (.func 121) #[.agg #[.int .i64 pk0, .int .i64 pn0, w0]] #[]) M [.int .i64 x1, .int .i64 x2] (fun r M' => r = .bool (predAt pk0 pn0 pl0 x1 x2)) := PuC.pu Try.call121 rfl (SPred_Holds_c hw0 gn0 gx)
theorem SPred_Holds_d {M : Hp} {pk0 pn0 : Int} {w0 : Value} {pl0 : List Int} (hw0 : RdI M w0 pl0) (gn0 : -9223372036854775808 ≤ pn0 ∧ pn0 ≤ 9223372036854775807){x1 x2 : Int} (gx : -9223372036854775808 ≤ x1 ∧ x1 ≤ 9223372036854775807) :
    Pu Try.prog (.func (.func 121) #[] #[]) M [.agg #[.int .i64 pk0, .int .i64 pn0, w0], .int .i64 x1, .int .i64 x2] (fun r M' => r = .bool (predAt pk0 pn0 pl0 x1 x2)) := PuC.pu Try.call121 rfl (SPred_Holds_c hw0 gn0 gx)

set_option maxRecDepth 100000 in
set_option maxHeartbeats 4000000 in
theorem spec_FilterToMap {M : Hp} {v0 : Value} {l0 : List Int} (h0 : RdI M v0 l0){pk1 pn1 : Int} {w1 : Value} {pl1 : List Int} (hw1 : RdI M w1 pl1) (gn1 : -9223372036854775808 ≤ pn1 ∧ pn1 ≤ 9223372036854775807) {kk2 kn2 : Int} (gk2 : -9223372036854775808 ≤ kn2 ∧ kn2 ≤ 9223372036854775807) {kk3 kn3 : Int} (gk3 : -9223372036854775808 ≤ kn3 ∧ kn3 ≤ 9223372036854775807) (hb : l0.length ≤ 1000000000000) (hr0 : (∀ x ∈ l0, -9223372036854775808 ≤ x ∧ x ≤ 9223372036854775807)) :
    Pu Try.prog (.func (.func 50) #[] #[]) M [v0, .agg #[.int .i64 pk1, .int .i64 pn1, w1], .agg #[.int .i64 kk2, .int .i64 kn2], .agg #[.int .i64 kk3, .int .i64 kn3]] (fun r M' => RdS 2 RP2 M' r (entE (kpE (ixm (fun x i => (keyAt kk2 kn2 x i, keyAt kk3 kn3 x i, predAt pk1 pn1 pl1 x i)) 0 l0)))) := by
  refine Pu_enter Try.func50 rfl Try.ntmps50 rfl Try.call50 ?_
  intro a w M1 H hM1 S E
  replace h0 := h0.le hM1
  replace hw1 := hw1.le hM1
  have b0 := h0.bound
  refine WP_seq ?_
  refine WP_region ?_
  refine S_x (X_box (cs := #[.int .i64 pk1, .int .i64 pn1, w1]) E S rfl rfl rfl ?_)
  clear E a S; rintro a w b_1 E S
  obtain ⟨M_2, hM_2, hb_1, S⟩ := S.freezeB
  replace h0 := h0.le hM_2
  replace hw1 := hw1.le hM_2
  refine S_x (X_box (cs := #[.int .i64 kk2, .int .i64 kn2]) E S rfl rfl rfl ?_)
  clear E a S; rintro a w b_3 E S
  obtain ⟨M_4, hM_4, hb_3, S⟩ := S.freezeB
  replace h0 := h0.le hM_4
  replace hw1 := hw1.le hM_4
  replace hb_1 := hM_4.2 _ _ hb_1
  refine S_x (X_box (cs := #[.int .i64 kk3, .int .i64 kn3]) E S rfl rfl rfl ?_)
  clear E a S; rintro a w b_5 E S
  obtain ⟨M_6, hM_6, hb_5, S⟩ := S.freezeB
  replace h0 := h0.le hM_6
  replace hw1 := hw1.le hM_6
  replace hb_1 := hM_6.2 _ _ hb_1
  replace hb_3 := hM_6.2 _ _ hb_3
  refine S_v E rfl (R_assign E rfl) rfl ?_
  clear E a; intro a E
  refine WL_nil ?_
  refine T_n ?_
  refine WP_seq ?_
  refine WP_region ?_
  refine S_v E rfl (R_assign E rfl) rfl ?_
  clear E a; intro a E
  refine WL_nil ?_
  refine T_n ?_
  refine WP_seq ?_
  refine WP_seq ?_
  refine WP_region ?_
  refine S_v E rfl (R_move E rfl) rfl ?_
  clear E a; intro a E
  refine S_v E rfl (R_lenV E rfl T22 h0.len) rfl ?_
  clear E a; intro a E
  refine S_v E rfl (R_move E rfl) rfl ?_
  clear E a; intro a E
  refine WL_nil ?_
  refine T_n ?_
  refine WP_block ?_
  replace S : St w M_6 (OwnC 119 2 (.slice none 0 0) ([] : List (Int × Int)).length [] :: _) := S.ownNil
  have hr_8 : RowsR RP2 2 M_6 ([] : List (Int × Int)) [] := RowsR.nil
  have hre : ([] : List (Int × Int)) = kpE (ixm (fun x i => (keyAt kk2 kn2 x i, keyAt kk3 kn3 x i, predAt pk1 pn1 pl1 x i)) 0 (l0.take 0)) := by first | (simp [ixm, kpE]; done) | (rw [ixm_succ (by assumption), kpE_app1]; simp_all; done)
  replace S := S.reR hre
  replace hr_8 := hr_8.eq hre
  clear hre
  refine WP_loop (γ := Nat) (fun (k : Nat) a w => ∃ (M_9 : Hp) (u9 : Value) (xs9 : List Value), Hp.le M_6 M_9 ∧ St w M_9 (OwnC 119 2 u9 (kpE (ixm (fun x i => (keyAt kk2 kn2 x i, keyAt kk3 kn3 x i, predAt pk1 pn1 pl1 x i)) 0 (l0.take k))).length xs9 :: H) ∧ Env a 38 [] [(5, .pointer (some ⟨b_1, 0, none⟩)), (6, .pointer (some ⟨b_3, 0, none⟩)), (7, .pointer (some ⟨b_5, 0, none⟩)), (9, u9), (12, v0), (13, .int .i64 (((l0).length : Nat) : Int)), (14, .int .i64 ((k : Nat) : Int))] ∧ (k ≤ (l0).length) ∧ RowsR RP2 2 M_9 (kpE (ixm (fun x i => (keyAt kk2 kn2 x i, keyAt kk3 kn3 x i, predAt pk1 pn1 pl1 x i)) 0 (l0.take k))) xs9) (fun k => ((l0).length) - k) 0 ⟨M_6, _, _, Hp.le.refl _, S, E.keep ⟨rfl, rfl, rfl, rfl, rfl, rfl, rfl, trivial⟩, by ((try clear S); (try clear E); first | assumption | omega | rfl | (simp; done) | (simp_all; done) | (simp [List.take_add_one, *]; done) | grind [List.take_add_one]), hr_8⟩ ?_
  try clear E
  try clear S
  try clear a
  try clear w
  rintro k a w ⟨M_9, u9, xs9, hM_9, S, E, hL0_0, hr9⟩
  replace h0 := h0.le hM_9
  replace hw1 := hw1.le hM_9
  replace hb_1 := hM_9.2 _ _ hb_1
  replace hb_3 := hM_9.2 _ _ hb_3
  replace hb_5 := hM_9.2 _ _ hb_5
  have hil := kpix_len (fun x i => (keyAt kk2 kn2 x i, keyAt kk3 kn3 x i, predAt pk1 pn1 pl1 x i)) (l0.take k) 0; rw [List.length_take] at hil
  refine WP_seq ?_
  refine WP_region ?_
  refine S_v E rfl (R_lss E rfl rfl) rfl ?_
  clear E a; intro a E
  refine WL_nil ?_
  refine T_n ?_
  refine WP_seq ?_
  refine WP_cond E rfl (fun hc_10 => ?_) (fun hc_10 => ?_)
  · replace hc_10 := of_decide_eq_true hc_10
    refine WP_skip ?_
    refine T_n ?_
    refine WP_seq ?_
    refine WP_block ?_
    refine WP_seq ?_
    refine WP_region ?_
    refine S_v E rfl (R_move E rfl) rfl ?_
    clear E a; intro a E
    obtain ⟨x_11, hx_11⟩ : ∃ x, (l0)[k]? = some x := ⟨_, List.getElem?_eq_getElem (by first | omega | (simp; done) | (simp; omega) | (simp_all; omega))⟩
    obtain ⟨p_12, hp_12, qp_12⟩ := h0.at hx_11
    refine S_v E rfl (R_idx E rfl rfl T22 hp_12 rfl) rfl ?_
    clear E a; intro a E
    refine S_v E rfl (R_loadM E rfl Try.isAgg3 S.imm qp_12) rfl ?_
    clear E a; intro a E
    refine S_v E rfl (R_assign E rfl) rfl ?_
    clear E a; intro a E
    refine S_v E rfl (R_assign E rfl) rfl ?_
    clear E a; intro a E
    refine WL_nil ?_
    refine T_n ?_
    refine WP_seq ?_
    refine WP_region ?_
    refine S_v E rfl (R_loadGM E rfl (Try.isAgg64 _) (Try.sizeOf64 _) S.imm hb_1) rfl ?_
    clear E a; intro a E
    refine S_v E rfl (R_move E rfl) rfl ?_
    clear E a; intro a E
    refine S_v E rfl (R_move E rfl) rfl ?_
    clear E a; intro a E
    refine S_x (X_pu E S rfl rfl rfl (SPred_Holds_d hw1 (by omega) (by first | omega | assumption | exact hr0 _ (List.mem_of_getElem? (by assumption)))) (Hp.le.refl _) ?_)
    clear E a S; rintro a _ w M_13 hM_13 rfl S E
    replace h0 := h0.le hM_13
    replace hw1 := hw1.le hM_13
    replace hb_1 := hM_13.2 _ _ hb_1
    replace hb_3 := hM_13.2 _ _ hb_3
    replace hb_5 := hM_13.2 _ _ hb_5
    replace hr9 := hr9.le RP2_mono hM_13
    refine WL_nil ?_
    refine T_n ?_
    refine WP_cond E rfl (fun hc_14 => ?_) (fun hc_14 => ?_)
    · have hb_1k14 := hb_1
      have hb_3k14 := hb_3
      have hb_5k14 := hb_5
      have qp_12k14 := qp_12
      replace S := S.mono_heap (w' := World.drew _) rfl
      refine WP_drawn (C := fun x w => agree M_13 w) (bf := (fun i => [])) [0, 1, 2, 3, 5, 6, 7, 9, 12] [0, 1, 2, 3, 5, 6, 7, 4, 8, 9, 10, 11, 12] Try.mixed (by kernel_rfl) (fun x hq => S.imm) ?_
      refine D_v E rfl rfl rfl (fun w hC => (R_move E rfl)) ?_
      clear E a; intro a E
      refine D_v E rfl rfl rfl (fun w hC => (R_loadGM E rfl (Try.isAgg45 _) (Try.sizeOf45 _) hC hb_3k14)) ?_
      clear E a; intro a E
      refine D_v E rfl rfl rfl (fun w hC => (R_move E rfl)) ?_
      clear E a; intro a E
      refine D_v E rfl rfl rfl (fun w hC => (R_move E rfl)) ?_
      clear E a; intro a E
      refine D_v E rfl rfl rfl (fun w hC => (R_loadGM E rfl (Try.isAgg45 _) (Try.sizeOf45 _) hC hb_5k14)) ?_
      clear E a; intro a E
      refine D_v E rfl rfl rfl (fun w hC => (R_move E rfl)) ?_
      clear E a; intro a E
      refine D_v E rfl rfl rfl (fun w hC => (R_move E rfl)) ?_
      clear E a; intro a E
      refine D_x rfl rfl rfl (X_pu E S rfl rfl rfl (SKey_Of_d (by omega) (by first | omega | assumption | exact hr0 _ (List.mem_of_getElem? (by assumption)) | exact zi2_rng hr0 (by assumption))) (Hp.le.refl _) ?_)
      clear E a S; rintro a _ w M_15 hM_15 rfl S E
      replace h0 := h0.le hM_15
      replace hw1 := hw1.le hM_15
      replace hb_1 := hM_15.2 _ _ hb_1
      replace hb_3 := hM_15.2 _ _ hb_3
      replace hb_5 := hM_15.2 _ _ hb_5
      replace hr9 := hr9.le RP2_mono hM_15
      refine ⟨fun x hq hb => (agree_le hM_15 S.imm), ?_⟩
      refine D_x rfl rfl rfl (X_pu E S rfl rfl rfl (SKey_Of_d (by omega) (by first | omega | assumption | exact hr0 _ (List.mem_of_getElem? (by assumption)) | exact zi2_rng hr0 (by assumption))) (Hp.le.refl _) ?_)
      clear E a S; rintro a _ w M_16 hM_16 rfl S E
      replace h0 := h0.le hM_16
      replace hw1 := hw1.le hM_16
      replace hb_1 := hM_16.2 _ _ hb_1
      replace hb_3 := hM_16.2 _ _ hb_3
      replace hb_5 := hM_16.2 _ _ hb_5
      replace hr9 := hr9.le RP2_mono hM_16
      refine ⟨fun x hq hb => (agree_le (hM_15.trans hM_16) S.imm), ?_⟩
      refine D_v E rfl rfl rfl (fun w hC => (R_build (u := .agg #[.int .i64 (keyAt kk2 kn2 x_11 ((k : Nat) : Int)), .int .i64 (keyAt kk3 kn3 x_11 ((k : Nat) : Int))]) (vs := [.int .i64 (keyAt kk2 kn2 x_11 ((k : Nat) : Int)), .int .i64 (keyAt kk3 kn3 x_11 ((k : Nat) : Int))]) E rfl (fun w => FB119_0_1_ii (keyAt kk2 kn2 x_11 ((k : Nat) : Int)) (keyAt kk3 kn3 x_11 ((k : Nat) : Int)) w))) ?_
      clear E a; intro a E
      refine D_x rfl rfl rfl (X_buildA1 (R := RP2) (cs := [.int .i64 (keyAt kk2 kn2 x_11 ((k : Nat) : Int)), .int .i64 (keyAt kk3 kn3 x_11 ((k : Nat) : Int))]) (x0 := (keyAt kk2 kn2 x_11 ((k : Nat) : Int), keyAt kk3 kn3 x_11 ((k : Nat) : Int))) RP2_mono E S rfl T61 rfl rfl rfl rfl ?_)
      clear E a S; rintro a v_17 w M_18 hM_18 hv_17 S E
      replace h0 := h0.le hM_18
      replace hw1 := hw1.le hM_18
      replace hb_1 := hM_18.2 _ _ hb_1
      replace hb_3 := hM_18.2 _ _ hb_3
      replace hb_5 := hM_18.2 _ _ hb_5
      replace hr9 := hr9.le RP2_mono hM_18
      refine ⟨fun x hq hb => (agree_le (hM_15.trans (hM_16.trans hM_18)) S.imm), ?_⟩
      refine D_x rfl rfl rfl (X_appendR (R := RP2) (zs := kpE (ixm (fun x i => (keyAt kk2 kn2 x i, keyAt kk3 kn3 x i, predAt pk1 pn1 pl1 x i)) 0 (l0.take k))) (ys := [(keyAt kk2 kn2 x_11 ((k : Nat) : Int), keyAt kk3 kn3 x_11 ((k : Nat) : Int))]) E S hr9 rfl rfl rfl T61 hv_17 one_RP2 (by (first | omega | (simp only [List.length_cons, List.length_nil, List.length_map, List.length_take, ixm_len] at *; omega))) (by (first | omega | (simp only [List.length_cons, List.length_nil, List.length_map, List.length_take, ixm_len] at *; omega))) ?_)
      clear E a S; rintro a w v_19 xs_20 E hr_21 S
      refine ⟨fun x hq hb => (agree_le (hM_15.trans (hM_16.trans hM_18)) S.imm), ?_⟩
      refine D_v E rfl rfl rfl (fun w hC => (R_assign E rfl)) ?_
      clear E a; intro a E
      refine D_end (NoP_n ?_)
      refine B_n ?_
      refine T_n ?_
      refine WP_region ?_
      refine S_v E rfl (R_addx (m := ((k + 1 : Nat) : Int)) E rfl rfl (by omega) (by omega)) rfl ?_
      clear E a; intro a E
      refine S_v E rfl (R_move E rfl) rfl ?_
      clear E a; intro a E
      refine WL_nil ?_
      refine T_n ?_
      have hre : (kpE (ixm (fun x i => (keyAt kk2 kn2 x i, keyAt kk3 kn3 x i, predAt pk1 pn1 pl1 x i)) 0 (l0.take k))) ++ [(keyAt kk2 kn2 x_11 ((k : Nat) : Int), keyAt kk3 kn3 x_11 ((k : Nat) : Int))] = kpE (ixm (fun x i => (keyAt kk2 kn2 x i, keyAt kk3 kn3 x i, predAt pk1 pn1 pl1 x i)) 0 (l0.take (k + 1))) := by first | (simp [ixm, kpE]; done) | (rw [ixm_succ (by assumption), kpE_app1]; simp_all; done)
      replace S := S.reR hre
      replace hr_21 := hr_21.eq hre
      clear hre
      exact ⟨k + 1, ⟨M_18, _, _, (hM_9.trans (hM_13.trans (hM_15.trans (hM_16.trans hM_18)))), S, E.keep ⟨rfl, rfl, rfl, rfl, rfl, rfl, rfl, trivial⟩, by ((try clear S); (try clear E); first | assumption | omega | rfl | (simp; done) | (simp_all; done) | (simp [List.take_add_one, *]; done) | grind [List.take_add_one]), hr_21⟩, by omega⟩
    · refine WP_skip ?_
      refine B_n ?_
      refine T_n ?_
      refine WP_region ?_
      refine S_v E rfl (R_addx (m := ((k + 1 : Nat) : Int)) E rfl rfl (by omega) (by omega)) rfl ?_
      clear E a; intro a E
      refine S_v E rfl (R_move E rfl) rfl ?_
      clear E a; intro a E
      refine WL_nil ?_
      refine T_n ?_
      have hre : kpE (ixm (fun x i => (keyAt kk2 kn2 x i, keyAt kk3 kn3 x i, predAt pk1 pn1 pl1 x i)) 0 (l0.take k)) = kpE (ixm (fun x i => (keyAt kk2 kn2 x i, keyAt kk3 kn3 x i, predAt pk1 pn1 pl1 x i)) 0 (l0.take (k + 1))) := by first | (simp [ixm, kpE]; done) | (rw [ixm_succ (by assumption), kpE_app1]; simp_all; done)
      replace S := S.reR hre
      replace hr9 := hr9.eq hre
      clear hre
      exact ⟨k + 1, ⟨M_13, _, _, (hM_9.trans hM_13), S, E.keep ⟨rfl, rfl, rfl, rfl, rfl, rfl, rfl, trivial⟩, by ((try clear S); (try clear E); first | assumption | omega | rfl | (simp; done) | (simp_all; done) | (simp [List.take_add_one, *]; done) | grind [List.take_add_one]), hr9⟩, by omega⟩
  · replace hc_10 := of_decide_eq_false hc_10
    refine WP_exit ?_
    refine T_x ?_
    refine T_x ?_
    refine B_x ?_
    refine T_n ?_
    refine WP_seq ?_
    refine WP_region ?_
    refine S_v E rfl (R_move E rfl) rfl ?_
    clear E a; intro a E
    have S0 := S; clear S
    obtain ⟨M_22, hM_22, hz_23, S⟩ := S0.freezeR hr9 RP2_mono (by (first | omega | (simp; omega)))
    clear S0
    replace h0 := h0.le hM_22
    replace hw1 := hw1.le hM_22
    replace hb_1 := hM_22.2 _ _ hb_1
    replace hb_3 := hM_22.2 _ _ hb_3
    replace hb_5 := hM_22.2 _ _ hb_5
    refine S_x (X_pu E S rfl rfl rfl (spec_Entries hz_23 (by first | omega | (simp [ixm_len]; done) | (simp [ixm_len]; omega) | (have h9 := kpix_len _ _ _; exact Nat.le_trans h9 (by omega)) | exact Nat.le_trans (kpix_len _ _ _) (by first | omega | (simp; omega)))) (Hp.le.refl _) ?_)
    clear E a S; rintro a v_25 w M_24 hM_24 hv_25 S E
    replace h0 := h0.le hM_24
    replace hw1 := hw1.le hM_24
    replace hb_1 := hM_24.2 _ _ hb_1
    replace hb_3 := hM_24.2 _ _ hb_3
    replace hb_5 := hM_24.2 _ _ hb_5
    replace hz_23 := hz_23.le RP2_mono hM_24
    refine S_v E rfl (R_assign E rfl) rfl ?_
    clear E a; intro a E
    refine WL_nil ?_
    refine T_n ?_
    refine WP_ret ?_
    exact F_ret1 E Try.results50 rfl ⟨_, rfl, M_24, (hM_2.trans (hM_4.trans (hM_6.trans (hM_9.trans (hM_22.trans hM_24))))), (by rw [show (entE (kpE (ixm (fun x i => (keyAt kk2 kn2 x i, keyAt kk3 kn3 x i, predAt pk1 pn1 pl1 x i)) 0 l0))) = (entE (kpE (ixm (fun x i => (keyAt kk2 kn2 x i, keyAt kk3 kn3 x i, predAt pk1 pn1 pl1 x i)) 0 (l0.take k)))) from by (rw [List.take_of_length_le (by omega)])]; exact hv_25), S⟩

set_option maxRecDepth 100000 in
set_option maxHeartbeats 4000000 in
theorem spec_KeyBy {M : Hp} {v0 : Value} {l0 : List Int} (h0 : RdI M v0 l0){kk1 kn1 : Int} (gk1 : -9223372036854775808 ≤ kn1 ∧ kn1 ≤ 9223372036854775807) (hb : l0.length ≤ 1000000000000) (hr0 : (∀ x ∈ l0, -9223372036854775808 ≤ x ∧ x ≤ 9223372036854775807)) :
    Pu Try.prog (.func (.func 51) #[] #[]) M [v0, .agg #[.int .i64 kk1, .int .i64 kn1]] (fun r M' => RdS 2 RP2 M' r (entE ((l0).map fun x => (keyAt kk1 kn1 x 0, x)))) := by
  refine Pu_enter Try.func51 rfl Try.ntmps51 rfl Try.call51 ?_
  intro a w M1 H hM1 S E
  replace h0 := h0.le hM1
  have b0 := h0.bound
  refine WP_seq ?_
  refine WP_region ?_
  refine S_x (X_box (cs := #[.int .i64 kk1, .int .i64 kn1]) E S rfl rfl rfl ?_)
  clear E a S; rintro a w b_1 E S
  obtain ⟨M_2, hM_2, hb_1, S⟩ := S.freezeB
  replace h0 := h0.le hM_2
  refine S_v E rfl (R_assign E rfl) rfl ?_
  clear E a; intro a E
  refine WL_nil ?_
  refine T_n ?_
  refine WP_seq ?_
  refine WP_region ?_
  refine S_v E rfl (R_assign E rfl) rfl ?_
  clear E a; intro a E
  refine WL_nil ?_
  refine T_n ?_
  refine WP_seq ?_
  refine WP_seq ?_
  refine WP_region ?_
  refine S_v E rfl (R_move E rfl) rfl ?_
  clear E a; intro a E
  refine S_v E rfl (R_lenV E rfl T22 h0.len) rfl ?_
  clear E a; intro a E
  refine S_v E rfl (R_move E rfl) rfl ?_
  clear E a; intro a E
  refine WL_nil ?_
  refine T_n ?_
  refine WP_block ?_
  replace S : St w M_2 (OwnC 119 2 (.slice none 0 0) ([] : List (Int × Int)).length [] :: _) := S.ownNil
  have hr_4 : RowsR RP2 2 M_2 ([] : List (Int × Int)) [] := RowsR.nil
  have hre : ([] : List (Int × Int)) = (l0.take 0).map fun x => (keyAt kk1 kn1 x 0, x) := by first | (simp; done) | (rw [tk_snoc (by assumption), List.map_append]; rfl)
  replace S := S.reR hre
  replace hr_4 := hr_4.eq hre
  clear hre
  refine WP_loop (γ := Nat) (fun (k : Nat) a w => ∃ (M_5 : Hp) (u5 : Value) (xs5 : List Value), Hp.le M_2 M_5 ∧ St w M_5 (OwnC 119 2 u5 ((l0.take k).map fun x => (keyAt kk1 kn1 x 0, x)).length xs5 :: H) ∧ Env a 25 [] [(3, .pointer (some ⟨b_1, 0, none⟩)), (5, u5), (8, v0), (9, .int .i64 (((l0).length : Nat) : Int)), (10, .int .i64 ((k : Nat) : Int))] ∧ (k ≤ (l0).length) ∧ RowsR RP2 2 M_5 ((l0.take k).map fun x => (keyAt kk1 kn1 x 0, x)) xs5) (fun k => ((l0).length) - k) 0 ⟨M_2, _, _, Hp.le.refl _, S, E.keep ⟨rfl, rfl, rfl, rfl, rfl, trivial⟩, by ((try clear S); (try clear E); first | assumption | omega | rfl | (simp; done) | (simp_all; done) | (simp [List.take_add_one, *]; done) | grind [List.take_add_one]), hr_4⟩ ?_
  try clear E
  try clear S
  try clear a
  try clear w
  rintro k a w ⟨M_5, u5, xs5, hM_5, S, E, hL0_0, hr5⟩
  replace h0 := h0.le hM_5
  replace hb_1 := hM_5.2 _ _ hb_1
  have hil : ((l0.take k).map fun x => (keyAt kk1 kn1 x 0, x)).length = min k l0.length := by rw [List.length_map, List.length_take]
  refine WP_seq ?_
  refine WP_region ?_
  refine S_v E rfl (R_lss E rfl rfl) rfl ?_
  clear E a; intro a E
  refine WL_nil ?_
  refine T_n ?_
  refine WP_seq ?_
  refine WP_cond E rfl (fun hc_6 => ?_) (fun hc_6 => ?_)
  · replace hc_6 := of_decide_eq_true hc_6
    refine WP_skip ?_
    refine T_n ?_
    refine WP_seq ?_
    refine WP_block ?_
    refine WP_seq ?_
    refine WP_region ?_
    obtain ⟨x_7, hx_7⟩ : ∃ x, (l0)[k]? = some x := ⟨_, List.getElem?_eq_getElem (by first | omega | (simp; done) | (simp; omega) | (simp_all; omega))⟩
    obtain ⟨p_8, hp_8, qp_8⟩ := h0.at hx_7
    refine S_v E rfl (R_idx E rfl rfl T22 hp_8 rfl) rfl ?_
    clear E a; intro a E
    refine S_v E rfl (R_loadM E rfl Try.isAgg3 S.imm qp_8) rfl ?_
    clear E a; intro a E
    refine S_v E rfl (R_assign E rfl) rfl ?_
    clear E a; intro a E
    refine WL_nil ?_
    refine T_n ?_
    refine WP_region ?_
    refine S_v E rfl (R_move E rfl) rfl ?_
    clear E a; intro a E
    refine S_v E rfl (R_loadGM E rfl (Try.isAgg45 _) (Try.sizeOf45 _) S.imm hb_1) rfl ?_
    clear E a; intro a E
    refine S_v E rfl (R_move E rfl) rfl ?_
    clear E a; intro a E
    refine S_x (X_pu E S rfl rfl rfl (SKey_Of_d (by omega) (by first | omega | assumption | exact hr0 _ (List.mem_of_getElem? (by assumption)) | exact zi2_rng hr0 (by assumption))) (Hp.le.refl _) ?_)
    clear E a S; rintro a _ w M_9 hM_9 rfl S E
    replace h0 := h0.le hM_9
    replace hb_1 := hM_9.2 _ _ hb_1
    replace hr5 := hr5.le RP2_mono hM_9
    refine S_v E rfl (R_move E rfl) rfl ?_
    clear E a; intro a E
    refine S_v E rfl (R_build (u := .agg #[.int .i64 (keyAt kk1 kn1 x_7 0), .int .i64 x_7]) (vs := [.int .i64 (keyAt kk1 kn1 x_7 0), .int .i64 x_7]) E rfl (fun w => FB119_0_1_ii (keyAt kk1 kn1 x_7 0) x_7 w)) rfl ?_
    clear E a; intro a E
    refine S_x (X_buildA1 (R := RP2) (cs := [.int .i64 (keyAt kk1 kn1 x_7 0), .int .i64 x_7]) (x0 := (keyAt kk1 kn1 x_7 0, x_7)) RP2_mono E S rfl T61 rfl rfl rfl rfl ?_)
    clear E a S; rintro a v_10 w M_11 hM_11 hv_10 S E
    replace h0 := h0.le hM_11
    replace hb_1 := hM_11.2 _ _ hb_1
    replace hr5 := hr5.le RP2_mono hM_11
    refine S_x (X_appendR (R := RP2) (zs := (l0.take k).map fun x => (keyAt kk1 kn1 x 0, x)) (ys := [(keyAt kk1 kn1 x_7 0, x_7)]) E S hr5 rfl rfl rfl T61 hv_10 one_RP2 (by (first | omega | (simp only [List.length_cons, List.length_nil, List.length_map, List.length_take, ixm_len] at *; omega))) (by (first | omega | (simp only [List.length_cons, List.length_nil, List.length_map, List.length_take, ixm_len] at *; omega))) ?_)
    clear E a S; rintro a w v_12 xs_13 E hr_14 S
    refine S_v E rfl (R_assign E rfl) rfl ?_
    clear E a; intro a E
    refine WL_nil ?_
    refine B_n ?_
    refine T_n ?_
    refine WP_region ?_
    refine S_v E rfl (R_addx (m := ((k + 1 : Nat) : Int)) E rfl rfl (by omega) (by omega)) rfl ?_
    clear E a; intro a E
    refine S_v E rfl (R_move E rfl) rfl ?_
    clear E a; intro a E
    refine WL_nil ?_
    refine T_n ?_
    have hre : ((l0.take k).map fun x => (keyAt kk1 kn1 x 0, x)) ++ [(keyAt kk1 kn1 x_7 0, x_7)] = (l0.take (k + 1)).map fun x => (keyAt kk1 kn1 x 0, x) := by first | (simp; done) | (rw [tk_snoc (by assumption), List.map_append]; rfl)
    replace S := S.reR hre
    replace hr_14 := hr_14.eq hre
    clear hre
    exact ⟨k + 1, ⟨M_11, _, _, (hM_5.trans (hM_9.trans hM_11)), S, E.keep ⟨rfl, rfl, rfl, rfl, rfl, trivial⟩, by ((try clear S); (try clear E); first | assumption | omega | rfl | (simp; done) | (simp_all; done) | (simp [List.take_add_one, *]; done) | grind [List.take_add_one]), hr_14⟩, by omega⟩
  · replace hc_6 := of_decide_eq_false hc_6
    refine WP_exit ?_
    refine T_x ?_
    refine T_x ?_
    refine B_x ?_
    refine T_n ?_
    refine WP_seq ?_
    refine WP_region ?_
    refine S_v E rfl (R_move E rfl) rfl ?_
    clear E a; intro a E
    have S0 := S; clear S
    obtain ⟨M_15, hM_15, hz_16, S⟩ := S0.freezeR hr5 RP2_mono (by (first | omega | (simp; omega)))
    clear S0
    replace h0 := h0.le hM_15
    replace hb_1 := hM_15.2 _ _ hb_1
    refine S_x (X_pu E S rfl rfl rfl (spec_Entries hz_16 (by first | omega | (simp [ixm_len]; done) | (simp [ixm_len]; omega) | (have h9 := kpix_len _ _ _; exact Nat.le_trans h9 (by omega)) | exact Nat.le_trans (kpix_len _ _ _) (by first | omega | (simp; omega)))) (Hp.le.refl _) ?_)
    clear E a S; rintro a v_18 w M_17 hM_17 hv_18 S E
    replace h0 := h0.le hM_17
    replace hb_1 := hM_17.2 _ _ hb_1
    replace hz_16 := hz_16.le RP2_mono hM_17
    refine S_v E rfl (R_assign E rfl) rfl ?_
    clear E a; intro a E
    refine WL_nil ?_
    refine T_n ?_
    refine WP_ret ?_
    exact F_ret1 E Try.results51 rfl ⟨_, rfl, M_17, (hM_2.trans (hM_5.trans (hM_15.trans hM_17))), (by rw [show (entE ((l0).map fun x => (keyAt kk1 kn1 x 0, x))) = (entE ((l0.take k).map fun x => (keyAt kk1 kn1 x 0, x))) from by (rw [List.take_of_length_le (by omega)])]; exact hv_18), S⟩

set_option maxRecDepth 100000 in
set_option maxHeartbeats 4000000 in
theorem slices_Values1 {M : Hp} {v0 : Value} {l0 : List Int} (h0 : RdI M v0 l0){bx1 : Nat} (hbx1 : M bx1 = some (.cells #[v0] 22)) :
    SeqV Try.prog (.func (.func 159) #[] #[.pointer (some ⟨bx1, 0, none⟩)]) M (RInt) l0 := by
  refine SeqV_enter Try.func159 rfl Try.ntmps159 rfl Try.call159 ?_
  intro y J X a w M1 c H hJM hM1 hY hJ S E
  replace hbx1 := hM1.2 _ _ hbx1
  replace h0 := h0.le hM1
  have b0 := h0.bound
  refine WP_seq ?_
  refine WP_region ?_
  refine S_v E rfl (R_loadM E rfl Try.isAgg22 S.imm (cellM_box hbx1)) rfl ?_
  clear E a; intro a E
  refine S_v E rfl (R_lenV E rfl T22 h0.len) rfl ?_
  clear E a; intro a E
  refine S_v E rfl (R_move E rfl) rfl ?_
  clear E a; intro a E
  refine WL_nil ?_
  refine T_n ?_
  refine WP_block ?_
  refine WP_loop (γ := Nat) (fun (k : Nat) a w => ∃ (M_1 : Hp) (cL0 : HProp), Hp.le M1 M_1 ∧ St w M_1 (mks [] :: cL0 :: H) ∧ Env a 16 (([] : List Nat).map mk) [(0, y), (5, v0), (6, .int .i64 (((l0).length : Nat) : Int)), (7, .int .i64 ((k : Nat) : Int))] ∧ (k ≤ (l0).length) ∧ J (l0.take k) M_1 cL0) (fun k => ((l0).length) - k) 0 ⟨M1, _, Hp.le.refl _, S, E.keep ⟨rfl, rfl, rfl, rfl, trivial⟩, by ((try clear S); (try clear E); first | assumption | omega | rfl | (simp; done) | (simp_all; done) | (simp [List.take_add_one, *]; done) | grind [List.take_add_one]), J_eq hJ (by ((try clear S); (try clear E); first | assumption | omega | rfl | (simp; done) | (simp_all; done) | (simp [List.take_add_one, *]; done) | grind [List.take_add_one]))⟩ ?_
  try clear E
  try clear S
  try clear a
  try clear w
  rintro k a w ⟨M_1, cL0, hM_1, S, E, hL0_0, hJ⟩
  replace hbx1 := hM_1.2 _ _ hbx1
  replace h0 := h0.le hM_1
  refine WP_seq ?_
  refine WP_region ?_
  refine S_v E rfl (R_lss E rfl rfl) rfl ?_
  clear E a; intro a E
  refine WL_nil ?_
  refine T_n ?_
  refine WP_seq ?_
  refine WP_cond E rfl (fun hc_2 => ?_) (fun hc_2 => ?_)
  · replace hc_2 := of_decide_eq_true hc_2
    refine WP_skip ?_
    refine T_n ?_
    refine WP_seq ?_
    refine WP_block ?_
    refine WP_seq ?_
    refine WP_region ?_
    obtain ⟨x_3, hx_3⟩ : ∃ x, (l0)[k]? = some x := ⟨_, List.getElem?_eq_getElem (by first | omega | (simp; done) | (simp; omega) | (simp_all; omega))⟩
    obtain ⟨p_4, hp_4, qp_4⟩ := h0.at hx_3
    refine S_v E rfl (R_idx E rfl rfl T22 hp_4 rfl) rfl ?_
    clear E a; intro a E
    refine S_v E rfl (R_loadM E rfl Try.isAgg3 S.imm qp_4) rfl ?_
    clear E a; intro a E
    refine S_v E rfl (R_assign E rfl) rfl ?_
    clear E a; intro a E
    refine WL_nil ?_
    refine T_n ?_
    refine WP_seq ?_
    refine WP_region ?_
    refine S_v E rfl (R_move E rfl) rfl ?_
    clear E a; intro a E
    refine S_v E rfl (R_move E rfl) rfl ?_
    clear E a; intro a E
    replace S := S.front1
    refine S_x (X_yield (x := x_3) E S rfl rfl rfl hY hM_1 (by (first | (simp; done) | exact List.prefix_refl _ | (rw [pre_take (by assumption)]; exact List.take_prefix _ _) | exact pre_take_lt (by assumption))) rfl hJ ?_)
    clear E a S; rintro a w M_5 c_6 go_7 hM_5 hJ S E
    replace hbx1 := hM_5.2 _ _ hbx1
    replace h0 := h0.le hM_5
    cases go_7
    · replace hJ : X (l0.take k ++ [x_3]) M_5 c_6 := hJ
      refine S_v E rfl (R_not E rfl) rfl ?_
      clear E a; intro a E
      refine WL_nil ?_
      refine T_n ?_
      refine WP_condT E rfl rfl ?_
      refine WP_ret ?_
      refine B_r ?_
      refine T_r ?_
      refine T_r ?_
      refine B_r ?_
      replace S := S.front1
      exact F_retM0 E S Try.results159 (fun w S => ⟨_, rfl, M_5, _, (hM_1.trans hM_5), .inr ⟨(l0.take k ++ [x_3]), (by first | assumption | ((first | (simp; done) | exact List.prefix_refl _ | (rw [pre_take (by assumption)]; exact List.take_prefix _ _) | exact pre_take_lt (by assumption)))), hJ⟩, S⟩)
    · replace hJ : J (l0.take k ++ [x_3]) M_5 c_6 := hJ
      refine S_v E rfl (R_not E rfl) rfl ?_
      clear E a; intro a E
      refine WL_nil ?_
      refine T_n ?_
      refine WP_condF E rfl rfl ?_
      refine WP_skip ?_
      refine B_n ?_
      refine T_n ?_
      refine WP_region ?_
      refine S_v E rfl (R_addx (m := ((k + 1 : Nat) : Int)) E rfl rfl (by omega) (by omega)) rfl ?_
      clear E a; intro a E
      refine S_v E rfl (R_move E rfl) rfl ?_
      clear E a; intro a E
      refine WL_nil ?_
      refine T_n ?_
      replace S := S.front1
      exact ⟨k + 1, ⟨M_5, _, (hM_1.trans hM_5), S, E.keep ⟨rfl, rfl, rfl, rfl, trivial⟩, by ((try clear S); (try clear E); first | assumption | omega | rfl | (simp; done) | (simp_all; done) | (simp [List.take_add_one, *]; done) | grind [List.take_add_one]), J_eq hJ (by ((try clear S); (try clear E); first | assumption | omega | rfl | (simp; done) | (simp_all; done) | (simp [List.take_add_one, *]; done) | grind [List.take_add_one]))⟩, by omega⟩
  · replace hc_2 := of_decide_eq_false hc_2
    refine WP_exit ?_
    refine T_x ?_
    refine T_x ?_
    refine B_x ?_
    refine F_nrm ?_
    replace S := S.front1
    replace S := S.front1
    have hpre : l0.take k = l0 := by ((try clear S); (try clear E); first | rfl | (simp; done) | (simp_all; done) | grind [List.take_add_one])
    rw [hpre] at hJ
    exact F_retM0 E S Try.results159 (fun w S => ⟨_, rfl, M_1, _, hM_1, .inl hJ, S⟩)

set_option maxRecDepth 100000 in
set_option maxHeartbeats 4000000 in
theorem slices_Values {M : Hp} {v0 : Value} {l0 : List Int} (h0 : RdI M v0 l0) :
    Pu Try.prog (.func (.func 90) #[] #[]) M [v0] (fun r M' => SeqV Try.prog r M' RInt l0) := by
  refine Pu_enter Try.func90 rfl Try.ntmps90 rfl Try.call90 ?_
  intro a w M1 H hM1 S E
  replace h0 := h0.le hM1
  have b0 := h0.bound
  refine WP_seq ?_
  refine WP_region ?_
  refine S_x (X_box (cs := #[v0]) E S rfl rfl (cells_one (RdS.one' h0)) ?_)
  clear E a S; rintro a w b_1 E S
  obtain ⟨M_2, hM_2, hb_1, S⟩ := S.freezeB
  replace h0 := h0.le hM_2
  refine S_v E rfl (R_assign E rfl) rfl ?_
  clear E a; intro a E
  refine WL_nil ?_
  refine T_n ?_
  refine WP_seq ?_
  refine WP_region ?_
  refine S_v E rfl (R_makeFunc E rfl rfl) rfl ?_
  clear E a; intro a E
  refine S_v E rfl (R_assign E rfl) rfl ?_
  clear E a; intro a E
  refine WL_nil ?_
  refine T_n ?_
  refine WP_ret ?_
  exact F_ret1 E Try.results90 rfl ⟨_, rfl, M_2, hM_2, (SeqV_eq (slices_Values1 h0 hb_1) (by ((try clear S); (try clear E); first | rfl | (simp; done) | (simp_all; done) | grind [List.take_add_one]))), S⟩

set_option maxRecDepth 100000 in
set_option maxHeartbeats 4000000 in
theorem it_AssociateI {M : Hp} {v0 : Value} {l0 : List Int} (h0 : SeqV Try.prog v0 M (RInt) l0){v1 : Value} {f1 : Int → Int → Int × Int} (h1 : PF2U Try.prog v1 M f1) (hb : l0.length ≤ 1000000000000) :
    Pu Try.prog (.func (.func 122) #[] #[]) M [v0, v1] (fun r M' => RdM M' r (encE (Value.int .i64) (mkE (ixm f1 0 l0)))) := by
  refine Pu_enter Try.func122 rfl Try.ntmps122 rfl Try.call122 ?_
  intro a w M1 H hM1 S E
  replace h0 := h0.le hM1
  replace h1 := h1.le hM1
  replace S : St w M1 (mks [] :: _) := S.empty
  replace E : Env a 26 (([] : List Nat).map mk) _ := E
  refine WP_seq ?_
  refine WP_region ?_
  refine S_x (X_box (cs := #[v1]) E S rfl rfl (cells_one h1.1) ?_)
  clear E a S; rintro a w b_1 E S
  obtain ⟨M_2, hM_2, hb_1, S⟩ := S.freezeB
  replace h0 := h0.le hM_2
  replace h1 := h1.le hM_2
  refine S_v E rfl (R_assign E rfl) rfl ?_
  clear E a; intro a E
  refine WL_nil ?_
  refine T_n ?_
  refine WP_seq ?_
  refine WP_region ?_
  refine S_x (X_makeMap E S rfl ?_)
  clear E a S; rintro a w b_3 E S
  replace S : St w M_2 (OwnE (Value.int .i64) b_3 ([] : List (Int × Int)) :: _) := S
  refine S_x (X_alloc (cs := #[.map none]) E S rfl Try.zeroValue103 rfl ?_)
  clear E a S; rintro a w b_4 E S
  refine S_x0 (X_store E S rfl rfl (Try.sizeOf103 _) rfl ?_)
  clear E a S; rintro a w E S
  refine WL_nil ?_
  refine T_n ?_
  refine WP_seq ?_
  refine WP_region ?_
  refine S_x (X_alloc (cs := #[.int .i64 0]) E S rfl Try.zeroValue3 rfl ?_)
  clear E a S; rintro a w b_5 E S
  refine WL_nil ?_
  refine T_n ?_
  refine WP_seq ?_
  refine WP_seq ?_
  refine WP_region ?_
  refine S_v E rfl (R_move E rfl) rfl ?_
  clear E a; intro a E
  refine WL_nil ?_
  refine T_n ?_
  refine WP_block ?_
  replace S := S.front1
  replace S := S.front2
  replace S := S.front2
  replace S := S.front2
  replace E := E.keep (l' := [(3, .pointer (some ⟨b_1, 0, none⟩)), (5, .pointer (some ⟨b_4, 0, none⟩)), (6, .pointer (some ⟨b_5, 0, none⟩)), (11, v0)]) ⟨rfl, rfl, rfl, rfl, trivial⟩
  replace S := S.front2
  replace S := S.reM (L' := (encE (Value.int .i64) (mkE (ixm f1 0 (([] : List Int)))))) (congrArg (encE (Value.int .i64)) (show ([] : List (Int × Int)) = mkE (ixm f1 0 (([] : List Int))) by first | rfl | (simp [mkE, ixm]; done) | exact mkE_ix1))
  replace S := S.front2
  replace S := S.blk_int (j := ((([] : List Int)).length : Int)) (by (first | (simp; done) | omega))
  replace S := S.front2
  have S0 := S; clear S; have S := St.pack [blk b_4 (.cells #[.map (some b_3)] 103), blk b_5 (.cells #[.int .i64 ((([] : List Int)).length : Int)] 3), OwnE (Value.int .i64) b_3 (mkE (ixm f1 0 (([] : List Int))))] S0; clear S0
  refine WP_range (RV := RInt) (l := l0) (fun pre M c => c = bigs [blk b_4 (.cells #[.map (some b_3)] 103), blk b_5 (.cells #[.int .i64 ((pre).length : Int)] 3), OwnE (Value.int .i64) b_3 (mkE (ixm f1 0 (pre)))]) (fun _ _ _ _ => False) E S rfl h0 (Hp.le.refl _) (fun _ _ _ h => by rw [h]; rfl) (by decide) (by rintro _ M M' c hM rfl; exact rfl) rfl ?_ ?_ ?_
  clear E S
  · rintro lb_7 rec_8 pre x _ a w M_6 _ G hM_6 hp_9 rfl rfl E S
    replace E : Env a 26 [] [(12, .int .i64 x), (3, .pointer (some ⟨b_1, 0, none⟩)), (5, .pointer (some ⟨b_4, 0, none⟩)), (6, .pointer (some ⟨b_5, 0, none⟩)), (11, v0)] := E
    replace S := S.swap.unpack3
    have hq0 := prefix_lt hp_9
    replace h0 := h0.le hM_6
    replace h1 := h1.le hM_6
    replace hb_1 := hM_6.2 _ _ hb_1
    refine WP_region ?_
    refine S_v E rfl (R_assign E rfl) rfl ?_
    clear E a; intro a E
    refine WL_nil ?_
    refine T_n ?_
    replace S := S.front3
    refine rb S ?_
    clear S; intro w S
    refine WP_block ?_
    refine WP_seq ?_
    refine WP_region ?_
    refine S_v E rfl (R_loadM E rfl Try.isAgg118 S.imm (cellM_box hb_1)) rfl ?_
    clear E a; intro a E
    refine S_v E rfl (R_move E rfl) rfl ?_
    clear E a; intro a E
    refine S_v E rfl (R_load E rfl (Try.isAgg3 _) (cell_blk (S.mem (.tail _ (.tail _ (.head _)))))) rfl ?_
    clear E a; intro a E
    refine S_x (X_pu E S rfl rfl rfl (h1.2 x ((pre).length : Int)) (Hp.le.refl _) ?_)
    clear E a S; rintro a _ w M_11 hM_11 rfl S E
    replace h0 := h0.le hM_11
    replace h1 := h1.le hM_11
    replace hb_1 := hM_11.2 _ _ hb_1
    refine S_v E rfl (R_move E rfl) rfl ?_
    clear E a; intro a E
    refine S_v E rfl (R_extract E rfl rfl) rfl ?_
    clear E a; intro a E
    refine S_v E rfl (R_extract E rfl rfl) rfl ?_
    clear E a; intro a E
    refine S_v E rfl (R_assign E rfl) rfl ?_
    clear E a; intro a E
    refine S_v E rfl (R_assign E rfl) rfl ?_
    clear E a; intro a E
    refine WL_nil ?_
    refine T_n ?_
    refine WP_seq ?_
    refine WP_region ?_
    refine S_v E rfl (R_load E rfl (Try.isAgg103 _) (cell_blk (S.mem (.tail _ (.head _))))) rfl ?_
    clear E a; intro a E
    refine S_v E rfl (R_move E rfl) rfl ?_
    clear E a; intro a E
    refine S_v E rfl (R_move E rfl) rfl ?_
    clear E a; intro a E
    replace S := S.front3
    refine S_x0 (X_updateE (vf := (Value.int .i64)) (u := (f1 x ((pre).length : Int)).2) E S MT103 rfl rfl rfl ?_)
    clear E a S; rintro a w E S
    refine WL_nil ?_
    refine T_n ?_
    refine WP_region ?_
    refine S_v E rfl (R_load E rfl (Try.isAgg3 _) (cell_blk (S.mem (.tail _ (.tail _ (.tail _ (.head _))))))) rfl ?_
    clear E a; intro a E
    refine S_v E rfl (R_addx (m := (((pre).length + 1 : Nat) : Int)) E rfl rfl (by omega) (by omega)) rfl ?_
    clear E a; intro a E
    replace S := S.front3
    refine S_x0 (X_store E S rfl rfl (Try.sizeOf3 _) rfl ?_)
    clear E a S; rintro a w E S
    refine WL_nil ?_
    refine B_n ?_
    replace S := S.front1
    replace S := S.front1
    replace S := S.front3
    replace S := S.front2
    replace S := S.reM (L' := (encE (Value.int .i64) (mkE (ixm f1 0 ((pre ++ [x])))))) (congrArg (encE (Value.int .i64)) (show putK (mkE (ixm f1 0 (pre))) ((f1 x ((pre).length : Int)).1) ((f1 x ((pre).length : Int)).2) = mkE (ixm f1 0 ((pre ++ [x]))) by first | rfl | (simp [mkE, ixm]; done) | exact mkE_ix1))
    replace S := S.front2
    replace S := S.blk_int (j := (((pre ++ [x])).length : Int)) (by (first | (simp; done) | omega))
    replace S := S.front2
    have S0 := S; clear S; have S := (St.pack [blk b_4 (.cells #[.map (some b_3)] 103), blk b_5 (.cells #[.int .i64 (((pre ++ [x])).length : Int)] 3), OwnE (Value.int .i64) b_3 (mkE (ixm f1 0 ((pre ++ [x]))))] S0).swap; clear S0
    exact ⟨M_11, _, hM_11, rfl, S⟩
  · rintro a w M_12 _ D_13 hM_12 rfl S E
    replace S := S.unpack3
    replace h0 := h0.le hM_12
    replace h1 := h1.le hM_12
    replace hb_1 := hM_12.2 _ _ hb_1
    refine B_n ?_
    refine T_n ?_
    refine WP_seq ?_
    refine WP_region ?_
    refine S_v E rfl (R_load E rfl (Try.isAgg103 _) (cell_blk (S.mem (.head _)))) rfl ?_
    clear E a; intro a E
    refine S_v E rfl (R_assign E rfl) rfl ?_
    clear E a; intro a E
    refine WL_nil ?_
    refine T_n ?_
    refine WP_ret ?_
    replace S := S.front2
    have S0 := S; clear S
    obtain ⟨M_14, hM_14, hm_15, S⟩ := S0.freezeM
    clear S0
    replace h0 := h0.le hM_14
    replace h1 := h1.le hM_14
    replace hb_1 := hM_14.2 _ _ hb_1
    replace S := S.drop
    replace S := S.drop
    exact F_retM1 E S Try.results122 rfl (fun w S => ⟨_, rfl, M_14, (hM_2.trans (hM_12.trans hM_14)), (by rw [show (mkE (ixm f1 0 l0)) = (mkE (ixm f1 0 (l0))) from by ((try clear S); (try clear E); first | rfl | (simp; done) | (simp_all; done) | grind [List.take_add_one])]; exact hm_15), S⟩)
  · rintro _ _ _ _ _ _ _ _ _ hX; exact hX.elim

end Go.Proofs.Ytahbobhbookehaa.wFnMaps
