/- Walks through the functions that laws.FnIntersectBy reaches: what each computes; no conditions beyond what each theorem states. -/
import Derived.Test.YtbdacnblipmapaaWFnIntersectBya
set_option linter.unusedVariables false
set_option linter.unusedSimpArgs false
namespace Go.Proofs.Ytbdacnblipmapaa.wFnIntersectBy
open Go Go.Sl
set_option maxRecDepth 100000 in
set_option maxHeartbeats 4000000 in
theorem Key_at_c {M : Hp} {kk0 kn0 : Int} (gk0 : -9223372036854775808 ≤ kn0 ∧ kn0 ≤ 9223372036854775807){x1 x2 : Int} :
    PuC Try.prog 123 M [.agg #[.int .i64 kk0, .int .i64 kn0], .int .i64 x1, .int .i64 x2] (fun r M' => r = .int .i64 (keyAt kk0 kn0 x1 x2)) := by
  refine PuC_enter Try.func123 rfl Try.ntmps123 rfl ?_
  intro a w M1 H hM1 S E
  refine WP_seq ?_
  refine WP_region ?_
  refine S_x (X_box (cs := #[.int .i64 kk0, .int .i64 kn0]) E S rfl rfl rfl ?_)
  clear E a S; rintro a w b_1 E S
  obtain ⟨M_2, hM_2, hb_1, S⟩ := S.freezeB
  refine S_v E rfl (R_assign E rfl) rfl ?_
  clear E a; intro a E
  refine WL_nil ?_
  refine T_n ?_
  refine WP_seq ?_
  refine WP_seq ?_
  refine WP_region ?_
  refine S_v E rfl (R_fieldAddr E rfl (FA31_0 _)) rfl ?_
  clear E a; intro a E
  refine S_v E rfl (R_loadM E rfl Try.isAgg3 S.imm (cellM_boxo hb_1 rfl)) rfl ?_
  clear E a; intro a E
  refine WL_nil ?_
  refine T_n ?_
  refine WP_block ?_
  refine WP_seq ?_
  refine WP_region ?_
  refine S_v E rfl (R_eql E rfl rfl) rfl ?_
  clear E a; intro a E
  refine S_v E rfl (R_assign E rfl) rfl ?_
  clear E a; intro a E
  refine WL_nil ?_
  refine T_n ?_
  refine WP_cond E rfl (fun hc_3 => ?_) (fun hc_3 => ?_)
  · replace hc_3 := of_decide_eq_true hc_3
    refine WP_seq ?_
    refine WP_region ?_
    refine S_v E rfl (R_move E rfl) rfl ?_
    clear E a; intro a E
    refine S_v E rfl (R_fieldAddr E rfl (FA31_1 _)) rfl ?_
    clear E a; intro a E
    refine S_v E rfl (R_loadM E rfl Try.isAgg3 S.imm (cellM_boxo hb_1 rfl)) rfl ?_
    clear E a; intro a E
    refine S_v E rfl (R_add E rfl rfl) rfl ?_
    clear E a; intro a E
    refine S_v E rfl (R_assign E rfl) rfl ?_
    clear E a; intro a E
    refine WL_nil ?_
    refine T_n ?_
    refine WP_ret ?_
    refine B_r ?_
    refine T_r ?_
    exact F_ret1 E Try.results123 rfl ⟨_, rfl, M_2, hM_2, (congrArg (Value.int .i64) (by (clear E S; unfold keyAt w64; first | (simp [*]; done) | (simp_all; done)))), S⟩
  · replace hc_3 := of_decide_eq_false hc_3
    refine WP_seq ?_
    refine WP_region ?_
    refine S_v E rfl (R_eql E rfl rfl) rfl ?_
    clear E a; intro a E
    refine S_v E rfl (R_assign E rfl) rfl ?_
    clear E a; intro a E
    refine WL_nil ?_
    refine T_n ?_
    refine WP_cond E rfl (fun hc_4 => ?_) (fun hc_4 => ?_)
    · replace hc_4 := of_decide_eq_true hc_4
      refine WP_seq ?_
      refine WP_region ?_
      refine S_v E rfl (R_move E rfl) rfl ?_
      clear E a; intro a E
      refine S_v E rfl (R_fieldAddr E rfl (FA31_1 _)) rfl ?_
      clear E a; intro a E
      refine S_v E rfl (R_loadM E rfl Try.isAgg3 S.imm (cellM_boxo hb_1 rfl)) rfl ?_
      clear E a; intro a E
      refine S_v E rfl (R_mul E rfl rfl) rfl ?_
      clear E a; intro a E
      refine S_v E rfl (R_assign E rfl) rfl ?_
      clear E a; intro a E
      refine WL_nil ?_
      refine T_n ?_
      refine WP_ret ?_
      refine B_r ?_
      refine T_r ?_
      exact F_ret1 E Try.results123 rfl ⟨_, rfl, M_2, hM_2, (congrArg (Value.int .i64) (by (clear E S; unfold keyAt w64; first | (simp [*]; done) | (simp_all; done)))), S⟩
    · replace hc_4 := of_decide_eq_false hc_4
      refine WP_seq ?_
      refine WP_region ?_
      refine S_v E rfl (R_eql E rfl rfl) rfl ?_
      clear E a; intro a E
      refine S_v E rfl (R_assign E rfl) rfl ?_
      clear E a; intro a E
      refine WL_nil ?_
      refine T_n ?_
      refine WP_cond E rfl (fun hc_5 => ?_) (fun hc_5 => ?_)
      · replace hc_5 := of_decide_eq_true hc_5
        refine WP_seq ?_
        refine WP_region ?_
        refine S_v E rfl (R_fieldAddr E rfl (FA31_1 _)) rfl ?_
        clear E a; intro a E
        refine S_v E rfl (R_loadM E rfl Try.isAgg3 S.imm (cellM_boxo hb_1 rfl)) rfl ?_
        clear E a; intro a E
        refine S_v E rfl (R_neq E rfl rfl) rfl ?_
        clear E a; intro a E
        refine WL_nil ?_
        refine T_n ?_
        refine WP_cond E rfl (fun hc_6 => ?_) (fun hc_6 => ?_)
        · replace hc_6 := of_decide_eq_true hc_6
          refine WP_seq ?_
          refine WP_region ?_
          refine S_v E rfl (R_move E rfl) rfl ?_
          clear E a; intro a E
          refine S_v E rfl (R_fieldAddr E rfl (FA31_1 _)) rfl ?_
          clear E a; intro a E
          refine S_v E rfl (R_loadM E rfl Try.isAgg3 S.imm (cellM_boxo hb_1 rfl)) rfl ?_
          clear E a; intro a E
          refine S_x (X_pu E S rfl rfl rfl (impl_mod (by first | omega | assumption) (by omega)) (Hp.le.refl _) ?_)
          clear E a S; rintro a _ w M_7 hM_7 rfl S E
          replace hb_1 := hM_7.2 _ _ hb_1
          refine S_v E rfl (R_assign E rfl) rfl ?_
          clear E a; intro a E
          refine WL_nil ?_
          refine T_n ?_
          refine WP_ret ?_
          refine B_r ?_
          refine T_r ?_
          exact F_ret1 E Try.results123 rfl ⟨_, rfl, M_7, (hM_2.trans hM_7), (congrArg (Value.int .i64) (by (clear E S; unfold keyAt w64; first | (simp [*]; done) | (simp_all; done)))), S⟩
        · replace hc_6 := of_decide_eq_false hc_6
          refine WP_skip ?_
          refine B_n ?_
          refine T_n ?_
          refine WP_seq ?_
          refine WP_region ?_
          refine S_v E rfl (R_move E rfl) rfl ?_
          clear E a; intro a E
          refine S_v E rfl (R_assign E rfl) rfl ?_
          clear E a; intro a E
          refine WL_nil ?_
          refine T_n ?_
          refine WP_ret ?_
          exact F_ret1 E Try.results123 rfl ⟨_, rfl, M_2, hM_2, (congrArg (Value.int .i64) (by (clear E S; unfold keyAt w64; first | (simp [*]; done) | (simp_all; done)))), S⟩
      · replace hc_5 := of_decide_eq_false hc_5
        refine WP_seq ?_
        refine WP_region ?_
        refine S_v E rfl (R_eql E rfl rfl) rfl ?_
        clear E a; intro a E
        refine S_v E rfl (R_assign E rfl) rfl ?_
        clear E a; intro a E
        refine WL_nil ?_
        refine T_n ?_
        refine WP_cond E rfl (fun hc_8 => ?_) (fun hc_8 => ?_)
        · replace hc_8 := of_decide_eq_true hc_8
          refine WP_seq ?_
          refine WP_region ?_
          refine S_v E rfl (R_fieldAddr E rfl (FA31_1 _)) rfl ?_
          clear E a; intro a E
          refine S_v E rfl (R_loadM E rfl Try.isAgg3 S.imm (cellM_boxo hb_1 rfl)) rfl ?_
          clear E a; intro a E
          refine S_v E rfl (R_assign E rfl) rfl ?_
          clear E a; intro a E
          refine WL_nil ?_
          refine T_n ?_
          refine WP_ret ?_
          refine B_r ?_
          refine T_r ?_
          exact F_ret1 E Try.results123 rfl ⟨_, rfl, M_2, hM_2, (congrArg (Value.int .i64) (by (clear E S; unfold keyAt w64; first | (simp [*]; done) | (simp_all; done)))), S⟩
        · replace hc_8 := of_decide_eq_false hc_8
          refine WP_seq ?_
          refine WP_region ?_
          refine S_v E rfl (R_eql E rfl rfl) rfl ?_
          clear E a; intro a E
          refine S_v E rfl (R_assign E rfl) rfl ?_
          clear E a; intro a E
          refine WL_nil ?_
          refine T_n ?_
          refine WP_cond E rfl (fun hc_9 => ?_) (fun hc_9 => ?_)
          · replace hc_9 := of_decide_eq_true hc_9
            refine WP_seq ?_
            refine WP_region ?_
            refine S_v E rfl (R_move E rfl) rfl ?_
            clear E a; intro a E
            refine S_v E rfl (R_assign E rfl) rfl ?_
            clear E a; intro a E
            refine WL_nil ?_
            refine T_n ?_
            refine WP_ret ?_
            refine B_r ?_
            refine T_r ?_
            exact F_ret1 E Try.results123 rfl ⟨_, rfl, M_2, hM_2, (congrArg (Value.int .i64) (by (clear E S; unfold keyAt w64; first | (simp [*]; done) | (simp_all; done)))), S⟩
          · replace hc_9 := of_decide_eq_false hc_9
            refine WP_skip ?_
            refine B_n ?_
            refine T_n ?_
            refine WP_seq ?_
            refine WP_region ?_
            refine S_v E rfl (R_move E rfl) rfl ?_
            clear E a; intro a E
            refine S_v E rfl (R_assign E rfl) rfl ?_
            clear E a; intro a E
            refine WL_nil ?_
            refine T_n ?_
            refine WP_ret ?_
            exact F_ret1 E Try.results123 rfl ⟨_, rfl, M_2, hM_2, (congrArg (Value.int .i64) (by (clear E S; unfold keyAt w64; first | (simp [*]; done) | (simp_all; done)))), S⟩
theorem Key_at {M : Hp} {kk0 kn0 : Int} (gk0 : -9223372036854775808 ≤ kn0 ∧ kn0 ≤ 9223372036854775807){x1 x2 : Int} :
    Pu Try.prog (.func (.func 123) #[.agg #[.int .i64 kk0, .int .i64 kn0]] #[]) M [.int .i64 x1, .int .i64 x2] (fun r M' => r = .int .i64 (keyAt kk0 kn0 x1 x2)) := PuC.pu Try.call123 rfl (Key_at_c gk0)
theorem Key_at_d {M : Hp} {kk0 kn0 : Int} (gk0 : -9223372036854775808 ≤ kn0 ∧ kn0 ≤ 9223372036854775807){x1 x2 : Int} :
    Pu Try.prog (.func (.func 123) #[] #[]) M [.agg #[.int .i64 kk0, .int .i64 kn0], .int .i64 x1, .int .i64 x2] (fun r M' => r = .int .i64 (keyAt kk0 kn0 x1 x2)) := PuC.pu Try.call123 rfl (Key_at_c gk0)

set_option maxRecDepth 100000 in
set_option maxHeartbeats 4000000 in
theorem Key_of_c {M : Hp} {kk0 kn0 : Int} (gk0 : -9223372036854775808 ≤ kn0 ∧ kn0 ≤ 9223372036854775807){x1 : Int} :
    PuC Try.prog 83 M [.agg #[.int .i64 kk0, .int .i64 kn0], .int .i64 x1] (fun r M' => r = .int .i64 (keyAt kk0 kn0 x1 0)) := by
  refine PuC_enter Try.func83 rfl Try.ntmps83 rfl ?_
  intro a w M1 H hM1 S E
  refine WP_seq ?_
  refine WP_region ?_
  refine S_x (X_box (cs := #[.int .i64 kk0, .int .i64 kn0]) E S rfl rfl rfl ?_)
  clear E a S; rintro a w b_1 E S
  obtain ⟨M_2, hM_2, hb_1, S⟩ := S.freezeB
  refine S_v E rfl (R_assign E rfl) rfl ?_
  clear E a; intro a E
  refine WL_nil ?_
  refine T_n ?_
  refine WP_seq ?_
  refine WP_region ?_
  refine S_v E rfl (R_loadGM E rfl (Try.isAgg31 _) (Try.sizeOf31 _) S.imm hb_1) rfl ?_
  clear E a; intro a E
  refine S_v E rfl (R_move E rfl) rfl ?_
  clear E a; intro a E
  refine S_x (X_pu E S rfl rfl rfl (Key_at_d (by omega)) (Hp.le.refl _) ?_)
  clear E a S; rintro a _ w M_3 hM_3 rfl S E
  replace hb_1 := hM_3.2 _ _ hb_1
  refine S_v E rfl (R_assign E rfl) rfl ?_
  clear E a; intro a E
  refine WL_nil ?_
  refine T_n ?_
  refine WP_ret ?_
  exact F_ret1 E Try.results83 rfl ⟨_, rfl, M_3, (hM_2.trans hM_3), rfl, S⟩
theorem Key_of {M : Hp} {kk0 kn0 : Int} (gk0 : -9223372036854775808 ≤ kn0 ∧ kn0 ≤ 9223372036854775807){x1 : Int} :
    Pu Try.prog (.func (.func 83) #[.agg #[.int .i64 kk0, .int .i64 kn0]] #[]) M [.int .i64 x1] (fun r M' => r = .int .i64 (keyAt kk0 kn0 x1 0)) := PuC.pu Try.call83 rfl (Key_of_c gk0)
theorem Key_of_d {M : Hp} {kk0 kn0 : Int} (gk0 : -9223372036854775808 ≤ kn0 ∧ kn0 ≤ 9223372036854775807){x1 : Int} :
    Pu Try.prog (.func (.func 83) #[] #[]) M [.agg #[.int .i64 kk0, .int .i64 kn0], .int .i64 x1] (fun r M' => r = .int .i64 (keyAt kk0 kn0 x1 0)) := PuC.pu Try.call83 rfl (Key_of_c gk0)

set_option maxRecDepth 100000 in
set_option maxHeartbeats 4000000 in
theorem impl_IntersectBy {M : Hp} {v0 : Value} {l0 : List (List Int)} (h0 : RdII M v0 l0) {kk1 kn1 : Int} (gk1 : -9223372036854775808 ≤ kn1 ∧ kn1 ≤ 9223372036854775807) (hb2 : l0.length ≤ 1000000000) (hb : ∀ x ∈ l0, x.length ≤ 1000000000) :
    Pu Try.prog (.func (.func 22) #[] #[]) M [.agg #[.int .i64 kk1, .int .i64 kn1], v0] (fun r M' => RdI M' r (meetF (fun x => keyAt kk1 kn1 x 0) l0)) := by
  refine Pu_enter Try.func22 rfl Try.ntmps22 rfl Try.call22 ?_
  intro a w M1 H hM1 S E
  replace h0 := h0.le hM1
  have b0 := h0.bound
  have hml := meet_len (fun x => keyAt kk1 kn1 x 0) (ll := l0) hb
  refine WP_seq ?_
  refine WP_region ?_
  refine S_x (X_box (cs := #[.int .i64 kk1, .int .i64 kn1]) E S rfl rfl rfl ?_)
  clear E a S; rintro a w b_1 E S
  obtain ⟨M_2, hM_2, hb_1, S⟩ := S.freezeB
  replace h0 := h0.le hM_2
  refine S_v E rfl (R_assign E rfl) rfl ?_
  clear E a; intro a E
  refine WL_nil ?_
  refine T_n ?_
  refine WP_seq ?_
  refine WP_region ?_
  refine S_v E rfl (R_loadGM E rfl (Try.isAgg31 _) (Try.sizeOf31 _) S.imm hb_1) rfl ?_
  clear E a; intro a E
  refine S_v E rfl (R_makeFunc E rfl rfl) rfl ?_
  clear E a; intro a E
  refine S_v E rfl (R_move E rfl) rfl ?_
  clear E a; intro a E
  refine S_x (X_pu E S rfl rfl rfl (lo_IntersectBy ⟨rfl, fun zx1 => Key_of (x1 := zx1) (by omega)⟩ h0 (by assumption)) (Hp.le.refl _) ?_)
  clear E a S; rintro a v_4 w M_3 hM_3 hv_4 S E
  replace h0 := h0.le hM_3
  replace hb_1 := hM_3.2 _ _ hb_1
  refine S_v E rfl (R_assign E rfl) rfl ?_
  clear E a; intro a E
  refine WL_nil ?_
  refine T_n ?_
  refine WP_ret ?_
  exact F_ret1 E Try.results22 rfl ⟨_, rfl, M_3, (hM_2.trans hM_3), hv_4, S⟩

set_option maxRecDepth 100000 in
set_option maxHeartbeats 4000000 in
theorem laws_few {M : Hp} {v0 : Value} {l0 : List (List Int)} (h0 : RdII M v0 l0) :
    Pu Try.prog (.func (.func 13) #[] #[]) M [v0] (fun r M' => r = .bool (decide (∀ x ∈ l0, x.length ≤ 300))) := by
  refine Pu_enter Try.func13 rfl Try.ntmps13 rfl Try.call13 ?_
  intro a w M1 H hM1 S E
  replace h0 := h0.le hM1
  have b0 := h0.bound
  refine WP_seq ?_
  refine WP_region ?_
  refine S_v E rfl (R_assign E rfl) rfl ?_
  clear E a; intro a E
  refine WL_nil ?_
  refine T_n ?_
  refine WP_seq ?_
  refine WP_seq ?_
  refine WP_region ?_
  refine S_v E rfl (R_move E rfl) rfl ?_
  clear E a; intro a E
  refine S_v E rfl (R_lenV E rfl T22 h0.len) rfl ?_
  clear E a; intro a E
  refine S_v E rfl (R_move E rfl) rfl ?_
  clear E a; intro a E
  refine WL_nil ?_
  refine T_n ?_
  refine WP_block ?_
  refine WP_loop (γ := Nat) (fun (k : Nat) a w => ∃ (M_1 : Hp), Hp.le M1 M_1 ∧ St w M_1 (H) ∧ Env a 15 [] [(5, v0), (6, .int .i64 (((l0).length : Nat) : Int)), (7, .int .i64 ((k : Nat) : Int))] ∧ (k ≤ (l0).length) ∧ (∀ x ∈ l0.take k, x.length ≤ 300)) (fun k => ((l0).length) - k) 0 ⟨M1, Hp.le.refl _, S, E.keep ⟨rfl, rfl, rfl, trivial⟩, by ((try clear S); (try clear E); first | assumption | omega | rfl | (simp; done) | (simp_all; done) | (simp [List.take_add_one, *]; done) | grind [List.take_add_one]), by ((try clear S); (try clear E); first | assumption | omega | rfl | (simp; done) | (simp_all; done) | (simp [List.take_add_one, *]; done) | grind [List.take_add_one])⟩ ?_
  try clear E
  try clear S
  try clear a
  try clear w
  rintro k a w ⟨M_1, hM_1, S, E, hL0_0, hL0_1⟩
  replace h0 := h0.le hM_1
  refine WP_seq ?_
  refine WP_region ?_
  refine S_v E rfl (R_lss E rfl rfl) rfl ?_
  clear E a; intro a E
  refine WL_nil ?_
  refine T_n ?_
  refine WP_seq ?_
  refine WP_cond E rfl (fun hc_2 => ?_) (fun hc_2 => ?_)
  · replace hc_2 := of_decide_eq_true hc_2
    refine WP_skip ?_
    refine T_n ?_
    refine WP_seq ?_
    refine WP_block ?_
    refine WP_seq ?_
    refine WP_region ?_
    obtain ⟨x_3, hx_3⟩ : ∃ x, (l0)[k]? = some x := ⟨_, List.getElem?_eq_getElem (by first | omega | (simp; done) | (simp; omega) | (simp_all; omega))⟩
    obtain ⟨p_4, u_5, hp_4, qp_4, hu_5⟩ := h0.at hx_3
    have bu_5 := hu_5.bound
    refine S_v E rfl (R_idx E rfl rfl T22 hp_4 rfl) rfl ?_
    clear E a; intro a E
    refine S_v E rfl (R_loadM E rfl Try.isAgg24 S.imm qp_4) rfl ?_
    clear E a; intro a E
    refine S_v E rfl (R_assign E rfl) rfl ?_
    clear E a; intro a E
    refine WL_nil ?_
    refine T_n ?_
    refine WP_seq ?_
    refine WP_region ?_
    refine S_v E rfl (R_move E rfl) rfl ?_
    clear E a; intro a E
    refine S_v E rfl (R_lenV E rfl T24 hu_5.len) rfl ?_
    clear E a; intro a E
    refine S_v E rfl (R_gtr E rfl rfl) rfl ?_
    clear E a; intro a E
    refine WL_nil ?_
    refine T_n ?_
    refine WP_cond E rfl (fun hc_6 => ?_) (fun hc_6 => ?_)
    · replace hc_6 := of_decide_eq_true hc_6
      refine WP_seq ?_
      refine WP_region ?_
      refine S_v E rfl (R_assign E rfl) rfl ?_
      clear E a; intro a E
      refine WL_nil ?_
      refine T_n ?_
      refine WP_ret ?_
      refine B_r ?_
      refine T_r ?_
      refine T_r ?_
      refine B_r ?_
      refine T_r ?_
      exact F_ret1 E Try.results13 rfl ⟨_, rfl, M_1, hM_1, (bF (by ((try clear S); (try clear E); first | assumption | omega | rfl | (simp; done) | (simp_all; done) | (simp [List.take_add_one, *]; done) | grind [List.take_add_one]))), S⟩
    · replace hc_6 := of_decide_eq_false hc_6
      refine WP_skip ?_
      refine B_n ?_
      refine T_n ?_
      refine WP_region ?_
      refine S_v E rfl (R_addx (m := ((k + 1 : Nat) : Int)) E rfl rfl (by omega) (by omega)) rfl ?_
      clear E a; intro a E
      refine S_v E rfl (R_move E rfl) rfl ?_
      clear E a; intro a E
      refine WL_nil ?_
      refine T_n ?_
      exact ⟨k + 1, ⟨M_1, hM_1, S, E.keep ⟨rfl, rfl, rfl, trivial⟩, by ((try clear S); (try clear E); first | assumption | omega | rfl | (simp; done) | (simp_all; done) | (simp [List.take_add_one, *]; done) | grind [List.take_add_one]), by ((try clear S); (try clear E); first | assumption | omega | rfl | (simp; done) | (simp_all; done) | (simp [List.take_add_one, *]; done) | grind [List.take_add_one])⟩, by omega⟩
  · replace hc_2 := of_decide_eq_false hc_2
    refine WP_exit ?_
    refine T_x ?_
    refine T_x ?_
    refine B_x ?_
    refine T_n ?_
    refine WP_seq ?_
    refine WP_region ?_
    refine S_v E rfl (R_assign E rfl) rfl ?_
    clear E a; intro a E
    refine WL_nil ?_
    refine T_n ?_
    refine WP_ret ?_
    exact F_ret1 E Try.results13 rfl ⟨_, rfl, M_1, hM_1, (bT (by ((try clear S); (try clear E); first | assumption | omega | rfl | (simp; done) | (simp_all; done) | (simp [List.take_add_one, *]; done) | grind [List.take_add_one]))), S⟩

set_option maxRecDepth 100000 in
set_option maxHeartbeats 4000000 in
theorem laws_just {M : Hp} {kk0 kn0 : Int} (gk0 : -9223372036854775808 ≤ kn0 ∧ kn0 ≤ 9223372036854775807) :
    Pu Try.prog (.func (.func 23) #[] #[]) M [.agg #[.int .i64 kk0, .int .i64 kn0]] (fun r M' => r = .bool (decide (-1099511627776 < kn0 ∧ kn0 < 1099511627776))) := by
  refine Pu_enter Try.func23 rfl Try.ntmps23 rfl Try.call23 ?_
  intro a w M1 H hM1 S E
  refine WP_seq ?_
  refine WP_region ?_
  refine S_x (X_box (cs := #[.int .i64 kk0, .int .i64 kn0]) E S rfl rfl rfl ?_)
  clear E a S; rintro a w b_1 E S
  obtain ⟨M_2, hM_2, hb_1, S⟩ := S.freezeB
  refine S_v E rfl (R_assign E rfl) rfl ?_
  clear E a; intro a E
  refine WL_nil ?_
  refine T_n ?_
  refine WP_seq ?_
  refine WP_region ?_
  refine S_v E rfl (R_fieldAddr E rfl (FA31_1 _)) rfl ?_
  clear E a; intro a E
  refine S_v E rfl (R_loadM E rfl Try.isAgg3 S.imm (cellM_boxo hb_1 rfl)) rfl ?_
  clear E a; intro a E
  refine S_v E rfl (R_gtr E rfl rfl) rfl ?_
  clear E a; intro a E
  refine S_v E rfl (R_move E rfl) rfl ?_
  clear E a; intro a E
  refine split_bool (decide ((-1099511627776) < kn0)) (fun hc_3 => ?_) (fun hc_3 => ?_)
  · replace E := E.val (t := 5) rfl hc_3
    replace E := E.val (t := 6) rfl hc_3
    replace hc_3 := of_decide_eq_true hc_3
    refine WL_guard_yes E rfl rfl ?_
    refine S_v E rfl (R_fieldAddr E rfl (FA31_1 _)) rfl ?_
    clear E a; intro a E
    refine WL_guard_yes E rfl rfl ?_
    refine S_v E rfl (R_loadM E rfl Try.isAgg3 S.imm (cellM_boxo hb_1 rfl)) rfl ?_
    clear E a; intro a E
    refine WL_guard_yes E rfl rfl ?_
    refine S_v E rfl (R_lss E rfl rfl) rfl ?_
    clear E a; intro a E
    refine S_v E rfl (R_pickT E rfl rfl) rfl ?_
    clear E a; intro a E
    refine S_v E rfl (R_assign E rfl) rfl ?_
    clear E a; intro a E
    refine WL_nil ?_
    refine T_n ?_
    refine WP_ret ?_
    exact F_ret1 E Try.results23 rfl ⟨_, rfl, M_2, hM_2, (congrArg Value.bool (by ((try clear S); (try clear E); first | assumption | omega | rfl | (simp; done) | (simp_all; done) | (simp [List.take_add_one, *]; done) | grind [List.take_add_one]))), S⟩
  · replace E := E.val (t := 5) rfl hc_3
    replace E := E.val (t := 6) rfl hc_3
    replace hc_3 := of_decide_eq_false hc_3
    refine WL_guard_no E rfl rfl rfl rfl fun a E => ?_
    refine WL_guard_no E rfl rfl rfl rfl fun a E => ?_
    refine WL_guard_no E rfl rfl rfl rfl fun a E => ?_
    refine S_v E rfl (R_pickF E rfl rfl) rfl ?_
    clear E a; intro a E
    refine S_v E rfl (R_assign E rfl) rfl ?_
    clear E a; intro a E
    refine WL_nil ?_
    refine T_n ?_
    refine WP_ret ?_
    exact F_ret1 E Try.results23 rfl ⟨_, rfl, M_2, hM_2, (bF (by ((try clear S); (try clear E); first | assumption | omega | rfl | (simp; done) | (simp_all; done) | (simp [List.take_add_one, *]; done) | grind [List.take_add_one]))), S⟩

set_option maxRecDepth 100000 in
set_option maxHeartbeats 4000000 in
theorem laws_modulo {M : Hp} {x0 x1 : Int} (hn : x1 ≠ 0) (g1 : -1099511627776 < x1 ∧ x1 < 1099511627776) :
    Pu Try.prog (.func (.func 84) #[] #[]) M [.int .i64 x0, .int .i64 x1] (fun r M' => r = .int .i64 (x0 % x1)) := by
  refine Pu_enter Try.func84 rfl Try.ntmps84 rfl Try.call84 ?_
  intro a w M1 H hM1 S E
  have ht := tmod_emod x0 x1 hn
  have ht2 := tmod_emod x0 (-x1) (by omega)
  have he : x0 % (-x1) = x0 % x1 := Int.emod_neg ..
  refine WP_seq ?_
  refine WP_region ?_
  refine S_v E rfl (R_assign E rfl) rfl ?_
  clear E a; intro a E
  refine WL_nil ?_
  refine T_n ?_
  refine WP_seq ?_
  refine WP_seq ?_
  refine WP_region ?_
  refine S_v E rfl (R_move E rfl) rfl ?_
  clear E a; intro a E
  refine S_v E rfl (R_lss E rfl rfl) rfl ?_
  clear E a; intro a E
  refine WL_nil ?_
  refine T_n ?_
  refine WP_cond E rfl (fun hc_1 => ?_) (fun hc_1 => ?_)
  · replace hc_1 := of_decide_eq_true hc_1
    refine WP_region ?_
    refine S_v E rfl (R_move E rfl) rfl ?_
    clear E a; intro a E
    refine S_v E rfl (R_negx (m := -x1) E rfl rfl (by omega)) rfl ?_
    clear E a; intro a E
    refine S_v E rfl (R_assign E rfl) rfl ?_
    clear E a; intro a E
    refine WL_nil ?_
    refine T_n ?_
    refine WP_seq ?_
    refine WP_region ?_
    refine S_v E rfl (R_move E rfl) rfl ?_
    clear E a; intro a E
    refine S_v E rfl (R_move E rfl) rfl ?_
    clear E a; intro a E
    refine S_v E rfl (R_rem E rfl rfl (by first | decide | omega)) rfl ?_
    clear E a; intro a E
    refine S_v E rfl (R_assign E rfl) rfl ?_
    clear E a; intro a E
    refine WL_nil ?_
    refine T_n ?_
    refine WP_seq ?_
    refine WP_seq ?_
    refine WP_region ?_
    refine S_v E rfl (R_move E rfl) rfl ?_
    clear E a; intro a E
    refine S_v E rfl (R_lss E rfl rfl) rfl ?_
    clear E a; intro a E
    refine WL_nil ?_
    refine T_n ?_
    refine WP_cond E rfl (fun hc_2 => ?_) (fun hc_2 => ?_)
    · replace hc_2 := of_decide_eq_true hc_2
      refine WP_region ?_
      refine S_v E rfl (R_move E rfl) rfl ?_
      clear E a; intro a E
      refine S_v E rfl (R_move E rfl) rfl ?_
      clear E a; intro a E
      refine S_v E rfl (R_addx (m := (Int.tmod x0 (-x1)) + (-x1)) E rfl rfl (by omega) (by omega)) rfl ?_
      clear E a; intro a E
      refine S_v E rfl (R_assign E rfl) rfl ?_
      clear E a; intro a E
      refine WL_nil ?_
      refine T_n ?_
      refine WP_seq ?_
      refine WP_region ?_
      refine S_v E rfl (R_move E rfl) rfl ?_
      clear E a; intro a E
      refine S_v E rfl (R_assign E rfl) rfl ?_
      clear E a; intro a E
      refine WL_nil ?_
      refine T_n ?_
      refine WP_ret ?_
      exact F_ret1 E Try.results84 rfl ⟨_, rfl, M1, (Hp.le.refl _), (congrArg (Value.int .i64) (by omega)), S⟩
    · replace hc_2 := of_decide_eq_false hc_2
      refine WP_skip ?_
      refine T_n ?_
      refine WP_seq ?_
      refine WP_region ?_
      refine S_v E rfl (R_move E rfl) rfl ?_
      clear E a; intro a E
      refine S_v E rfl (R_assign E rfl) rfl ?_
      clear E a; intro a E
      refine WL_nil ?_
      refine T_n ?_
      refine WP_ret ?_
      exact F_ret1 E Try.results84 rfl ⟨_, rfl, M1, (Hp.le.refl _), (congrArg (Value.int .i64) (by omega)), S⟩
  · replace hc_1 := of_decide_eq_false hc_1
    refine WP_skip ?_
    refine T_n ?_
    refine WP_seq ?_
    refine WP_region ?_
    refine S_v E rfl (R_move E rfl) rfl ?_
    clear E a; intro a E
    refine S_v E rfl (R_move E rfl) rfl ?_
    clear E a; intro a E
    refine S_v E rfl (R_rem E rfl rfl (by first | decide | omega)) rfl ?_
    clear E a; intro a E
    refine S_v E rfl (R_assign E rfl) rfl ?_
    clear E a; intro a E
    refine WL_nil ?_
    refine T_n ?_
    refine WP_seq ?_
    refine WP_seq ?_
    refine WP_region ?_
    refine S_v E rfl (R_move E rfl) rfl ?_
    clear E a; intro a E
    refine S_v E rfl (R_lss E rfl rfl) rfl ?_
    clear E a; intro a E
    refine WL_nil ?_
    refine T_n ?_
    refine WP_cond E rfl (fun hc_3 => ?_) (fun hc_3 => ?_)
    · replace hc_3 := of_decide_eq_true hc_3
      refine WP_region ?_
      refine S_v E rfl (R_move E rfl) rfl ?_
      clear E a; intro a E
      refine S_v E rfl (R_move E rfl) rfl ?_
      clear E a; intro a E
      refine S_v E rfl (R_addx (m := (Int.tmod x0 x1) + x1) E rfl rfl (by omega) (by omega)) rfl ?_
      clear E a; intro a E
      refine S_v E rfl (R_assign E rfl) rfl ?_
      clear E a; intro a E
      refine WL_nil ?_
      refine T_n ?_
      refine WP_seq ?_
      refine WP_region ?_
      refine S_v E rfl (R_move E rfl) rfl ?_
      clear E a; intro a E
      refine S_v E rfl (R_assign E rfl) rfl ?_
      clear E a; intro a E
      refine WL_nil ?_
      refine T_n ?_
      refine WP_ret ?_
      exact F_ret1 E Try.results84 rfl ⟨_, rfl, M1, (Hp.le.refl _), (congrArg (Value.int .i64) (by omega)), S⟩
    · replace hc_3 := of_decide_eq_false hc_3
      refine WP_skip ?_
      refine T_n ?_
      refine WP_seq ?_
      refine WP_region ?_
      refine S_v E rfl (R_move E rfl) rfl ?_
      clear E a; intro a E
      refine S_v E rfl (R_assign E rfl) rfl ?_
      clear E a; intro a E
      refine WL_nil ?_
      refine T_n ?_
      refine WP_ret ?_
      exact F_ret1 E Try.results84 rfl ⟨_, rfl, M1, (Hp.le.refl _), (congrArg (Value.int .i64) (by omega)), S⟩

set_option maxRecDepth 100000 in
set_option maxHeartbeats 4000000 in
theorem laws_stands {M : Hp} {kk0 kn0 : Int} (gk0 : -1099511627776 < kn0 ∧ kn0 < 1099511627776){x1 x2 : Int} :
    Pu Try.prog (.func (.func 25) #[] #[]) M [.agg #[.int .i64 kk0, .int .i64 kn0], .int .i64 x1, .int .i64 x2] (fun r M' => r = .int .i64 (keyAt kk0 kn0 x1 x2)) := by
  refine Pu_enter Try.func25 rfl Try.ntmps25 rfl Try.call25 ?_
  intro a w M1 H hM1 S E
  refine WP_seq ?_
  refine WP_region ?_
  refine S_x (X_box (cs := #[.int .i64 kk0, .int .i64 kn0]) E S rfl rfl rfl ?_)
  clear E a S; rintro a w b_1 E S
  obtain ⟨M_2, hM_2, hb_1, S⟩ := S.freezeB
  refine S_v E rfl (R_assign E rfl) rfl ?_
  clear E a; intro a E
  refine WL_nil ?_
  refine T_n ?_
  refine WP_seq ?_
  refine WP_seq ?_
  refine WP_region ?_
  refine S_v E rfl (R_fieldAddr E rfl (FA31_0 _)) rfl ?_
  clear E a; intro a E
  refine S_v E rfl (R_loadM E rfl Try.isAgg3 S.imm (cellM_boxo hb_1 rfl)) rfl ?_
  clear E a; intro a E
  refine WL_nil ?_
  refine T_n ?_
  refine WP_block ?_
  refine WP_seq ?_
  refine WP_region ?_
  refine S_v E rfl (R_eql E rfl rfl) rfl ?_
  clear E a; intro a E
  refine S_v E rfl (R_assign E rfl) rfl ?_
  clear E a; intro a E
  refine WL_nil ?_
  refine T_n ?_
  refine WP_cond E rfl (fun hc_3 => ?_) (fun hc_3 => ?_)
  · replace hc_3 := of_decide_eq_true hc_3
    refine WP_seq ?_
    refine WP_region ?_
    refine S_v E rfl (R_move E rfl) rfl ?_
    clear E a; intro a E
    refine S_v E rfl (R_fieldAddr E rfl (FA31_1 _)) rfl ?_
    clear E a; intro a E
    refine S_v E rfl (R_loadM E rfl Try.isAgg3 S.imm (cellM_boxo hb_1 rfl)) rfl ?_
    clear E a; intro a E
    refine S_v E rfl (R_add E rfl rfl) rfl ?_
    clear E a; intro a E
    refine S_v E rfl (R_assign E rfl) rfl ?_
    clear E a; intro a E
    refine WL_nil ?_
    refine T_n ?_
    refine WP_ret ?_
    refine B_r ?_
    refine T_r ?_
    exact F_ret1 E Try.results25 rfl ⟨_, rfl, M_2, hM_2, (congrArg (Value.int .i64) (by (clear E S; unfold keyAt w64; first | (simp [*]; done) | (simp_all; done)))), S⟩
  · replace hc_3 := of_decide_eq_false hc_3
    refine WP_seq ?_
    refine WP_region ?_
    refine S_v E rfl (R_eql E rfl rfl) rfl ?_
    clear E a; intro a E
    refine S_v E rfl (R_assign E rfl) rfl ?_
    clear E a; intro a E
    refine WL_nil ?_
    refine T_n ?_
    refine WP_cond E rfl (fun hc_4 => ?_) (fun hc_4 => ?_)
    · replace hc_4 := of_decide_eq_true hc_4
      refine WP_seq ?_
      refine WP_region ?_
      refine S_v E rfl (R_move E rfl) rfl ?_
      clear E a; intro a E
      refine S_v E rfl (R_fieldAddr E rfl (FA31_1 _)) rfl ?_
      clear E a; intro a E
      refine S_v E rfl (R_loadM E rfl Try.isAgg3 S.imm (cellM_boxo hb_1 rfl)) rfl ?_
      clear E a; intro a E
      refine S_v E rfl (R_mul E rfl rfl) rfl ?_
      clear E a; intro a E
      refine S_v E rfl (R_assign E rfl) rfl ?_
      clear E a; intro a E
      refine WL_nil ?_
      refine T_n ?_
      refine WP_ret ?_
      refine B_r ?_
      refine T_r ?_
      exact F_ret1 E Try.results25 rfl ⟨_, rfl, M_2, hM_2, (congrArg (Value.int .i64) (by (clear E S; unfold keyAt w64; first | (simp [*]; done) | (simp_all; done)))), S⟩
    · replace hc_4 := of_decide_eq_false hc_4
      refine WP_seq ?_
      refine WP_region ?_
      refine S_v E rfl (R_eql E rfl rfl) rfl ?_
      clear E a; intro a E
      refine S_v E rfl (R_assign E rfl) rfl ?_
      clear E a; intro a E
      refine WL_nil ?_
      refine T_n ?_
      refine WP_cond E rfl (fun hc_5 => ?_) (fun hc_5 => ?_)
      · replace hc_5 := of_decide_eq_true hc_5
        refine WP_seq ?_
        refine WP_region ?_
        refine S_v E rfl (R_fieldAddr E rfl (FA31_1 _)) rfl ?_
        clear E a; intro a E
        refine S_v E rfl (R_loadM E rfl Try.isAgg3 S.imm (cellM_boxo hb_1 rfl)) rfl ?_
        clear E a; intro a E
        refine S_v E rfl (R_neq E rfl rfl) rfl ?_
        clear E a; intro a E
        refine WL_nil ?_
        refine T_n ?_
        refine WP_cond E rfl (fun hc_6 => ?_) (fun hc_6 => ?_)
        · replace hc_6 := of_decide_eq_true hc_6
          refine WP_seq ?_
          refine WP_region ?_
          refine S_v E rfl (R_move E rfl) rfl ?_
          clear E a; intro a E
          refine S_v E rfl (R_fieldAddr E rfl (FA31_1 _)) rfl ?_
          clear E a; intro a E
          refine S_v E rfl (R_loadM E rfl Try.isAgg3 S.imm (cellM_boxo hb_1 rfl)) rfl ?_
          clear E a; intro a E
          refine S_x (X_pu E S rfl rfl rfl (laws_modulo (by first | omega | assumption) (by omega)) (Hp.le.refl _) ?_)
          clear E a S; rintro a _ w M_7 hM_7 rfl S E
          replace hb_1 := hM_7.2 _ _ hb_1
          refine S_v E rfl (R_assign E rfl) rfl ?_
          clear E a; intro a E
          refine WL_nil ?_
          refine T_n ?_
          refine WP_ret ?_
          refine B_r ?_
          refine T_r ?_
          exact F_ret1 E Try.results25 rfl ⟨_, rfl, M_7, (hM_2.trans hM_7), (congrArg (Value.int .i64) (by (clear E S; unfold keyAt w64; first | (simp [*]; done) | (simp_all; done)))), S⟩
        · replace hc_6 := of_decide_eq_false hc_6
          refine WP_skip ?_
          refine B_n ?_
          refine T_n ?_
          refine WP_seq ?_
          refine WP_region ?_
          refine S_v E rfl (R_move E rfl) rfl ?_
          clear E a; intro a E
          refine S_v E rfl (R_assign E rfl) rfl ?_
          clear E a; intro a E
          refine WL_nil ?_
          refine T_n ?_
          refine WP_ret ?_
          exact F_ret1 E Try.results25 rfl ⟨_, rfl, M_2, hM_2, (congrArg (Value.int .i64) (by (clear E S; unfold keyAt w64; first | (simp [*]; done) | (simp_all; done)))), S⟩
      · replace hc_5 := of_decide_eq_false hc_5
        refine WP_seq ?_
        refine WP_region ?_
        refine S_v E rfl (R_eql E rfl rfl) rfl ?_
        clear E a; intro a E
        refine S_v E rfl (R_assign E rfl) rfl ?_
        clear E a; intro a E
        refine WL_nil ?_
        refine T_n ?_
        refine WP_cond E rfl (fun hc_8 => ?_) (fun hc_8 => ?_)
        · replace hc_8 := of_decide_eq_true hc_8
          refine WP_seq ?_
          refine WP_region ?_
          refine S_v E rfl (R_fieldAddr E rfl (FA31_1 _)) rfl ?_
          clear E a; intro a E
          refine S_v E rfl (R_loadM E rfl Try.isAgg3 S.imm (cellM_boxo hb_1 rfl)) rfl ?_
          clear E a; intro a E
          refine S_v E rfl (R_assign E rfl) rfl ?_
          clear E a; intro a E
          refine WL_nil ?_
          refine T_n ?_
          refine WP_ret ?_
          refine B_r ?_
          refine T_r ?_
          exact F_ret1 E Try.results25 rfl ⟨_, rfl, M_2, hM_2, (congrArg (Value.int .i64) (by (clear E S; unfold keyAt w64; first | (simp [*]; done) | (simp_all; done)))), S⟩
        · replace hc_8 := of_decide_eq_false hc_8
          refine WP_seq ?_
          refine WP_region ?_
          refine S_v E rfl (R_eql E rfl rfl) rfl ?_
          clear E a; intro a E
          refine S_v E rfl (R_assign E rfl) rfl ?_
          clear E a; intro a E
          refine WL_nil ?_
          refine T_n ?_
          refine WP_cond E rfl (fun hc_9 => ?_) (fun hc_9 => ?_)
          · replace hc_9 := of_decide_eq_true hc_9
            refine WP_seq ?_
            refine WP_region ?_
            refine S_v E rfl (R_move E rfl) rfl ?_
            clear E a; intro a E
            refine S_v E rfl (R_assign E rfl) rfl ?_
            clear E a; intro a E
            refine WL_nil ?_
            refine T_n ?_
            refine WP_ret ?_
            refine B_r ?_
            refine T_r ?_
            exact F_ret1 E Try.results25 rfl ⟨_, rfl, M_2, hM_2, (congrArg (Value.int .i64) (by (clear E S; unfold keyAt w64; first | (simp [*]; done) | (simp_all; done)))), S⟩
          · replace hc_9 := of_decide_eq_false hc_9
            refine WP_skip ?_
            refine B_n ?_
            refine T_n ?_
            refine WP_seq ?_
            refine WP_region ?_
            refine S_v E rfl (R_move E rfl) rfl ?_
            clear E a; intro a E
            refine S_v E rfl (R_assign E rfl) rfl ?_
            clear E a; intro a E
            refine WL_nil ?_
            refine T_n ?_
            refine WP_ret ?_
            exact F_ret1 E Try.results25 rfl ⟨_, rfl, M_2, hM_2, (congrArg (Value.int .i64) (by (clear E S; unfold keyAt w64; first | (simp [*]; done) | (simp_all; done)))), S⟩

set_option maxRecDepth 100000 in
set_option maxHeartbeats 4000000 in
theorem laws_FnIntersectByL {M : Hp} {v0 : Value} {l0 : List Int} (h0 : RdI M v0 l0) (hb : l0.length ≤ 1000000000000) {kk9 kn9 : Int} (gk9 : -1099511627776 < kn9 ∧ kn9 < 1099511627776) {bx9 : Nat} (hbx9 : M bx9 = some (.cells #[.int .i64 kk9, .int .i64 kn9] 31)) :
    Pu Try.prog (.func (.func 24) #[] #[.pointer (some ⟨bx9, 0, none⟩)]) M [v0] (fun r M' => RdI M' r ((l0).map (fun x => keyAt kk9 kn9 x 0))) := by
  refine Pu_enter Try.func24 rfl Try.ntmps24 rfl Try.call24 ?_
  intro a w M1 H hM1 S E
  replace h0 := h0.le hM1
  replace hbx9 := hM1.2 _ _ hbx9
  have b0 := h0.bound
  refine WP_seq ?_
  refine WP_region ?_
  refine S_v E rfl (R_assign E rfl) rfl ?_
  clear E a; intro a E
  refine WL_nil ?_
  refine T_n ?_
  refine WP_seq ?_
  refine WP_region ?_
  refine S_v E rfl (R_assign E rfl) rfl ?_
  clear E a; intro a E
  refine WL_nil ?_
  refine T_n ?_
  refine WP_seq ?_
  refine WP_seq ?_
  refine WP_region ?_
  refine S_v E rfl (R_move E rfl) rfl ?_
  clear E a; intro a E
  refine S_v E rfl (R_lenV E rfl T24 h0.len) rfl ?_
  clear E a; intro a E
  refine S_v E rfl (R_move E rfl) rfl ?_
  clear E a; intro a E
  refine WL_nil ?_
  refine T_n ?_
  refine WP_block ?_
  replace S := (S.ownNil (e := 3) (sz := 1)).made0
  replace S := S.re1 (l' := (l0.take 0).map (fun x => keyAt kk9 kn9 x 0)) (by first | (simp; done) | (rw [take_snoc (by assumption)]; simp; done))
  refine WP_loop (γ := Nat) (fun (k : Nat) a w => ∃ (M_2 : Hp) (u4 : Value), Hp.le M1 M_2 ∧ St w M_2 (OwnI 3 u4 ((l0.take k).map (fun x => keyAt kk9 kn9 x 0)) :: H) ∧ Env a 21 [] [(1, .pointer (some ⟨bx9, 0, none⟩)), (4, u4), (7, v0), (8, .int .i64 (((l0).length : Nat) : Int)), (9, .int .i64 ((k : Nat) : Int))] ∧ (k ≤ (l0).length)) (fun k => ((l0).length) - k) 0 ⟨M1, _, Hp.le.refl _, S, E.keep ⟨rfl, rfl, rfl, rfl, rfl, trivial⟩, by ((try clear S); (try clear E); first | assumption | omega | rfl | (simp; done) | (simp_all; done) | (simp [List.take_add_one, *]; done) | grind [List.take_add_one])⟩ ?_
  try clear E
  try clear S
  try clear a
  try clear w
  rintro k a w ⟨M_2, u4, hM_2, S, E, hL0_0⟩
  replace h0 := h0.le hM_2
  replace hbx9 := hM_2.2 _ _ hbx9
  refine WP_seq ?_
  refine WP_region ?_
  refine S_v E rfl (R_lss E rfl rfl) rfl ?_
  clear E a; intro a E
  refine WL_nil ?_
  refine T_n ?_
  refine WP_seq ?_
  refine WP_cond E rfl (fun hc_3 => ?_) (fun hc_3 => ?_)
  · replace hc_3 := of_decide_eq_true hc_3
    refine WP_skip ?_
    refine T_n ?_
    refine WP_seq ?_
    refine WP_block ?_
    refine WP_seq ?_
    refine WP_region ?_
    obtain ⟨x_4, hx_4⟩ : ∃ x, (l0)[k]? = some x := ⟨_, List.getElem?_eq_getElem (by first | omega | (simp; done) | (simp; omega) | (simp_all; omega))⟩
    obtain ⟨p_5, hp_5, qp_5⟩ := h0.at hx_4
    refine S_v E rfl (R_idx E rfl rfl T24 hp_5 rfl) rfl ?_
    clear E a; intro a E
    refine S_v E rfl (R_loadM E rfl Try.isAgg3 S.imm qp_5) rfl ?_
    clear E a; intro a E
    refine S_v E rfl (R_assign E rfl) rfl ?_
    clear E a; intro a E
    refine WL_nil ?_
    refine T_n ?_
    refine WP_region ?_
    refine S_v E rfl (R_move E rfl) rfl ?_
    clear E a; intro a E
    refine S_v E rfl (R_loadGM E rfl (Try.isAgg31 _) (Try.sizeOf31 _) S.imm hbx9) rfl ?_
    clear E a; intro a E
    refine S_v E rfl (R_move E rfl) rfl ?_
    clear E a; intro a E
    refine S_x (X_pu E S rfl rfl rfl (laws_stands (by omega)) (Hp.le.refl _) ?_)
    clear E a S; rintro a _ w M_6 hM_6 rfl S E
    replace h0 := h0.le hM_6
    replace hbx9 := hM_6.2 _ _ hbx9
    refine S_x (X_buildI (ys := [keyAt kk9 kn9 x_4 0]) E S rfl T24 rfl rfl rfl ?_)
    clear E a S; rintro a w v_7 E S
    replace S := S.front1
    replace S := S.front1
    refine S_x (X_appendB (xs := (l0.take k).map (fun x => keyAt kk9 kn9 x 0)) (ys := [keyAt kk9 kn9 x_4 0]) E S rfl rfl rfl T24 (by (first | (simp; done) | (simp; omega))) ?_)
    clear E a S; rintro a w v_8 E S
    refine S_v E rfl (R_assign E rfl) rfl ?_
    clear E a; intro a E
    refine WL_nil ?_
    refine B_n ?_
    refine T_n ?_
    refine WP_region ?_
    refine S_v E rfl (R_addx (m := ((k + 1 : Nat) : Int)) E rfl rfl (by omega) (by omega)) rfl ?_
    clear E a; intro a E
    refine S_v E rfl (R_move E rfl) rfl ?_
    clear E a; intro a E
    refine WL_nil ?_
    refine T_n ?_
    replace S := S.re1 (l' := (l0.take (k + 1)).map (fun x => keyAt kk9 kn9 x 0)) (by first | (simp; done) | (rw [take_snoc (by assumption)]; simp; done))
    exact ⟨k + 1, ⟨M_6, _, (hM_2.trans hM_6), S, E.keep ⟨rfl, rfl, rfl, rfl, rfl, trivial⟩, by ((try clear S); (try clear E); first | assumption | omega | rfl | (simp; done) | (simp_all; done) | (simp [List.take_add_one, *]; done) | grind [List.take_add_one])⟩, by omega⟩
  · replace hc_3 := of_decide_eq_false hc_3
    refine WP_exit ?_
    refine T_x ?_
    refine T_x ?_
    refine B_x ?_
    refine T_n ?_
    refine WP_seq ?_
    refine WP_region ?_
    refine S_v E rfl (R_move E rfl) rfl ?_
    clear E a; intro a E
    refine S_v E rfl (R_assign E rfl) rfl ?_
    clear E a; intro a E
    refine WL_nil ?_
    refine T_n ?_
    refine WP_ret ?_
    have S0 := S; clear S
    obtain ⟨M_9, hM_9, hz_10, S⟩ := S0.freezeI (by (first | (simp; done) | (simp; omega)))
    clear S0
    replace h0 := h0.le hM_9
    replace hbx9 := hM_9.2 _ _ hbx9
    exact F_ret1 E Try.results24 rfl ⟨_, rfl, M_9, (hM_2.trans hM_9), (by rw [show ((l0).map (fun x => keyAt kk9 kn9 x 0)) = ((l0.take k).map (fun x => keyAt kk9 kn9 x 0)) from by (rw [List.take_of_length_le (by omega)])]; exact hz_10), S⟩

set_option maxRecDepth 100000 in
set_option maxHeartbeats 4000000 in
theorem laws_in {M : Hp} {v0 : Value} {l0 : List Int} (h0 : RdI M v0 l0){x1 : Int} :
    Pu Try.prog (.func (.func 16) #[] #[]) M [v0, .int .i64 x1] (fun r M' => r = .bool (decide (x1 ∈ l0))) := by
  refine Pu_enter Try.func16 rfl Try.ntmps16 rfl Try.call16 ?_
  intro a w M1 H hM1 S E
  replace h0 := h0.le hM1
  have b0 := h0.bound
  refine WP_seq ?_
  refine WP_region ?_
  refine S_v E rfl (R_assign E rfl) rfl ?_
  clear E a; intro a E
  refine WL_nil ?_
  refine T_n ?_
  refine WP_seq ?_
  refine WP_seq ?_
  refine WP_region ?_
  refine S_v E rfl (R_move E rfl) rfl ?_
  clear E a; intro a E
  refine S_v E rfl (R_lenV E rfl T24 h0.len) rfl ?_
  clear E a; intro a E
  refine S_v E rfl (R_move E rfl) rfl ?_
  clear E a; intro a E
  refine WL_nil ?_
  refine T_n ?_
  refine WP_block ?_
  refine WP_loop (γ := Nat) (fun (k : Nat) a w => ∃ (M_1 : Hp), Hp.le M1 M_1 ∧ St w M_1 (H) ∧ Env a 17 [] [(1, .int .i64 x1), (7, v0), (8, .int .i64 (((l0).length : Nat) : Int)), (9, .int .i64 ((k : Nat) : Int))] ∧ (k ≤ (l0).length) ∧ (x1 ∉ l0.take k)) (fun k => ((l0).length) - k) 0 ⟨M1, Hp.le.refl _, S, E.keep ⟨rfl, rfl, rfl, rfl, trivial⟩, by ((try clear S); (try clear E); first | assumption | omega | rfl | (simp; done) | (simp_all; done) | (simp [List.take_add_one, *]; done) | grind [List.take_add_one]), by ((try clear S); (try clear E); first | assumption | omega | rfl | (simp; done) | (simp_all; done) | (simp [List.take_add_one, *]; done) | grind [List.take_add_one])⟩ ?_
  try clear E
  try clear S
  try clear a
  try clear w
  rintro k a w ⟨M_1, hM_1, S, E, hL0_0, hL0_1⟩
  replace h0 := h0.le hM_1
  refine WP_seq ?_
  refine WP_region ?_
  refine S_v E rfl (R_lss E rfl rfl) rfl ?_
  clear E a; intro a E
  refine WL_nil ?_
  refine T_n ?_
  refine WP_seq ?_
  refine WP_cond E rfl (fun hc_2 => ?_) (fun hc_2 => ?_)
  · replace hc_2 := of_decide_eq_true hc_2
    refine WP_skip ?_
    refine T_n ?_
    refine WP_seq ?_
    refine WP_block ?_
    refine WP_seq ?_
    refine WP_region ?_
    obtain ⟨x_3, hx_3⟩ : ∃ x, (l0)[k]? = some x := ⟨_, List.getElem?_eq_getElem (by first | omega | (simp; done) | (simp; omega) | (simp_all; omega))⟩
    obtain ⟨p_4, hp_4, qp_4⟩ := h0.at hx_3
    refine S_v E rfl (R_idx E rfl rfl T24 hp_4 rfl) rfl ?_
    clear E a; intro a E
    refine S_v E rfl (R_loadM E rfl Try.isAgg3 S.imm qp_4) rfl ?_
    clear E a; intro a E
    refine S_v E rfl (R_assign E rfl) rfl ?_
    clear E a; intro a E
    refine WL_nil ?_
    refine T_n ?_
    refine WP_seq ?_
    refine WP_region ?_
    refine S_v E rfl (R_move E rfl) rfl ?_
    clear E a; intro a E
    refine S_v E rfl (R_move E rfl) rfl ?_
    clear E a; intro a E
    refine S_v E rfl (R_eql E rfl rfl) rfl ?_
    clear E a; intro a E
    refine WL_nil ?_
    refine T_n ?_
    refine WP_cond E rfl (fun hc_5 => ?_) (fun hc_5 => ?_)
    · replace hc_5 := of_decide_eq_true hc_5
      refine WP_seq ?_
      refine WP_region ?_
      refine S_v E rfl (R_assign E rfl) rfl ?_
      clear E a; intro a E
      refine WL_nil ?_
      refine T_n ?_
      refine WP_ret ?_
      refine B_r ?_
      refine T_r ?_
      refine T_r ?_
      refine B_r ?_
      refine T_r ?_
      exact F_ret1 E Try.results16 rfl ⟨_, rfl, M_1, hM_1, (bT (by (refine List.mem_of_getElem? (i := k) ?_; simp_all))), S⟩
    · replace hc_5 := of_decide_eq_false hc_5
      refine WP_skip ?_
      refine B_n ?_
      refine T_n ?_
      refine WP_region ?_
      refine S_v E rfl (R_addx (m := ((k + 1 : Nat) : Int)) E rfl rfl (by omega) (by omega)) rfl ?_
      clear E a; intro a E
      refine S_v E rfl (R_move E rfl) rfl ?_
      clear E a; intro a E
      refine WL_nil ?_
      refine T_n ?_
      exact ⟨k + 1, ⟨M_1, hM_1, S, E.keep ⟨rfl, rfl, rfl, rfl, trivial⟩, by ((try clear S); (try clear E); first | assumption | omega | rfl | (simp; done) | (simp_all; done) | (simp [List.take_add_one, *]; done) | grind [List.take_add_one]), by ((try clear S); (try clear E); first | assumption | omega | rfl | (simp; done) | (simp_all; done) | (simp [List.take_add_one, *]; done) | grind [List.take_add_one])⟩, by omega⟩
  · replace hc_2 := of_decide_eq_false hc_2
    refine WP_exit ?_
    refine T_x ?_
    refine T_x ?_
    refine B_x ?_
    refine T_n ?_
    refine WP_seq ?_
    refine WP_region ?_
    refine S_v E rfl (R_assign E rfl) rfl ?_
    clear E a; intro a E
    refine WL_nil ?_
    refine T_n ?_
    refine WP_ret ?_
    exact F_ret1 E Try.results16 rfl ⟨_, rfl, M_1, hM_1, (bF (by (rw [List.take_of_length_le (by omega)] at hL0_1; exact hL0_1))), S⟩

set_option maxRecDepth 100000 in
set_option maxHeartbeats 4000000 in
theorem laws_sorted {M : Hp} {v0 : Value} {l0 : List Int} (h0 : RdI M v0 l0) (hb : l0.length ≤ 1000000000000) :
    Pu Try.prog (.func (.func 26) #[] #[]) M [v0] (fun r M' => RdI M' r (setI l0)) := by
  refine Pu_enter Try.func26 rfl Try.ntmps26 rfl Try.call26 ?_
  intro a w M1 H hM1 S E
  replace h0 := h0.le hM1
  have b0 := h0.bound
  refine WP_seq ?_
  refine WP_region ?_
  refine S_v E rfl (R_assign E rfl) rfl ?_
  clear E a; intro a E
  refine WL_nil ?_
  refine T_n ?_
  refine WP_seq ?_
  refine WP_region ?_
  refine S_v E rfl (R_assign E rfl) rfl ?_
  clear E a; intro a E
  refine WL_nil ?_
  refine T_n ?_
  refine WP_seq ?_
  refine WP_seq ?_
  refine WP_region ?_
  refine S_v E rfl (R_move E rfl) rfl ?_
  clear E a; intro a E
  refine S_v E rfl (R_lenV E rfl T24 h0.len) rfl ?_
  clear E a; intro a E
  refine S_v E rfl (R_move E rfl) rfl ?_
  clear E a; intro a E
  refine WL_nil ?_
  refine T_n ?_
  refine WP_block ?_
  replace S := (S.ownNil (e := 3) (sz := 1)).made0
  replace S := S.re1 (l' := setI (l0.take 0)) (by first | (simp [setI]; done) | (rw [setI_take' (by assumption), insU_same (by rw [show l0[k]? = some _ by assumption]; assumption)]; done) | (rw [setI_take' (by assumption)]; exact set_bubble hsu.1 (by rw [show l0[k]? = some _ by assumption]; assumption) hL1_1 (by omega) (by first | (left; omega) | (right; exact ⟨_, bub_left (s := setI (l0.take k)) (x := (l0[k]?.getD 0)) (i := (setI (l0.take k)).length - j) (by omega) (by omega) (by assumption), by rw [← bub_at (s := setI (l0.take k)) (x := (l0[k]?.getD 0)) (i := (setI (l0.take k)).length - j) (by omega) (by assumption)]; assumption⟩))))
  refine WP_loop (γ := Nat) (fun (k : Nat) a w => ∃ (M_2 : Hp) (u3 : Value), Hp.le M1 M_2 ∧ St w M_2 (OwnI 3 u3 (setI (l0.take k)) :: H) ∧ Env a 57 [] [(3, u3), (7, v0), (8, .int .i64 (((l0).length : Nat) : Int)), (9, .int .i64 ((k : Nat) : Int))] ∧ (k ≤ (l0).length)) (fun k => ((l0).length) - k) 0 ⟨M1, _, Hp.le.refl _, S, E.keep ⟨rfl, rfl, rfl, rfl, trivial⟩, by ((try clear S); (try clear E); first | assumption | omega | rfl | (simp; done) | (simp_all; done) | (simp [List.take_add_one, *]; done) | grind [List.take_add_one])⟩ ?_
  try clear E
  try clear S
  try clear a
  try clear w
  rintro k a w ⟨M_2, u3, hM_2, S, E, hL0_0⟩
  replace h0 := h0.le hM_2
  have hsu := setI_spec (l0.take k); have hsl := hsu.2.2; simp only [List.length_take] at hsl
  refine WP_seq ?_
  refine WP_region ?_
  refine S_v E rfl (R_lss E rfl rfl) rfl ?_
  clear E a; intro a E
  refine WL_nil ?_
  refine T_n ?_
  refine WP_seq ?_
  refine WP_cond E rfl (fun hc_3 => ?_) (fun hc_3 => ?_)
  · replace hc_3 := of_decide_eq_true hc_3
    refine WP_skip ?_
    refine T_n ?_
    refine WP_seq ?_
    refine WP_block ?_
    refine WP_seq ?_
    refine WP_region ?_
    obtain ⟨x_4, hx_4⟩ : ∃ x, (l0)[k]? = some x := ⟨_, List.getElem?_eq_getElem (by first | omega | (simp; done) | (simp; omega) | (simp_all; omega))⟩
    obtain ⟨p_5, hp_5, qp_5⟩ := h0.at hx_4
    refine S_v E rfl (R_idx E rfl rfl T24 hp_5 rfl) rfl ?_
    clear E a; intro a E
    refine S_v E rfl (R_loadM E rfl Try.isAgg3 S.imm qp_5) rfl ?_
    clear E a; intro a E
    refine S_v E rfl (R_assign E rfl) rfl ?_
    clear E a; intro a E
    refine WL_nil ?_
    refine T_n ?_
    refine WP_seq ?_
    refine WP_seq ?_
    refine WP_region ?_
    refine S_v E rfl (R_move E rfl) rfl ?_
    clear E a; intro a E
    refine S_v E rfl (R_move E rfl) rfl ?_
    clear E a; intro a E
    obtain ⟨ML_6, hl_7, hv_8, S1, back⟩ := S.lendI (by omega)
    refine S_x (X_pu E S1 rfl rfl rfl (laws_in hv_8) (Hp.le.refl _) ?_)
    clear E a S; rintro a _ w M_9 hM_10 rfl S E
    replace S := back _ _ hM_10 S
    clear back S1
    refine WL_nil ?_
    refine T_n ?_
    refine WP_cond E rfl (fun hc_11 => ?_) (fun hc_11 => ?_)
    · replace hc_11 := of_decide_eq_true hc_11
      refine WP_exit ?_
      refine T_x ?_
      refine B_x ?_
      refine T_n ?_
      refine WP_region ?_
      refine S_v E rfl (R_addx (m := ((k + 1 : Nat) : Int)) E rfl rfl (by omega) (by omega)) rfl ?_
      clear E a; intro a E
      refine S_v E rfl (R_move E rfl) rfl ?_
      clear E a; intro a E
      refine WL_nil ?_
      refine T_n ?_
      replace S := S.re1 (l' := setI (l0.take (k + 1))) (by first | (simp [setI]; done) | (rw [setI_take' (by assumption), insU_same (by rw [show l0[k]? = some _ by assumption]; assumption)]; done) | (rw [setI_take' (by assumption)]; exact set_bubble hsu.1 (by rw [show l0[k]? = some _ by assumption]; assumption) hL1_1 (by omega) (by first | (left; omega) | (right; exact ⟨_, bub_left (s := setI (l0.take k)) (x := (l0[k]?.getD 0)) (i := (setI (l0.take k)).length - j) (by omega) (by omega) (by assumption), by rw [← bub_at (s := setI (l0.take k)) (x := (l0[k]?.getD 0)) (i := (setI (l0.take k)).length - j) (by omega) (by assumption)]; assumption⟩))))
      exact ⟨k + 1, ⟨M_2, _, hM_2, S, E.keep ⟨rfl, rfl, rfl, rfl, trivial⟩, by ((try clear S); (try clear E); first | assumption | omega | rfl | (simp; done) | (simp_all; done) | (simp [List.take_add_one, *]; done) | grind [List.take_add_one])⟩, by omega⟩
    · replace hc_11 := of_decide_eq_false hc_11
      refine WP_skip ?_
      refine T_n ?_
      refine WP_seq ?_
      refine WP_region ?_
      refine S_v E rfl (R_move E rfl) rfl ?_
      clear E a; intro a E
      refine S_v E rfl (R_move E rfl) rfl ?_
      clear E a; intro a E
      refine S_x (X_buildI (ys := [x_4]) E S rfl T24 rfl rfl rfl ?_)
      clear E a S; rintro a w v_12 E S
      replace S := S.front1
      replace S := S.front1
      refine S_x (X_appendB (xs := setI (l0.take k)) (ys := [x_4]) E S rfl rfl rfl T24 (by first | omega | (simp; done) | (simp; omega) | (simp_all; omega)) ?_)
      clear E a S; rintro a w v_13 E S
      refine S_v E rfl (R_assign E rfl) rfl ?_
      clear E a; intro a E
      refine WL_nil ?_
      refine T_n ?_
      refine WP_seq ?_
      refine WP_region ?_
      refine S_v E rfl (R_move E rfl) rfl ?_
      clear E a; intro a E
      refine S_v E rfl (R_lenV E rfl T24 S.lenC) rfl ?_
      clear E a; intro a E
      refine S_v E rfl (R_subx (m := ((((setI (l0.take k)) ++ [x_4]).length - 1 : Nat) : Int)) E rfl rfl (by first | omega | (simp; done) | (simp; omega)) (by first | omega | (simp; done) | (simp; omega))) rfl ?_
      clear E a; intro a E
      refine S_v E rfl (R_assign E rfl) rfl ?_
      clear E a; intro a E
      refine WL_nil ?_
      refine T_n ?_
      refine WP_block ?_
      replace S := S.re1 (l' := (setI (l0.take k)).take ((setI (l0.take k)).length - 0) ++ [(l0[k]?.getD 0)] ++ (setI (l0.take k)).drop ((setI (l0.take k)).length - 0)) (by first | (rw [show l0[k]? = some _ by assumption]; simp; done) | (have e1 := bub_at (s := setI (l0.take k)) (x := (l0[k]?.getD 0)) (i := (setI (l0.take k)).length - j) (by omega) (by assumption); have e2 := bub_left (s := setI (l0.take k)) (x := (l0[k]?.getD 0)) (i := (setI (l0.take k)).length - j) (by omega) (by omega) (by assumption); rw [show (setI (l0.take k)).length - (j + 1) = (setI (l0.take k)).length - j - 1 by omega, bubble_step (by omega) (by omega) e2, e1]))
      refine WP_loop (γ := Nat) (fun (j : Nat) a w => ∃ (M_14 : Hp), Hp.le M_2 M_14 ∧ St w M_14 (OwnI 3 v_13 ((setI (l0.take k)).take ((setI (l0.take k)).length - j) ++ [(l0[k]?.getD 0)] ++ (setI (l0.take k)).drop ((setI (l0.take k)).length - j)) :: H) ∧ Env a 57 [] [(3, v_13), (6, .int .i64 (((setI (l0.take k)).length - j : Nat) : Int)), (7, v0), (8, .int .i64 (((l0).length : Nat) : Int)), (9, .int .i64 ((k : Nat) : Int))] ∧ (j ≤ (setI (l0.take k)).length) ∧ (∀ y ∈ (setI (l0.take k)).drop ((setI (l0.take k)).length - j), (l0[k]?.getD 0) < y)) (fun j => (setI (l0.take k)).length - j) 0 ⟨M_2, Hp.le.refl _, S, E.keep ⟨rfl, look_nat (i := ((setI (l0.take k)) ++ [x_4]).length - 1) rfl (by (first | (simp; done) | (simp; omega))), rfl, rfl, rfl, trivial⟩, (by omega), (by simp)⟩ ?_
      try clear E
      try clear S
      try clear a
      try clear w
      rintro j a w ⟨M_14, hM_14, S, E, hL1_0, hL1_1⟩
      replace h0 := h0.le hM_14
      refine WP_seq ?_
      refine WP_seq ?_
      replace S := S.mono_heap (w' := World.drew _) rfl
      obtain ⟨p_15, hp_15⟩ := S.ptrC (k := (setI (l0.take k)).length - j) (by first | omega | (simp; done) | (simp; omega) | (simp_all; omega))
      obtain ⟨x_16, hx_16⟩ : ∃ x, ((setI (l0.take k)).take ((setI (l0.take k)).length - j) ++ [(l0[k]?.getD 0)] ++ (setI (l0.take k)).drop ((setI (l0.take k)).length - j))[(setI (l0.take k)).length - j]? = some x := ⟨_, List.getElem?_eq_getElem (by first | omega | (simp; done) | (simp; omega) | (simp_all; omega))⟩
      obtain ⟨p_17, hp_17⟩ := S.ptrC (k := (setI (l0.take k)).length - j - 1) (by first | omega | (simp; done) | (simp; omega) | (simp_all; omega))
      obtain ⟨x_18, hx_18⟩ : ∃ x, ((setI (l0.take k)).take ((setI (l0.take k)).length - j) ++ [(l0[k]?.getD 0)] ++ (setI (l0.take k)).drop ((setI (l0.take k)).length - j))[(setI (l0.take k)).length - j - 1]? = some x := ⟨_, List.getElem?_eq_getElem (by first | omega | (simp; done) | (simp; omega) | (simp_all; omega))⟩
      refine WP_drawn (C := fun x w => agree M_14 w ∧ (x = 6 → w.cell? p_15 = some (.int .i64 x_16)) ∧ (x = 11 → w.cell? p_17 = some (.int .i64 x_18))) (bf := (fun i => [])) [0, 1, 2, 3, 4, 5, 6, 7, 8, 9, 10, 11, 12, 13] [0, 1, 2, 3, 4, 5, 6, 7, 8, 9, 10, 11, 12, 13] Try.mixed (by kernel_rfl) (fun x hq => ⟨S.imm, fun _ => S.cellI hp_15 hx_16, fun _ => S.cellI hp_17 hx_18⟩) ?_
      refine D_v E rfl rfl rfl (fun w hC => (R_move E rfl)) ?_
      clear E a; intro a E
      refine D_v E rfl rfl rfl (fun w hC => (R_gtr E rfl rfl)) ?_
      clear E a; intro a E
      refine D_v E rfl rfl rfl (fun w hC => (R_move E rfl)) ?_
      clear E a; intro a E
      refine split_bool (decide (0 < (((setI (l0.take k)).length - j : Nat) : Int))) (fun hc_19 => ?_) (fun hc_19 => ?_)
      · replace E := E.val (t := 24) rfl hc_19
        replace E := E.val (t := 25) rfl hc_19
        replace hc_19 := of_decide_eq_true hc_19
        refine D_vyes E rfl rfl rfl rfl rfl (fun w hC => (R_move E rfl)) ?_
        clear E a; intro a E
        refine D_vyes E rfl rfl rfl rfl rfl (fun w hC => (R_move E rfl)) ?_
        clear E a; intro a E
        refine D_vyes E rfl rfl rfl rfl rfl (fun w hC => (R_idx E rfl rfl T24 hp_15 rfl)) ?_
        clear E a; intro a E
        refine D_vyes E rfl rfl rfl rfl rfl (fun w hC => (R_load E rfl (Try.isAgg3 _) (hC.2.1 rfl))) ?_
        clear E a; intro a E
        refine D_vyes E rfl rfl rfl rfl rfl (fun w hC => (R_move E rfl)) ?_
        clear E a; intro a E
        refine D_vyes E rfl rfl rfl rfl rfl (fun w hC => (R_move E rfl)) ?_
        clear E a; intro a E
        refine D_vyes E rfl rfl rfl rfl rfl (fun w hC => (R_subx (m := (((setI (l0.take k)).length - j - 1 : Nat) : Int)) E rfl rfl (by first | omega | (simp; done) | (simp; omega)) (by first | omega | (simp; done) | (simp; omega)))) ?_
        clear E a; intro a E
        refine D_vyes E rfl rfl rfl rfl rfl (fun w hC => (R_idx E rfl rfl T24 hp_17 rfl)) ?_
        clear E a; intro a E
        refine D_vyes E rfl rfl rfl rfl rfl (fun w hC => (R_load E rfl (Try.isAgg3 _) (hC.2.2 rfl))) ?_
        clear E a; intro a E
        refine D_vyes E rfl rfl rfl rfl rfl (fun w hC => (R_lss E rfl rfl)) ?_
        clear E a; intro a E
        refine D_v E rfl rfl rfl (fun w hC => (R_pickT E rfl rfl)) ?_
        clear E a; intro a E
        refine D_end (NoP_n ?_)
        refine T_n ?_
        refine WP_cond E rfl (fun hc_20 => ?_) (fun hc_20 => ?_)
        · replace hc_20 := of_decide_eq_true hc_20
          refine WP_skip ?_
          refine T_n ?_
          refine WP_seq ?_
          refine WP_block ?_
          replace S := S.mono_heap (w' := World.drew _) rfl
          refine WP_drawn (C := fun x w => agree M_14 w ∧ (x = 9 → w.cell? p_17 = some (.int .i64 x_18)) ∧ (x = 13 → w.cell? p_15 = some (.int .i64 x_16))) (bf := (fun i => bif Nat.beq i 15 then [9, 13] else bif Nat.beq i 17 then [9, 13] else [])) [0, 1, 2, 3, 4, 5, 6, 7, 8, 9, 10, 11, 12, 13, 14, 16] [0, 1, 2, 3, 4, 5, 6, 7, 8, 9, 10, 11, 12, 13, 14, 15, 16, 17] Try.mixed (by kernel_rfl) (fun x hq => ⟨S.imm, fun _ => S.cellI hp_17 hx_18, fun _ => S.cellI hp_15 hx_16⟩) ?_
          refine D_v E rfl rfl rfl (fun w hC => (R_move E rfl)) ?_
          clear E a; intro a E
          refine D_v E rfl rfl rfl (fun w hC => (R_move E rfl)) ?_
          clear E a; intro a E
          refine D_v E rfl rfl rfl (fun w hC => (R_move E rfl)) ?_
          clear E a; intro a E
          refine D_v E rfl rfl rfl (fun w hC => (R_move E rfl)) ?_
          clear E a; intro a E
          refine D_v E rfl rfl rfl (fun w hC => (R_subx (m := (((setI (l0.take k)).length - j - 1 : Nat) : Int)) E rfl rfl (by omega) (by omega))) ?_
          clear E a; intro a E
          refine D_v E rfl rfl rfl (fun w hC => (R_move E rfl)) ?_
          clear E a; intro a E
          refine D_v E rfl rfl rfl (fun w hC => (R_move E rfl)) ?_
          clear E a; intro a E
          refine D_v E rfl rfl rfl (fun w hC => (R_subx (m := (((setI (l0.take k)).length - j - 1 : Nat) : Int)) E rfl rfl (by omega) (by omega))) ?_
          clear E a; intro a E
          refine D_v E rfl rfl rfl (fun w hC => (R_idx E rfl rfl T24 hp_17 rfl)) ?_
          clear E a; intro a E
          refine D_v E rfl rfl rfl (fun w hC => (R_load E rfl (Try.isAgg3 _) (hC.2.1 rfl))) ?_
          clear E a; intro a E
          refine D_v E rfl rfl rfl (fun w hC => (R_move E rfl)) ?_
          clear E a; intro a E
          refine D_v E rfl rfl rfl (fun w hC => (R_move E rfl)) ?_
          clear E a; intro a E
          refine D_v E rfl rfl rfl (fun w hC => (R_idx E rfl rfl T24 hp_15 rfl)) ?_
          clear E a; intro a E
          refine D_v E rfl rfl rfl (fun w hC => (R_load E rfl (Try.isAgg3 _) (hC.2.2 rfl))) ?_
          clear E a; intro a E
          refine D_v E rfl rfl rfl (fun w hC => (R_idx E rfl rfl T24 hp_15 rfl)) ?_
          clear E a; intro a E
          refine D_x rfl rfl rfl (X_storeI E S rfl rfl (Try.sizeOf3 _) hp_15 ?_)
          clear E a S; rintro a w E S
          refine ⟨fun x hq hb => ⟨(agree_le (Hp.le.refl _) S.imm), (fun e => by subst e; exact absurd hb (by decide)), (fun e => by subst e; exact absurd hb (by decide))⟩, ?_⟩
          refine D_v E rfl rfl rfl (fun w hC => (R_idx E rfl rfl T24 hp_17 rfl)) ?_
          clear E a; intro a E
          refine D_x rfl rfl rfl (X_storeI E S rfl rfl (Try.sizeOf3 _) hp_17 ?_)
          clear E a S; rintro a w E S
          refine ⟨fun x hq hb => ⟨(agree_le (Hp.le.refl _) S.imm), (fun e => by subst e; exact absurd hb (by decide)), (fun e => by subst e; exact absurd hb (by decide))⟩, ?_⟩
          refine D_end (NoP_n ?_)
          refine B_n ?_
          refine T_n ?_
          refine WP_region ?_
          refine S_v E rfl (R_move E rfl) rfl ?_
          clear E a; intro a E
          refine S_v E rfl (R_subx (m := (((setI (l0.take k)).length - j - 1 : Nat) : Int)) E rfl rfl (by first | omega | (simp; done) | (simp; omega)) (by first | omega | (simp; done) | (simp; omega))) rfl ?_
          clear E a; intro a E
          refine S_v E rfl (R_assign E rfl) rfl ?_
          clear E a; intro a E
          refine WL_nil ?_
          refine T_n ?_
          replace S := S.re1 (l' := (setI (l0.take k)).take ((setI (l0.take k)).length - (j + 1)) ++ [(l0[k]?.getD 0)] ++ (setI (l0.take k)).drop ((setI (l0.take k)).length - (j + 1))) (by first | (rw [show l0[k]? = some _ by assumption]; simp; done) | (have e1 := bub_at (s := setI (l0.take k)) (x := (l0[k]?.getD 0)) (i := (setI (l0.take k)).length - j) (by omega) (by assumption); have e2 := bub_left (s := setI (l0.take k)) (x := (l0[k]?.getD 0)) (i := (setI (l0.take k)).length - j) (by omega) (by omega) (by assumption); rw [show (setI (l0.take k)).length - (j + 1) = (setI (l0.take k)).length - j - 1 by omega, bubble_step (by omega) (by omega) e2, e1]))
          exact ⟨j + 1, ⟨M_14, hM_14, S, E.keep ⟨rfl, look_nat (i := (setI (l0.take k)).length - j - 1) rfl (by (omega)), rfl, rfl, rfl, trivial⟩, (by omega), (by rw [show (setI (l0.take k)).length - (j + 1) = (setI (l0.take k)).length - j - 1 by omega]; exact drop_bub hL1_1 (by omega) (by omega) (bub_left (s := setI (l0.take k)) (x := (l0[k]?.getD 0)) (i := (setI (l0.take k)).length - j) (by omega) (by omega) (by assumption)) (by rw [← bub_at (s := setI (l0.take k)) (x := (l0[k]?.getD 0)) (i := (setI (l0.take k)).length - j) (by omega) (by assumption)]; assumption))⟩, by omega⟩
        · replace hc_20 := of_decide_eq_false hc_20
          refine WP_exit ?_
          refine T_x ?_
          refine T_x ?_
          refine B_x ?_
          refine B_n ?_
          refine T_n ?_
          refine WP_region ?_
          refine S_v E rfl (R_addx (m := ((k + 1 : Nat) : Int)) E rfl rfl (by omega) (by omega)) rfl ?_
          clear E a; intro a E
          refine S_v E rfl (R_move E rfl) rfl ?_
          clear E a; intro a E
          refine WL_nil ?_
          refine T_n ?_
          replace S := S.re1 (l' := setI (l0.take (k + 1))) (by first | (simp [setI]; done) | (rw [setI_take' (by assumption), insU_same (by rw [show l0[k]? = some _ by assumption]; assumption)]; done) | (rw [setI_take' (by assumption)]; exact set_bubble hsu.1 (by rw [show l0[k]? = some _ by assumption]; assumption) hL1_1 (by omega) (by first | (left; omega) | (right; exact ⟨_, bub_left (s := setI (l0.take k)) (x := (l0[k]?.getD 0)) (i := (setI (l0.take k)).length - j) (by omega) (by omega) (by assumption), by rw [← bub_at (s := setI (l0.take k)) (x := (l0[k]?.getD 0)) (i := (setI (l0.take k)).length - j) (by omega) (by assumption)]; assumption⟩))))
          exact ⟨k + 1, ⟨M_14, _, (hM_2.trans hM_14), S, E.keep ⟨rfl, rfl, rfl, rfl, trivial⟩, by ((try clear S); (try clear E); first | assumption | omega | rfl | (simp; done) | (simp_all; done) | (simp [List.take_add_one, *]; done) | grind [List.take_add_one])⟩, by omega⟩
      · replace E := E.val (t := 24) rfl hc_19
        replace E := E.val (t := 25) rfl hc_19
        replace hc_19 := of_decide_eq_false hc_19
        refine D_no E rfl rfl rfl rfl rfl fun a E => ?_
        refine D_no E rfl rfl rfl rfl rfl fun a E => ?_
        refine D_no E rfl rfl rfl rfl rfl fun a E => ?_
        refine D_no E rfl rfl rfl rfl rfl fun a E => ?_
        refine D_no E rfl rfl rfl rfl rfl fun a E => ?_
        refine D_no E rfl rfl rfl rfl rfl fun a E => ?_
        refine D_no E rfl rfl rfl rfl rfl fun a E => ?_
        refine D_no E rfl rfl rfl rfl rfl fun a E => ?_
        refine D_no E rfl rfl rfl rfl rfl fun a E => ?_
        refine D_no E rfl rfl rfl rfl rfl fun a E => ?_
        refine D_v E rfl rfl rfl (fun w hC => (R_pickF E rfl rfl)) ?_
        clear E a; intro a E
        refine D_end (NoP_n ?_)
        refine T_n ?_
        refine WP_condF E rfl rfl ?_
        refine WP_exit ?_
        refine T_x ?_
        refine T_x ?_
        refine B_x ?_
        refine B_n ?_
        refine T_n ?_
        refine WP_region ?_
        refine S_v E rfl (R_addx (m := ((k + 1 : Nat) : Int)) E rfl rfl (by omega) (by omega)) rfl ?_
        clear E a; intro a E
        refine S_v E rfl (R_move E rfl) rfl ?_
        clear E a; intro a E
        refine WL_nil ?_
        refine T_n ?_
        replace S := S.re1 (l' := setI (l0.take (k + 1))) (by first | (simp [setI]; done) | (rw [setI_take' (by assumption), insU_same (by rw [show l0[k]? = some _ by assumption]; assumption)]; done) | (rw [setI_take' (by assumption)]; exact set_bubble hsu.1 (by rw [show l0[k]? = some _ by assumption]; assumption) hL1_1 (by omega) (by first | (left; omega) | (right; exact ⟨_, bub_left (s := setI (l0.take k)) (x := (l0[k]?.getD 0)) (i := (setI (l0.take k)).length - j) (by omega) (by omega) (by assumption), by rw [← bub_at (s := setI (l0.take k)) (x := (l0[k]?.getD 0)) (i := (setI (l0.take k)).length - j) (by omega) (by assumption)]; assumption⟩))))
        exact ⟨k + 1, ⟨M_14, _, (hM_2.trans hM_14), S, E.keep ⟨rfl, rfl, rfl, rfl, trivial⟩, by ((try clear S); (try clear E); first | assumption | omega | rfl | (simp; done) | (simp_all; done) | (simp [List.take_add_one, *]; done) | grind [List.take_add_one])⟩, by omega⟩
  · replace hc_3 := of_decide_eq_false hc_3
    refine WP_exit ?_
    refine T_x ?_
    refine T_x ?_
    refine B_x ?_
    refine T_n ?_
    refine WP_seq ?_
    refine WP_region ?_
    refine S_v E rfl (R_move E rfl) rfl ?_
    clear E a; intro a E
    refine S_v E rfl (R_assign E rfl) rfl ?_
    clear E a; intro a E
    refine WL_nil ?_
    refine T_n ?_
    refine WP_ret ?_
    have S0 := S; clear S
    obtain ⟨M_21, hM_21, hz_22, S⟩ := S0.freezeI (by (first | omega | (simp; omega) | (simp; done) | (simp_all; omega) | grind))
    clear S0
    replace h0 := h0.le hM_21
    exact F_ret1 E Try.results26 rfl ⟨_, rfl, M_21, (hM_2.trans hM_21), (by rw [show (setI l0) = (setI (l0.take k)) from by (rw [List.take_of_length_le (by omega)])]; exact hz_22), S⟩

set_option maxRecDepth 100000 in
set_option maxHeartbeats 4000000 in
theorem slices_Values1 {M : Hp} {v0 : Value} {l0 : List Int} (h0 : RdI M v0 l0){bx1 : Nat} (hbx1 : M bx1 = some (.cells #[v0] 24)) :
    SeqV Try.prog (.func (.func 132) #[] #[.pointer (some ⟨bx1, 0, none⟩)]) M (RInt) l0 := by
  refine SeqV_enter Try.func132 rfl Try.ntmps132 rfl Try.call132 ?_
  intro y J X a w M1 c H hJM hM1 hY hJ S E
  replace hbx1 := hM1.2 _ _ hbx1
  replace h0 := h0.le hM1
  have b0 := h0.bound
  refine WP_seq ?_
  refine WP_region ?_
  refine S_v E rfl (R_loadM E rfl Try.isAgg24 S.imm (cellM_box hbx1)) rfl ?_
  clear E a; intro a E
  refine S_v E rfl (R_lenV E rfl T24 h0.len) rfl ?_
  clear E a; intro a E
  refine S_v E rfl (R_move E rfl) rfl ?_
  clear E a; intro a E
  refine WL_nil ?_
  refine T_n ?_
  refine WP_block ?_
  refine WP_loop (γ := Nat) (fun (k : Nat) a w => ∃ (M_1 : Hp) (cL0 : HProp), Hp.le M1 M_1 ∧ St w M_1 (mks [] :: cL0 :: H) ∧ Env a 16 (([] : List Nat).map mk) [(0, y), (5, v0), (6, .int .i64 (((l0).length : Nat) : Int)), (7, .int .i64 ((k : Nat) : Int))] ∧ (k ≤ (l0).length) ∧ J (l0.take k) M_1 cL0) (fun k => ((l0).length) - k) 0 ⟨M1, _, Hp.le.refl _, S, E.keep ⟨rfl, rfl, rfl, rfl, trivial⟩, by ((try clear S); (try clear E); first | assumption | omega | rfl | (simp; done) | (simp_all; done) | (simp [List.take_add_one, *]; done) | grind [List.take_add_one]), J_eq hJ (by ((try clear S); (try clear E); first | assumption | omega | rfl | (simp; done) | (simp_all; done) | (simp [List.take_add_one, *]; done) | grind [List.take_add_one]))⟩ ?_
  try clear E
  try clear S
  try clear a
  try clear w
  rintro k a w ⟨M_1, cL0, hM_1, S, E, hL0_0, hJ⟩
  replace hbx1 := hM_1.2 _ _ hbx1
  replace h0 := h0.le hM_1
  refine WP_seq ?_
  refine WP_region ?_
  refine S_v E rfl (R_lss E rfl rfl) rfl ?_
  clear E a; intro a E
  refine WL_nil ?_
  refine T_n ?_
  refine WP_seq ?_
  refine WP_cond E rfl (fun hc_2 => ?_) (fun hc_2 => ?_)
  · replace hc_2 := of_decide_eq_true hc_2
    refine WP_skip ?_
    refine T_n ?_
    refine WP_seq ?_
    refine WP_block ?_
    refine WP_seq ?_
    refine WP_region ?_
    obtain ⟨x_3, hx_3⟩ : ∃ x, (l0)[k]? = some x := ⟨_, List.getElem?_eq_getElem (by first | omega | (simp; done) | (simp; omega) | (simp_all; omega))⟩
    obtain ⟨p_4, hp_4, qp_4⟩ := h0.at hx_3
    refine S_v E rfl (R_idx E rfl rfl T24 hp_4 rfl) rfl ?_
    clear E a; intro a E
    refine S_v E rfl (R_loadM E rfl Try.isAgg3 S.imm qp_4) rfl ?_
    clear E a; intro a E
    refine S_v E rfl (R_assign E rfl) rfl ?_
    clear E a; intro a E
    refine WL_nil ?_
    refine T_n ?_
    refine WP_seq ?_
    refine WP_region ?_
    refine S_v E rfl (R_move E rfl) rfl ?_
    clear E a; intro a E
    refine S_v E rfl (R_move E rfl) rfl ?_
    clear E a; intro a E
    replace S := S.front1
    refine S_x (X_yield (x := x_3) E S rfl rfl rfl hY hM_1 (by (first | (simp; done) | exact List.prefix_refl _ | (rw [pre_take (by assumption)]; exact List.take_prefix _ _) | exact pre_take_lt (by assumption))) rfl hJ ?_)
    clear E a S; rintro a w M_5 c_6 go_7 hM_5 hJ S E
    replace hbx1 := hM_5.2 _ _ hbx1
    replace h0 := h0.le hM_5
    cases go_7
    · replace hJ : X (l0.take k ++ [x_3]) M_5 c_6 := hJ
      refine S_v E rfl (R_not E rfl) rfl ?_
      clear E a; intro a E
      refine WL_nil ?_
      refine T_n ?_
      refine WP_condT E rfl rfl ?_
      refine WP_ret ?_
      refine B_r ?_
      refine T_r ?_
      refine T_r ?_
      refine B_r ?_
      replace S := S.front1
      exact F_retM0 E S Try.results132 (fun w S => ⟨_, rfl, M_5, _, (hM_1.trans hM_5), .inr ⟨(l0.take k ++ [x_3]), (by first | assumption | ((first | (simp; done) | exact List.prefix_refl _ | (rw [pre_take (by assumption)]; exact List.take_prefix _ _) | exact pre_take_lt (by assumption)))), hJ⟩, S⟩)
    · replace hJ : J (l0.take k ++ [x_3]) M_5 c_6 := hJ
      refine S_v E rfl (R_not E rfl) rfl ?_
      clear E a; intro a E
      refine WL_nil ?_
      refine T_n ?_
      refine WP_condF E rfl rfl ?_
      refine WP_skip ?_
      refine B_n ?_
      refine T_n ?_
      refine WP_region ?_
      refine S_v E rfl (R_addx (m := ((k + 1 : Nat) : Int)) E rfl rfl (by omega) (by omega)) rfl ?_
      clear E a; intro a E
      refine S_v E rfl (R_move E rfl) rfl ?_
      clear E a; intro a E
      refine WL_nil ?_
      refine T_n ?_
      replace S := S.front1
      exact ⟨k + 1, ⟨M_5, _, (hM_1.trans hM_5), S, E.keep ⟨rfl, rfl, rfl, rfl, trivial⟩, by ((try clear S); (try clear E); first | assumption | omega | rfl | (simp; done) | (simp_all; done) | (simp [List.take_add_one, *]; done) | grind [List.take_add_one]), J_eq hJ (by ((try clear S); (try clear E); first | assumption | omega | rfl | (simp; done) | (simp_all; done) | (simp [List.take_add_one, *]; done) | grind [List.take_add_one]))⟩, by omega⟩
  · replace hc_2 := of_decide_eq_false hc_2
    refine WP_exit ?_
    refine T_x ?_
    refine T_x ?_
    refine B_x ?_
    refine F_nrm ?_
    replace S := S.front1
    replace S := S.front1
    have hpre : l0.take k = l0 := by ((try clear S); (try clear E); first | rfl | (simp; done) | (simp_all; done) | grind [List.take_add_one])
    rw [hpre] at hJ
    exact F_retM0 E S Try.results132 (fun w S => ⟨_, rfl, M_1, _, hM_1, .inl hJ, S⟩)

set_option maxRecDepth 100000 in
set_option maxHeartbeats 4000000 in
theorem slices_Values {M : Hp} {v0 : Value} {l0 : List Int} (h0 : RdI M v0 l0) :
    Pu Try.prog (.func (.func 88) #[] #[]) M [v0] (fun r M' => SeqV Try.prog r M' RInt l0) := by
  refine Pu_enter Try.func88 rfl Try.ntmps88 rfl Try.call88 ?_
  intro a w M1 H hM1 S E
  replace h0 := h0.le hM1
  have b0 := h0.bound
  refine WP_seq ?_
  refine WP_region ?_
  refine S_x (X_box (cs := #[v0]) E S rfl rfl (cells_one (RdS.one' h0)) ?_)
  clear E a S; rintro a w b_1 E S
  obtain ⟨M_2, hM_2, hb_1, S⟩ := S.freezeB
  replace h0 := h0.le hM_2
  refine S_v E rfl (R_assign E rfl) rfl ?_
  clear E a; intro a E
  refine WL_nil ?_
  refine T_n ?_
  refine WP_seq ?_
  refine WP_region ?_
  refine S_v E rfl (R_makeFunc E rfl rfl) rfl ?_
  clear E a; intro a E
  refine S_v E rfl (R_assign E rfl) rfl ?_
  clear E a; intro a E
  refine WL_nil ?_
  refine T_n ?_
  refine WP_ret ?_
  exact F_ret1 E Try.results88 rfl ⟨_, rfl, M_2, hM_2, (SeqV_eq (slices_Values1 h0 hb_1) (by ((try clear S); (try clear E); first | rfl | (simp; done) | (simp_all; done) | grind [List.take_add_one]))), S⟩

set_option maxRecDepth 100000 in
set_option maxHeartbeats 4000000 in
theorem impl_seqs {M : Hp} {v0 : Value} {l0 : List (List Int)} (h0 : RdII M v0 l0) (hb : l0.length ≤ 1000000000) :
    Pu Try.prog (.func (.func 79) #[] #[]) M [v0] (fun r M' => RdS 1 (RSq Try.prog RInt) M' r l0) := by
  refine Pu_enter Try.func79 rfl Try.ntmps79 rfl Try.call79 ?_
  intro a w M1 H hM1 S E
  replace h0 := h0.le hM1
  have b0 := h0.bound
  refine WP_seq ?_
  refine WP_region ?_
  refine S_v E rfl (R_assign E rfl) rfl ?_
  clear E a; intro a E
  refine WL_nil ?_
  refine T_n ?_
  refine WP_seq ?_
  refine WP_region ?_
  refine S_v E rfl (R_assign E rfl) rfl ?_
  clear E a; intro a E
  refine WL_nil ?_
  refine T_n ?_
  refine WP_seq ?_
  refine WP_seq ?_
  refine WP_region ?_
  refine S_v E rfl (R_move E rfl) rfl ?_
  clear E a; intro a E
  refine S_v E rfl (R_lenV E rfl T22 h0.len) rfl ?_
  clear E a; intro a E
  refine S_v E rfl (R_move E rfl) rfl ?_
  clear E a; intro a E
  refine WL_nil ?_
  refine T_n ?_
  refine WP_block ?_
  replace S : St w M1 (OwnC 82 1 (.slice none 0 0) ([] : List (List Int)).length [] :: _) := S.ownNil
  have hr_2 : RowsR (RSq Try.prog RInt) 1 M1 ([] : List (List Int)) [] := RowsR.nil
  have hre : ([] : List (List Int)) = l0.take 0 := by ((try clear S); (try clear E); first | assumption | omega | rfl | (simp; done) | (simp_all; done) | (simp [List.take_add_one, *]; done) | grind [List.take_add_one])
  replace S := S.reR hre
  replace hr_2 := hr_2.eq hre
  clear hre
  refine WP_loop (γ := Nat) (fun (k : Nat) a w => ∃ (M_3 : Hp) (u3 : Value) (xs3 : List Value), Hp.le M1 M_3 ∧ St w M_3 (OwnC 82 1 u3 (l0.take k).length xs3 :: H) ∧ Env a 19 [] [(3, u3), (6, v0), (7, .int .i64 (((l0).length : Nat) : Int)), (8, .int .i64 ((k : Nat) : Int))] ∧ (k ≤ (l0).length) ∧ RowsR (RSq Try.prog RInt) 1 M_3 (l0.take k) xs3) (fun k => ((l0).length) - k) 0 ⟨M1, _, _, Hp.le.refl _, S, E.keep ⟨rfl, rfl, rfl, rfl, trivial⟩, by ((try clear S); (try clear E); first | assumption | omega | rfl | (simp; done) | (simp_all; done) | (simp [List.take_add_one, *]; done) | grind [List.take_add_one]), hr_2⟩ ?_
  try clear E
  try clear S
  try clear a
  try clear w
  rintro k a w ⟨M_3, u3, xs3, hM_3, S, E, hL0_0, hr3⟩
  replace h0 := h0.le hM_3
  refine WP_seq ?_
  refine WP_region ?_
  refine S_v E rfl (R_lss E rfl rfl) rfl ?_
  clear E a; intro a E
  refine WL_nil ?_
  refine T_n ?_
  refine WP_seq ?_
  refine WP_cond E rfl (fun hc_4 => ?_) (fun hc_4 => ?_)
  · replace hc_4 := of_decide_eq_true hc_4
    refine WP_skip ?_
    refine T_n ?_
    refine WP_seq ?_
    refine WP_block ?_
    refine WP_seq ?_
    refine WP_region ?_
    obtain ⟨x_5, hx_5⟩ : ∃ x, (l0)[k]? = some x := ⟨_, List.getElem?_eq_getElem (by first | omega | (simp; done) | (simp; omega) | (simp_all; omega))⟩
    obtain ⟨p_6, u_7, hp_6, qp_6, hu_7⟩ := h0.at hx_5
    have bu_7 := hu_7.bound
    refine S_v E rfl (R_idx E rfl rfl T22 hp_6 rfl) rfl ?_
    clear E a; intro a E
    refine S_v E rfl (R_loadM E rfl Try.isAgg24 S.imm qp_6) rfl ?_
    clear E a; intro a E
    refine S_v E rfl (R_assign E rfl) rfl ?_
    clear E a; intro a E
    refine WL_nil ?_
    refine T_n ?_
    refine WP_region ?_
    refine S_v E rfl (R_move E rfl) rfl ?_
    clear E a; intro a E
    refine S_v E rfl (R_move E rfl) rfl ?_
    clear E a; intro a E
    refine S_x (X_pu E S rfl rfl rfl (slices_Values hu_7) (Hp.le.refl _) ?_)
    clear E a S; rintro a v_9 w M_8 hM_8 hv_9 S E
    replace h0 := h0.le hM_8
    replace hr3 := hr3.le RSq_mono hM_8
    replace hu_7 := hu_7.le hM_8
    refine S_x (X_buildM (R := (RSq Try.prog RInt)) (vs := [v_9]) (xs := [x_5]) RSq_mono E S rfl T84 rfl rfl rfl (by intro u hu; simp only [List.mem_cons, List.not_mem_nil, or_false] at hu; rcases hu with rfl <;> first | exact hv_9.1) rfl (rowsC (R := (RSq Try.prog RInt)) ⟨_, rfl, hv_9⟩ rowsN) ?_)
    clear E a S; rintro a v_10 w M_11 hM_11 hv_10 S E
    replace h0 := h0.le hM_11
    replace hr3 := hr3.le RSq_mono hM_11
    replace hu_7 := hu_7.le hM_11
    replace hv_9 := hv_9.le hM_11
    refine S_x (X_appendR (R := (RSq Try.prog RInt)) (zs := l0.take k) (ys := [x_5]) E S hr3 rfl rfl rfl T84 hv_10 one_RSq (by first | omega | (simp; done) | (simp; omega) | (simp_all; omega)) (by first | omega | (simp; done) | (simp; omega) | (simp_all; omega)) ?_)
    clear E a S; rintro a w v_12 xs_13 E hr_14 S
    refine S_v E rfl (R_assign E rfl) rfl ?_
    clear E a; intro a E
    refine WL_nil ?_
    refine B_n ?_
    refine T_n ?_
    refine WP_region ?_
    refine S_v E rfl (R_addx (m := ((k + 1 : Nat) : Int)) E rfl rfl (by omega) (by omega)) rfl ?_
    clear E a; intro a E
    refine S_v E rfl (R_move E rfl) rfl ?_
    clear E a; intro a E
    refine WL_nil ?_
    refine T_n ?_
    have hre : (l0.take k) ++ [x_5] = l0.take (k + 1) := by ((try clear S); (try clear E); first | assumption | omega | rfl | (simp; done) | (simp_all; done) | (simp [List.take_add_one, *]; done) | grind [List.take_add_one])
    replace S := S.reR hre
    replace hr_14 := hr_14.eq hre
    clear hre
    exact ⟨k + 1, ⟨M_11, _, _, (hM_3.trans (hM_8.trans hM_11)), S, E.keep ⟨rfl, rfl, rfl, rfl, trivial⟩, by ((try clear S); (try clear E); first | assumption | omega | rfl | (simp; done) | (simp_all; done) | (simp [List.take_add_one, *]; done) | grind [List.take_add_one]), hr_14⟩, by omega⟩
  · replace hc_4 := of_decide_eq_false hc_4
    refine WP_exit ?_
    refine T_x ?_
    refine T_x ?_
    refine B_x ?_
    refine T_n ?_
    refine WP_seq ?_
    refine WP_region ?_
    refine S_v E rfl (R_move E rfl) rfl ?_
    clear E a; intro a E
    refine S_v E rfl (R_assign E rfl) rfl ?_
    clear E a; intro a E
    refine WL_nil ?_
    refine T_n ?_
    refine WP_ret ?_
    have S0 := S; clear S
    obtain ⟨M_15, hM_15, hz_16, S⟩ := S0.freezeR hr3 RSq_mono (by (first | omega | (simp; omega) | (simp; done) | (simp_all; omega) | grind))
    clear S0
    replace h0 := h0.le hM_15
    exact F_ret1 E Try.results79 rfl ⟨_, rfl, M_15, (hM_3.trans hM_15), (by rw [show l0 = (l0.take k) from by (rw [List.take_of_length_le (by omega)])]; exact hz_16), S⟩

set_option maxRecDepth 100000 in
set_option maxHeartbeats 4000000 in
theorem it_Empty1 {M : Hp}  :
    SeqV Try.prog (.func (.func 159) #[] #[]) M (RInt) ([] : List Int) := by
  refine SeqV_enter Try.func159 rfl Try.ntmps159 rfl Try.call159 ?_
  intro y J X a w M1 c H hJM hM1 hY hJ S E
  refine WP_skip ?_
  refine F_nrm ?_
  replace S := S.front1
  replace S := S.front1
  have hpre : [] = ([] : List Int) := by ((try clear S); (try clear E); first | rfl | (simp; done) | (simp_all; done) | grind [List.take_add_one])
  rw [hpre] at hJ
  exact F_retM0 E S Try.results159 (fun w S => ⟨_, rfl, M1, _, (Hp.le.refl _), .inl hJ, S⟩)

set_option maxRecDepth 100000 in
set_option maxHeartbeats 4000000 in
theorem it_Empty {M : Hp}  :
    Pu Try.prog (.func (.func 126) #[] #[]) M [] (fun r M' => SeqV Try.prog r M' RInt ([] : List Int)) := by
  refine Pu_enter Try.func126 rfl Try.ntmps126 rfl Try.call126 ?_
  intro a w M1 H hM1 S E
  refine WP_seq ?_
  refine WP_region ?_
  refine S_v E rfl (R_assign E rfl) rfl ?_
  clear E a; intro a E
  refine WL_nil ?_
  refine T_n ?_
  refine WP_seq ?_
  refine WP_region ?_
  refine S_v E rfl (R_assign E rfl) rfl ?_
  clear E a; intro a E
  refine WL_nil ?_
  refine T_n ?_
  refine WP_ret ?_
  exact F_ret1 E Try.results126 rfl ⟨_, rfl, M1, (Hp.le.refl _), (SeqV_eq (it_Empty1 ) (by ((try clear S); (try clear E); first | rfl | (simp; done) | (simp_all; done) | grind [List.take_add_one]))), S⟩

set_option maxRecDepth 100000 in
set_option maxHeartbeats 4000000 in
theorem it_IntersectBy1 {M : Hp} {v0 : Value} {l0 : List (List Int)} (h0 : RdS 1 (RSq Try.prog RInt) M v0 l0) {v5 : Value} {f5 : Int → Int} (h5 : PF1I Try.prog v5 M f5) (hne : 0 < l0.length) {bx1 : Nat} (hbx1 : M bx1 = some (.cells #[v0] 84)) {bx2 : Nat} (hbx2 : M bx2 = some (.cells #[v5] 87)) :
    SeqV Try.prog (.func (.func 128) #[] #[.pointer (some ⟨bx1, 0, none⟩), .pointer (some ⟨bx2, 0, none⟩)]) M (RInt) (meetF f5 l0) := by
  refine SeqV_enter Try.func128 rfl Try.ntmps128 rfl Try.call128 ?_
  intro y J X a w M1 c H hJM hM1 hY hJ S E
  replace hbx1 := hM1.2 _ _ hbx1
  replace hbx2 := hM1.2 _ _ hbx2
  replace h0 := h0.le RSq_mono hM1
  replace h5 := h5.le hM1
  have b0 := h0.bound
  refine WP_seq ?_
  refine WP_region ?_
  refine S_x (X_box (cs := #[y]) E S rfl rfl (cells_one hY.1) ?_)
  clear E a S; rintro a w b_1 E S
  obtain ⟨M_2, hM_2, hb_1, S⟩ := S.freezeB
  replace hbx1 := hM_2.2 _ _ hbx1
  replace hbx2 := hM_2.2 _ _ hbx2
  replace h0 := h0.le RSq_mono hM_2
  replace h5 := h5.le hM_2
  replace hJ := hJM _ _ _ _ hM_2 hJ
  refine WL_nil ?_
  refine T_n ?_
  refine WP_seq ?_
  refine WP_region ?_
  refine S_v E rfl (R_loadM E rfl Try.isAgg84 S.imm (cellM_box hbx1)) rfl ?_
  clear E a; intro a E
  refine S_v E rfl (R_loadM E rfl Try.isAgg84 S.imm (cellM_box hbx1)) rfl ?_
  clear E a; intro a E
  refine S_v E rfl (R_lenV E rfl T84 h0.len) rfl ?_
  clear E a; intro a E
  refine S_v E rfl (R_subx (m := (((l0).length - 1 : Nat) : Int)) E rfl rfl (by omega) (by omega)) rfl ?_
  clear E a; intro a E
  obtain ⟨x_3, hx_3⟩ : ∃ x, (l0)[(l0).length - 1]? = some x := ⟨_, List.getElem?_eq_getElem (by first | omega | (simp; done) | (simp; omega) | (simp_all; omega))⟩
  obtain ⟨p_4, u_5, hp_4, qp_4, hu_5⟩ := RdQ.at h0 hx_3
  refine S_v E rfl (R_idx E rfl rfl T84 hp_4 rfl) rfl ?_
  clear E a; intro a E
  refine S_v E rfl (R_loadM E rfl Try.isAgg82 S.imm qp_4) rfl ?_
  clear E a; intro a E
  refine S_v E rfl (R_assign E rfl) rfl ?_
  clear E a; intro a E
  refine WL_nil ?_
  refine T_n ?_
  refine WP_seq ?_
  refine WP_region ?_
  refine S_x (X_makeMap E S rfl ?_)
  clear E a S; rintro a w b_6 E S
  replace S : St w M_2 (OwnE Value.bool b_6 ([] : List (Int × Bool)) :: _) := S
  refine S_x (X_alloc (cs := #[.map none]) E S rfl Try.zeroValue119 rfl ?_)
  clear E a S; rintro a w b_7 E S
  refine S_x0 (X_store E S rfl rfl (Try.sizeOf119 _) rfl ?_)
  clear E a S; rintro a w E S
  refine WL_nil ?_
  refine T_n ?_
  refine WP_seq ?_
  refine WP_seq ?_
  refine WP_region ?_
  refine S_v E rfl (R_move E rfl) rfl ?_
  clear E a; intro a E
  refine WL_nil ?_
  refine T_n ?_
  refine WP_block ?_
  replace S := S.front3
  replace S := S.front2
  replace S := S.front2
  replace E := E.keep (l' := [(1, .pointer (some ⟨bx1, 0, none⟩)), (2, .pointer (some ⟨bx2, 0, none⟩)), (3, .pointer (some ⟨b_1, 0, none⟩)), (5, .pointer (some ⟨b_7, 0, none⟩)), (26, u_5)]) ⟨rfl, rfl, rfl, rfl, rfl, trivial⟩
  replace S := S.front2
  replace S := S.front2
  replace S := S.reM (L' := (encE Value.bool (bmap (keyL ((([] : List Int)).map (f5))) (fun _ => false)))) (congrArg (encE Value.bool) (show ([] : List (Int × Bool)) = bmap (keyL ((([] : List Int)).map (f5))) (fun _ => false) by first | (simp [bmap, keyL]; done) | exact ad_seq (f5)))
  replace S := S.front2
  have S0 := S; clear S; have S := St.pack [blk b_7 (.cells #[.map (some b_6)] 119), OwnE Value.bool b_6 (bmap (keyL ((([] : List Int)).map (f5))) (fun _ => false)), c] S0; clear S0
  refine WP_range (RV := RInt) (l := x_3) (fun pre M c => ∃ (c0 : HProp), c = bigs [blk b_7 (.cells #[.map (some b_6)] 119), OwnE Value.bool b_6 (bmap (keyL ((pre).map (f5))) (fun _ => false)), c0] ∧ (J ([] : List Int) M c0)) (fun _ _ _ _ => False) E S rfl hu_5 (Hp.le.refl _) (fun _ _ _ h => by rw [h]; rfl) (by decide) (by rintro _ M M' c hM ⟨c0, rfl, f0⟩; exact ⟨_, rfl, hJM _ _ _ _ hM f0⟩) ⟨_, rfl, J_eq hJ (by ((try clear S); (try clear E); first | assumption | omega | rfl | (simp; done) | (simp_all; done) | (simp [List.take_add_one, *]; done) | grind [List.take_add_one]))⟩ ?_ ?_ ?_
  clear E S
  · rintro lb_9 rec_10 pre x _ a w M_8 _ G hM_8 hp_11 rfl ⟨c0, rfl, f0⟩ E S
    replace E : Env a 94 [] [(27, .int .i64 x), (1, .pointer (some ⟨bx1, 0, none⟩)), (2, .pointer (some ⟨bx2, 0, none⟩)), (3, .pointer (some ⟨b_1, 0, none⟩)), (5, .pointer (some ⟨b_7, 0, none⟩)), (26, u_5)] := E
    replace S := S.swap.unpack3
    have hq0 := prefix_lt hp_11
    replace hbx1 := hM_8.2 _ _ hbx1
    replace hbx2 := hM_8.2 _ _ hbx2
    replace h0 := h0.le RSq_mono hM_8
    replace h5 := h5.le hM_8
    replace hb_1 := hM_8.2 _ _ hb_1
    replace hu_5 := hu_5.le hM_8
    refine WP_region ?_
    refine S_v E rfl (R_assign E rfl) rfl ?_
    clear E a; intro a E
    refine WL_nil ?_
    refine T_n ?_
    replace S := S.front3
    refine rb S ?_
    clear S; intro w S
    refine WP_block ?_
    refine WP_seq ?_
    refine WP_region ?_
    refine S_v E rfl (R_loadM E rfl Try.isAgg87 S.imm (cellM_box hbx2)) rfl ?_
    clear E a; intro a E
    refine S_v E rfl (R_move E rfl) rfl ?_
    clear E a; intro a E
    refine S_x (X_pu E S rfl rfl rfl (h5.2 x) (Hp.le.refl _) ?_)
    clear E a S; rintro a _ w M_13 hM_13 rfl S E
    replace hbx1 := hM_13.2 _ _ hbx1
    replace hbx2 := hM_13.2 _ _ hbx2
    replace h0 := h0.le RSq_mono hM_13
    replace h5 := h5.le hM_13
    replace hb_1 := hM_13.2 _ _ hb_1
    replace hu_5 := hu_5.le hM_13
    replace f0 := hJM _ _ _ _ hM_13 f0
    refine S_v E rfl (R_assign E rfl) rfl ?_
    clear E a; intro a E
    refine WL_nil ?_
    refine T_n ?_
    refine WP_region ?_
    refine S_v E rfl (R_load E rfl (Try.isAgg119 _) (cell_blk (S.mem (.tail _ (.head _))))) rfl ?_
    clear E a; intro a E
    refine S_v E rfl (R_move E rfl) rfl ?_
    clear E a; intro a E
    replace S := S.front2
    refine S_x0 (X_updateE (vf := Value.bool) (u := false) E S MT119 rfl rfl rfl ?_)
    clear E a S; rintro a w E S
    refine WL_nil ?_
    refine B_n ?_
    replace S := S.front3
    replace S := S.front1
    replace S := S.front3
    replace S := S.front2
    replace S := S.front2
    replace S := S.reM (L' := (encE Value.bool (bmap (keyL (((pre ++ [x])).map (f5))) (fun _ => false)))) (congrArg (encE Value.bool) (show putK (bmap (keyL ((pre).map (f5))) (fun _ => false)) (f5 x) false = bmap (keyL (((pre ++ [x])).map (f5))) (fun _ => false) by first | (simp [bmap, keyL]; done) | exact ad_seq (f5)))
    replace S := S.front2
    have S0 := S; clear S; have S := (St.pack [blk b_7 (.cells #[.map (some b_6)] 119), OwnE Value.bool b_6 (bmap (keyL (((pre ++ [x])).map (f5))) (fun _ => false)), c0] S0).swap; clear S0
    exact ⟨M_13, _, hM_13, ⟨_, rfl, J_eq f0 (by ((try clear S); (try clear E); first | assumption | omega | rfl | (simp; done) | (simp_all; done) | (simp [List.take_add_one, *]; done) | grind [List.take_add_one]))⟩, S⟩
  · rintro a w M_14 _ D_15 hM_14 ⟨c0, rfl, f0⟩ S E
    replace S := S.unpack3
    replace hbx1 := hM_14.2 _ _ hbx1
    replace hbx2 := hM_14.2 _ _ hbx2
    replace h0 := h0.le RSq_mono hM_14
    replace h5 := h5.le hM_14
    replace hb_1 := hM_14.2 _ _ hb_1
    replace hu_5 := hu_5.le hM_14
    refine B_n ?_
    refine T_n ?_
    refine WP_seq ?_
    refine WP_seq ?_
    refine WP_region ?_
    refine S_v E rfl (R_loadM E rfl Try.isAgg84 S.imm (cellM_box hbx1)) rfl ?_
    clear E a; intro a E
    refine S_v E rfl (R_lenV E rfl T84 h0.len) rfl ?_
    clear E a; intro a E
    refine S_v E rfl (R_subx (m := (((l0).length : Nat) : Int) - 2) E rfl rfl (by omega) (by omega)) rfl ?_
    clear E a; intro a E
    refine S_v E rfl (R_assign E rfl) rfl ?_
    clear E a; intro a E
    refine WL_nil ?_
    refine T_n ?_
    refine WP_block ?_
    replace S := S.front1
    replace S := S.reM (L' := (encE Value.bool (bmap (sjI (f5) l0 0) (fun _ => false)))) (congrArg (encE Value.bool) (show bmap (keyL ((x_3).map (f5))) (fun _ => false) = bmap (sjI (f5) l0 0) (fun _ => false) by first | (show _ = bmap (keyL _) _; rw [(at_get (n := l0.length - 1) (by assumption) (by omega))]; done) | (rw [sd_end (by assumption)]; rfl)))
    refine WP_loop (γ := Nat) (fun (j : Nat) a w => ∃ (M_16 : Hp) (cL1 : HProp) (Ds1 : List Nat), Hp.le M_14 M_16 ∧ St w M_16 (OwnE Value.bool b_6 (bmap (sjI (f5) l0 j) (fun _ => false)) :: blk b_7 (.cells #[.map (some b_6)] 119) :: cL1 :: mks Ds1 :: H) ∧ Env a 94 (Ds1.map mk) [(1, .pointer (some ⟨bx1, 0, none⟩)), (2, .pointer (some ⟨bx2, 0, none⟩)), (3, .pointer (some ⟨b_1, 0, none⟩)), (5, .pointer (some ⟨b_7, 0, none⟩)), (8, .int .i64 ((l0.length : Int) - 2 - (j : Int)))] ∧ (j ≤ l0.length - 2) ∧ J ([] : List Int) M_16 cL1) (fun j => l0.length - j) 0 ⟨M_14, _, _, Hp.le.refl _, S, E.keep ⟨rfl, rfl, rfl, rfl, look_int (i := (((l0).length : Nat) : Int) - 2) rfl (by (omega)), trivial⟩, (by omega), J_eq f0 (by ((try clear S); (try clear E); first | assumption | omega | rfl | (simp; done) | (simp_all; done) | (simp [List.take_add_one, *]; done) | grind [List.take_add_one]))⟩ ?_
    try clear E
    try clear S
    try clear a
    try clear w
    rintro j a w ⟨M_16, cL1, Ds1, hM_16, S, E, hL1_0, f0⟩
    replace hbx1 := hM_16.2 _ _ hbx1
    replace hbx2 := hM_16.2 _ _ hbx2
    replace h0 := h0.le RSq_mono hM_16
    replace h5 := h5.le hM_16
    replace hb_1 := hM_16.2 _ _ hb_1
    replace hu_5 := hu_5.le hM_16
    refine WP_seq ?_
    refine WP_seq ?_
    refine WP_region ?_
    refine S_v E rfl (R_move E rfl) rfl ?_
    clear E a; intro a E
    refine S_v E rfl (R_gtr E rfl rfl) rfl ?_
    clear E a; intro a E
    refine S_v E rfl (R_move E rfl) rfl ?_
    clear E a; intro a E
    refine split_bool (decide (0 < (l0.length : Int) - 2 - (j : Int))) (fun hc_17 => ?_) (fun hc_17 => ?_)
    · replace E := E.val (t := 37) rfl hc_17
      replace E := E.val (t := 38) rfl hc_17
      replace hc_17 := of_decide_eq_true hc_17
      refine WL_guard_yes E rfl rfl ?_
      refine S_v E rfl (R_load E rfl (Try.isAgg119 _) (cell_blk (S.mem (.tail _ (.head _))))) rfl ?_
      clear E a; intro a E
      refine WL_guard_yes E rfl rfl ?_
      refine S_v E rfl ((R_lenO E S MT119 rfl).trans (by rw [encE_len])) rfl ?_
      clear E a; intro a E
      refine WL_guard_yes E rfl rfl ?_
      refine S_v E rfl (R_neq E rfl rfl) rfl ?_
      clear E a; intro a E
      refine S_v E rfl (R_pickT E rfl rfl) rfl ?_
      clear E a; intro a E
      refine WL_nil ?_
      refine T_n ?_
      refine WP_cond E rfl (fun hc_18 => ?_) (fun hc_18 => ?_)
      · replace hc_18 := of_decide_eq_true hc_18
        refine WP_skip ?_
        refine T_n ?_
        refine WP_seq ?_
        refine WP_block ?_
        refine WP_seq ?_
        refine WP_seq ?_
        refine WP_region ?_
        refine S_v E rfl (R_loadM E rfl Try.isAgg84 S.imm (cellM_box hbx1)) rfl ?_
        clear E a; intro a E
        refine S_v E rfl (R_move E rfl) rfl ?_
        clear E a; intro a E
        obtain ⟨x_19, hx_19⟩ : ∃ x, (l0)[((l0.length : Int) - 2 - (j : Int)).toNat]? = some x := ⟨_, List.getElem?_eq_getElem (by first | omega | (simp; done) | (simp; omega) | (simp_all; omega))⟩
        obtain ⟨p_20, u_21, hp_20, qp_20, hu_21⟩ := RdQ.at h0 hx_19
        refine S_v E rfl (R_idx E rfl rfl T84 hp_20 (by omega)) rfl ?_
        clear E a; intro a E
        refine S_v E rfl (R_loadM E rfl Try.isAgg82 S.imm qp_20) rfl ?_
        clear E a; intro a E
        refine WL_nil ?_
        refine T_n ?_
        refine WP_block ?_
        replace S := S.front1
        replace S := S.front2
        replace S := S.front2
        replace S := S.front2
        replace E := E.keep (l' := [(1, .pointer (some ⟨bx1, 0, none⟩)), (2, .pointer (some ⟨bx2, 0, none⟩)), (3, .pointer (some ⟨b_1, 0, none⟩)), (5, .pointer (some ⟨b_7, 0, none⟩)), (8, .int .i64 ((l0.length : Int) - 2 - (j : Int))), (48, u_21)]) ⟨rfl, rfl, rfl, rfl, rfl, rfl, trivial⟩
        replace S := S.front2
        replace S := S.front2
        replace S := S.reM (L' := (encE Value.bool (bmap (sjI (f5) l0 j) (mkd ((([] : List Int)).map (f5)))))) (congrArg (encE Value.bool) (show bmap (sjI (f5) l0 j) (fun _ => false) = bmap (sjI (f5) l0 j) (mkd ((([] : List Int)).map (f5))) by first | (rw [List.map_nil, mk_start]; done) | (refine sq_yes (f5) (sj_nodup _ _ _) ?_; assumption) | (refine sq_no (f5) ?_; assumption)))
        replace S := S.front2
        have S0 := S; clear S; have S := St.pack [blk b_7 (.cells #[.map (some b_6)] 119), OwnE Value.bool b_6 (bmap (sjI (f5) l0 j) (mkd ((([] : List Int)).map (f5)))), cL1] S0; clear S0
        refine WP_range (RV := RInt) (l := x_19) (fun pre M c => ∃ (c2 : HProp), c = bigs [blk b_7 (.cells #[.map (some b_6)] 119), OwnE Value.bool b_6 (bmap (sjI (f5) l0 j) (mkd ((pre).map (f5)))), c2] ∧ (J ([] : List Int) M c2)) (fun _ _ _ _ => False) E S rfl hu_21 (Hp.le.refl _) (fun _ _ _ h => by rw [h]; rfl) (by decide) (by rintro _ M M' c hM ⟨c2, rfl, f0⟩; exact ⟨_, rfl, hJM _ _ _ _ hM f0⟩) ⟨_, rfl, J_eq f0 (by ((try clear S); (try clear E); first | assumption | omega | rfl | (simp; done) | (simp_all; done) | (simp [List.take_add_one, *]; done) | grind [List.take_add_one]))⟩ ?_ ?_ ?_
        clear E S
        · rintro lb_23 rec_24 pre x _ a w M_22 _ G hM_22 hp_25 rfl ⟨c2, rfl, f0⟩ E S
          replace E : Env a 94 [] [(49, .int .i64 x), (1, .pointer (some ⟨bx1, 0, none⟩)), (2, .pointer (some ⟨bx2, 0, none⟩)), (3, .pointer (some ⟨b_1, 0, none⟩)), (5, .pointer (some ⟨b_7, 0, none⟩)), (8, .int .i64 ((l0.length : Int) - 2 - (j : Int))), (48, u_21)] := E
          replace S := S.swap.unpack3
          have hq2 := prefix_lt hp_25
          replace hbx1 := hM_22.2 _ _ hbx1
          replace hbx2 := hM_22.2 _ _ hbx2
          replace h0 := h0.le RSq_mono hM_22
          replace h5 := h5.le hM_22
          replace hb_1 := hM_22.2 _ _ hb_1
          replace hu_5 := hu_5.le hM_22
          replace hu_21 := hu_21.le hM_22
          refine WP_region ?_
          refine S_v E rfl (R_assign E rfl) rfl ?_
          clear E a; intro a E
          refine WL_nil ?_
          refine T_n ?_
          replace S := S.front3
          refine rb S ?_
          clear S; intro w S
          refine WP_block ?_
          refine WP_seq ?_
          refine WP_region ?_
          refine S_v E rfl (R_loadM E rfl Try.isAgg87 S.imm (cellM_box hbx2)) rfl ?_
          clear E a; intro a E
          refine S_v E rfl (R_move E rfl) rfl ?_
          clear E a; intro a E
          refine S_x (X_pu E S rfl rfl rfl (h5.2 x) (Hp.le.refl _) ?_)
          clear E a S; rintro a _ w M_27 hM_27 rfl S E
          replace hbx1 := hM_27.2 _ _ hbx1
          replace hbx2 := hM_27.2 _ _ hbx2
          replace h0 := h0.le RSq_mono hM_27
          replace h5 := h5.le hM_27
          replace hb_1 := hM_27.2 _ _ hb_1
          replace hu_5 := hu_5.le hM_27
          replace hu_21 := hu_21.le hM_27
          replace f0 := hJM _ _ _ _ hM_27 f0
          refine S_v E rfl (R_assign E rfl) rfl ?_
          clear E a; intro a E
          refine WL_nil ?_
          refine T_n ?_
          refine WP_seq ?_
          refine WP_region ?_
          refine S_v E rfl (R_load E rfl (Try.isAgg119 _) (cell_blk (S.mem (.tail _ (.head _))))) rfl ?_
          clear E a; intro a E
          refine S_v E rfl (R_move E rfl) rfl ?_
          clear E a; intro a E
          replace S := S.front2
          refine S_x (X_lookupE (vf := Value.bool) (zb := false) E S rfl MT119 rfl rfl ?_)
          clear E a S; rintro a w E S
          replace S : St w M_27 (OwnE Value.bool b_6 (bmap (sjI (f5) l0 j) (mkd ((pre).map (f5)))) :: _) := S
          refine S_v E rfl (R_move E rfl) rfl ?_
          clear E a; intro a E
          refine S_v E rfl (R_extract E rfl rfl) rfl ?_
          clear E a; intro a E
          refine S_v E rfl (R_extract E rfl rfl) rfl ?_
          clear E a; intro a E
          refine S_v E rfl (R_assign E rfl) rfl ?_
          clear E a; intro a E
          refine S_v E rfl (R_assign E rfl) rfl ?_
          clear E a; intro a E
          refine WL_nil ?_
          refine T_n ?_
          refine WP_seq ?_
          refine WP_region ?_
          refine S_v E rfl (R_move E rfl) rfl ?_
          clear E a; intro a E
          refine WL_nil ?_
          refine T_n ?_
          refine WP_cond E rfl (fun hc_28 => ?_) (fun hc_28 => ?_)
          · refine WP_region ?_
            refine S_v E rfl (R_load E rfl (Try.isAgg119 _) (cell_blk (S.mem (.tail _ (.tail _ (.head _)))))) rfl ?_
            clear E a; intro a E
            refine S_v E rfl (R_move E rfl) rfl ?_
            clear E a; intro a E
            refine S_x0 (X_updateE (vf := Value.bool) (u := true) E S MT119 rfl rfl rfl ?_)
            clear E a S; rintro a w E S
            refine WL_nil ?_
            refine B_n ?_
            replace S := S.front3
            replace S := S.front1
            replace S := S.front3
            replace S := S.front2
            replace S := S.front2
            replace S := S.reM (L' := (encE Value.bool (bmap (sjI (f5) l0 j) (mkd (((pre ++ [x])).map (f5)))))) (congrArg (encE Value.bool) (show putK (bmap (sjI (f5) l0 j) (mkd ((pre).map (f5)))) (f5 x) true = bmap (sjI (f5) l0 j) (mkd (((pre ++ [x])).map (f5))) by first | (rw [List.map_nil, mk_start]; done) | (refine sq_yes (f5) (sj_nodup _ _ _) ?_; assumption) | (refine sq_no (f5) ?_; assumption)))
            replace S := S.front2
            have S0 := S; clear S; have S := (St.pack [blk b_7 (.cells #[.map (some b_6)] 119), OwnE Value.bool b_6 (bmap (sjI (f5) l0 j) (mkd (((pre ++ [x])).map (f5)))), c2] S0).swap; clear S0
            exact ⟨M_27, _, hM_27, ⟨_, rfl, J_eq f0 (by ((try clear S); (try clear E); first | assumption | omega | rfl | (simp; done) | (simp_all; done) | (simp [List.take_add_one, *]; done) | grind [List.take_add_one]))⟩, S⟩
          · refine WP_skip ?_
            refine B_n ?_
            replace S := S.front3
            replace S := S.front1
            replace S := S.front3
            replace S := S.front2
            replace S := S.front2
            replace S := S.reM (L' := (encE Value.bool (bmap (sjI (f5) l0 j) (mkd (((pre ++ [x])).map (f5)))))) (congrArg (encE Value.bool) (show bmap (sjI (f5) l0 j) (mkd ((pre).map (f5))) = bmap (sjI (f5) l0 j) (mkd (((pre ++ [x])).map (f5))) by first | (rw [List.map_nil, mk_start]; done) | (refine sq_yes (f5) (sj_nodup _ _ _) ?_; assumption) | (refine sq_no (f5) ?_; assumption)))
            replace S := S.front2
            have S0 := S; clear S; have S := (St.pack [blk b_7 (.cells #[.map (some b_6)] 119), OwnE Value.bool b_6 (bmap (sjI (f5) l0 j) (mkd (((pre ++ [x])).map (f5)))), c2] S0).swap; clear S0
            exact ⟨M_27, _, hM_27, ⟨_, rfl, J_eq f0 (by ((try clear S); (try clear E); first | assumption | omega | rfl | (simp; done) | (simp_all; done) | (simp [List.take_add_one, *]; done) | grind [List.take_add_one]))⟩, S⟩
        · rintro a w M_29 _ D_30 hM_29 ⟨c2, rfl, f0⟩ S E
          replace S := S.unpack3
          replace hbx1 := hM_29.2 _ _ hbx1
          replace hbx2 := hM_29.2 _ _ hbx2
          replace h0 := h0.le RSq_mono hM_29
          replace h5 := h5.le hM_29
          replace hb_1 := hM_29.2 _ _ hb_1
          replace hu_5 := hu_5.le hM_29
          replace hu_21 := hu_21.le hM_29
          refine B_n ?_
          refine T_n ?_
          refine WP_seq ?_
          refine WP_region ?_
          refine S_v E rfl (R_load E rfl (Try.isAgg119 _) (cell_blk (S.mem (.head _)))) rfl ?_
          clear E a; intro a E
          replace S := S.front1
          refine S_x (X_rangeW E S rfl MT119 rfl ?_)
          clear E a S; rintro a w i_31 E S
          replace S : St w M_29 (ItW b_6 i_31 (encE Value.bool (bmap (sjI (f5) l0 j) (mkd ((x_19).map (f5))))) ([] : List Int) none :: _) := S
          refine WL_nil ?_
          refine T_n ?_
          refine WP_block ?_
          replace S := S.reW (L' := (encE Value.bool (stepD (sjI (f5) l0 j) (mkd ((l0.getD (l0.length - 2 - j) []).map (f5))) []))) (D' := []) (congrArg (encE Value.bool) (show bmap (sjI (f5) l0 j) (mkd ((x_19).map (f5))) = stepD (sjI (f5) l0 j) (mkd ((l0.getD (l0.length - 2 - j) []).map (f5))) [] by first | (rw [(at_get (n := l0.length - 2 - j) (by assumption) (by omega)), sd_start]; done) | (refine sd_yes (sj_nodup _ _ _) (by assumption) (by assumption) ?_; first | rfl | assumption) | (refine sd_nof (by assumption) (by assumption) ?_; first | rfl | assumption))) (show ([] : List Int) = [] by first | rfl | (simp; done))
          refine WP_loop (γ := List Int) (fun (dd : List Int) a w => ∃ (M_32 : Hp) (cL3 : HProp), Hp.le M_29 M_32 ∧ St w M_32 (ItW b_6 i_31 (encE Value.bool (stepD (sjI (f5) l0 j) (mkd ((l0.getD (l0.length - 2 - j) []).map (f5))) dd)) dd none :: blk b_7 (.cells #[.map (some b_6)] 119) :: cL3 :: mks (D_30 :: Ds1) :: H) ∧ Env a 94 ((D_30 :: Ds1).map mk) [(1, .pointer (some ⟨bx1, 0, none⟩)), (2, .pointer (some ⟨bx2, 0, none⟩)), (3, .pointer (some ⟨b_1, 0, none⟩)), (5, .pointer (some ⟨b_7, 0, none⟩)), (8, .int .i64 ((l0.length : Int) - 2 - (j : Int))), (63, .pointer (some ⟨i_31, 0, none⟩))] ∧ (dd.Nodup) ∧ (∀ z ∈ dd, z ∈ sjI (f5) l0 j) ∧ J ([] : List Int) M_32 cL3) (fun dd => (sjI (f5) l0 j).length - dd.length) [] ⟨M_29, _, Hp.le.refl _, S, E.keep ⟨rfl, rfl, rfl, rfl, rfl, rfl, trivial⟩, (by simp), (by simp), J_eq f0 (by ((try clear S); (try clear E); first | assumption | omega | rfl | (simp; done) | (simp_all; done) | (simp [List.take_add_one, *]; done) | grind [List.take_add_one]))⟩ ?_
          try clear E
          try clear S
          try clear a
          try clear w
          rintro dd a w ⟨M_32, cL3, hM_32, S, E, hL3_0, hL3_1, f0⟩
          replace hbx1 := hM_32.2 _ _ hbx1
          replace hbx2 := hM_32.2 _ _ hbx2
          replace h0 := h0.le RSq_mono hM_32
          replace h5 := h5.le hM_32
          replace hb_1 := hM_32.2 _ _ hb_1
          replace hu_5 := hu_5.le hM_32
          replace hu_21 := hu_21.le hM_32
          refine WP_seq ?_
          refine WP_region ?_
          refine S_x (X_nextWE (vf := Value.bool) E S rfl rfl ?_ ?_)
          · clear E a S; rintro a E hpm_33 S
            refine S_v E rfl (R_extract E rfl rfl) rfl ?_
            clear E a; intro a E
            refine WL_nil ?_
            refine T_n ?_
            refine WP_seq ?_
            refine WP_condF E rfl rfl ?_
            refine WP_exit ?_
            refine T_x ?_
            refine T_x ?_
            refine B_x ?_
            refine B_n ?_
            refine T_n ?_
            refine WP_region ?_
            refine S_v E rfl (R_move E rfl) rfl ?_
            clear E a; intro a E
            refine S_v E rfl (R_subx (m := ((l0.length : Int) - 2 - (j : Int)) - 1) E rfl rfl (by omega) (by omega)) rfl ?_
            clear E a; intro a E
            refine S_v E rfl (R_assign E rfl) rfl ?_
            clear E a; intro a E
            refine WL_nil ?_
            refine T_n ?_
            replace S := S.reM (L' := (encE Value.bool (bmap (sjI (f5) l0 (j + 1)) (fun _ => false)))) (congrArg (encE Value.bool) (show stepD (sjI (f5) l0 j) (mkd ((l0.getD (l0.length - 2 - j) []).map (f5))) dd = bmap (sjI (f5) l0 (j + 1)) (fun _ => false) by first | (show _ = bmap (keyL _) _; rw [(at_get (n := l0.length - 1) (by assumption) (by omega))]; done) | (rw [sd_end (by assumption)]; rfl)))
            exact ⟨j + 1, ⟨M_32, _, _, (hM_16.trans (hM_29.trans hM_32)), S, E.keep ⟨rfl, rfl, rfl, rfl, look_int (i := ((l0.length : Int) - 2 - (j : Int)) - 1) rfl (by (omega)), trivial⟩, (by omega), J_eq f0 (by ((try clear S); (try clear E); first | assumption | omega | rfl | (simp; done) | (simp_all; done) | (simp [List.take_add_one, *]; done) | grind [List.take_add_one]))⟩, by omega⟩
          · clear E a S w; rintro a w k_34 u_36 E hk_35 hk_35n S
            refine S_v E rfl (R_extract E rfl rfl) rfl ?_
            clear E a; intro a E
            refine WL_nil ?_
            refine T_n ?_
            refine WP_seq ?_
            refine WP_condT E rfl rfl ?_
            refine WP_skip ?_
            refine T_n ?_
            refine WP_block ?_
            refine WP_seq ?_
            refine WP_region ?_
            refine S_v E rfl (R_entryW E S rfl) rfl ?_
            clear E a; intro a E
            refine S_v E rfl (R_extract E rfl rfl) rfl ?_
            clear E a; intro a E
            refine S_v E rfl (R_extract E rfl rfl) rfl ?_
            clear E a; intro a E
            refine S_v E rfl (R_assign E rfl) rfl ?_
            clear E a; intro a E
            refine S_v E rfl (R_assign E rfl) rfl ?_
            clear E a; intro a E
            refine WL_nil ?_
            refine T_n ?_
            refine WP_seq ?_
            refine WP_region ?_
            refine S_v E rfl (R_move E rfl) rfl ?_
            clear E a; intro a E
            refine WL_nil ?_
            refine T_n ?_
            refine WP_cond E rfl (fun hc_37 => ?_) (fun hc_37 => ?_)
            · refine WP_region ?_
              refine S_v E rfl (R_load E rfl (Try.isAgg119 _) (cell_blk (S.mem (.tail _ (.head _))))) rfl ?_
              clear E a; intro a E
              refine S_v E rfl (R_move E rfl) rfl ?_
              clear E a; intro a E
              refine S_x0 (X_updateWE (vf := Value.bool) (u := false) E S MT119 rfl rfl rfl (by exact List.mem_map_of_mem (f := Prod.fst) (by assumption)) ?_)
              clear E a S; rintro a w E S
              refine WL_nil ?_
              refine B_n ?_
              refine T_n ?_
              replace S := S.reW (L' := (encE Value.bool (stepD (sjI (f5) l0 j) (mkd ((l0.getD (l0.length - 2 - j) []).map (f5))) (dd ++ [k_34])))) (D' := (dd ++ [k_34])) (congrArg (encE Value.bool) (show putK (stepD (sjI (f5) l0 j) (mkd ((l0.getD (l0.length - 2 - j) []).map (f5))) dd) k_34 false = stepD (sjI (f5) l0 j) (mkd ((l0.getD (l0.length - 2 - j) []).map (f5))) (dd ++ [k_34]) by first | (rw [(at_get (n := l0.length - 2 - j) (by assumption) (by omega)), sd_start]; done) | (refine sd_yes (sj_nodup _ _ _) (by assumption) (by assumption) ?_; first | rfl | assumption) | (refine sd_nof (by assumption) (by assumption) ?_; first | rfl | assumption))) (show dd ++ [k_34] = (dd ++ [k_34]) by first | rfl | (simp; done))
              exact ⟨(dd ++ [k_34]), ⟨M_32, _, hM_32, S, E.keep ⟨rfl, rfl, rfl, rfl, rfl, rfl, trivial⟩, (by exact told_nodup (by assumption) (by assumption)), (by exact told_sub (by assumption) (by assumption) (by assumption)), J_eq f0 (by ((try clear S); (try clear E); first | assumption | omega | rfl | (simp; done) | (simp_all; done) | (simp [List.take_add_one, *]; done) | grind [List.take_add_one]))⟩, (by have hlt := told_lt (by assumption) (by assumption) (by assumption) (by assumption); simp; omega)⟩
            · refine WP_region ?_
              refine S_v E rfl (R_load E rfl (Try.isAgg119 _) (cell_blk (S.mem (.tail _ (.head _))))) rfl ?_
              clear E a; intro a E
              refine S_v E rfl (R_move E rfl) rfl ?_
              clear E a; intro a E
              refine S_x0 (X_delete0WE (vf := Value.bool) E S MT119 rfl rfl ?_)
              clear E a S; rintro a w E S
              refine WL_nil ?_
              refine B_n ?_
              refine T_n ?_
              replace S := S.reW (L' := (encE Value.bool (stepD (sjI (f5) l0 j) (mkd ((l0.getD (l0.length - 2 - j) []).map (f5))) (dd ++ [k_34])))) (D' := (dd ++ [k_34])) (congrArg (encE Value.bool) (show delK (stepD (sjI (f5) l0 j) (mkd ((l0.getD (l0.length - 2 - j) []).map (f5))) dd) k_34 = stepD (sjI (f5) l0 j) (mkd ((l0.getD (l0.length - 2 - j) []).map (f5))) (dd ++ [k_34]) by first | (rw [(at_get (n := l0.length - 2 - j) (by assumption) (by omega)), sd_start]; done) | (refine sd_yes (sj_nodup _ _ _) (by assumption) (by assumption) ?_; first | rfl | assumption) | (refine sd_nof (by assumption) (by assumption) ?_; first | rfl | assumption))) (show dd ++ [k_34] = (dd ++ [k_34]) by first | rfl | (simp; done))
              exact ⟨(dd ++ [k_34]), ⟨M_32, _, hM_32, S, E.keep ⟨rfl, rfl, rfl, rfl, rfl, rfl, trivial⟩, (by exact told_nodup (by assumption) (by assumption)), (by exact told_sub (by assumption) (by assumption) (by assumption)), J_eq f0 (by ((try clear S); (try clear E); first | assumption | omega | rfl | (simp; done) | (simp_all; done) | (simp [List.take_add_one, *]; done) | grind [List.take_add_one]))⟩, (by have hlt := told_lt (by assumption) (by assumption) (by assumption) (by assumption); simp; omega)⟩
        · rintro _ _ _ _ _ _ _ _ _ hX; exact hX.elim
      · replace hc_18 := of_decide_eq_false hc_18
        refine WP_exit ?_
        refine T_x ?_
        refine T_x ?_
        refine B_x ?_
        refine T_n ?_
        refine WP_seq ?_
        refine WP_region ?_
        refine S_v E rfl (R_loadM E rfl Try.isAgg84 S.imm (cellM_box hbx1)) rfl ?_
        clear E a; intro a E
        obtain ⟨x_38, hx_38⟩ : ∃ x, (l0)[0]? = some x := ⟨_, List.getElem?_eq_getElem (by first | omega | (simp; done) | (simp; omega) | (simp_all; omega))⟩
        obtain ⟨p_39, u_40, hp_39, qp_39, hu_40⟩ := RdQ.at h0 hx_38
        refine S_v E rfl (R_idx E rfl rfl T84 hp_39 (by omega)) rfl ?_
        clear E a; intro a E
        refine S_v E rfl (R_loadM E rfl Try.isAgg82 S.imm qp_39) rfl ?_
        clear E a; intro a E
        refine WL_nil ?_
        refine T_n ?_
        refine WP_block ?_
        replace S := S.front1
        replace S := S.front2
        replace S := S.front2
        replace S := S.front2
        replace E := E.keep (l' := [(2, .pointer (some ⟨bx2, 0, none⟩)), (3, .pointer (some ⟨b_1, 0, none⟩)), (5, .pointer (some ⟨b_7, 0, none⟩)), (76, u_40)]) ⟨rfl, rfl, rfl, rfl, trivial⟩
        replace S := S.front2
        replace S := S.front2
        replace S := S.reM (L' := (encE Value.bool (bmap (remI (f5) (sjI (f5) l0 j) (([] : List Int))) (fun _ => false)))) (congrArg (encE Value.bool) (show bmap (sjI (f5) l0 j) (fun _ => false) = bmap (remI (f5) (sjI (f5) l0 j) (([] : List Int))) (fun _ => false) by first | rfl | exact rs_start _ _ | exact rs_yes (f5) _ _ _ | (refine rq_no (f5) ?_; assumption)))
        replace S := S.front2
        have S0 := S; clear S; have S := St.pack [blk b_7 (.cells #[.map (some b_6)] 119), OwnE Value.bool b_6 (bmap (remI (f5) (sjI (f5) l0 j) (([] : List Int))) (fun _ => false)), cL1] S0; clear S0
        refine WP_range (RV := RInt) (l := x_38) (fun pre M c => ∃ (c4 : HProp), c = bigs [blk b_7 (.cells #[.map (some b_6)] 119), OwnE Value.bool b_6 (bmap (remI (f5) (sjI (f5) l0 j) (pre)) (fun _ => false)), c4] ∧ (J (iscI (f5) (sjI (f5) l0 j) (pre)) M c4)) (fun cd pre M c => cd = .ret ∧ ∃ z, z <+: (meetF f5 l0) ∧ X z M c) E S rfl hu_40 (Hp.le.refl _) (fun _ _ _ h => by rw [h]; rfl) (by decide) (by rintro _ M M' c hM ⟨c4, rfl, f0⟩; exact ⟨_, rfl, hJM _ _ _ _ hM f0⟩) ⟨_, rfl, J_eq f0 (by ((try clear S); (try clear E); first | assumption | omega | rfl | (simp; done) | (simp_all; done) | (simp [List.take_add_one, *]; done) | grind [List.take_add_one]))⟩ ?_ ?_ ?_
        clear E S
        · rintro lb_42 rec_43 pre x _ a w M_41 _ G hM_41 hp_44 rfl ⟨c4, rfl, f0⟩ E S
          replace E : Env a 94 [] [(77, .int .i64 x), (2, .pointer (some ⟨bx2, 0, none⟩)), (3, .pointer (some ⟨b_1, 0, none⟩)), (5, .pointer (some ⟨b_7, 0, none⟩)), (76, u_40)] := E
          replace S := S.swap.unpack3
          have hq4 := prefix_lt hp_44
          replace hbx1 := hM_41.2 _ _ hbx1
          replace hbx2 := hM_41.2 _ _ hbx2
          replace h0 := h0.le RSq_mono hM_41
          replace h5 := h5.le hM_41
          replace hb_1 := hM_41.2 _ _ hb_1
          replace hu_5 := hu_5.le hM_41
          replace hu_40 := hu_40.le hM_41
          refine WP_region ?_
          refine S_v E rfl (R_assign E rfl) rfl ?_
          clear E a; intro a E
          refine WL_nil ?_
          refine T_n ?_
          replace S := S.front3
          refine rb S ?_
          clear S; intro w S
          refine WP_block ?_
          refine WP_seq ?_
          refine WP_region ?_
          refine S_v E rfl (R_loadM E rfl Try.isAgg87 S.imm (cellM_box hbx2)) rfl ?_
          clear E a; intro a E
          refine S_v E rfl (R_move E rfl) rfl ?_
          clear E a; intro a E
          refine S_x (X_pu E S rfl rfl rfl (h5.2 x) (Hp.le.refl _) ?_)
          clear E a S; rintro a _ w M_46 hM_46 rfl S E
          replace hbx1 := hM_46.2 _ _ hbx1
          replace hbx2 := hM_46.2 _ _ hbx2
          replace h0 := h0.le RSq_mono hM_46
          replace h5 := h5.le hM_46
          replace hb_1 := hM_46.2 _ _ hb_1
          replace hu_5 := hu_5.le hM_46
          replace hu_40 := hu_40.le hM_46
          replace f0 := hJM _ _ _ _ hM_46 f0
          refine S_v E rfl (R_assign E rfl) rfl ?_
          clear E a; intro a E
          refine WL_nil ?_
          refine T_n ?_
          refine WP_seq ?_
          refine WP_region ?_
          refine S_v E rfl (R_load E rfl (Try.isAgg119 _) (cell_blk (S.mem (.tail _ (.head _))))) rfl ?_
          clear E a; intro a E
          refine S_v E rfl (R_move E rfl) rfl ?_
          clear E a; intro a E
          replace S := S.front2
          refine S_x (X_lookupE (vf := Value.bool) (zb := false) E S rfl MT119 rfl rfl ?_)
          clear E a S; rintro a w E S
          replace S : St w M_46 (OwnE Value.bool b_6 (bmap (remI (f5) (sjI (f5) l0 j) (pre)) (fun _ => false)) :: _) := S
          refine S_v E rfl (R_move E rfl) rfl ?_
          clear E a; intro a E
          refine S_v E rfl (R_extract E rfl rfl) rfl ?_
          clear E a; intro a E
          refine S_v E rfl (R_extract E rfl rfl) rfl ?_
          clear E a; intro a E
          refine S_v E rfl (R_assign E rfl) rfl ?_
          clear E a; intro a E
          refine S_v E rfl (R_assign E rfl) rfl ?_
          clear E a; intro a E
          refine WL_nil ?_
          refine T_n ?_
          refine WP_seq ?_
          refine WP_region ?_
          refine S_v E rfl (R_move E rfl) rfl ?_
          clear E a; intro a E
          refine WL_nil ?_
          refine T_n ?_
          refine WP_cond E rfl (fun hc_47 => ?_) (fun hc_47 => ?_)
          · refine WP_seq ?_
            refine WP_seq ?_
            refine WP_region ?_
            refine S_v E rfl (R_loadM E rfl Try.isAgg122 S.imm (cellM_box hb_1)) rfl ?_
            clear E a; intro a E
            refine S_v E rfl (R_move E rfl) rfl ?_
            clear E a; intro a E
            replace S := S.front3
            refine S_x (X_yield (x := x) E S rfl rfl rfl hY (hM_2.trans (hM_14.trans (hM_16.trans (hM_41.trans hM_46)))) (by exact meet_take (f := f5) (by omega) (by first | (left; omega) | (right; exact bm_nil (f := fun _ => false) (by first | assumption | omega))) (by assumption) (by assumption) (by assumption)) rfl f0 ?_)
            clear E a S; rintro a w M_48 c_49 go_50 hM_48 f0 S E
            replace hbx1 := hM_48.2 _ _ hbx1
            replace hbx2 := hM_48.2 _ _ hbx2
            replace h0 := h0.le RSq_mono hM_48
            replace h5 := h5.le hM_48
            replace hb_1 := hM_48.2 _ _ hb_1
            replace hu_5 := hu_5.le hM_48
            replace hu_40 := hu_40.le hM_48
            cases go_50
            · replace f0 : X (iscI (f5) (sjI (f5) l0 j) (pre) ++ [x]) M_48 c_49 := f0
              refine S_v E rfl (R_not E rfl) rfl ?_
              clear E a; intro a E
              refine WL_nil ?_
              refine T_n ?_
              refine WP_condT E rfl rfl ?_
              refine WP_ret ?_
              refine T_r ?_
              refine B_r ?_
              replace S := S.front1
              replace S := S.drop
              replace S := S.front2
              replace S := S.drop
              replace S := S.front1
              exact ⟨M_48, _, (hM_46.trans hM_48), ⟨rfl, _, (by first | assumption | (exact meet_take (f := f5) (by omega) (by first | (left; omega) | (right; exact bm_nil (f := fun _ => false) (by first | assumption | omega))) (by assumption) (by assumption) (by assumption)) | ((first | (simp; done) | exact List.prefix_refl _ | (rw [pre_take (by assumption)]; exact List.take_prefix _ _) | exact pre_take_lt (by assumption)))), f0⟩, S⟩
            · replace f0 : J (iscI (f5) (sjI (f5) l0 j) (pre) ++ [x]) M_48 c_49 := f0
              refine S_v E rfl (R_not E rfl) rfl ?_
              clear E a; intro a E
              refine WL_nil ?_
              refine T_n ?_
              refine WP_condF E rfl rfl ?_
              refine WP_skip ?_
              refine T_n ?_
              refine WP_region ?_
              refine S_v E rfl (R_load E rfl (Try.isAgg119 _) (cell_blk (S.mem (.tail _ (.tail _ (.tail _ (.head _))))))) rfl ?_
              clear E a; intro a E
              refine S_v E rfl (R_move E rfl) rfl ?_
              clear E a; intro a E
              replace S := S.front1
              refine S_x0 (X_delete0E (vf := Value.bool) E S MT119 rfl rfl ?_)
              clear E a S; rintro a w E S
              refine WL_nil ?_
              refine B_n ?_
              replace S := S.front1
              replace S := S.front1
              replace S := S.front3
              replace S := S.front2
              replace S := S.front2
              replace S := S.reM (L' := (encE Value.bool (bmap (remI (f5) (sjI (f5) l0 j) ((pre ++ [x]))) (fun _ => false)))) (congrArg (encE Value.bool) (show delK (bmap (remI (f5) (sjI (f5) l0 j) (pre)) (fun _ => false)) (f5 x) = bmap (remI (f5) (sjI (f5) l0 j) ((pre ++ [x]))) (fun _ => false) by first | rfl | exact rs_start _ _ | exact rs_yes (f5) _ _ _ | (refine rq_no (f5) ?_; assumption)))
              replace S := S.front2
              have S0 := S; clear S; have S := (St.pack [blk b_7 (.cells #[.map (some b_6)] 119), OwnE Value.bool b_6 (bmap (remI (f5) (sjI (f5) l0 j) ((pre ++ [x]))) (fun _ => false)), c_49] S0).swap; clear S0
              exact ⟨M_48, _, (hM_46.trans hM_48), ⟨_, rfl, J_eq f0 (by (first | (refine isc_yes (f := f5) ?_; assumption) | (refine iq_no (f5) ?_; assumption)))⟩, S⟩
          · refine WP_skip ?_
            refine B_n ?_
            replace S := S.front3
            replace S := S.front1
            replace S := S.front3
            replace S := S.front2
            replace S := S.front2
            replace S := S.reM (L' := (encE Value.bool (bmap (remI (f5) (sjI (f5) l0 j) ((pre ++ [x]))) (fun _ => false)))) (congrArg (encE Value.bool) (show bmap (remI (f5) (sjI (f5) l0 j) (pre)) (fun _ => false) = bmap (remI (f5) (sjI (f5) l0 j) ((pre ++ [x]))) (fun _ => false) by first | rfl | exact rs_start _ _ | exact rs_yes (f5) _ _ _ | (refine rq_no (f5) ?_; assumption)))
            replace S := S.front2
            have S0 := S; clear S; have S := (St.pack [blk b_7 (.cells #[.map (some b_6)] 119), OwnE Value.bool b_6 (bmap (remI (f5) (sjI (f5) l0 j) ((pre ++ [x]))) (fun _ => false)), c4] S0).swap; clear S0
            exact ⟨M_46, _, hM_46, ⟨_, rfl, J_eq f0 (by (first | (refine isc_yes (f := f5) ?_; assumption) | (refine iq_no (f5) ?_; assumption)))⟩, S⟩
        · rintro a w M_51 _ D_52 hM_51 ⟨c4, rfl, f0⟩ S E
          replace S := S.unpack3
          replace hbx1 := hM_51.2 _ _ hbx1
          replace hbx2 := hM_51.2 _ _ hbx2
          replace h0 := h0.le RSq_mono hM_51
          replace h5 := h5.le hM_51
          replace hb_1 := hM_51.2 _ _ hb_1
          replace hu_5 := hu_5.le hM_51
          replace hu_40 := hu_40.le hM_51
          refine B_n ?_
          refine F_nrm ?_
          replace S := S.drop
          replace S := S.drop
          replace S := S.front1
          have hpre : iscI (f5) (sjI (f5) l0 j) (x_38) = meetF f5 l0 := by (exact meet_done (by omega) (by first | (left; omega) | (right; exact bm_nil (f := fun _ => false) (by first | assumption | omega))) (by assumption))
          rw [hpre] at f0
          exact F_retM0 E S Try.results128 (fun w S => ⟨_, rfl, M_51, _, (hM_2.trans (hM_14.trans (hM_16.trans hM_51))), .inl f0, S⟩)
        · rintro a w M_53 c_ D_54 p_55 _ hM_53 hp_56 ⟨rfl, z_, hz_, f0⟩ S E
          replace hbx1 := hM_53.2 _ _ hbx1
          replace hbx2 := hM_53.2 _ _ hbx2
          replace h0 := h0.le RSq_mono hM_53
          replace h5 := h5.le hM_53
          replace hb_1 := hM_53.2 _ _ hb_1
          replace hu_5 := hu_5.le hM_53
          replace hu_40 := hu_40.le hM_53
          refine WP_ret ?_
          refine B_r ?_
          replace S := S.front1
          exact F_retM0 E S Try.results128 (fun w S => ⟨_, rfl, M_53, _, (hM_2.trans (hM_14.trans (hM_16.trans hM_53))), .inr ⟨z_, (by first | assumption | ((first | (simp; done) | exact List.prefix_refl _ | (rw [pre_take (by assumption)]; exact List.take_prefix _ _) | exact pre_take_lt (by assumption)))), f0⟩, S⟩)
    · replace E := E.val (t := 37) rfl hc_17
      replace E := E.val (t := 38) rfl hc_17
      replace hc_17 := of_decide_eq_false hc_17
      refine WL_guard_no E rfl rfl rfl rfl fun a E => ?_
      refine WL_guard_no E rfl rfl rfl rfl fun a E => ?_
      refine WL_guard_no E rfl rfl rfl rfl fun a E => ?_
      refine S_v E rfl (R_pickF E rfl rfl) rfl ?_
      clear E a; intro a E
      refine WL_nil ?_
      refine T_n ?_
      refine WP_condF E rfl rfl ?_
      refine WP_exit ?_
      refine T_x ?_
      refine T_x ?_
      refine B_x ?_
      refine T_n ?_
      refine WP_seq ?_
      refine WP_region ?_
      refine S_v E rfl (R_loadM E rfl Try.isAgg84 S.imm (cellM_box hbx1)) rfl ?_
      clear E a; intro a E
      obtain ⟨x_57, hx_57⟩ : ∃ x, (l0)[0]? = some x := ⟨_, List.getElem?_eq_getElem (by first | omega | (simp; done) | (simp; omega) | (simp_all; omega))⟩
      obtain ⟨p_58, u_59, hp_58, qp_58, hu_59⟩ := RdQ.at h0 hx_57
      refine S_v E rfl (R_idx E rfl rfl T84 hp_58 (by omega)) rfl ?_
      clear E a; intro a E
      refine S_v E rfl (R_loadM E rfl Try.isAgg82 S.imm qp_58) rfl ?_
      clear E a; intro a E
      refine WL_nil ?_
      refine T_n ?_
      refine WP_block ?_
      replace S := S.front1
      replace S := S.front2
      replace S := S.front2
      replace S := S.front2
      replace E := E.keep (l' := [(2, .pointer (some ⟨bx2, 0, none⟩)), (3, .pointer (some ⟨b_1, 0, none⟩)), (5, .pointer (some ⟨b_7, 0, none⟩)), (76, u_59)]) ⟨rfl, rfl, rfl, rfl, trivial⟩
      replace S := S.front2
      replace S := S.front2
      replace S := S.reM (L' := (encE Value.bool (bmap (remI (f5) (sjI (f5) l0 j) (([] : List Int))) (fun _ => false)))) (congrArg (encE Value.bool) (show bmap (sjI (f5) l0 j) (fun _ => false) = bmap (remI (f5) (sjI (f5) l0 j) (([] : List Int))) (fun _ => false) by first | rfl | exact rs_start _ _ | exact rs_yes (f5) _ _ _ | (refine rq_no (f5) ?_; assumption)))
      replace S := S.front2
      have S0 := S; clear S; have S := St.pack [blk b_7 (.cells #[.map (some b_6)] 119), OwnE Value.bool b_6 (bmap (remI (f5) (sjI (f5) l0 j) (([] : List Int))) (fun _ => false)), cL1] S0; clear S0
      refine WP_range (RV := RInt) (l := x_57) (fun pre M c => ∃ (c4 : HProp), c = bigs [blk b_7 (.cells #[.map (some b_6)] 119), OwnE Value.bool b_6 (bmap (remI (f5) (sjI (f5) l0 j) (pre)) (fun _ => false)), c4] ∧ (J (iscI (f5) (sjI (f5) l0 j) (pre)) M c4)) (fun cd pre M c => cd = .ret ∧ ∃ z, z <+: (meetF f5 l0) ∧ X z M c) E S rfl hu_59 (Hp.le.refl _) (fun _ _ _ h => by rw [h]; rfl) (by decide) (by rintro _ M M' c hM ⟨c4, rfl, f0⟩; exact ⟨_, rfl, hJM _ _ _ _ hM f0⟩) ⟨_, rfl, J_eq f0 (by ((try clear S); (try clear E); first | assumption | omega | rfl | (simp; done) | (simp_all; done) | (simp [List.take_add_one, *]; done) | grind [List.take_add_one]))⟩ ?_ ?_ ?_
      clear E S
      · rintro lb_61 rec_62 pre x _ a w M_60 _ G hM_60 hp_63 rfl ⟨c4, rfl, f0⟩ E S
        replace E : Env a 94 [] [(77, .int .i64 x), (2, .pointer (some ⟨bx2, 0, none⟩)), (3, .pointer (some ⟨b_1, 0, none⟩)), (5, .pointer (some ⟨b_7, 0, none⟩)), (76, u_59)] := E
        replace S := S.swap.unpack3
        have hq4 := prefix_lt hp_63
        replace hbx1 := hM_60.2 _ _ hbx1
        replace hbx2 := hM_60.2 _ _ hbx2
        replace h0 := h0.le RSq_mono hM_60
        replace h5 := h5.le hM_60
        replace hb_1 := hM_60.2 _ _ hb_1
        replace hu_5 := hu_5.le hM_60
        replace hu_59 := hu_59.le hM_60
        refine WP_region ?_
        refine S_v E rfl (R_assign E rfl) rfl ?_
        clear E a; intro a E
        refine WL_nil ?_
        refine T_n ?_
        replace S := S.front3
        refine rb S ?_
        clear S; intro w S
        refine WP_block ?_
        refine WP_seq ?_
        refine WP_region ?_
        refine S_v E rfl (R_loadM E rfl Try.isAgg87 S.imm (cellM_box hbx2)) rfl ?_
        clear E a; intro a E
        refine S_v E rfl (R_move E rfl) rfl ?_
        clear E a; intro a E
        refine S_x (X_pu E S rfl rfl rfl (h5.2 x) (Hp.le.refl _) ?_)
        clear E a S; rintro a _ w M_65 hM_65 rfl S E
        replace hbx1 := hM_65.2 _ _ hbx1
        replace hbx2 := hM_65.2 _ _ hbx2
        replace h0 := h0.le RSq_mono hM_65
        replace h5 := h5.le hM_65
        replace hb_1 := hM_65.2 _ _ hb_1
        replace hu_5 := hu_5.le hM_65
        replace hu_59 := hu_59.le hM_65
        replace f0 := hJM _ _ _ _ hM_65 f0
        refine S_v E rfl (R_assign E rfl) rfl ?_
        clear E a; intro a E
        refine WL_nil ?_
        refine T_n ?_
        refine WP_seq ?_
        refine WP_region ?_
        refine S_v E rfl (R_load E rfl (Try.isAgg119 _) (cell_blk (S.mem (.tail _ (.head _))))) rfl ?_
        clear E a; intro a E
        refine S_v E rfl (R_move E rfl) rfl ?_
        clear E a; intro a E
        replace S := S.front2
        refine S_x (X_lookupE (vf := Value.bool) (zb := false) E S rfl MT119 rfl rfl ?_)
        clear E a S; rintro a w E S
        replace S : St w M_65 (OwnE Value.bool b_6 (bmap (remI (f5) (sjI (f5) l0 j) (pre)) (fun _ => false)) :: _) := S
        refine S_v E rfl (R_move E rfl) rfl ?_
        clear E a; intro a E
        refine S_v E rfl (R_extract E rfl rfl) rfl ?_
        clear E a; intro a E
        refine S_v E rfl (R_extract E rfl rfl) rfl ?_
        clear E a; intro a E
        refine S_v E rfl (R_assign E rfl) rfl ?_
        clear E a; intro a E
        refine S_v E rfl (R_assign E rfl) rfl ?_
        clear E a; intro a E
        refine WL_nil ?_
        refine T_n ?_
        refine WP_seq ?_
        refine WP_region ?_
        refine S_v E rfl (R_move E rfl) rfl ?_
        clear E a; intro a E
        refine WL_nil ?_
        refine T_n ?_
        refine WP_cond E rfl (fun hc_66 => ?_) (fun hc_66 => ?_)
        · refine WP_seq ?_
          refine WP_seq ?_
          refine WP_region ?_
          refine S_v E rfl (R_loadM E rfl Try.isAgg122 S.imm (cellM_box hb_1)) rfl ?_
          clear E a; intro a E
          refine S_v E rfl (R_move E rfl) rfl ?_
          clear E a; intro a E
          replace S := S.front3
          refine S_x (X_yield (x := x) E S rfl rfl rfl hY (hM_2.trans (hM_14.trans (hM_16.trans (hM_60.trans hM_65)))) (by exact meet_take (f := f5) (by omega) (by first | (left; omega) | (right; exact bm_nil (f := fun _ => false) (by first | assumption | omega))) (by assumption) (by assumption) (by assumption)) rfl f0 ?_)
          clear E a S; rintro a w M_67 c_68 go_69 hM_67 f0 S E
          replace hbx1 := hM_67.2 _ _ hbx1
          replace hbx2 := hM_67.2 _ _ hbx2
          replace h0 := h0.le RSq_mono hM_67
          replace h5 := h5.le hM_67
          replace hb_1 := hM_67.2 _ _ hb_1
          replace hu_5 := hu_5.le hM_67
          replace hu_59 := hu_59.le hM_67
          cases go_69
          · replace f0 : X (iscI (f5) (sjI (f5) l0 j) (pre) ++ [x]) M_67 c_68 := f0
            refine S_v E rfl (R_not E rfl) rfl ?_
            clear E a; intro a E
            refine WL_nil ?_
            refine T_n ?_
            refine WP_condT E rfl rfl ?_
            refine WP_ret ?_
            refine T_r ?_
            refine B_r ?_
            replace S := S.front1
            replace S := S.drop
            replace S := S.front2
            replace S := S.drop
            replace S := S.front1
            exact ⟨M_67, _, (hM_65.trans hM_67), ⟨rfl, _, (by first | assumption | (exact meet_take (f := f5) (by omega) (by first | (left; omega) | (right; exact bm_nil (f := fun _ => false) (by first | assumption | omega))) (by assumption) (by assumption) (by assumption)) | ((first | (simp; done) | exact List.prefix_refl _ | (rw [pre_take (by assumption)]; exact List.take_prefix _ _) | exact pre_take_lt (by assumption)))), f0⟩, S⟩
          · replace f0 : J (iscI (f5) (sjI (f5) l0 j) (pre) ++ [x]) M_67 c_68 := f0
            refine S_v E rfl (R_not E rfl) rfl ?_
            clear E a; intro a E
            refine WL_nil ?_
            refine T_n ?_
            refine WP_condF E rfl rfl ?_
            refine WP_skip ?_
            refine T_n ?_
            refine WP_region ?_
            refine S_v E rfl (R_load E rfl (Try.isAgg119 _) (cell_blk (S.mem (.tail _ (.tail _ (.tail _ (.head _))))))) rfl ?_
            clear E a; intro a E
            refine S_v E rfl (R_move E rfl) rfl ?_
            clear E a; intro a E
            replace S := S.front1
            refine S_x0 (X_delete0E (vf := Value.bool) E S MT119 rfl rfl ?_)
            clear E a S; rintro a w E S
            refine WL_nil ?_
            refine B_n ?_
            replace S := S.front1
            replace S := S.front1
            replace S := S.front3
            replace S := S.front2
            replace S := S.front2
            replace S := S.reM (L' := (encE Value.bool (bmap (remI (f5) (sjI (f5) l0 j) ((pre ++ [x]))) (fun _ => false)))) (congrArg (encE Value.bool) (show delK (bmap (remI (f5) (sjI (f5) l0 j) (pre)) (fun _ => false)) (f5 x) = bmap (remI (f5) (sjI (f5) l0 j) ((pre ++ [x]))) (fun _ => false) by first | rfl | exact rs_start _ _ | exact rs_yes (f5) _ _ _ | (refine rq_no (f5) ?_; assumption)))
            replace S := S.front2
            have S0 := S; clear S; have S := (St.pack [blk b_7 (.cells #[.map (some b_6)] 119), OwnE Value.bool b_6 (bmap (remI (f5) (sjI (f5) l0 j) ((pre ++ [x]))) (fun _ => false)), c_68] S0).swap; clear S0
            exact ⟨M_67, _, (hM_65.trans hM_67), ⟨_, rfl, J_eq f0 (by (first | (refine isc_yes (f := f5) ?_; assumption) | (refine iq_no (f5) ?_; assumption)))⟩, S⟩
        · refine WP_skip ?_
          refine B_n ?_
          replace S := S.front3
          replace S := S.front1
          replace S := S.front3
          replace S := S.front2
          replace S := S.front2
          replace S := S.reM (L' := (encE Value.bool (bmap (remI (f5) (sjI (f5) l0 j) ((pre ++ [x]))) (fun _ => false)))) (congrArg (encE Value.bool) (show bmap (remI (f5) (sjI (f5) l0 j) (pre)) (fun _ => false) = bmap (remI (f5) (sjI (f5) l0 j) ((pre ++ [x]))) (fun _ => false) by first | rfl | exact rs_start _ _ | exact rs_yes (f5) _ _ _ | (refine rq_no (f5) ?_; assumption)))
          replace S := S.front2
          have S0 := S; clear S; have S := (St.pack [blk b_7 (.cells #[.map (some b_6)] 119), OwnE Value.bool b_6 (bmap (remI (f5) (sjI (f5) l0 j) ((pre ++ [x]))) (fun _ => false)), c4] S0).swap; clear S0
          exact ⟨M_65, _, hM_65, ⟨_, rfl, J_eq f0 (by (first | (refine isc_yes (f := f5) ?_; assumption) | (refine iq_no (f5) ?_; assumption)))⟩, S⟩
      · rintro a w M_70 _ D_71 hM_70 ⟨c4, rfl, f0⟩ S E
        replace S := S.unpack3
        replace hbx1 := hM_70.2 _ _ hbx1
        replace hbx2 := hM_70.2 _ _ hbx2
        replace h0 := h0.le RSq_mono hM_70
        replace h5 := h5.le hM_70
        replace hb_1 := hM_70.2 _ _ hb_1
        replace hu_5 := hu_5.le hM_70
        replace hu_59 := hu_59.le hM_70
        refine B_n ?_
        refine F_nrm ?_
        replace S := S.drop
        replace S := S.drop
        replace S := S.front1
        have hpre : iscI (f5) (sjI (f5) l0 j) (x_57) = meetF f5 l0 := by (exact meet_done (by omega) (by first | (left; omega) | (right; exact bm_nil (f := fun _ => false) (by first | assumption | omega))) (by assumption))
        rw [hpre] at f0
        exact F_retM0 E S Try.results128 (fun w S => ⟨_, rfl, M_70, _, (hM_2.trans (hM_14.trans (hM_16.trans hM_70))), .inl f0, S⟩)
      · rintro a w M_72 c_ D_73 p_74 _ hM_72 hp_75 ⟨rfl, z_, hz_, f0⟩ S E
        replace hbx1 := hM_72.2 _ _ hbx1
        replace hbx2 := hM_72.2 _ _ hbx2
        replace h0 := h0.le RSq_mono hM_72
        replace h5 := h5.le hM_72
        replace hb_1 := hM_72.2 _ _ hb_1
        replace hu_5 := hu_5.le hM_72
        replace hu_59 := hu_59.le hM_72
        refine WP_ret ?_
        refine B_r ?_
        replace S := S.front1
        exact F_retM0 E S Try.results128 (fun w S => ⟨_, rfl, M_72, _, (hM_2.trans (hM_14.trans (hM_16.trans hM_72))), .inr ⟨z_, (by first | assumption | ((first | (simp; done) | exact List.prefix_refl _ | (rw [pre_take (by assumption)]; exact List.take_prefix _ _) | exact pre_take_lt (by assumption)))), f0⟩, S⟩)
  · rintro _ _ _ _ _ _ _ _ _ hX; exact hX.elim

set_option maxRecDepth 100000 in
set_option maxHeartbeats 4000000 in
theorem it_IntersectBy {M : Hp} {v5 : Value} {f5 : Int → Int} (h5 : PF1I Try.prog v5 M f5) {v0 : Value} {l0 : List (List Int)} (h0 : RdS 1 (RSq Try.prog RInt) M v0 l0) :
    Pu Try.prog (.func (.func 85) #[] #[]) M [v5, v0] (fun r M' => SeqV Try.prog r M' RInt (meetF f5 l0)) := by
  refine Pu_enter Try.func85 rfl Try.ntmps85 rfl Try.call85 ?_
  intro a w M1 H hM1 S E
  replace h5 := h5.le hM1
  replace h0 := h0.le RSq_mono hM1
  have b0 := h0.bound
  refine WP_seq ?_
  refine WP_region ?_
  refine S_x (X_box (cs := #[v5]) E S rfl rfl (cells_one h5.1) ?_)
  clear E a S; rintro a w b_1 E S
  obtain ⟨M_2, hM_2, hb_1, S⟩ := S.freezeB
  replace h5 := h5.le hM_2
  replace h0 := h0.le RSq_mono hM_2
  refine S_x (X_box (cs := #[v0]) E S rfl rfl (cells_one (RdS.one' h0)) ?_)
  clear E a S; rintro a w b_3 E S
  obtain ⟨M_4, hM_4, hb_3, S⟩ := S.freezeB
  replace h5 := h5.le hM_4
  replace h0 := h0.le RSq_mono hM_4
  replace hb_1 := hM_4.2 _ _ hb_1
  refine S_v E rfl (R_assign E rfl) rfl ?_
  clear E a; intro a E
  refine WL_nil ?_
  refine T_n ?_
  refine WP_seq ?_
  refine WP_seq ?_
  refine WP_region ?_
  refine S_v E rfl (R_loadM E rfl Try.isAgg84 S.imm (cellM_box hb_3)) rfl ?_
  clear E a; intro a E
  refine S_v E rfl (R_lenV E rfl T84 h0.len) rfl ?_
  clear E a; intro a E
  refine S_v E rfl (R_eql E rfl rfl) rfl ?_
  clear E a; intro a E
  refine WL_nil ?_
  refine T_n ?_
  refine WP_cond E rfl (fun hc_5 => ?_) (fun hc_5 => ?_)
  · replace hc_5 := of_decide_eq_true hc_5
    refine WP_seq ?_
    refine WP_region ?_
    refine S_x (X_pu E S rfl rfl rfl (it_Empty ) (Hp.le.refl _) ?_)
    clear E a S; rintro a v_7 w M_6 hM_6 hv_7 S E
    replace h5 := h5.le hM_6
    replace h0 := h0.le RSq_mono hM_6
    replace hb_1 := hM_6.2 _ _ hb_1
    replace hb_3 := hM_6.2 _ _ hb_3
    refine S_v E rfl (R_assign E rfl) rfl ?_
    clear E a; intro a E
    refine WL_nil ?_
    refine T_n ?_
    refine WP_ret ?_
    refine T_r ?_
    exact F_ret1 E Try.results85 rfl ⟨_, rfl, M_6, (hM_2.trans (hM_4.trans hM_6)), (SeqV_eq hv_7 (by first | rfl | (have e := List.eq_nil_of_length_eq_zero (l := l0) (by omega); subst e; rfl))), S⟩
  · replace hc_5 := of_decide_eq_false hc_5
    refine WP_skip ?_
    refine T_n ?_
    refine WP_seq ?_
    refine WP_region ?_
    refine S_v E rfl (R_makeFunc E rfl rfl) rfl ?_
    clear E a; intro a E
    refine S_v E rfl (R_assign E rfl) rfl ?_
    clear E a; intro a E
    refine WL_nil ?_
    refine T_n ?_
    refine WP_ret ?_
    exact F_ret1 E Try.results85 rfl ⟨_, rfl, M_4, (hM_2.trans hM_4), (SeqV_eq (it_IntersectBy1 (f5 := f5) h0 h5 (by omega) hb_3 hb_1) (by first | rfl | (have e := List.eq_nil_of_length_eq_zero (l := l0) (by omega); subst e; rfl))), S⟩

set_option maxRecDepth 100000 in
set_option maxHeartbeats 4000000 in
theorem slices_AppendSeq {M : Hp} {v1 : Value} {l1 : List Int} (h1 : SeqV Try.prog v1 M (RInt) l1)(hb : l1.length ≤ 1000000000000) :
    Pu Try.prog (.func (.func 124) #[] #[]) M [.slice none 0 0, v1] (fun r M' => RdI M' r l1) := by
  refine Pu_enter Try.func124 rfl Try.ntmps124 rfl Try.call124 ?_
  intro a w M1 H hM1 S E
  replace h1 := h1.le hM1
  replace S : St w M1 (mks [] :: _) := S.empty
  replace E : Env a 13 (([] : List Nat).map mk) _ := E
  refine WP_seq ?_
  refine WP_region ?_
  refine S_x (X_box (cs := #[.slice none 0 0]) E S rfl rfl rfl ?_)
  clear E a S; rintro a w b_1 E S
  refine S_v E rfl (R_assign E rfl) rfl ?_
  clear E a; intro a E
  refine WL_nil ?_
  refine T_n ?_
  refine WP_seq ?_
  refine WP_seq ?_
  refine WP_region ?_
  refine S_v E rfl (R_move E rfl) rfl ?_
  clear E a; intro a E
  refine WL_nil ?_
  refine T_n ?_
  refine WP_block ?_
  replace S := (S.ownNil (e := 3) (sz := 1)).made0
  replace S := S.front1
  replace E := E.keep (l' := [(2, .pointer (some ⟨b_1, 0, none⟩)), (6, v1)]) ⟨rfl, rfl, trivial⟩
  replace S := S.front1
  replace S := S.re1 (l' := ([] : List Int)) (by ((try clear S); (try clear E); first | assumption | omega | rfl | (simp; done) | (simp_all; done) | (simp [List.take_add_one, *]; done) | grind [List.take_add_one]))
  replace S := S.front1
  have S0 := S; clear S; have S := St.pack [blk b_1 (.cells #[(.slice none 0 0)] 24), OwnI 3 (.slice none 0 0) ([] : List Int)] S0; clear S0
  refine WP_range (RV := RInt) (l := l1) (fun pre M c => ∃ (u2 : Value), c = bigs [blk b_1 (.cells #[u2] 24), OwnI 3 u2 pre]) (fun _ _ _ _ => False) E S rfl h1 (Hp.le.refl _) (fun _ _ _ h => by rw [h]; rfl) (by decide) (by rintro _ M M' c hM ⟨u2, rfl⟩; exact ⟨_, rfl⟩) ⟨_, rfl⟩ ?_ ?_ ?_
  clear E S
  · rintro lb_4 rec_5 pre x _ a w M_3 _ G hM_3 hp_6 rfl ⟨u2, rfl⟩ E S
    replace E : Env a 13 [] [(7, .int .i64 x), (2, .pointer (some ⟨b_1, 0, none⟩)), (6, v1)] := E
    replace S := S.swap.unpack2
    have hq0 := prefix_lt hp_6
    replace h1 := h1.le hM_3
    refine WP_region ?_
    refine S_v E rfl (R_assign E rfl) rfl ?_
    clear E a; intro a E
    refine WL_nil ?_
    refine T_n ?_
    replace S := S.front2
    refine rb S ?_
    clear S; intro w S
    refine WP_block ?_
    refine WP_region ?_
    refine S_v E rfl (R_load E rfl (Try.isAgg24 _) (cell_blk (S.mem (.tail _ (.head _))))) rfl ?_
    clear E a; intro a E
    refine S_v E rfl (R_move E rfl) rfl ?_
    clear E a; intro a E
    refine S_x (X_buildI (ys := [x]) E S rfl T24 rfl rfl rfl ?_)
    clear E a S; rintro a w v_8 E S
    replace S := S.front3
    replace S := S.front1
    refine S_x (X_appendB (xs := pre) (ys := [x]) E S rfl rfl rfl T24 (by first | omega | (simp; done) | (simp; omega) | (simp_all; omega)) ?_)
    clear E a S; rintro a w v_9 E S
    have ho_10 := S.oneI
    replace S := S.front2
    refine S_x0 (X_store E S rfl rfl (Try.sizeOf24 _) ho_10 ?_)
    clear E a S; rintro a w E S
    refine WL_nil ?_
    refine B_n ?_
    replace S := S.front1
    replace S := S.front1
    replace S := S.front1
    replace S := S.front1
    have S0 := S; clear S; have S := (St.pack [blk b_1 (.cells #[v_9] 24), OwnI 3 v_9 (pre ++ [x])] S0).swap; clear S0
    exact ⟨M_3, _, (Hp.le.refl _), ⟨_, rfl⟩, S⟩
  · rintro a w M_11 _ D_12 hM_11 ⟨u2, rfl⟩ S E
    replace S := S.unpack2
    replace h1 := h1.le hM_11
    refine B_n ?_
    refine T_n ?_
    refine WP_seq ?_
    refine WP_region ?_
    refine S_v E rfl (R_load E rfl (Try.isAgg24 _) (cell_blk (S.mem (.head _)))) rfl ?_
    clear E a; intro a E
    refine S_v E rfl (R_assign E rfl) rfl ?_
    clear E a; intro a E
    refine WL_nil ?_
    refine T_n ?_
    refine WP_ret ?_
    replace S := S.front1
    have S0 := S; clear S
    obtain ⟨M_13, hM_13, hz_14, S⟩ := S0.freezeI (by (first | omega | (simp; omega) | (simp; done) | (simp_all; omega) | grind))
    clear S0
    replace h1 := h1.le hM_13
    replace S := S.drop
    exact F_retM1 E S Try.results124 rfl (fun w S => ⟨_, rfl, M_13, (hM_11.trans hM_13), hz_14, S⟩)
  · rintro _ _ _ _ _ _ _ _ _ hX; exact hX.elim

set_option maxRecDepth 100000 in
set_option maxHeartbeats 4000000 in
theorem slices_Collect {M : Hp} {v0 : Value} {l0 : List Int} (h0 : SeqV Try.prog v0 M (RInt) l0)(hb : l0.length ≤ 1000000000000) :
    Pu Try.prog (.func (.func 77) #[] #[]) M [v0] (fun r M' => RdI M' r l0) := by
  refine Pu_enter Try.func77 rfl Try.ntmps77 rfl Try.call77 ?_
  intro a w M1 H hM1 S E
  replace h0 := h0.le hM1
  refine WP_seq ?_
  refine WP_region ?_
  refine S_v E rfl (R_assign E rfl) rfl ?_
  clear E a; intro a E
  refine WL_nil ?_
  refine T_n ?_
  refine WP_seq ?_
  refine WP_region ?_
  refine S_v E rfl (R_move E rfl) rfl ?_
  clear E a; intro a E
  refine S_x (X_pu E S rfl rfl rfl (slices_AppendSeq h0 (by (first | omega | (simp; omega) | (simp; done) | (simp_all; omega) | grind))) (Hp.le.refl _) ?_)
  clear E a S; rintro a v_2 w M_1 hM_1 hv_2 S E
  replace h0 := h0.le hM_1
  refine S_v E rfl (R_assign E rfl) rfl ?_
  clear E a; intro a E
  refine WL_nil ?_
  refine T_n ?_
  refine WP_ret ?_
  exact F_ret1 E Try.results77 rfl ⟨_, rfl, M_1, hM_1, hv_2, S⟩

set_option maxRecDepth 100000 in
set_option maxHeartbeats 4000000 in
theorem impl_IntersectBySeq {M : Hp} {v0 : Value} {l0 : List (List Int)} (h0 : RdII M v0 l0) {kk1 kn1 : Int} (gk1 : -9223372036854775808 ≤ kn1 ∧ kn1 ≤ 9223372036854775807) (hb2 : l0.length ≤ 1000000000) (hb : ∀ x ∈ l0, x.length ≤ 1000000000) :
    Pu Try.prog (.func (.func 27) #[] #[]) M [.agg #[.int .i64 kk1, .int .i64 kn1], v0] (fun r M' => RdI M' r (meetF (fun x => keyAt kk1 kn1 x 0) l0)) := by
  refine Pu_enter Try.func27 rfl Try.ntmps27 rfl Try.call27 ?_
  intro a w M1 H hM1 S E
  replace h0 := h0.le hM1
  have b0 := h0.bound
  have hml := meet_len (fun x => keyAt kk1 kn1 x 0) (ll := l0) hb
  refine WP_seq ?_
  refine WP_region ?_
  refine S_x (X_box (cs := #[.int .i64 kk1, .int .i64 kn1]) E S rfl rfl rfl ?_)
  clear E a S; rintro a w b_1 E S
  obtain ⟨M_2, hM_2, hb_1, S⟩ := S.freezeB
  replace h0 := h0.le hM_2
  refine S_v E rfl (R_assign E rfl) rfl ?_
  clear E a; intro a E
  refine WL_nil ?_
  refine T_n ?_
  refine WP_seq ?_
  have hb_1k2 := hb_1
  replace S := S.mono_heap (w' := World.drew _) rfl
  refine WP_drawn (C := fun x w => agree M_2 w) (bf := (fun i => [])) [0, 1, 2, 6] [0, 1, 2, 3, 4, 5, 6] Try.mixed (by kernel_rfl) (fun x hq => S.imm) ?_
  refine D_v E rfl rfl rfl (fun w hC => (R_loadGM E rfl (Try.isAgg31 _) (Try.sizeOf31 _) hC hb_1k2)) ?_
  clear E a; intro a E
  refine D_v E rfl rfl rfl (fun w hC => (R_makeFunc E rfl rfl)) ?_
  clear E a; intro a E
  refine D_v E rfl rfl rfl (fun w hC => (R_move E rfl)) ?_
  clear E a; intro a E
  refine D_x rfl rfl rfl (X_pu E S rfl rfl rfl (impl_seqs h0 (by first | omega | (simp; omega))) (Hp.le.refl _) ?_)
  clear E a S; rintro a v_4 w M_3 hM_3 hv_4 S E
  replace h0 := h0.le hM_3
  replace hb_1 := hM_3.2 _ _ hb_1
  refine ⟨fun x hq hb => (agree_le hM_3 S.imm), ?_⟩
  refine D_x rfl rfl rfl (X_pu E S rfl rfl rfl (it_IntersectBy ⟨rfl, fun zx1 => Key_of (x1 := zx1) (by omega)⟩ hv_4) (Hp.le.refl _) ?_)
  clear E a S; rintro a v_6 w M_5 hM_5 hv_6 S E
  replace h0 := h0.le hM_5
  replace hb_1 := hM_5.2 _ _ hb_1
  replace hv_4 := hv_4.le RSq_mono hM_5
  refine ⟨fun x hq hb => (agree_le (hM_3.trans hM_5) S.imm), ?_⟩
  refine D_x rfl rfl rfl (X_pu E S rfl rfl rfl (slices_Collect hv_6 (by (first | omega | (simp; omega) | (simp; done) | (simp_all; omega) | grind))) (Hp.le.refl _) ?_)
  clear E a S; rintro a v_8 w M_7 hM_7 hv_8 S E
  replace h0 := h0.le hM_7
  replace hb_1 := hM_7.2 _ _ hb_1
  replace hv_4 := hv_4.le RSq_mono hM_7
  replace hv_6 := hv_6.le hM_7
  refine ⟨fun x hq hb => (agree_le (hM_3.trans (hM_5.trans hM_7)) S.imm), ?_⟩
  refine D_v E rfl rfl rfl (fun w hC => (R_assign E rfl)) ?_
  clear E a; intro a E
  refine D_end (NoP_n ?_)
  refine T_n ?_
  refine WP_ret ?_
  exact F_ret1 E Try.results27 rfl ⟨_, rfl, M_7, (hM_2.trans (hM_3.trans (hM_5.trans hM_7))), hv_8, S⟩

set_option maxRecDepth 100000 in
set_option maxHeartbeats 4000000 in
theorem laws_eq {M : Hp} {v0 v1 : Value} {l0 l1 : List Int} (h0 : RdI M v0 l0) (h1 : RdI M v1 l1) :
    Pu Try.prog (.func (.func 18) #[] #[]) M [v0, v1] (fun r M' => r = .bool (decide (l0 = l1))) := by
  refine Pu_enter Try.func18 rfl Try.ntmps18 rfl Try.call18 ?_
  intro a w M1 H hM1 S E
  replace h0 := h0.le hM1
  replace h1 := h1.le hM1
  have b0 := h0.bound
  have b1 := h1.bound
  refine WP_seq ?_
  refine WP_region ?_
  refine S_v E rfl (R_assign E rfl) rfl ?_
  clear E a; intro a E
  refine WL_nil ?_
  refine T_n ?_
  refine WP_seq ?_
  refine WP_seq ?_
  refine WP_region ?_
  refine S_v E rfl (R_move E rfl) rfl ?_
  clear E a; intro a E
  refine S_v E rfl (R_lenV E rfl T24 h0.len) rfl ?_
  clear E a; intro a E
  refine S_v E rfl (R_move E rfl) rfl ?_
  clear E a; intro a E
  refine S_v E rfl (R_lenV E rfl T24 h1.len) rfl ?_
  clear E a; intro a E
  refine S_v E rfl (R_neq E rfl rfl) rfl ?_
  clear E a; intro a E
  refine WL_nil ?_
  refine T_n ?_
  refine WP_cond E rfl (fun hc_1 => ?_) (fun hc_1 => ?_)
  · replace hc_1 := of_decide_eq_true hc_1
    refine WP_seq ?_
    refine WP_region ?_
    refine S_v E rfl (R_assign E rfl) rfl ?_
    clear E a; intro a E
    refine WL_nil ?_
    refine T_n ?_
    refine WP_ret ?_
    refine T_r ?_
    exact F_ret1 E Try.results18 rfl ⟨_, rfl, M1, (Hp.le.refl _), (bF (by ((try clear S); (try clear E); first | assumption | omega | rfl | (simp; done) | (simp_all; done) | (simp [List.take_add_one, *]; done) | grind [List.take_add_one]))), S⟩
  · replace hc_1 := of_decide_eq_false hc_1
    refine WP_skip ?_
    refine T_n ?_
    refine WP_seq ?_
    refine WP_seq ?_
    refine WP_region ?_
    refine S_v E rfl (R_move E rfl) rfl ?_
    clear E a; intro a E
    refine S_v E rfl (R_lenV E rfl T24 h0.len) rfl ?_
    clear E a; intro a E
    refine S_v E rfl (R_move E rfl) rfl ?_
    clear E a; intro a E
    refine WL_nil ?_
    refine T_n ?_
    refine WP_block ?_
    refine WP_loop (γ := Nat) (fun (k : Nat) a w => ∃ (M_2 : Hp), Hp.le M1 M_2 ∧ St w M_2 (H) ∧ Env a 26 [] [(0, v0), (1, v1), (12, .int .i64 (((l0).length : Nat) : Int)), (13, .int .i64 ((k : Nat) : Int))] ∧ (k ≤ (l0).length) ∧ (l0.length = l1.length) ∧ (l0.take k = l1.take k)) (fun k => ((l0).length) - k) 0 ⟨M1, Hp.le.refl _, S, E.keep ⟨rfl, rfl, rfl, rfl, trivial⟩, by ((try clear S); (try clear E); first | assumption | omega | rfl | (simp; done) | (simp_all; done) | (simp [List.take_add_one, *]; done) | grind [List.take_add_one]), by ((try clear S); (try clear E); first | assumption | omega | rfl | (simp; done) | (simp_all; done) | (simp [List.take_add_one, *]; done) | grind [List.take_add_one]), by ((try clear S); (try clear E); first | assumption | omega | rfl | (simp; done) | (simp_all; done) | (simp [List.take_add_one, *]; done) | grind [List.take_add_one])⟩ ?_
    try clear E
    try clear S
    try clear a
    try clear w
    rintro k a w ⟨M_2, hM_2, S, E, hL0_0, hL0_1, hL0_2⟩
    replace h0 := h0.le hM_2
    replace h1 := h1.le hM_2
    refine WP_seq ?_
    refine WP_region ?_
    refine S_v E rfl (R_lss E rfl rfl) rfl ?_
    clear E a; intro a E
    refine WL_nil ?_
    refine T_n ?_
    refine WP_seq ?_
    refine WP_cond E rfl (fun hc_3 => ?_) (fun hc_3 => ?_)
    · replace hc_3 := of_decide_eq_true hc_3
      refine WP_skip ?_
      refine T_n ?_
      refine WP_seq ?_
      refine WP_block ?_
      refine WP_seq ?_
      refine WP_region ?_
      refine S_v E rfl (R_move E rfl) rfl ?_
      clear E a; intro a E
      refine S_v E rfl (R_assign E rfl) rfl ?_
      clear E a; intro a E
      refine WL_nil ?_
      refine T_n ?_
      refine WP_seq ?_
      replace S := S.mono_heap (w' := World.drew _) rfl
      refine WP_drawn (C := fun x w => agree M_2 w) (bf := (fun i => [])) [0, 1, 2, 3, 4, 5, 6, 7, 8] [0, 1, 2, 3, 4, 5, 6, 7, 8] Try.mixed (by kernel_rfl) (fun x hq => S.imm) ?_
      refine D_v E rfl rfl rfl (fun w hC => (R_move E rfl)) ?_
      clear E a; intro a E
      refine D_v E rfl rfl rfl (fun w hC => (R_move E rfl)) ?_
      clear E a; intro a E
      obtain ⟨x_4, hx_4⟩ : ∃ x, (l0)[k]? = some x := ⟨_, List.getElem?_eq_getElem (by first | omega | (simp; done) | (simp; omega) | (simp_all; omega))⟩
      obtain ⟨p_5, hp_5, qp_5⟩ := h0.at hx_4
      refine D_v E rfl rfl rfl (fun w hC => (R_idx E rfl rfl T24 hp_5 rfl)) ?_
      clear E a; intro a E
      refine D_v E rfl rfl rfl (fun w hC => (R_loadM E rfl Try.isAgg3 hC qp_5)) ?_
      clear E a; intro a E
      refine D_v E rfl rfl rfl (fun w hC => (R_move E rfl)) ?_
      clear E a; intro a E
      refine D_v E rfl rfl rfl (fun w hC => (R_move E rfl)) ?_
      clear E a; intro a E
      obtain ⟨x_6, hx_6⟩ : ∃ x, (l1)[k]? = some x := ⟨_, List.getElem?_eq_getElem (by first | omega | (simp; done) | (simp; omega) | (simp_all; omega))⟩
      obtain ⟨p_7, hp_7, qp_7⟩ := h1.at hx_6
      refine D_v E rfl rfl rfl (fun w hC => (R_idx E rfl rfl T24 hp_7 rfl)) ?_
      clear E a; intro a E
      refine D_v E rfl rfl rfl (fun w hC => (R_loadM E rfl Try.isAgg3 hC qp_7)) ?_
      clear E a; intro a E
      refine D_v E rfl rfl rfl (fun w hC => (R_neq E rfl rfl)) ?_
      clear E a; intro a E
      refine D_end (NoP_n ?_)
      refine T_n ?_
      refine WP_cond E rfl (fun hc_8 => ?_) (fun hc_8 => ?_)
      · replace hc_8 := of_decide_eq_true hc_8
        refine WP_seq ?_
        refine WP_region ?_
        refine S_v E rfl (R_assign E rfl) rfl ?_
        clear E a; intro a E
        refine WL_nil ?_
        refine T_n ?_
        refine WP_ret ?_
        refine B_r ?_
        refine T_r ?_
        refine T_r ?_
        refine B_r ?_
        refine T_r ?_
        exact F_ret1 E Try.results18 rfl ⟨_, rfl, M_2, hM_2, (bF (by ((try clear S); (try clear E); first | assumption | omega | rfl | (simp; done) | (simp_all; done) | (simp [List.take_add_one, *]; done) | grind [List.take_add_one]))), S⟩
      · replace hc_8 := of_decide_eq_false hc_8
        refine WP_skip ?_
        refine B_n ?_
        refine T_n ?_
        refine WP_region ?_
        refine S_v E rfl (R_addx (m := ((k + 1 : Nat) : Int)) E rfl rfl (by omega) (by omega)) rfl ?_
        clear E a; intro a E
        refine S_v E rfl (R_move E rfl) rfl ?_
        clear E a; intro a E
        refine WL_nil ?_
        refine T_n ?_
        exact ⟨k + 1, ⟨M_2, hM_2, S, E.keep ⟨rfl, rfl, rfl, rfl, trivial⟩, by ((try clear S); (try clear E); first | assumption | omega | rfl | (simp; done) | (simp_all; done) | (simp [List.take_add_one, *]; done) | grind [List.take_add_one]), by ((try clear S); (try clear E); first | assumption | omega | rfl | (simp; done) | (simp_all; done) | (simp [List.take_add_one, *]; done) | grind [List.take_add_one]), by ((try clear S); (try clear E); first | assumption | omega | rfl | (simp; done) | (simp_all; done) | (simp [List.take_add_one, *]; done) | grind [List.take_add_one])⟩, by omega⟩
    · replace hc_3 := of_decide_eq_false hc_3
      refine WP_exit ?_
      refine T_x ?_
      refine T_x ?_
      refine B_x ?_
      refine T_n ?_
      refine WP_seq ?_
      refine WP_region ?_
      refine S_v E rfl (R_assign E rfl) rfl ?_
      clear E a; intro a E
      refine WL_nil ?_
      refine T_n ?_
      refine WP_ret ?_
      exact F_ret1 E Try.results18 rfl ⟨_, rfl, M_2, hM_2, (bT (by ((try clear S); (try clear E); first | assumption | omega | rfl | (simp; done) | (simp_all; done) | (simp [List.take_add_one, *]; done) | grind [List.take_add_one]))), S⟩

set_option maxRecDepth 100000 in
set_option maxHeartbeats 4000000 in
theorem laws_FnIntersectBy {M : Hp} {kk0 kn0 : Int} (gk0 : -9223372036854775808 ≤ kn0 ∧ kn0 ≤ 9223372036854775807) {v1 v2 : Value} {l1 l2 : List Int} (h1 : RdI M v1 l1) (h2 : RdI M v2 l2) :
    PuC Try.prog 4 M [.agg #[.int .i64 kk0, .int .i64 kn0], v1, v2] (fun r M' => r = .bool true) := by
  refine PuC_enter Try.func4 rfl Try.ntmps4 rfl ?_
  intro a w M1 H hM1 S E
  replace h1 := h1.le hM1
  replace h2 := h2.le hM1
  have b1 := h1.bound
  have b2 := h2.bound
  refine WP_seq ?_
  refine WP_region ?_
  refine S_x (X_box (cs := #[.int .i64 kk0, .int .i64 kn0]) E S rfl rfl rfl ?_)
  clear E a S; rintro a w b_1 E S
  obtain ⟨M_2, hM_2, hb_1, S⟩ := S.freezeB
  replace h1 := h1.le hM_2
  replace h2 := h2.le hM_2
  refine S_v E rfl (R_assign E rfl) rfl ?_
  clear E a; intro a E
  refine WL_nil ?_
  refine T_n ?_
  refine WP_seq ?_
  refine WP_seq ?_
  refine WP_region ?_
  refine S_v E rfl (R_move E rfl) rfl ?_
  clear E a; intro a E
  refine S_v E rfl (R_lenV E rfl T24 h1.len) rfl ?_
  clear E a; intro a E
  refine S_v E rfl (R_gtr E rfl rfl) rfl ?_
  clear E a; intro a E
  refine S_v E rfl (R_move E rfl) rfl ?_
  clear E a; intro a E
  refine split_bool (decide (2147483647 < (((l1).length : Nat) : Int))) (fun hc_3 => ?_) (fun hc_3 => ?_)
  · replace E := E.val (t := 17) rfl hc_3
    replace E := E.val (t := 18) rfl hc_3
    replace hc_3 := of_decide_eq_true hc_3
    refine WL_guard_no E rfl rfl rfl rfl fun a E => ?_
    refine WL_guard_no E rfl rfl rfl rfl fun a E => ?_
    refine WL_guard_no E rfl rfl rfl rfl fun a E => ?_
    refine S_v E rfl (R_pickT E rfl rfl) rfl ?_
    clear E a; intro a E
    refine WL_nil ?_
    refine T_n ?_
    refine WP_condT E rfl rfl ?_
    refine WP_seq ?_
    refine WP_region ?_
    refine S_v E rfl (R_assign E rfl) rfl ?_
    clear E a; intro a E
    refine WL_nil ?_
    refine T_n ?_
    refine WP_ret ?_
    refine T_r ?_
    exact F_ret1 E Try.results4 rfl ⟨_, rfl, M_2, hM_2, rfl, S⟩
  · replace E := E.val (t := 17) rfl hc_3
    replace E := E.val (t := 18) rfl hc_3
    replace hc_3 := of_decide_eq_false hc_3
    refine WL_guard_yes E rfl rfl ?_
    refine S_v E rfl (R_move E rfl) rfl ?_
    clear E a; intro a E
    refine WL_guard_yes E rfl rfl ?_
    refine S_v E rfl (R_lenV E rfl T24 h2.len) rfl ?_
    clear E a; intro a E
    refine WL_guard_yes E rfl rfl ?_
    refine S_v E rfl (R_gtr E rfl rfl) rfl ?_
    clear E a; intro a E
    refine S_v E rfl (R_pickF E rfl rfl) rfl ?_
    clear E a; intro a E
    refine WL_nil ?_
    refine T_n ?_
    refine WP_cond E rfl (fun hc_4 => ?_) (fun hc_4 => ?_)
    · replace hc_4 := of_decide_eq_true hc_4
      refine WP_seq ?_
      refine WP_region ?_
      refine S_v E rfl (R_assign E rfl) rfl ?_
      clear E a; intro a E
      refine WL_nil ?_
      refine T_n ?_
      refine WP_ret ?_
      refine T_r ?_
      exact F_ret1 E Try.results4 rfl ⟨_, rfl, M_2, hM_2, rfl, S⟩
    · replace hc_4 := of_decide_eq_false hc_4
      refine WP_skip ?_
      refine T_n ?_
      refine WP_seq ?_
      refine WP_seq ?_
      refine WP_region ?_
      refine S_v E rfl (R_build (u := .agg #[.int .i64 0, .int .i64 0]) (vs := []) E rfl (fun w => FB31__  w)) rfl ?_
      clear E a; intro a E
      refine S_x (X_buildI (ys := [1]) E S rfl T24 rfl rfl rfl ?_)
      clear E a S; rintro a w v_5 E S
      refine S_x (X_buildI (ys := [1]) E S rfl T24 rfl rfl rfl ?_)
      clear E a S; rintro a w v_6 E S
      replace S := S.front1
      have S0 := S; clear S
      obtain ⟨M_8, hM_8, hz_9, S⟩ := S0.freezeI (by (first | omega | (simp; done) | (simp; omega) | (simp at hfl ⊢; omega)))
      clear S0
      replace h1 := h1.le hM_8
      replace h2 := h2.le hM_8
      replace hb_1 := hM_8.2 _ _ hb_1
      have S0 := S; clear S
      obtain ⟨M_10, hM_10, hz_11, S⟩ := S0.freezeI (by (first | omega | (simp; done) | (simp; omega) | (simp at hfl ⊢; omega)))
      clear S0
      replace h1 := h1.le hM_10
      replace h2 := h2.le hM_10
      replace hb_1 := hM_10.2 _ _ hb_1
      replace hz_9 := hz_9.le hM_10
      refine S_x (X_buildM (R := RSl 1 RInt) (vs := [v_5, v_6]) (xs := [[1], [1]]) (RSl_mono RInt_mono) E S rfl T22 rfl rfl rfl (by intro u hu; simp only [List.mem_cons, List.not_mem_nil, or_false] at hu; rcases hu with rfl | rfl <;> first | exact RdI.one hz_9 | exact RdI.one hz_11 | rfl) rfl (rowsC (R := RSl 1 RInt) (RdI.row hz_9) (rowsC (R := RSl 1 RInt) (RdI.row hz_11) rowsN)) ?_)
      clear E a S; rintro a v_7 w M_12 hM_12 hv_7 S E
      replace hv_7 : RdII M_12 v_7 [[1], [1]] := hv_7
      replace h1 := h1.le hM_12
      replace h2 := h2.le hM_12
      replace hb_1 := hM_12.2 _ _ hb_1
      replace hz_9 := hz_9.le hM_12
      replace hz_11 := hz_11.le hM_12
      refine S_x (X_pu E S rfl rfl rfl (impl_IntersectBy hv_7 (by omega) (by first | omega | (simp; done) | (simp; omega)) (by (first | omega | (simp; omega) | (simp; done) | (simp_all; omega) | grind))) (Hp.le.refl _) ?_)
      clear E a S; rintro a v_14 w M_13 hM_13 hv_14 S E
      replace h1 := h1.le hM_13
      replace h2 := h2.le hM_13
      replace hb_1 := hM_13.2 _ _ hb_1
      replace hz_9 := hz_9.le hM_13
      replace hz_11 := hz_11.le hM_13
      replace hv_7 := hv_7.le hM_13
      refine S_v E rfl (R_lenV E rfl T24 hv_14.len) rfl ?_
      clear E a; intro a E
      refine S_v E rfl (R_neq E rfl rfl) rfl ?_
      clear E a; intro a E
      refine WL_nil ?_
      refine T_n ?_
      have hc_15 : (decide ((((meetF (fun x => keyAt 0 0 x 0) ([[1], [1]])).length : Nat) : Int) ≠ 1)) = false := by (clear S E; first | (simp; done) | decide | (have e := ib_set (by assumption) (show (setI _).length ≤ k by omega); simp [e]; done) | (have e := ib_len (by assumption) (show (setI _).length ≤ k by omega); simp [e]; done) | (have e := ib_sub (by assumption) (by assumption); simp [e]; done))
      refine WP_condF E rfl hc_15 ?_
      refine WP_skip ?_
      refine T_n ?_
      refine WP_seq ?_
      refine WP_seq ?_
      refine WP_region ?_
      refine S_v E rfl (R_move E rfl) rfl ?_
      clear E a; intro a E
      refine S_v E rfl (R_move E rfl) rfl ?_
      clear E a; intro a E
      refine S_x (X_buildM (R := RSl 1 RInt) (vs := [v1, v2]) (xs := [l1, l2]) (RSl_mono RInt_mono) E S rfl T22 rfl rfl rfl (by intro u hu; simp only [List.mem_cons, List.not_mem_nil, or_false] at hu; rcases hu with rfl | rfl <;> first | exact RdI.one h1 | exact RdI.one h2 | rfl) rfl (rowsC (R := RSl 1 RInt) (RdI.row h1) (rowsC (R := RSl 1 RInt) (RdI.row h2) rowsN)) ?_)
      clear E a S; rintro a v_16 w M_17 hM_17 hv_16 S E
      replace hv_16 : RdII M_17 v_16 [l1, l2] := hv_16
      replace h1 := h1.le hM_17
      replace h2 := h2.le hM_17
      replace hb_1 := hM_17.2 _ _ hb_1
      replace hz_9 := hz_9.le hM_17
      replace hz_11 := hz_11.le hM_17
      replace hv_7 := hv_7.le hM_17
      replace hv_14 := hv_14.le hM_17
      refine S_x (X_pu E S rfl rfl rfl (laws_few hv_16) (Hp.le.refl _) ?_)
      clear E a S; rintro a _ w M_18 hM_18 rfl S E
      replace h1 := h1.le hM_18
      replace h2 := h2.le hM_18
      replace hb_1 := hM_18.2 _ _ hb_1
      replace hz_9 := hz_9.le hM_18
      replace hz_11 := hz_11.le hM_18
      replace hv_7 := hv_7.le hM_18
      replace hv_14 := hv_14.le hM_18
      replace hv_16 := hv_16.le hM_18
      refine S_v E rfl (R_not E rfl) rfl ?_
      clear E a; intro a E
      refine S_v E rfl (R_move E rfl) rfl ?_
      clear E a; intro a E
      refine split_bool (!(decide (∀ x ∈ [l1, l2], x.length ≤ 300))) (fun hc_19 => ?_) (fun hc_19 => ?_)
      · replace E := E.val (t := 34) rfl hc_19
        replace E := E.val (t := 35) rfl hc_19
        refine WL_guard_no E rfl rfl rfl rfl fun a E => ?_
        refine WL_guard_no E rfl rfl rfl rfl fun a E => ?_
        refine WL_guard_no E rfl rfl rfl rfl fun a E => ?_
        refine S_v E rfl (R_pickT E rfl rfl) rfl ?_
        clear E a; intro a E
        refine S_v E rfl (R_move E rfl) rfl ?_
        clear E a; intro a E
        refine WL_guard_no E rfl rfl rfl rfl fun a E => ?_
        refine WL_guard_no E rfl rfl rfl rfl fun a E => ?_
        refine WL_guard_no E rfl rfl rfl rfl fun a E => ?_
        refine S_v E rfl (R_pickT E rfl rfl) rfl ?_
        clear E a; intro a E
        refine WL_nil ?_
        refine T_n ?_
        refine WP_condT E rfl rfl ?_
        refine WP_seq ?_
        refine WP_region ?_
        refine S_v E rfl (R_assign E rfl) rfl ?_
        clear E a; intro a E
        refine WL_nil ?_
        refine T_n ?_
        refine WP_ret ?_
        refine T_r ?_
        exact F_ret1 E Try.results4 rfl ⟨_, rfl, M_18, (hM_2.trans (hM_8.trans (hM_10.trans (hM_12.trans (hM_13.trans (hM_17.trans hM_18)))))), rfl, S⟩
      · replace E := E.val (t := 34) rfl hc_19
        replace E := E.val (t := 35) rfl hc_19
        refine WL_guard_yes E rfl rfl ?_
        refine S_v E rfl (R_loadGM E rfl (Try.isAgg31 _) (Try.sizeOf31 _) S.imm hb_1) rfl ?_
        clear E a; intro a E
        refine WL_guard_yes E rfl rfl ?_
        refine S_x (X_pu E S rfl rfl rfl (laws_just (by omega)) (Hp.le.refl _) ?_)
        clear E a S; rintro a _ w M_20 hM_20 rfl S E
        replace h1 := h1.le hM_20
        replace h2 := h2.le hM_20
        replace hb_1 := hM_20.2 _ _ hb_1
        replace hz_9 := hz_9.le hM_20
        replace hz_11 := hz_11.le hM_20
        replace hv_7 := hv_7.le hM_20
        replace hv_14 := hv_14.le hM_20
        replace hv_16 := hv_16.le hM_20
        refine WL_guard_yes E rfl rfl ?_
        refine S_v E rfl (R_not E rfl) rfl ?_
        clear E a; intro a E
        refine S_v E rfl (R_pickF E rfl rfl) rfl ?_
        clear E a; intro a E
        refine S_v E rfl (R_move E rfl) rfl ?_
        clear E a; intro a E
        refine split_bool (!(decide (-1099511627776 < kn0 ∧ kn0 < 1099511627776))) (fun hc_21 => ?_) (fun hc_21 => ?_)
        · replace E := E.val (t := 38) rfl hc_21
          replace E := E.val (t := 39) rfl hc_21
          replace E := E.val (t := 40) rfl hc_21
          refine WL_guard_no E rfl rfl rfl rfl fun a E => ?_
          refine WL_guard_no E rfl rfl rfl rfl fun a E => ?_
          refine WL_guard_no E rfl rfl rfl rfl fun a E => ?_
          refine S_v E rfl (R_pickT E rfl rfl) rfl ?_
          clear E a; intro a E
          refine WL_nil ?_
          refine T_n ?_
          refine WP_condT E rfl rfl ?_
          refine WP_seq ?_
          refine WP_region ?_
          refine S_v E rfl (R_assign E rfl) rfl ?_
          clear E a; intro a E
          refine WL_nil ?_
          refine T_n ?_
          refine WP_ret ?_
          refine T_r ?_
          exact F_ret1 E Try.results4 rfl ⟨_, rfl, M_20, (hM_2.trans (hM_8.trans (hM_10.trans (hM_12.trans (hM_13.trans (hM_17.trans (hM_18.trans hM_20))))))), rfl, S⟩
        · replace E := E.val (t := 38) rfl hc_21
          replace E := E.val (t := 39) rfl hc_21
          replace E := E.val (t := 40) rfl hc_21
          refine WL_guard_yes E rfl rfl ?_
          refine S_v E rfl (R_fieldAddr E rfl (FA31_0 _)) rfl ?_
          clear E a; intro a E
          refine WL_guard_yes E rfl rfl ?_
          refine S_v E rfl (R_loadM E rfl Try.isAgg3 S.imm (cellM_boxo hb_1 rfl)) rfl ?_
          clear E a; intro a E
          refine WL_guard_yes E rfl rfl ?_
          refine S_v E rfl (R_eql E rfl rfl) rfl ?_
          clear E a; intro a E
          refine S_v E rfl (R_pickF E rfl rfl) rfl ?_
          clear E a; intro a E
          refine WL_nil ?_
          refine T_n ?_
          refine WP_cond E rfl (fun hc_22 => ?_) (fun hc_22 => ?_)
          · replace hc_22 := of_decide_eq_true hc_22
            refine WP_seq ?_
            refine WP_region ?_
            refine S_v E rfl (R_assign E rfl) rfl ?_
            clear E a; intro a E
            refine WL_nil ?_
            refine T_n ?_
            refine WP_ret ?_
            refine T_r ?_
            exact F_ret1 E Try.results4 rfl ⟨_, rfl, M_20, (hM_2.trans (hM_8.trans (hM_10.trans (hM_12.trans (hM_13.trans (hM_17.trans (hM_18.trans hM_20))))))), rfl, S⟩
          · replace hc_22 := of_decide_eq_false hc_22
            have hkj : -1099511627776 < kn0 ∧ kn0 < 1099511627776 := (by simp_all)
            have hle : l1.length ≤ 300 ∧ l2.length ≤ 300 := (by simp_all)
            have hml : (meetF (fun x => keyAt kk0 kn0 x 0) [l1, l2]).length ≤ 300 := meet_len (fun x => keyAt kk0 kn0 x 0) (by simp; omega)
            have hsl := (setI_spec (l1.map (fun x => keyAt kk0 kn0 x 0))).2.2
            rw [List.length_map] at hsl
            have hpl2 : ([meetF (fun x => keyAt kk0 kn0 x 0) [l1, l2], meetF (fun x => keyAt kk0 kn0 x 0) [l1, l2]] : List (List Int)).length = 2 := rfl
            refine WP_skip ?_
            refine T_n ?_
            refine WP_seq ?_
            refine WP_region ?_
            refine S_v E rfl (R_makeFunc E rfl rfl) rfl ?_
            clear E a; intro a E
            refine S_v E rfl (R_assign E rfl) rfl ?_
            clear E a; intro a E
            refine WL_nil ?_
            refine T_n ?_
            refine WP_seq ?_
            refine WP_region ?_
            refine S_v E rfl (R_assign E rfl) rfl ?_
            clear E a; intro a E
            refine WL_nil ?_
            refine T_n ?_
            refine WP_seq ?_
            refine WP_seq ?_
            refine WP_region ?_
            refine S_v E rfl (R_move E rfl) rfl ?_
            clear E a; intro a E
            refine S_v E rfl (R_move E rfl) rfl ?_
            clear E a; intro a E
            refine S_x (X_pu E S rfl rfl rfl (laws_FnIntersectByL h1 (by first | omega | (simp; omega) | exact pair_le (by assumption) (by omega)) (by assumption) hb_1) (Hp.le.refl _) ?_)
            clear E a S; rintro a v_24 w M_23 hM_23 hv_24 S E
            replace h1 := h1.le hM_23
            replace h2 := h2.le hM_23
            replace hb_1 := hM_23.2 _ _ hb_1
            replace hz_9 := hz_9.le hM_23
            replace hz_11 := hz_11.le hM_23
            replace hv_7 := hv_7.le hM_23
            replace hv_14 := hv_14.le hM_23
            replace hv_16 := hv_16.le hM_23
            refine S_x (X_pu E S rfl rfl rfl (laws_sorted hv_24 (by (first | omega | (simp; omega) | (simp; done) | (simp_all; omega) | grind))) (Hp.le.refl _) ?_)
            clear E a S; rintro a v_26 w M_25 hM_25 hv_26 S E
            replace h1 := h1.le hM_25
            replace h2 := h2.le hM_25
            replace hb_1 := hM_25.2 _ _ hb_1
            replace hz_9 := hz_9.le hM_25
            replace hz_11 := hz_11.le hM_25
            replace hv_7 := hv_7.le hM_25
            replace hv_14 := hv_14.le hM_25
            replace hv_16 := hv_16.le hM_25
            replace hv_24 := hv_24.le hM_25
            refine S_v E rfl (R_lenV E rfl T24 hv_26.len) rfl ?_
            clear E a; intro a E
            refine S_v E rfl (R_move E rfl) rfl ?_
            clear E a; intro a E
            refine WL_nil ?_
            refine T_n ?_
            refine WP_block ?_
            replace S := (S.ownNil (e := 3) (sz := 1)).made0
            replace S := S.re1 (l' := ((setI (l1.map (fun x => keyAt kk0 kn0 x 0))).take 0).filter (fun z => decide (z ∈ l2.map (fun x => keyAt kk0 kn0 x 0)))) (by first | (simp; done) | (refine flt_yes (by assumption) ?_; exact decide_eq_true (by assumption)) | (refine flt_no (by assumption) ?_; exact decide_eq_false (by assumption)))
            refine WP_loop (γ := Nat) (fun (k : Nat) a w => ∃ (M_28 : Hp) (u8 : Value), Hp.le M_25 M_28 ∧ St w M_28 (OwnI 3 u8 (((setI (l1.map (fun x => keyAt kk0 kn0 x 0))).take k).filter (fun z => decide (z ∈ l2.map (fun x => keyAt kk0 kn0 x 0)))) :: H) ∧ Env a 113 [] [(1, v1), (2, v2), (3, .pointer (some ⟨b_1, 0, none⟩)), (7, .func (.func 24) #[] #[.pointer (some ⟨b_1, 0, none⟩)]), (8, u8), (49, v_26), (50, .int .i64 (((setI ((l1).map (fun x => keyAt kk0 kn0 x 0))).length : Nat) : Int)), (51, .int .i64 ((k : Nat) : Int))] ∧ (k ≤ (setI ((l1).map (fun x => keyAt kk0 kn0 x 0))).length)) (fun k => ((setI ((l1).map (fun x => keyAt kk0 kn0 x 0))).length) - k) 0 ⟨M_25, _, Hp.le.refl _, S, E.keep ⟨rfl, rfl, rfl, rfl, rfl, rfl, rfl, rfl, trivial⟩, by ((try clear S); (try clear E); first | assumption | omega | rfl | (simp; done) | (simp_all; done) | (simp [List.take_add_one, *]; done) | grind [List.take_add_one])⟩ ?_
            try clear E
            try clear S
            try clear a
            try clear w
            rintro k a w ⟨M_28, u8, hM_28, S, E, hL0_0⟩
            replace h1 := h1.le hM_28
            replace h2 := h2.le hM_28
            replace hb_1 := hM_28.2 _ _ hb_1
            replace hz_9 := hz_9.le hM_28
            replace hz_11 := hz_11.le hM_28
            replace hv_7 := hv_7.le hM_28
            replace hv_14 := hv_14.le hM_28
            replace hv_16 := hv_16.le hM_28
            replace hv_24 := hv_24.le hM_28
            replace hv_26 := hv_26.le hM_28
            have hfl := List.length_filter_le (fun z => decide (z ∈ l2.map (fun x => keyAt kk0 kn0 x 0))) ((setI (l1.map (fun x => keyAt kk0 kn0 x 0))).take k)
            simp only [List.length_take] at hfl
            refine WP_seq ?_
            refine WP_region ?_
            refine S_v E rfl (R_lss E rfl rfl) rfl ?_
            clear E a; intro a E
            refine WL_nil ?_
            refine T_n ?_
            refine WP_seq ?_
            refine WP_cond E rfl (fun hc_29 => ?_) (fun hc_29 => ?_)
            · replace hc_29 := of_decide_eq_true hc_29
              refine WP_skip ?_
              refine T_n ?_
              refine WP_seq ?_
              refine WP_block ?_
              refine WP_seq ?_
              refine WP_region ?_
              obtain ⟨x_30, hx_30⟩ : ∃ x, (setI ((l1).map (fun x => keyAt kk0 kn0 x 0)))[k]? = some x := ⟨_, List.getElem?_eq_getElem (by first | omega | (simp; done) | (simp; omega) | (simp_all; omega))⟩
              obtain ⟨p_31, hp_31, qp_31⟩ := hv_26.at hx_30
              refine S_v E rfl (R_idx E rfl rfl T24 hp_31 rfl) rfl ?_
              clear E a; intro a E
              refine S_v E rfl (R_loadM E rfl Try.isAgg3 S.imm qp_31) rfl ?_
              clear E a; intro a E
              refine S_v E rfl (R_assign E rfl) rfl ?_
              clear E a; intro a E
              refine WL_nil ?_
              refine T_n ?_
              refine WP_seq ?_
              refine WP_region ?_
              refine S_v E rfl (R_move E rfl) rfl ?_
              clear E a; intro a E
              refine S_v E rfl (R_move E rfl) rfl ?_
              clear E a; intro a E
              refine S_x (X_pu E S rfl rfl rfl (laws_FnIntersectByL h2 (by first | omega | (simp; omega) | exact pair_le (by assumption) (by omega)) (by assumption) hb_1) (Hp.le.refl _) ?_)
              clear E a S; rintro a v_33 w M_32 hM_32 hv_33 S E
              replace h1 := h1.le hM_32
              replace h2 := h2.le hM_32
              replace hb_1 := hM_32.2 _ _ hb_1
              replace hz_9 := hz_9.le hM_32
              replace hz_11 := hz_11.le hM_32
              replace hv_7 := hv_7.le hM_32
              replace hv_14 := hv_14.le hM_32
              replace hv_16 := hv_16.le hM_32
              replace hv_24 := hv_24.le hM_32
              replace hv_26 := hv_26.le hM_32
              refine S_v E rfl (R_move E rfl) rfl ?_
              clear E a; intro a E
              refine S_x (X_pu E S rfl rfl rfl (laws_in hv_33) (Hp.le.refl _) ?_)
              clear E a S; rintro a _ w M_34 hM_34 rfl S E
              replace h1 := h1.le hM_34
              replace h2 := h2.le hM_34
              replace hb_1 := hM_34.2 _ _ hb_1
              replace hz_9 := hz_9.le hM_34
              replace hz_11 := hz_11.le hM_34
              replace hv_7 := hv_7.le hM_34
              replace hv_14 := hv_14.le hM_34
              replace hv_16 := hv_16.le hM_34
              replace hv_24 := hv_24.le hM_34
              replace hv_26 := hv_26.le hM_34
              replace hv_33 := hv_33.le hM_34
              refine WL_nil ?_
              refine T_n ?_
              refine WP_cond E rfl (fun hc_35 => ?_) (fun hc_35 => ?_)
              · replace hc_35 := of_decide_eq_true hc_35
                refine WP_region ?_
                refine S_v E rfl (R_move E rfl) rfl ?_
                clear E a; intro a E
                refine S_v E rfl (R_move E rfl) rfl ?_
                clear E a; intro a E
                refine S_x (X_buildI (ys := [x_30]) E S rfl T24 rfl rfl rfl ?_)
                clear E a S; rintro a w v_36 E S
                replace S := S.front1
                replace S := S.front1
                refine S_x (X_appendB (xs := ((setI (l1.map (fun x => keyAt kk0 kn0 x 0))).take k).filter (fun z => decide (z ∈ l2.map (fun x => keyAt kk0 kn0 x 0)))) (ys := [x_30]) E S rfl rfl rfl T24 (by (first | omega | (simp; done) | (simp; omega) | (simp at hfl ⊢; omega))) ?_)
                clear E a S; rintro a w v_37 E S
                refine S_v E rfl (R_assign E rfl) rfl ?_
                clear E a; intro a E
                refine WL_nil ?_
                refine B_n ?_
                refine T_n ?_
                refine WP_region ?_
                refine S_v E rfl (R_addx (m := ((k + 1 : Nat) : Int)) E rfl rfl (by omega) (by omega)) rfl ?_
                clear E a; intro a E
                refine S_v E rfl (R_move E rfl) rfl ?_
                clear E a; intro a E
                refine WL_nil ?_
                refine T_n ?_
                replace S := S.re1 (l' := ((setI (l1.map (fun x => keyAt kk0 kn0 x 0))).take (k + 1)).filter (fun z => decide (z ∈ l2.map (fun x => keyAt kk0 kn0 x 0)))) (by first | (simp; done) | (refine flt_yes (by assumption) ?_; exact decide_eq_true (by assumption)) | (refine flt_no (by assumption) ?_; exact decide_eq_false (by assumption)))
                exact ⟨k + 1, ⟨M_34, _, (hM_28.trans (hM_32.trans hM_34)), S, E.keep ⟨rfl, rfl, rfl, rfl, rfl, rfl, rfl, rfl, trivial⟩, by ((try clear S); (try clear E); first | assumption | omega | rfl | (simp; done) | (simp_all; done) | (simp [List.take_add_one, *]; done) | grind [List.take_add_one])⟩, by omega⟩
              · replace hc_35 := of_decide_eq_false hc_35
                refine WP_skip ?_
                refine B_n ?_
                refine T_n ?_
                refine WP_region ?_
                refine S_v E rfl (R_addx (m := ((k + 1 : Nat) : Int)) E rfl rfl (by omega) (by omega)) rfl ?_
                clear E a; intro a E
                refine S_v E rfl (R_move E rfl) rfl ?_
                clear E a; intro a E
                refine WL_nil ?_
                refine T_n ?_
                replace S := S.re1 (l' := ((setI (l1.map (fun x => keyAt kk0 kn0 x 0))).take (k + 1)).filter (fun z => decide (z ∈ l2.map (fun x => keyAt kk0 kn0 x 0)))) (by first | (simp; done) | (refine flt_yes (by assumption) ?_; exact decide_eq_true (by assumption)) | (refine flt_no (by assumption) ?_; exact decide_eq_false (by assumption)))
                exact ⟨k + 1, ⟨M_34, _, (hM_28.trans (hM_32.trans hM_34)), S, E.keep ⟨rfl, rfl, rfl, rfl, rfl, rfl, rfl, rfl, trivial⟩, by ((try clear S); (try clear E); first | assumption | omega | rfl | (simp; done) | (simp_all; done) | (simp [List.take_add_one, *]; done) | grind [List.take_add_one])⟩, by omega⟩
            · replace hc_29 := of_decide_eq_false hc_29
              refine WP_exit ?_
              refine T_x ?_
              refine T_x ?_
              refine B_x ?_
              refine T_n ?_
              refine WP_seq ?_
              refine WP_seq ?_
              refine DG_start Try.mixed ?_
              refine DG_split2 3 8 (by decide) (by kernel_rfl) ?_ ?_
              · refine DG_split2 4 8 (by decide) (by kernel_rfl) ?_ ?_
                · have hb_1k37 := hb_1
                  replace S := S.mono_heap (w' := World.drew _) rfl
                  refine DG_end (C := fun x w => agree M_28 w) (bf := (fun i => [])) [0, 1, 2, 5, 6, 7, 11, 12] [0, 1, 2, 5, 6, 7, 12, 3, 4, 8, 9, 10, 11] (by kernel_rfl) (fun x hq => S.imm) ?_
                  refine D_v E rfl rfl rfl (fun w hC => (R_loadGM E rfl (Try.isAgg31 _) (Try.sizeOf31 _) hC hb_1k37)) ?_
                  clear E a; intro a E
                  refine D_v E rfl rfl rfl (fun w hC => (R_move E rfl)) ?_
                  clear E a; intro a E
                  refine D_v E rfl rfl rfl (fun w hC => (R_move E rfl)) ?_
                  clear E a; intro a E
                  refine D_v E rfl rfl rfl (fun w hC => (R_loadGM E rfl (Try.isAgg31 _) (Try.sizeOf31 _) hC hb_1k37)) ?_
                  clear E a; intro a E
                  refine D_v E rfl rfl rfl (fun w hC => (R_move E rfl)) ?_
                  clear E a; intro a E
                  refine D_v E rfl rfl rfl (fun w hC => (R_move E rfl)) ?_
                  clear E a; intro a E
                  refine D_v E rfl rfl rfl (fun w hC => (R_move E rfl)) ?_
                  clear E a; intro a E
                  refine D_x rfl rfl rfl (X_buildM (R := RSl 1 RInt) (vs := [v1, v2]) (xs := [l1, l2]) (RSl_mono RInt_mono) E S rfl T22 rfl rfl rfl (by intro u hu; simp only [List.mem_cons, List.not_mem_nil, or_false] at hu; rcases hu with rfl | rfl <;> first | exact RdI.one h1 | exact RdI.one h2 | rfl) rfl (rowsC (R := RSl 1 RInt) (RdI.row h1) (rowsC (R := RSl 1 RInt) (RdI.row h2) rowsN)) ?_)
                  clear E a S; rintro a v_38 w M_39 hM_39 hv_38 S E
                  replace hv_38 : RdII M_39 v_38 [l1, l2] := hv_38
                  replace h1 := h1.le hM_39
                  replace h2 := h2.le hM_39
                  replace hb_1 := hM_39.2 _ _ hb_1
                  replace hz_9 := hz_9.le hM_39
                  replace hz_11 := hz_11.le hM_39
                  replace hv_7 := hv_7.le hM_39
                  replace hv_14 := hv_14.le hM_39
                  replace hv_16 := hv_16.le hM_39
                  replace hv_24 := hv_24.le hM_39
                  replace hv_26 := hv_26.le hM_39
                  refine ⟨fun x hq hb => (agree_le hM_39 S.imm), ?_⟩
                  refine D_x rfl rfl rfl (X_pu E S rfl rfl rfl (impl_IntersectBy hv_38 (by omega) (by first | omega | (simp; done) | (simp; omega)) (by (first | omega | (simp; omega) | (simp; done) | (simp_all; omega) | grind))) (Hp.le.refl _) ?_)
                  clear E a S; rintro a v_41 w M_40 hM_40 hv_41 S E
                  replace h1 := h1.le hM_40
                  replace h2 := h2.le hM_40
                  replace hb_1 := hM_40.2 _ _ hb_1
                  replace hz_9 := hz_9.le hM_40
                  replace hz_11 := hz_11.le hM_40
                  replace hv_7 := hv_7.le hM_40
                  replace hv_14 := hv_14.le hM_40
                  replace hv_16 := hv_16.le hM_40
                  replace hv_24 := hv_24.le hM_40
                  replace hv_26 := hv_26.le hM_40
                  replace hv_38 := hv_38.le hM_40
                  refine ⟨fun x hq hb => (agree_le (hM_39.trans hM_40) S.imm), ?_⟩
                  refine D_x rfl rfl rfl (X_buildM (R := RSl 1 RInt) (vs := [v1, v2]) (xs := [l1, l2]) (RSl_mono RInt_mono) E S rfl T22 rfl rfl rfl (by intro u hu; simp only [List.mem_cons, List.not_mem_nil, or_false] at hu; rcases hu with rfl | rfl <;> first | exact RdI.one h1 | exact RdI.one h2 | rfl) rfl (rowsC (R := RSl 1 RInt) (RdI.row h1) (rowsC (R := RSl 1 RInt) (RdI.row h2) rowsN)) ?_)
                  clear E a S; rintro a v_42 w M_43 hM_43 hv_42 S E
                  replace hv_42 : RdII M_43 v_42 [l1, l2] := hv_42
                  replace h1 := h1.le hM_43
                  replace h2 := h2.le hM_43
                  replace hb_1 := hM_43.2 _ _ hb_1
                  replace hz_9 := hz_9.le hM_43
                  replace hz_11 := hz_11.le hM_43
                  replace hv_7 := hv_7.le hM_43
                  replace hv_14 := hv_14.le hM_43
                  replace hv_16 := hv_16.le hM_43
                  replace hv_24 := hv_24.le hM_43
                  replace hv_26 := hv_26.le hM_43
                  replace hv_38 := hv_38.le hM_43
                  replace hv_41 := hv_41.le hM_43
                  refine ⟨fun x hq hb => (agree_le (hM_39.trans (hM_40.trans hM_43)) S.imm), ?_⟩
                  refine D_x rfl rfl rfl (X_pu E S rfl rfl rfl (impl_IntersectBySeq hv_42 (by omega) (by first | omega | (simp; done) | (simp; omega)) (by (first | omega | (simp; omega) | (simp; done) | (simp_all; omega) | grind))) (Hp.le.refl _) ?_)
                  clear E a S; rintro a v_45 w M_44 hM_44 hv_45 S E
                  replace h1 := h1.le hM_44
                  replace h2 := h2.le hM_44
                  replace hb_1 := hM_44.2 _ _ hb_1
                  replace hz_9 := hz_9.le hM_44
                  replace hz_11 := hz_11.le hM_44
                  replace hv_7 := hv_7.le hM_44
                  replace hv_14 := hv_14.le hM_44
                  replace hv_16 := hv_16.le hM_44
                  replace hv_24 := hv_24.le hM_44
                  replace hv_26 := hv_26.le hM_44
                  replace hv_38 := hv_38.le hM_44
                  replace hv_41 := hv_41.le hM_44
                  replace hv_42 := hv_42.le hM_44
                  refine ⟨fun x hq hb => (agree_le (hM_39.trans (hM_40.trans (hM_43.trans hM_44))) S.imm), ?_⟩
                  refine D_x rfl rfl rfl (X_buildM (R := RSl 1 RInt) (vs := [v_41, v_45]) (xs := [meetF (fun x => keyAt kk0 kn0 x 0) [l1, l2], meetF (fun x => keyAt kk0 kn0 x 0) [l1, l2]]) (RSl_mono RInt_mono) E S rfl T22 rfl rfl rfl (by intro u hu; simp only [List.mem_cons, List.not_mem_nil, or_false] at hu; rcases hu with rfl | rfl <;> first | exact RdI.one hv_41 | exact RdI.one hv_45 | rfl) rfl (rowsC (R := RSl 1 RInt) (RdI.row hv_41) (rowsC (R := RSl 1 RInt) (RdI.row hv_45) rowsN)) ?_)
                  clear E a S; rintro a v_46 w M_47 hM_47 hv_46 S E
                  replace hv_46 : RdII M_47 v_46 [meetF (fun x => keyAt kk0 kn0 x 0) [l1, l2], meetF (fun x => keyAt kk0 kn0 x 0) [l1, l2]] := hv_46
                  replace h1 := h1.le hM_47
                  replace h2 := h2.le hM_47
                  replace hb_1 := hM_47.2 _ _ hb_1
                  replace hz_9 := hz_9.le hM_47
                  replace hz_11 := hz_11.le hM_47
                  replace hv_7 := hv_7.le hM_47
                  replace hv_14 := hv_14.le hM_47
                  replace hv_16 := hv_16.le hM_47
                  replace hv_24 := hv_24.le hM_47
                  replace hv_26 := hv_26.le hM_47
                  replace hv_38 := hv_38.le hM_47
                  replace hv_41 := hv_41.le hM_47
                  replace hv_42 := hv_42.le hM_47
                  replace hv_45 := hv_45.le hM_47
                  refine ⟨fun x hq hb => (agree_le (hM_39.trans (hM_40.trans (hM_43.trans (hM_44.trans hM_47)))) S.imm), ?_⟩
                  refine D_v E rfl rfl rfl (fun w hC => (R_lenV E rfl T22 hv_46.len)) ?_
                  clear E a; intro a E
                  refine D_end (NoP_n ?_)
                  refine T_n ?_
                  refine WP_block ?_
                  refine WP_loop (γ := Nat) (fun (i : Nat) a w => ∃ (M_48 : Hp), Hp.le M_47 M_48 ∧ St w M_48 (OwnI 3 u8 (((setI (l1.map (fun x => keyAt kk0 kn0 x 0))).take k).filter (fun z => decide (z ∈ l2.map (fun x => keyAt kk0 kn0 x 0)))) :: H) ∧ Env a 113 [] [(1, v1), (2, v2), (7, .func (.func 24) #[] #[.pointer (some ⟨b_1, 0, none⟩)]), (8, u8), (75, v_46), (76, .int .i64 ((([meetF (fun x => keyAt kk0 kn0 x 0) [l1, l2], meetF (fun x => keyAt kk0 kn0 x 0) [l1, l2]]).length : Nat) : Int)), (77, .int .i64 ((i : Nat) : Int))] ∧ (i ≤ ([meetF (fun x => keyAt kk0 kn0 x 0) [l1, l2], meetF (fun x => keyAt kk0 kn0 x 0) [l1, l2]]).length)) (fun i => (([meetF (fun x => keyAt kk0 kn0 x 0) [l1, l2], meetF (fun x => keyAt kk0 kn0 x 0) [l1, l2]]).length) - i) 0 ⟨M_47, Hp.le.refl _, S, E.keep ⟨rfl, rfl, rfl, rfl, rfl, rfl, rfl, trivial⟩, by ((try clear S); (try clear E); first | assumption | omega | rfl | (simp; done) | (simp_all; done) | (simp [List.take_add_one, *]; done) | grind [List.take_add_one])⟩ ?_
                  try clear E
                  try clear S
                  try clear a
                  try clear w
                  rintro i a w ⟨M_48, hM_48, S, E, hL1_0⟩
                  replace h1 := h1.le hM_48
                  replace h2 := h2.le hM_48
                  replace hb_1 := hM_48.2 _ _ hb_1
                  replace hz_9 := hz_9.le hM_48
                  replace hz_11 := hz_11.le hM_48
                  replace hv_7 := hv_7.le hM_48
                  replace hv_14 := hv_14.le hM_48
                  replace hv_16 := hv_16.le hM_48
                  replace hv_24 := hv_24.le hM_48
                  replace hv_26 := hv_26.le hM_48
                  replace hv_38 := hv_38.le hM_48
                  replace hv_41 := hv_41.le hM_48
                  replace hv_42 := hv_42.le hM_48
                  replace hv_45 := hv_45.le hM_48
                  replace hv_46 := hv_46.le hM_48
                  refine WP_seq ?_
                  refine WP_region ?_
                  refine S_v E rfl (R_lss E rfl rfl) rfl ?_
                  clear E a; intro a E
                  refine WL_nil ?_
                  refine T_n ?_
                  refine WP_seq ?_
                  refine WP_cond E rfl (fun hc_49 => ?_) (fun hc_49 => ?_)
                  · replace hc_49 := of_decide_eq_true hc_49
                    refine WP_skip ?_
                    refine T_n ?_
                    refine WP_seq ?_
                    refine WP_block ?_
                    refine WP_seq ?_
                    refine WP_region ?_
                    obtain ⟨x_50, hx_50⟩ : ∃ x, ([meetF (fun x => keyAt kk0 kn0 x 0) [l1, l2], meetF (fun x => keyAt kk0 kn0 x 0) [l1, l2]])[i]? = some x := ⟨_, List.getElem?_eq_getElem (by first | omega | (simp; done) | (simp; omega) | (simp_all; omega))⟩
                    obtain ⟨p_51, u_52, hp_51, qp_51, hu_52⟩ := hv_46.at hx_50
                    have bu_52 := hu_52.bound
                    refine S_v E rfl (R_idx E rfl rfl T22 hp_51 rfl) rfl ?_
                    clear E a; intro a E
                    refine S_v E rfl (R_loadM E rfl Try.isAgg24 S.imm qp_51) rfl ?_
                    clear E a; intro a E
                    refine S_v E rfl (R_assign E rfl) rfl ?_
                    clear E a; intro a E
                    refine WL_nil ?_
                    refine T_n ?_
                    refine WP_seq ?_
                    refine WP_seq ?_
                    refine WP_region ?_
                    refine S_v E rfl (R_move E rfl) rfl ?_
                    clear E a; intro a E
                    refine S_v E rfl (R_move E rfl) rfl ?_
                    clear E a; intro a E
                    refine S_x (X_pu E S rfl rfl rfl (laws_FnIntersectByL hu_52 (by first | omega | (simp; omega) | exact pair_le (by assumption) (by omega)) (by assumption) hb_1) (Hp.le.refl _) ?_)
                    clear E a S; rintro a v_54 w M_53 hM_53 hv_54 S E
                    replace h1 := h1.le hM_53
                    replace h2 := h2.le hM_53
                    replace hb_1 := hM_53.2 _ _ hb_1
                    replace hz_9 := hz_9.le hM_53
                    replace hz_11 := hz_11.le hM_53
                    replace hv_7 := hv_7.le hM_53
                    replace hv_14 := hv_14.le hM_53
                    replace hv_16 := hv_16.le hM_53
                    replace hv_24 := hv_24.le hM_53
                    replace hv_26 := hv_26.le hM_53
                    replace hv_38 := hv_38.le hM_53
                    replace hv_41 := hv_41.le hM_53
                    replace hv_42 := hv_42.le hM_53
                    replace hv_45 := hv_45.le hM_53
                    replace hv_46 := hv_46.le hM_53
                    replace hu_52 := hu_52.le hM_53
                    refine S_x (X_pu E S rfl rfl rfl (laws_sorted hv_54 (by (first | omega | (simp; omega) | (simp; done) | (simp_all; omega) | grind))) (Hp.le.refl _) ?_)
                    clear E a S; rintro a v_56 w M_55 hM_55 hv_56 S E
                    replace h1 := h1.le hM_55
                    replace h2 := h2.le hM_55
                    replace hb_1 := hM_55.2 _ _ hb_1
                    replace hz_9 := hz_9.le hM_55
                    replace hz_11 := hz_11.le hM_55
                    replace hv_7 := hv_7.le hM_55
                    replace hv_14 := hv_14.le hM_55
                    replace hv_16 := hv_16.le hM_55
                    replace hv_24 := hv_24.le hM_55
                    replace hv_26 := hv_26.le hM_55
                    replace hv_38 := hv_38.le hM_55
                    replace hv_41 := hv_41.le hM_55
                    replace hv_42 := hv_42.le hM_55
                    replace hv_45 := hv_45.le hM_55
                    replace hv_46 := hv_46.le hM_55
                    replace hu_52 := hu_52.le hM_55
                    replace hv_54 := hv_54.le hM_55
                    refine S_v E rfl (R_move E rfl) rfl ?_
                    clear E a; intro a E
                    obtain ⟨ML_57, hl_58, hv_59, S1, back⟩ := S.lendI (by (first | omega | (simp; done) | (simp; omega) | (simp at hfl ⊢; omega)))
                    refine S_x (X_pu E S1 rfl rfl rfl (laws_eq (hv_56.le hl_58) hv_59) (Hp.le.refl _) ?_)
                    clear E a S; rintro a _ w M_60 hM_61 rfl S E
                    replace S := back _ _ hM_61 S
                    clear back S1
                    refine S_v E rfl (R_not E rfl) rfl ?_
                    clear E a; intro a E
                    refine S_v E rfl (R_move E rfl) rfl ?_
                    clear E a; intro a E
                    have hc_62 : (!(decide (setI ((x_50).map (fun x => keyAt kk0 kn0 x 0)) = ((setI (l1.map (fun x => keyAt kk0 kn0 x 0))).take k).filter (fun z => decide (z ∈ l2.map (fun x => keyAt kk0 kn0 x 0)))))) = false := by (clear S E; first | (simp; done) | decide | (have e := ib_set (by assumption) (show (setI _).length ≤ k by omega); simp [e]; done) | (have e := ib_len (by assumption) (show (setI _).length ≤ k by omega); simp [e]; done) | (have e := ib_sub (by assumption) (by assumption); simp [e]; done))
                    replace E := E.val (t := 87) rfl hc_62
                    replace E := E.val (t := 88) rfl hc_62
                    refine WL_guard_yes E rfl rfl ?_
                    refine S_v E rfl (R_move E rfl) rfl ?_
                    clear E a; intro a E
                    refine WL_guard_yes E rfl rfl ?_
                    refine S_v E rfl (R_lenV E rfl T24 hu_52.len) rfl ?_
                    clear E a; intro a E
                    refine WL_guard_yes E rfl rfl ?_
                    refine S_v E rfl (R_move E rfl) rfl ?_
                    clear E a; intro a E
                    refine WL_guard_yes E rfl rfl ?_
                    refine S_v E rfl (R_lenV E rfl T24 S.lenC) rfl ?_
                    clear E a; intro a E
                    refine WL_guard_yes E rfl rfl ?_
                    refine S_v E rfl (R_neq E rfl rfl) rfl ?_
                    clear E a; intro a E
                    refine S_v E rfl (R_pickF E rfl rfl) rfl ?_
                    clear E a; intro a E
                    refine WL_nil ?_
                    refine T_n ?_
                    have hc_63 : (decide ((((x_50).length : Nat) : Int) ≠ (((((setI (l1.map (fun x => keyAt kk0 kn0 x 0))).take k).filter (fun z => decide (z ∈ l2.map (fun x => keyAt kk0 kn0 x 0)))).length : Nat) : Int))) = false := by (clear S E; first | (simp; done) | decide | (have e := ib_set (by assumption) (show (setI _).length ≤ k by omega); simp [e]; done) | (have e := ib_len (by assumption) (show (setI _).length ≤ k by omega); simp [e]; done) | (have e := ib_sub (by assumption) (by assumption); simp [e]; done))
                    refine WP_condF E rfl hc_63 ?_
                    refine WP_skip ?_
                    refine T_n ?_
                    refine WP_seq ?_
                    refine WP_region ?_
                    refine S_v E rfl (R_move E rfl) rfl ?_
                    clear E a; intro a E
                    refine S_v E rfl (R_lenV E rfl T24 hu_52.len) rfl ?_
                    clear E a; intro a E
                    refine S_v E rfl (R_move E rfl) rfl ?_
                    clear E a; intro a E
                    refine WL_nil ?_
                    refine T_n ?_
                    refine WP_block ?_
                    refine WP_loop (γ := Nat) (fun (j : Nat) a w => ∃ (M_64 : Hp), Hp.le M_55 M_64 ∧ St w M_64 (OwnI 3 u8 (((setI (l1.map (fun x => keyAt kk0 kn0 x 0))).take k).filter (fun z => decide (z ∈ l2.map (fun x => keyAt kk0 kn0 x 0)))) :: H) ∧ Env a 113 [] [(1, v1), (2, v2), (7, .func (.func 24) #[] #[.pointer (some ⟨b_1, 0, none⟩)]), (8, u8), (75, v_46), (76, .int .i64 ((([meetF (fun x => keyAt kk0 kn0 x 0) [l1, l2], meetF (fun x => keyAt kk0 kn0 x 0) [l1, l2]]).length : Nat) : Int)), (77, .int .i64 ((i : Nat) : Int)), (95, u_52), (96, .int .i64 (((x_50).length : Nat) : Int)), (97, .int .i64 ((j : Nat) : Int))] ∧ (j ≤ 300)) (fun j => 300 - j) 0 ⟨M_55, Hp.le.refl _, S, E.keep ⟨rfl, rfl, rfl, rfl, rfl, rfl, rfl, rfl, rfl, rfl, trivial⟩, (by omega)⟩ ?_
                    try clear E
                    try clear S
                    try clear a
                    try clear w
                    rintro j a w ⟨M_64, hM_64, S, E, hL2_0⟩
                    replace h1 := h1.le hM_64
                    replace h2 := h2.le hM_64
                    replace hb_1 := hM_64.2 _ _ hb_1
                    replace hz_9 := hz_9.le hM_64
                    replace hz_11 := hz_11.le hM_64
                    replace hv_7 := hv_7.le hM_64
                    replace hv_14 := hv_14.le hM_64
                    replace hv_16 := hv_16.le hM_64
                    replace hv_24 := hv_24.le hM_64
                    replace hv_26 := hv_26.le hM_64
                    replace hv_38 := hv_38.le hM_64
                    replace hv_41 := hv_41.le hM_64
                    replace hv_42 := hv_42.le hM_64
                    replace hv_45 := hv_45.le hM_64
                    replace hv_46 := hv_46.le hM_64
                    replace hu_52 := hu_52.le hM_64
                    replace hv_54 := hv_54.le hM_64
                    replace hv_56 := hv_56.le hM_64
                    refine WP_seq ?_
                    refine WP_region ?_
                    refine S_v E rfl (R_lss E rfl rfl) rfl ?_
                    clear E a; intro a E
                    refine WL_nil ?_
                    refine T_n ?_
                    refine WP_seq ?_
                    refine WP_cond E rfl (fun hc_65 => ?_) (fun hc_65 => ?_)
                    · replace hc_65 := of_decide_eq_true hc_65
                      refine WP_skip ?_
                      refine T_n ?_
                      refine WP_seq ?_
                      refine WP_block ?_
                      refine WP_seq ?_
                      refine WP_region ?_
                      obtain ⟨x_66, hx_66⟩ : ∃ x, (x_50)[j]? = some x := ⟨_, List.getElem?_eq_getElem (by first | omega | (simp; done) | (simp; omega) | (simp_all; omega))⟩
                      obtain ⟨p_67, hp_67, qp_67⟩ := hu_52.at hx_66
                      refine S_v E rfl (R_idx E rfl rfl T24 hp_67 rfl) rfl ?_
                      clear E a; intro a E
                      refine S_v E rfl (R_loadM E rfl Try.isAgg3 S.imm qp_67) rfl ?_
                      clear E a; intro a E
                      refine S_v E rfl (R_assign E rfl) rfl ?_
                      clear E a; intro a E
                      refine WL_nil ?_
                      refine T_n ?_
                      refine WP_seq ?_
                      refine WP_region ?_
                      refine S_v E rfl (R_move E rfl) rfl ?_
                      clear E a; intro a E
                      refine S_v E rfl (R_move E rfl) rfl ?_
                      clear E a; intro a E
                      refine S_x (X_pu E S rfl rfl rfl (laws_in h1) (Hp.le.refl _) ?_)
                      clear E a S; rintro a _ w M_68 hM_68 rfl S E
                      replace h1 := h1.le hM_68
                      replace h2 := h2.le hM_68
                      replace hb_1 := hM_68.2 _ _ hb_1
                      replace hz_9 := hz_9.le hM_68
                      replace hz_11 := hz_11.le hM_68
                      replace hv_7 := hv_7.le hM_68
                      replace hv_14 := hv_14.le hM_68
                      replace hv_16 := hv_16.le hM_68
                      replace hv_24 := hv_24.le hM_68
                      replace hv_26 := hv_26.le hM_68
                      replace hv_38 := hv_38.le hM_68
                      replace hv_41 := hv_41.le hM_68
                      replace hv_42 := hv_42.le hM_68
                      replace hv_45 := hv_45.le hM_68
                      replace hv_46 := hv_46.le hM_68
                      replace hu_52 := hu_52.le hM_68
                      replace hv_54 := hv_54.le hM_68
                      replace hv_56 := hv_56.le hM_68
                      refine S_v E rfl (R_not E rfl) rfl ?_
                      clear E a; intro a E
                      refine S_v E rfl (R_move E rfl) rfl ?_
                      clear E a; intro a E
                      have hc_69 : (!(decide (x_66 ∈ l1))) = false := by (clear S E; first | (simp; done) | decide | (have e := ib_set (by assumption) (show (setI _).length ≤ k by omega); simp [e]; done) | (have e := ib_len (by assumption) (show (setI _).length ≤ k by omega); simp [e]; done) | (have e := ib_sub (by assumption) (by assumption); simp [e]; done))
                      replace E := E.val (t := 104) rfl hc_69
                      replace E := E.val (t := 105) rfl hc_69
                      refine WL_guard_no E rfl rfl rfl rfl fun a E => ?_
                      refine WL_guard_no E rfl rfl rfl rfl fun a E => ?_
                      refine WL_guard_no E rfl rfl rfl rfl fun a E => ?_
                      refine WL_guard_no E rfl rfl rfl rfl fun a E => ?_
                      refine S_v E rfl (R_pickF E rfl rfl) rfl ?_
                      clear E a; intro a E
                      refine WL_nil ?_
                      refine T_n ?_
                      refine WP_condF E rfl rfl ?_
                      refine WP_skip ?_
                      refine B_n ?_
                      refine T_n ?_
                      refine WP_region ?_
                      refine S_v E rfl (R_addx (m := ((j + 1 : Nat) : Int)) E rfl rfl (by omega) (by omega)) rfl ?_
                      clear E a; intro a E
                      refine S_v E rfl (R_move E rfl) rfl ?_
                      clear E a; intro a E
                      refine WL_nil ?_
                      refine T_n ?_
                      exact ⟨j + 1, ⟨M_68, (hM_64.trans hM_68), S, E.keep ⟨rfl, rfl, rfl, rfl, rfl, rfl, rfl, rfl, rfl, rfl, trivial⟩, (by have hxl := pair_le (A := meetF (fun x => keyAt kk0 kn0 x 0) [l1, l2]) (i := i) (n := 300) (by assumption) (by omega); omega)⟩, (by have hxl := pair_le (A := meetF (fun x => keyAt kk0 kn0 x 0) [l1, l2]) (i := i) (n := 300) (by assumption) (by omega); omega)⟩
                    · replace hc_65 := of_decide_eq_false hc_65
                      refine WP_exit ?_
                      refine T_x ?_
                      refine T_x ?_
                      refine B_x ?_
                      refine B_n ?_
                      refine T_n ?_
                      refine WP_region ?_
                      refine S_v E rfl (R_addx (m := ((i + 1 : Nat) : Int)) E rfl rfl (by omega) (by omega)) rfl ?_
                      clear E a; intro a E
                      refine S_v E rfl (R_move E rfl) rfl ?_
                      clear E a; intro a E
                      refine WL_nil ?_
                      refine T_n ?_
                      exact ⟨i + 1, ⟨M_64, (hM_48.trans (hM_53.trans (hM_55.trans hM_64))), S, E.keep ⟨rfl, rfl, rfl, rfl, rfl, rfl, rfl, trivial⟩, by ((try clear S); (try clear E); first | assumption | omega | rfl | (simp; done) | (simp_all; done) | (simp [List.take_add_one, *]; done) | grind [List.take_add_one])⟩, by omega⟩
                  · replace hc_49 := of_decide_eq_false hc_49
                    refine WP_exit ?_
                    refine T_x ?_
                    refine T_x ?_
                    refine B_x ?_
                    refine T_n ?_
                    refine WP_seq ?_
                    refine WP_region ?_
                    refine S_v E rfl (R_assign E rfl) rfl ?_
                    clear E a; intro a E
                    refine WL_nil ?_
                    refine T_n ?_
                    refine WP_ret ?_
                    exact F_ret1 E Try.results4 rfl ⟨_, rfl, M_48, (hM_2.trans (hM_8.trans (hM_10.trans (hM_12.trans (hM_13.trans (hM_17.trans (hM_18.trans (hM_20.trans (hM_23.trans (hM_25.trans (hM_28.trans (hM_39.trans (hM_40.trans (hM_43.trans (hM_44.trans (hM_47.trans hM_48)))))))))))))))), rfl, S.drop⟩
                · have hb_1k69 := hb_1
                  replace S := S.mono_heap (w' := World.drew _) rfl
                  refine DG_end (C := fun x w => agree M_28 w) (bf := (fun i => [])) [0, 1, 2, 5, 6, 7, 11, 12] [0, 1, 2, 5, 6, 7, 12, 3, 8, 4, 9, 10, 11] (by kernel_rfl) (fun x hq => S.imm) ?_
                  refine D_v E rfl rfl rfl (fun w hC => (R_loadGM E rfl (Try.isAgg31 _) (Try.sizeOf31 _) hC hb_1k69)) ?_
                  clear E a; intro a E
                  refine D_v E rfl rfl rfl (fun w hC => (R_move E rfl)) ?_
                  clear E a; intro a E
                  refine D_v E rfl rfl rfl (fun w hC => (R_move E rfl)) ?_
                  clear E a; intro a E
                  refine D_v E rfl rfl rfl (fun w hC => (R_loadGM E rfl (Try.isAgg31 _) (Try.sizeOf31 _) hC hb_1k69)) ?_
                  clear E a; intro a E
                  refine D_v E rfl rfl rfl (fun w hC => (R_move E rfl)) ?_
                  clear E a; intro a E
                  refine D_v E rfl rfl rfl (fun w hC => (R_move E rfl)) ?_
                  clear E a; intro a E
                  refine D_v E rfl rfl rfl (fun w hC => (R_move E rfl)) ?_
                  clear E a; intro a E
                  refine D_x rfl rfl rfl (X_buildM (R := RSl 1 RInt) (vs := [v1, v2]) (xs := [l1, l2]) (RSl_mono RInt_mono) E S rfl T22 rfl rfl rfl (by intro u hu; simp only [List.mem_cons, List.not_mem_nil, or_false] at hu; rcases hu with rfl | rfl <;> first | exact RdI.one h1 | exact RdI.one h2 | rfl) rfl (rowsC (R := RSl 1 RInt) (RdI.row h1) (rowsC (R := RSl 1 RInt) (RdI.row h2) rowsN)) ?_)
                  clear E a S; rintro a v_70 w M_71 hM_71 hv_70 S E
                  replace hv_70 : RdII M_71 v_70 [l1, l2] := hv_70
                  replace h1 := h1.le hM_71
                  replace h2 := h2.le hM_71
                  replace hb_1 := hM_71.2 _ _ hb_1
                  replace hz_9 := hz_9.le hM_71
                  replace hz_11 := hz_11.le hM_71
                  replace hv_7 := hv_7.le hM_71
                  replace hv_14 := hv_14.le hM_71
                  replace hv_16 := hv_16.le hM_71
                  replace hv_24 := hv_24.le hM_71
                  replace hv_26 := hv_26.le hM_71
                  refine ⟨fun x hq hb => (agree_le hM_71 S.imm), ?_⟩
                  refine D_x rfl rfl rfl (X_buildM (R := RSl 1 RInt) (vs := [v1, v2]) (xs := [l1, l2]) (RSl_mono RInt_mono) E S rfl T22 rfl rfl rfl (by intro u hu; simp only [List.mem_cons, List.not_mem_nil, or_false] at hu; rcases hu with rfl | rfl <;> first | exact RdI.one h1 | exact RdI.one h2 | rfl) rfl (rowsC (R := RSl 1 RInt) (RdI.row h1) (rowsC (R := RSl 1 RInt) (RdI.row h2) rowsN)) ?_)
                  clear E a S; rintro a v_72 w M_73 hM_73 hv_72 S E
                  replace hv_72 : RdII M_73 v_72 [l1, l2] := hv_72
                  replace h1 := h1.le hM_73
                  replace h2 := h2.le hM_73
                  replace hb_1 := hM_73.2 _ _ hb_1
                  replace hz_9 := hz_9.le hM_73
                  replace hz_11 := hz_11.le hM_73
                  replace hv_7 := hv_7.le hM_73
                  replace hv_14 := hv_14.le hM_73
                  replace hv_16 := hv_16.le hM_73
                  replace hv_24 := hv_24.le hM_73
                  replace hv_26 := hv_26.le hM_73
                  replace hv_70 := hv_70.le hM_73
                  refine ⟨fun x hq hb => (agree_le (hM_71.trans hM_73) S.imm), ?_⟩
                  refine D_x rfl rfl rfl (X_pu E S rfl rfl rfl (impl_IntersectBy hv_70 (by omega) (by first | omega | (simp; done) | (simp; omega)) (by (first | omega | (simp; omega) | (simp; done) | (simp_all; omega) | grind))) (Hp.le.refl _) ?_)
                  clear E a S; rintro a v_75 w M_74 hM_74 hv_75 S E
                  replace h1 := h1.le hM_74
                  replace h2 := h2.le hM_74
                  replace hb_1 := hM_74.2 _ _ hb_1
                  replace hz_9 := hz_9.le hM_74
                  replace hz_11 := hz_11.le hM_74
                  replace hv_7 := hv_7.le hM_74
                  replace hv_14 := hv_14.le hM_74
                  replace hv_16 := hv_16.le hM_74
                  replace hv_24 := hv_24.le hM_74
                  replace hv_26 := hv_26.le hM_74
                  replace hv_70 := hv_70.le hM_74
                  replace hv_72 := hv_72.le hM_74
                  refine ⟨fun x hq hb => (agree_le (hM_71.trans (hM_73.trans hM_74)) S.imm), ?_⟩
                  refine D_x rfl rfl rfl (X_pu E S rfl rfl rfl (impl_IntersectBySeq hv_72 (by omega) (by first | omega | (simp; done) | (simp; omega)) (by (first | omega | (simp; omega) | (simp; done) | (simp_all; omega) | grind))) (Hp.le.refl _) ?_)
                  clear E a S; rintro a v_77 w M_76 hM_76 hv_77 S E
                  replace h1 := h1.le hM_76
                  replace h2 := h2.le hM_76
                  replace hb_1 := hM_76.2 _ _ hb_1
                  replace hz_9 := hz_9.le hM_76
                  replace hz_11 := hz_11.le hM_76
                  replace hv_7 := hv_7.le hM_76
                  replace hv_14 := hv_14.le hM_76
                  replace hv_16 := hv_16.le hM_76
                  replace hv_24 := hv_24.le hM_76
                  replace hv_26 := hv_26.le hM_76
                  replace hv_70 := hv_70.le hM_76
                  replace hv_72 := hv_72.le hM_76
                  replace hv_75 := hv_75.le hM_76
                  refine ⟨fun x hq hb => (agree_le (hM_71.trans (hM_73.trans (hM_74.trans hM_76))) S.imm), ?_⟩
                  refine D_x rfl rfl rfl (X_buildM (R := RSl 1 RInt) (vs := [v_75, v_77]) (xs := [meetF (fun x => keyAt kk0 kn0 x 0) [l1, l2], meetF (fun x => keyAt kk0 kn0 x 0) [l1, l2]]) (RSl_mono RInt_mono) E S rfl T22 rfl rfl rfl (by intro u hu; simp only [List.mem_cons, List.not_mem_nil, or_false] at hu; rcases hu with rfl | rfl <;> first | exact RdI.one hv_75 | exact RdI.one hv_77 | rfl) rfl (rowsC (R := RSl 1 RInt) (RdI.row hv_75) (rowsC (R := RSl 1 RInt) (RdI.row hv_77) rowsN)) ?_)
                  clear E a S; rintro a v_78 w M_79 hM_79 hv_78 S E
                  replace hv_78 : RdII M_79 v_78 [meetF (fun x => keyAt kk0 kn0 x 0) [l1, l2], meetF (fun x => keyAt kk0 kn0 x 0) [l1, l2]] := hv_78
                  replace h1 := h1.le hM_79
                  replace h2 := h2.le hM_79
                  replace hb_1 := hM_79.2 _ _ hb_1
                  replace hz_9 := hz_9.le hM_79
                  replace hz_11 := hz_11.le hM_79
                  replace hv_7 := hv_7.le hM_79
                  replace hv_14 := hv_14.le hM_79
                  replace hv_16 := hv_16.le hM_79
                  replace hv_24 := hv_24.le hM_79
                  replace hv_26 := hv_26.le hM_79
                  replace hv_70 := hv_70.le hM_79
                  replace hv_72 := hv_72.le hM_79
                  replace hv_75 := hv_75.le hM_79
                  replace hv_77 := hv_77.le hM_79
                  refine ⟨fun x hq hb => (agree_le (hM_71.trans (hM_73.trans (hM_74.trans (hM_76.trans hM_79)))) S.imm), ?_⟩
                  refine D_v E rfl rfl rfl (fun w hC => (R_lenV E rfl T22 hv_78.len)) ?_
                  clear E a; intro a E
                  refine D_end (NoP_n ?_)
                  refine T_n ?_
                  refine WP_block ?_
                  refine WP_loop (γ := Nat) (fun (i : Nat) a w => ∃ (M_80 : Hp), Hp.le M_79 M_80 ∧ St w M_80 (OwnI 3 u8 (((setI (l1.map (fun x => keyAt kk0 kn0 x 0))).take k).filter (fun z => decide (z ∈ l2.map (fun x => keyAt kk0 kn0 x 0)))) :: H) ∧ Env a 113 [] [(1, v1), (2, v2), (7, .func (.func 24) #[] #[.pointer (some ⟨b_1, 0, none⟩)]), (8, u8), (75, v_78), (76, .int .i64 ((([meetF (fun x => keyAt kk0 kn0 x 0) [l1, l2], meetF (fun x => keyAt kk0 kn0 x 0) [l1, l2]]).length : Nat) : Int)), (77, .int .i64 ((i : Nat) : Int))] ∧ (i ≤ ([meetF (fun x => keyAt kk0 kn0 x 0) [l1, l2], meetF (fun x => keyAt kk0 kn0 x 0) [l1, l2]]).length)) (fun i => (([meetF (fun x => keyAt kk0 kn0 x 0) [l1, l2], meetF (fun x => keyAt kk0 kn0 x 0) [l1, l2]]).length) - i) 0 ⟨M_79, Hp.le.refl _, S, E.keep ⟨rfl, rfl, rfl, rfl, rfl, rfl, rfl, trivial⟩, by ((try clear S); (try clear E); first | assumption | omega | rfl | (simp; done) | (simp_all; done) | (simp [List.take_add_one, *]; done) | grind [List.take_add_one])⟩ ?_
                  try clear E
                  try clear S
                  try clear a
                  try clear w
                  rintro i a w ⟨M_80, hM_80, S, E, hL1_0⟩
                  replace h1 := h1.le hM_80
                  replace h2 := h2.le hM_80
                  replace hb_1 := hM_80.2 _ _ hb_1
                  replace hz_9 := hz_9.le hM_80
                  replace hz_11 := hz_11.le hM_80
                  replace hv_7 := hv_7.le hM_80
                  replace hv_14 := hv_14.le hM_80
                  replace hv_16 := hv_16.le hM_80
                  replace hv_24 := hv_24.le hM_80
                  replace hv_26 := hv_26.le hM_80
                  replace hv_70 := hv_70.le hM_80
                  replace hv_72 := hv_72.le hM_80
                  replace hv_75 := hv_75.le hM_80
                  replace hv_77 := hv_77.le hM_80
                  replace hv_78 := hv_78.le hM_80
                  refine WP_seq ?_
                  refine WP_region ?_
                  refine S_v E rfl (R_lss E rfl rfl) rfl ?_
                  clear E a; intro a E
                  refine WL_nil ?_
                  refine T_n ?_
                  refine WP_seq ?_
                  refine WP_cond E rfl (fun hc_81 => ?_) (fun hc_81 => ?_)
                  · replace hc_81 := of_decide_eq_true hc_81
                    refine WP_skip ?_
                    refine T_n ?_
                    refine WP_seq ?_
                    refine WP_block ?_
                    refine WP_seq ?_
                    refine WP_region ?_
                    obtain ⟨x_82, hx_82⟩ : ∃ x, ([meetF (fun x => keyAt kk0 kn0 x 0) [l1, l2], meetF (fun x => keyAt kk0 kn0 x 0) [l1, l2]])[i]? = some x := ⟨_, List.getElem?_eq_getElem (by first | omega | (simp; done) | (simp; omega) | (simp_all; omega))⟩
                    obtain ⟨p_83, u_84, hp_83, qp_83, hu_84⟩ := hv_78.at hx_82
                    have bu_84 := hu_84.bound
                    refine S_v E rfl (R_idx E rfl rfl T22 hp_83 rfl) rfl ?_
                    clear E a; intro a E
                    refine S_v E rfl (R_loadM E rfl Try.isAgg24 S.imm qp_83) rfl ?_
                    clear E a; intro a E
                    refine S_v E rfl (R_assign E rfl) rfl ?_
                    clear E a; intro a E
                    refine WL_nil ?_
                    refine T_n ?_
                    refine WP_seq ?_
                    refine WP_seq ?_
                    refine WP_region ?_
                    refine S_v E rfl (R_move E rfl) rfl ?_
                    clear E a; intro a E
                    refine S_v E rfl (R_move E rfl) rfl ?_
                    clear E a; intro a E
                    refine S_x (X_pu E S rfl rfl rfl (laws_FnIntersectByL hu_84 (by first | omega | (simp; omega) | exact pair_le (by assumption) (by omega)) (by assumption) hb_1) (Hp.le.refl _) ?_)
                    clear E a S; rintro a v_86 w M_85 hM_85 hv_86 S E
                    replace h1 := h1.le hM_85
                    replace h2 := h2.le hM_85
                    replace hb_1 := hM_85.2 _ _ hb_1
                    replace hz_9 := hz_9.le hM_85
                    replace hz_11 := hz_11.le hM_85
                    replace hv_7 := hv_7.le hM_85
                    replace hv_14 := hv_14.le hM_85
                    replace hv_16 := hv_16.le hM_85
                    replace hv_24 := hv_24.le hM_85
                    replace hv_26 := hv_26.le hM_85
                    replace hv_70 := hv_70.le hM_85
                    replace hv_72 := hv_72.le hM_85
                    replace hv_75 := hv_75.le hM_85
                    replace hv_77 := hv_77.le hM_85
                    replace hv_78 := hv_78.le hM_85
                    replace hu_84 := hu_84.le hM_85
                    refine S_x (X_pu E S rfl rfl rfl (laws_sorted hv_86 (by (first | omega | (simp; omega) | (simp; done) | (simp_all; omega) | grind))) (Hp.le.refl _) ?_)
                    clear E a S; rintro a v_88 w M_87 hM_87 hv_88 S E
                    replace h1 := h1.le hM_87
                    replace h2 := h2.le hM_87
                    replace hb_1 := hM_87.2 _ _ hb_1
                    replace hz_9 := hz_9.le hM_87
                    replace hz_11 := hz_11.le hM_87
                    replace hv_7 := hv_7.le hM_87
                    replace hv_14 := hv_14.le hM_87
                    replace hv_16 := hv_16.le hM_87
                    replace hv_24 := hv_24.le hM_87
                    replace hv_26 := hv_26.le hM_87
                    replace hv_70 := hv_70.le hM_87
                    replace hv_72 := hv_72.le hM_87
                    replace hv_75 := hv_75.le hM_87
                    replace hv_77 := hv_77.le hM_87
                    replace hv_78 := hv_78.le hM_87
                    replace hu_84 := hu_84.le hM_87
                    replace hv_86 := hv_86.le hM_87
                    refine S_v E rfl (R_move E rfl) rfl ?_
                    clear E a; intro a E
                    obtain ⟨ML_89, hl_90, hv_91, S1, back⟩ := S.lendI (by (first | omega | (simp; done) | (simp; omega) | (simp at hfl ⊢; omega)))
                    refine S_x (X_pu E S1 rfl rfl rfl (laws_eq (hv_88.le hl_90) hv_91) (Hp.le.refl _) ?_)
                    clear E a S; rintro a _ w M_92 hM_93 rfl S E
                    replace S := back _ _ hM_93 S
                    clear back S1
                    refine S_v E rfl (R_not E rfl) rfl ?_
                    clear E a; intro a E
                    refine S_v E rfl (R_move E rfl) rfl ?_
                    clear E a; intro a E
                    have hc_94 : (!(decide (setI ((x_82).map (fun x => keyAt kk0 kn0 x 0)) = ((setI (l1.map (fun x => keyAt kk0 kn0 x 0))).take k).filter (fun z => decide (z ∈ l2.map (fun x => keyAt kk0 kn0 x 0)))))) = false := by (clear S E; first | (simp; done) | decide | (have e := ib_set (by assumption) (show (setI _).length ≤ k by omega); simp [e]; done) | (have e := ib_len (by assumption) (show (setI _).length ≤ k by omega); simp [e]; done) | (have e := ib_sub (by assumption) (by assumption); simp [e]; done))
                    replace E := E.val (t := 87) rfl hc_94
                    replace E := E.val (t := 88) rfl hc_94
                    refine WL_guard_yes E rfl rfl ?_
                    refine S_v E rfl (R_move E rfl) rfl ?_
                    clear E a; intro a E
                    refine WL_guard_yes E rfl rfl ?_
                    refine S_v E rfl (R_lenV E rfl T24 hu_84.len) rfl ?_
                    clear E a; intro a E
                    refine WL_guard_yes E rfl rfl ?_
                    refine S_v E rfl (R_move E rfl) rfl ?_
                    clear E a; intro a E
                    refine WL_guard_yes E rfl rfl ?_
                    refine S_v E rfl (R_lenV E rfl T24 S.lenC) rfl ?_
                    clear E a; intro a E
                    refine WL_guard_yes E rfl rfl ?_
                    refine S_v E rfl (R_neq E rfl rfl) rfl ?_
                    clear E a; intro a E
                    refine S_v E rfl (R_pickF E rfl rfl) rfl ?_
                    clear E a; intro a E
                    refine WL_nil ?_
                    refine T_n ?_
                    have hc_95 : (decide ((((x_82).length : Nat) : Int) ≠ (((((setI (l1.map (fun x => keyAt kk0 kn0 x 0))).take k).filter (fun z => decide (z ∈ l2.map (fun x => keyAt kk0 kn0 x 0)))).length : Nat) : Int))) = false := by (clear S E; first | (simp; done) | decide | (have e := ib_set (by assumption) (show (setI _).length ≤ k by omega); simp [e]; done) | (have e := ib_len (by assumption) (show (setI _).length ≤ k by omega); simp [e]; done) | (have e := ib_sub (by assumption) (by assumption); simp [e]; done))
                    refine WP_condF E rfl hc_95 ?_
                    refine WP_skip ?_
                    refine T_n ?_
                    refine WP_seq ?_
                    refine WP_region ?_
                    refine S_v E rfl (R_move E rfl) rfl ?_
                    clear E a; intro a E
                    refine S_v E rfl (R_lenV E rfl T24 hu_84.len) rfl ?_
                    clear E a; intro a E
                    refine S_v E rfl (R_move E rfl) rfl ?_
                    clear E a; intro a E
                    refine WL_nil ?_
                    refine T_n ?_
                    refine WP_block ?_
                    refine WP_loop (γ := Nat) (fun (j : Nat) a w => ∃ (M_96 : Hp), Hp.le M_87 M_96 ∧ St w M_96 (OwnI 3 u8 (((setI (l1.map (fun x => keyAt kk0 kn0 x 0))).take k).filter (fun z => decide (z ∈ l2.map (fun x => keyAt kk0 kn0 x 0)))) :: H) ∧ Env a 113 [] [(1, v1), (2, v2), (7, .func (.func 24) #[] #[.pointer (some ⟨b_1, 0, none⟩)]), (8, u8), (75, v_78), (76, .int .i64 ((([meetF (fun x => keyAt kk0 kn0 x 0) [l1, l2], meetF (fun x => keyAt kk0 kn0 x 0) [l1, l2]]).length : Nat) : Int)), (77, .int .i64 ((i : Nat) : Int)), (95, u_84), (96, .int .i64 (((x_82).length : Nat) : Int)), (97, .int .i64 ((j : Nat) : Int))] ∧ (j ≤ 300)) (fun j => 300 - j) 0 ⟨M_87, Hp.le.refl _, S, E.keep ⟨rfl, rfl, rfl, rfl, rfl, rfl, rfl, rfl, rfl, rfl, trivial⟩, (by omega)⟩ ?_
                    try clear E
                    try clear S
                    try clear a
                    try clear w
                    rintro j a w ⟨M_96, hM_96, S, E, hL2_0⟩
                    replace h1 := h1.le hM_96
                    replace h2 := h2.le hM_96
                    replace hb_1 := hM_96.2 _ _ hb_1
                    replace hz_9 := hz_9.le hM_96
                    replace hz_11 := hz_11.le hM_96
                    replace hv_7 := hv_7.le hM_96
                    replace hv_14 := hv_14.le hM_96
                    replace hv_16 := hv_16.le hM_96
                    replace hv_24 := hv_24.le hM_96
                    replace hv_26 := hv_26.le hM_96
                    replace hv_70 := hv_70.le hM_96
                    replace hv_72 := hv_72.le hM_96
                    replace hv_75 := hv_75.le hM_96
                    replace hv_77 := hv_77.le hM_96
                    replace hv_78 := hv_78.le hM_96
                    replace hu_84 := hu_84.le hM_96
                    replace hv_86 := hv_86.le hM_96
                    replace hv_88 := hv_88.le hM_96
                    refine WP_seq ?_
                    refine WP_region ?_
                    refine S_v E rfl (R_lss E rfl rfl) rfl ?_
                    clear E a; intro a E
                    refine WL_nil ?_
                    refine T_n ?_
                    refine WP_seq ?_
                    refine WP_cond E rfl (fun hc_97 => ?_) (fun hc_97 => ?_)
                    · replace hc_97 := of_decide_eq_true hc_97
                      refine WP_skip ?_
                      refine T_n ?_
                      refine WP_seq ?_
                      refine WP_block ?_
                      refine WP_seq ?_
                      refine WP_region ?_
                      obtain ⟨x_98, hx_98⟩ : ∃ x, (x_82)[j]? = some x := ⟨_, List.getElem?_eq_getElem (by first | omega | (simp; done) | (simp; omega) | (simp_all; omega))⟩
                      obtain ⟨p_99, hp_99, qp_99⟩ := hu_84.at hx_98
                      refine S_v E rfl (R_idx E rfl rfl T24 hp_99 rfl) rfl ?_
                      clear E a; intro a E
                      refine S_v E rfl (R_loadM E rfl Try.isAgg3 S.imm qp_99) rfl ?_
                      clear E a; intro a E
                      refine S_v E rfl (R_assign E rfl) rfl ?_
                      clear E a; intro a E
                      refine WL_nil ?_
                      refine T_n ?_
                      refine WP_seq ?_
                      refine WP_region ?_
                      refine S_v E rfl (R_move E rfl) rfl ?_
                      clear E a; intro a E
                      refine S_v E rfl (R_move E rfl) rfl ?_
                      clear E a; intro a E
                      refine S_x (X_pu E S rfl rfl rfl (laws_in h1) (Hp.le.refl _) ?_)
                      clear E a S; rintro a _ w M_100 hM_100 rfl S E
                      replace h1 := h1.le hM_100
                      replace h2 := h2.le hM_100
                      replace hb_1 := hM_100.2 _ _ hb_1
                      replace hz_9 := hz_9.le hM_100
                      replace hz_11 := hz_11.le hM_100
                      replace hv_7 := hv_7.le hM_100
                      replace hv_14 := hv_14.le hM_100
                      replace hv_16 := hv_16.le hM_100
                      replace hv_24 := hv_24.le hM_100
                      replace hv_26 := hv_26.le hM_100
                      replace hv_70 := hv_70.le hM_100
                      replace hv_72 := hv_72.le hM_100
                      replace hv_75 := hv_75.le hM_100
                      replace hv_77 := hv_77.le hM_100
                      replace hv_78 := hv_78.le hM_100
                      replace hu_84 := hu_84.le hM_100
                      replace hv_86 := hv_86.le hM_100
                      replace hv_88 := hv_88.le hM_100
                      refine S_v E rfl (R_not E rfl) rfl ?_
                      clear E a; intro a E
                      refine S_v E rfl (R_move E rfl) rfl ?_
                      clear E a; intro a E
                      have hc_101 : (!(decide (x_98 ∈ l1))) = false := by (clear S E; first | (simp; done) | decide | (have e := ib_set (by assumption) (show (setI _).length ≤ k by omega); simp [e]; done) | (have e := ib_len (by assumption) (show (setI _).length ≤ k by omega); simp [e]; done) | (have e := ib_sub (by assumption) (by assumption); simp [e]; done))
                      replace E := E.val (t := 104) rfl hc_101
                      replace E := E.val (t := 105) rfl hc_101
                      refine WL_guard_no E rfl rfl rfl rfl fun a E => ?_
                      refine WL_guard_no E rfl rfl rfl rfl fun a E => ?_
                      refine WL_guard_no E rfl rfl rfl rfl fun a E => ?_
                      refine WL_guard_no E rfl rfl rfl rfl fun a E => ?_
                      refine S_v E rfl (R_pickF E rfl rfl) rfl ?_
                      clear E a; intro a E
                      refine WL_nil ?_
                      refine T_n ?_
                      refine WP_condF E rfl rfl ?_
                      refine WP_skip ?_
                      refine B_n ?_
                      refine T_n ?_
                      refine WP_region ?_
                      refine S_v E rfl (R_addx (m := ((j + 1 : Nat) : Int)) E rfl rfl (by omega) (by omega)) rfl ?_
                      clear E a; intro a E
                      refine S_v E rfl (R_move E rfl) rfl ?_
                      clear E a; intro a E
                      refine WL_nil ?_
                      refine T_n ?_
                      exact ⟨j + 1, ⟨M_100, (hM_96.trans hM_100), S, E.keep ⟨rfl, rfl, rfl, rfl, rfl, rfl, rfl, rfl, rfl, rfl, trivial⟩, (by have hxl := pair_le (A := meetF (fun x => keyAt kk0 kn0 x 0) [l1, l2]) (i := i) (n := 300) (by assumption) (by omega); omega)⟩, (by have hxl := pair_le (A := meetF (fun x => keyAt kk0 kn0 x 0) [l1, l2]) (i := i) (n := 300) (by assumption) (by omega); omega)⟩
                    · replace hc_97 := of_decide_eq_false hc_97
                      refine WP_exit ?_
                      refine T_x ?_
                      refine T_x ?_
                      refine B_x ?_
                      refine B_n ?_
                      refine T_n ?_
                      refine WP_region ?_
                      refine S_v E rfl (R_addx (m := ((i + 1 : Nat) : Int)) E rfl rfl (by omega) (by omega)) rfl ?_
                      clear E a; intro a E
                      refine S_v E rfl (R_move E rfl) rfl ?_
                      clear E a; intro a E
                      refine WL_nil ?_
                      refine T_n ?_
                      exact ⟨i + 1, ⟨M_96, (hM_80.trans (hM_85.trans (hM_87.trans hM_96))), S, E.keep ⟨rfl, rfl, rfl, rfl, rfl, rfl, rfl, trivial⟩, by ((try clear S); (try clear E); first | assumption | omega | rfl | (simp; done) | (simp_all; done) | (simp [List.take_add_one, *]; done) | grind [List.take_add_one])⟩, by omega⟩
                  · replace hc_81 := of_decide_eq_false hc_81
                    refine WP_exit ?_
                    refine T_x ?_
                    refine T_x ?_
                    refine B_x ?_
                    refine T_n ?_
                    refine WP_seq ?_
                    refine WP_region ?_
                    refine S_v E rfl (R_assign E rfl) rfl ?_
                    clear E a; intro a E
                    refine WL_nil ?_
                    refine T_n ?_
                    refine WP_ret ?_
                    exact F_ret1 E Try.results4 rfl ⟨_, rfl, M_80, (hM_2.trans (hM_8.trans (hM_10.trans (hM_12.trans (hM_13.trans (hM_17.trans (hM_18.trans (hM_20.trans (hM_23.trans (hM_25.trans (hM_28.trans (hM_71.trans (hM_73.trans (hM_74.trans (hM_76.trans (hM_79.trans hM_80)))))))))))))))), rfl, S.drop⟩
              · have hb_1k101 := hb_1
                replace S := S.mono_heap (w' := World.drew _) rfl
                refine DG_end (C := fun x w => agree M_28 w) (bf := (fun i => [])) [0, 1, 2, 5, 6, 7, 11, 12] [0, 1, 2, 5, 6, 7, 12, 8, 3, 4, 9, 10, 11] (by kernel_rfl) (fun x hq => S.imm) ?_
                refine D_v E rfl rfl rfl (fun w hC => (R_loadGM E rfl (Try.isAgg31 _) (Try.sizeOf31 _) hC hb_1k101)) ?_
                clear E a; intro a E
                refine D_v E rfl rfl rfl (fun w hC => (R_move E rfl)) ?_
                clear E a; intro a E
                refine D_v E rfl rfl rfl (fun w hC => (R_move E rfl)) ?_
                clear E a; intro a E
                refine D_v E rfl rfl rfl (fun w hC => (R_loadGM E rfl (Try.isAgg31 _) (Try.sizeOf31 _) hC hb_1k101)) ?_
                clear E a; intro a E
                refine D_v E rfl rfl rfl (fun w hC => (R_move E rfl)) ?_
                clear E a; intro a E
                refine D_v E rfl rfl rfl (fun w hC => (R_move E rfl)) ?_
                clear E a; intro a E
                refine D_v E rfl rfl rfl (fun w hC => (R_move E rfl)) ?_
                clear E a; intro a E
                refine D_x rfl rfl rfl (X_buildM (R := RSl 1 RInt) (vs := [v1, v2]) (xs := [l1, l2]) (RSl_mono RInt_mono) E S rfl T22 rfl rfl rfl (by intro u hu; simp only [List.mem_cons, List.not_mem_nil, or_false] at hu; rcases hu with rfl | rfl <;> first | exact RdI.one h1 | exact RdI.one h2 | rfl) rfl (rowsC (R := RSl 1 RInt) (RdI.row h1) (rowsC (R := RSl 1 RInt) (RdI.row h2) rowsN)) ?_)
                clear E a S; rintro a v_102 w M_103 hM_103 hv_102 S E
                replace hv_102 : RdII M_103 v_102 [l1, l2] := hv_102
                replace h1 := h1.le hM_103
                replace h2 := h2.le hM_103
                replace hb_1 := hM_103.2 _ _ hb_1
                replace hz_9 := hz_9.le hM_103
                replace hz_11 := hz_11.le hM_103
                replace hv_7 := hv_7.le hM_103
                replace hv_14 := hv_14.le hM_103
                replace hv_16 := hv_16.le hM_103
                replace hv_24 := hv_24.le hM_103
                replace hv_26 := hv_26.le hM_103
                refine ⟨fun x hq hb => (agree_le hM_103 S.imm), ?_⟩
                refine D_x rfl rfl rfl (X_buildM (R := RSl 1 RInt) (vs := [v1, v2]) (xs := [l1, l2]) (RSl_mono RInt_mono) E S rfl T22 rfl rfl rfl (by intro u hu; simp only [List.mem_cons, List.not_mem_nil, or_false] at hu; rcases hu with rfl | rfl <;> first | exact RdI.one h1 | exact RdI.one h2 | rfl) rfl (rowsC (R := RSl 1 RInt) (RdI.row h1) (rowsC (R := RSl 1 RInt) (RdI.row h2) rowsN)) ?_)
                clear E a S; rintro a v_104 w M_105 hM_105 hv_104 S E
                replace hv_104 : RdII M_105 v_104 [l1, l2] := hv_104
                replace h1 := h1.le hM_105
                replace h2 := h2.le hM_105
                replace hb_1 := hM_105.2 _ _ hb_1
                replace hz_9 := hz_9.le hM_105
                replace hz_11 := hz_11.le hM_105
                replace hv_7 := hv_7.le hM_105
                replace hv_14 := hv_14.le hM_105
                replace hv_16 := hv_16.le hM_105
                replace hv_24 := hv_24.le hM_105
                replace hv_26 := hv_26.le hM_105
                replace hv_102 := hv_102.le hM_105
                refine ⟨fun x hq hb => (agree_le (hM_103.trans hM_105) S.imm), ?_⟩
                refine D_x rfl rfl rfl (X_pu E S rfl rfl rfl (impl_IntersectBy hv_104 (by omega) (by first | omega | (simp; done) | (simp; omega)) (by (first | omega | (simp; omega) | (simp; done) | (simp_all; omega) | grind))) (Hp.le.refl _) ?_)
                clear E a S; rintro a v_107 w M_106 hM_106 hv_107 S E
                replace h1 := h1.le hM_106
                replace h2 := h2.le hM_106
                replace hb_1 := hM_106.2 _ _ hb_1
                replace hz_9 := hz_9.le hM_106
                replace hz_11 := hz_11.le hM_106
                replace hv_7 := hv_7.le hM_106
                replace hv_14 := hv_14.le hM_106
                replace hv_16 := hv_16.le hM_106
                replace hv_24 := hv_24.le hM_106
                replace hv_26 := hv_26.le hM_106
                replace hv_102 := hv_102.le hM_106
                replace hv_104 := hv_104.le hM_106
                refine ⟨fun x hq hb => (agree_le (hM_103.trans (hM_105.trans hM_106)) S.imm), ?_⟩
                refine D_x rfl rfl rfl (X_pu E S rfl rfl rfl (impl_IntersectBySeq hv_102 (by omega) (by first | omega | (simp; done) | (simp; omega)) (by (first | omega | (simp; omega) | (simp; done) | (simp_all; omega) | grind))) (Hp.le.refl _) ?_)
                clear E a S; rintro a v_109 w M_108 hM_108 hv_109 S E
                replace h1 := h1.le hM_108
                replace h2 := h2.le hM_108
                replace hb_1 := hM_108.2 _ _ hb_1
                replace hz_9 := hz_9.le hM_108
                replace hz_11 := hz_11.le hM_108
                replace hv_7 := hv_7.le hM_108
                replace hv_14 := hv_14.le hM_108
                replace hv_16 := hv_16.le hM_108
                replace hv_24 := hv_24.le hM_108
                replace hv_26 := hv_26.le hM_108
                replace hv_102 := hv_102.le hM_108
                replace hv_104 := hv_104.le hM_108
                replace hv_107 := hv_107.le hM_108
                refine ⟨fun x hq hb => (agree_le (hM_103.trans (hM_105.trans (hM_106.trans hM_108))) S.imm), ?_⟩
                refine D_x rfl rfl rfl (X_buildM (R := RSl 1 RInt) (vs := [v_107, v_109]) (xs := [meetF (fun x => keyAt kk0 kn0 x 0) [l1, l2], meetF (fun x => keyAt kk0 kn0 x 0) [l1, l2]]) (RSl_mono RInt_mono) E S rfl T22 rfl rfl rfl (by intro u hu; simp only [List.mem_cons, List.not_mem_nil, or_false] at hu; rcases hu with rfl | rfl <;> first | exact RdI.one hv_107 | exact RdI.one hv_109 | rfl) rfl (rowsC (R := RSl 1 RInt) (RdI.row hv_107) (rowsC (R := RSl 1 RInt) (RdI.row hv_109) rowsN)) ?_)
                clear E a S; rintro a v_110 w M_111 hM_111 hv_110 S E
                replace hv_110 : RdII M_111 v_110 [meetF (fun x => keyAt kk0 kn0 x 0) [l1, l2], meetF (fun x => keyAt kk0 kn0 x 0) [l1, l2]] := hv_110
                replace h1 := h1.le hM_111
                replace h2 := h2.le hM_111
                replace hb_1 := hM_111.2 _ _ hb_1
                replace hz_9 := hz_9.le hM_111
                replace hz_11 := hz_11.le hM_111
                replace hv_7 := hv_7.le hM_111
                replace hv_14 := hv_14.le hM_111
                replace hv_16 := hv_16.le hM_111
                replace hv_24 := hv_24.le hM_111
                replace hv_26 := hv_26.le hM_111
                replace hv_102 := hv_102.le hM_111
                replace hv_104 := hv_104.le hM_111
                replace hv_107 := hv_107.le hM_111
                replace hv_109 := hv_109.le hM_111
                refine ⟨fun x hq hb => (agree_le (hM_103.trans (hM_105.trans (hM_106.trans (hM_108.trans hM_111)))) S.imm), ?_⟩
                refine D_v E rfl rfl rfl (fun w hC => (R_lenV E rfl T22 hv_110.len)) ?_
                clear E a; intro a E
                refine D_end (NoP_n ?_)
                refine T_n ?_
                refine WP_block ?_
                refine WP_loop (γ := Nat) (fun (i : Nat) a w => ∃ (M_112 : Hp), Hp.le M_111 M_112 ∧ St w M_112 (OwnI 3 u8 (((setI (l1.map (fun x => keyAt kk0 kn0 x 0))).take k).filter (fun z => decide (z ∈ l2.map (fun x => keyAt kk0 kn0 x 0)))) :: H) ∧ Env a 113 [] [(1, v1), (2, v2), (7, .func (.func 24) #[] #[.pointer (some ⟨b_1, 0, none⟩)]), (8, u8), (75, v_110), (76, .int .i64 ((([meetF (fun x => keyAt kk0 kn0 x 0) [l1, l2], meetF (fun x => keyAt kk0 kn0 x 0) [l1, l2]]).length : Nat) : Int)), (77, .int .i64 ((i : Nat) : Int))] ∧ (i ≤ ([meetF (fun x => keyAt kk0 kn0 x 0) [l1, l2], meetF (fun x => keyAt kk0 kn0 x 0) [l1, l2]]).length)) (fun i => (([meetF (fun x => keyAt kk0 kn0 x 0) [l1, l2], meetF (fun x => keyAt kk0 kn0 x 0) [l1, l2]]).length) - i) 0 ⟨M_111, Hp.le.refl _, S, E.keep ⟨rfl, rfl, rfl, rfl, rfl, rfl, rfl, trivial⟩, by ((try clear S); (try clear E); first | assumption | omega | rfl | (simp; done) | (simp_all; done) | (simp [List.take_add_one, *]; done) | grind [List.take_add_one])⟩ ?_
                try clear E
                try clear S
                try clear a
                try clear w
                rintro i a w ⟨M_112, hM_112, S, E, hL1_0⟩
                replace h1 := h1.le hM_112
                replace h2 := h2.le hM_112
                replace hb_1 := hM_112.2 _ _ hb_1
                replace hz_9 := hz_9.le hM_112
                replace hz_11 := hz_11.le hM_112
                replace hv_7 := hv_7.le hM_112
                replace hv_14 := hv_14.le hM_112
                replace hv_16 := hv_16.le hM_112
                replace hv_24 := hv_24.le hM_112
                replace hv_26 := hv_26.le hM_112
                replace hv_102 := hv_102.le hM_112
                replace hv_104 := hv_104.le hM_112
                replace hv_107 := hv_107.le hM_112
                replace hv_109 := hv_109.le hM_112
                replace hv_110 := hv_110.le hM_112
                refine WP_seq ?_
                refine WP_region ?_
                refine S_v E rfl (R_lss E rfl rfl) rfl ?_
                clear E a; intro a E
                refine WL_nil ?_
                refine T_n ?_
                refine WP_seq ?_
                refine WP_cond E rfl (fun hc_113 => ?_) (fun hc_113 => ?_)
                · replace hc_113 := of_decide_eq_true hc_113
                  refine WP_skip ?_
                  refine T_n ?_
                  refine WP_seq ?_
                  refine WP_block ?_
                  refine WP_seq ?_
                  refine WP_region ?_
                  obtain ⟨x_114, hx_114⟩ : ∃ x, ([meetF (fun x => keyAt kk0 kn0 x 0) [l1, l2], meetF (fun x => keyAt kk0 kn0 x 0) [l1, l2]])[i]? = some x := ⟨_, List.getElem?_eq_getElem (by first | omega | (simp; done) | (simp; omega) | (simp_all; omega))⟩
                  obtain ⟨p_115, u_116, hp_115, qp_115, hu_116⟩ := hv_110.at hx_114
                  have bu_116 := hu_116.bound
                  refine S_v E rfl (R_idx E rfl rfl T22 hp_115 rfl) rfl ?_
                  clear E a; intro a E
                  refine S_v E rfl (R_loadM E rfl Try.isAgg24 S.imm qp_115) rfl ?_
                  clear E a; intro a E
                  refine S_v E rfl (R_assign E rfl) rfl ?_
                  clear E a; intro a E
                  refine WL_nil ?_
                  refine T_n ?_
                  refine WP_seq ?_
                  refine WP_seq ?_
                  refine WP_region ?_
                  refine S_v E rfl (R_move E rfl) rfl ?_
                  clear E a; intro a E
                  refine S_v E rfl (R_move E rfl) rfl ?_
                  clear E a; intro a E
                  refine S_x (X_pu E S rfl rfl rfl (laws_FnIntersectByL hu_116 (by first | omega | (simp; omega) | exact pair_le (by assumption) (by omega)) (by assumption) hb_1) (Hp.le.refl _) ?_)
                  clear E a S; rintro a v_118 w M_117 hM_117 hv_118 S E
                  replace h1 := h1.le hM_117
                  replace h2 := h2.le hM_117
                  replace hb_1 := hM_117.2 _ _ hb_1
                  replace hz_9 := hz_9.le hM_117
                  replace hz_11 := hz_11.le hM_117
                  replace hv_7 := hv_7.le hM_117
                  replace hv_14 := hv_14.le hM_117
                  replace hv_16 := hv_16.le hM_117
                  replace hv_24 := hv_24.le hM_117
                  replace hv_26 := hv_26.le hM_117
                  replace hv_102 := hv_102.le hM_117
                  replace hv_104 := hv_104.le hM_117
                  replace hv_107 := hv_107.le hM_117
                  replace hv_109 := hv_109.le hM_117
                  replace hv_110 := hv_110.le hM_117
                  replace hu_116 := hu_116.le hM_117
                  refine S_x (X_pu E S rfl rfl rfl (laws_sorted hv_118 (by (first | omega | (simp; omega) | (simp; done) | (simp_all; omega) | grind))) (Hp.le.refl _) ?_)
                  clear E a S; rintro a v_120 w M_119 hM_119 hv_120 S E
                  replace h1 := h1.le hM_119
                  replace h2 := h2.le hM_119
                  replace hb_1 := hM_119.2 _ _ hb_1
                  replace hz_9 := hz_9.le hM_119
                  replace hz_11 := hz_11.le hM_119
                  replace hv_7 := hv_7.le hM_119
                  replace hv_14 := hv_14.le hM_119
                  replace hv_16 := hv_16.le hM_119
                  replace hv_24 := hv_24.le hM_119
                  replace hv_26 := hv_26.le hM_119
                  replace hv_102 := hv_102.le hM_119
                  replace hv_104 := hv_104.le hM_119
                  replace hv_107 := hv_107.le hM_119
                  replace hv_109 := hv_109.le hM_119
                  replace hv_110 := hv_110.le hM_119
                  replace hu_116 := hu_116.le hM_119
                  replace hv_118 := hv_118.le hM_119
                  refine S_v E rfl (R_move E rfl) rfl ?_
                  clear E a; intro a E
                  obtain ⟨ML_121, hl_122, hv_123, S1, back⟩ := S.lendI (by (first | omega | (simp; done) | (simp; omega) | (simp at hfl ⊢; omega)))
                  refine S_x (X_pu E S1 rfl rfl rfl (laws_eq (hv_120.le hl_122) hv_123) (Hp.le.refl _) ?_)
                  clear E a S; rintro a _ w M_124 hM_125 rfl S E
                  replace S := back _ _ hM_125 S
                  clear back S1
                  refine S_v E rfl (R_not E rfl) rfl ?_
                  clear E a; intro a E
                  refine S_v E rfl (R_move E rfl) rfl ?_
                  clear E a; intro a E
                  have hc_126 : (!(decide (setI ((x_114).map (fun x => keyAt kk0 kn0 x 0)) = ((setI (l1.map (fun x => keyAt kk0 kn0 x 0))).take k).filter (fun z => decide (z ∈ l2.map (fun x => keyAt kk0 kn0 x 0)))))) = false := by (clear S E; first | (simp; done) | decide | (have e := ib_set (by assumption) (show (setI _).length ≤ k by omega); simp [e]; done) | (have e := ib_len (by assumption) (show (setI _).length ≤ k by omega); simp [e]; done) | (have e := ib_sub (by assumption) (by assumption); simp [e]; done))
                  replace E := E.val (t := 87) rfl hc_126
                  replace E := E.val (t := 88) rfl hc_126
                  refine WL_guard_yes E rfl rfl ?_
                  refine S_v E rfl (R_move E rfl) rfl ?_
                  clear E a; intro a E
                  refine WL_guard_yes E rfl rfl ?_
                  refine S_v E rfl (R_lenV E rfl T24 hu_116.len) rfl ?_
                  clear E a; intro a E
                  refine WL_guard_yes E rfl rfl ?_
                  refine S_v E rfl (R_move E rfl) rfl ?_
                  clear E a; intro a E
                  refine WL_guard_yes E rfl rfl ?_
                  refine S_v E rfl (R_lenV E rfl T24 S.lenC) rfl ?_
                  clear E a; intro a E
                  refine WL_guard_yes E rfl rfl ?_
                  refine S_v E rfl (R_neq E rfl rfl) rfl ?_
                  clear E a; intro a E
                  refine S_v E rfl (R_pickF E rfl rfl) rfl ?_
                  clear E a; intro a E
                  refine WL_nil ?_
                  refine T_n ?_
                  have hc_127 : (decide ((((x_114).length : Nat) : Int) ≠ (((((setI (l1.map (fun x => keyAt kk0 kn0 x 0))).take k).filter (fun z => decide (z ∈ l2.map (fun x => keyAt kk0 kn0 x 0)))).length : Nat) : Int))) = false := by (clear S E; first | (simp; done) | decide | (have e := ib_set (by assumption) (show (setI _).length ≤ k by omega); simp [e]; done) | (have e := ib_len (by assumption) (show (setI _).length ≤ k by omega); simp [e]; done) | (have e := ib_sub (by assumption) (by assumption); simp [e]; done))
                  refine WP_condF E rfl hc_127 ?_
                  refine WP_skip ?_
                  refine T_n ?_
                  refine WP_seq ?_
                  refine WP_region ?_
                  refine S_v E rfl (R_move E rfl) rfl ?_
                  clear E a; intro a E
                  refine S_v E rfl (R_lenV E rfl T24 hu_116.len) rfl ?_
                  clear E a; intro a E
                  refine S_v E rfl (R_move E rfl) rfl ?_
                  clear E a; intro a E
                  refine WL_nil ?_
                  refine T_n ?_
                  refine WP_block ?_
                  refine WP_loop (γ := Nat) (fun (j : Nat) a w => ∃ (M_128 : Hp), Hp.le M_119 M_128 ∧ St w M_128 (OwnI 3 u8 (((setI (l1.map (fun x => keyAt kk0 kn0 x 0))).take k).filter (fun z => decide (z ∈ l2.map (fun x => keyAt kk0 kn0 x 0)))) :: H) ∧ Env a 113 [] [(1, v1), (2, v2), (7, .func (.func 24) #[] #[.pointer (some ⟨b_1, 0, none⟩)]), (8, u8), (75, v_110), (76, .int .i64 ((([meetF (fun x => keyAt kk0 kn0 x 0) [l1, l2], meetF (fun x => keyAt kk0 kn0 x 0) [l1, l2]]).length : Nat) : Int)), (77, .int .i64 ((i : Nat) : Int)), (95, u_116), (96, .int .i64 (((x_114).length : Nat) : Int)), (97, .int .i64 ((j : Nat) : Int))] ∧ (j ≤ 300)) (fun j => 300 - j) 0 ⟨M_119, Hp.le.refl _, S, E.keep ⟨rfl, rfl, rfl, rfl, rfl, rfl, rfl, rfl, rfl, rfl, trivial⟩, (by omega)⟩ ?_
                  try clear E
                  try clear S
                  try clear a
                  try clear w
                  rintro j a w ⟨M_128, hM_128, S, E, hL2_0⟩
                  replace h1 := h1.le hM_128
                  replace h2 := h2.le hM_128
                  replace hb_1 := hM_128.2 _ _ hb_1
                  replace hz_9 := hz_9.le hM_128
                  replace hz_11 := hz_11.le hM_128
                  replace hv_7 := hv_7.le hM_128
                  replace hv_14 := hv_14.le hM_128
                  replace hv_16 := hv_16.le hM_128
                  replace hv_24 := hv_24.le hM_128
                  replace hv_26 := hv_26.le hM_128
                  replace hv_102 := hv_102.le hM_128
                  replace hv_104 := hv_104.le hM_128
                  replace hv_107 := hv_107.le hM_128
                  replace hv_109 := hv_109.le hM_128
                  replace hv_110 := hv_110.le hM_128
                  replace hu_116 := hu_116.le hM_128
                  replace hv_118 := hv_118.le hM_128
                  replace hv_120 := hv_120.le hM_128
                  refine WP_seq ?_
                  refine WP_region ?_
                  refine S_v E rfl (R_lss E rfl rfl) rfl ?_
                  clear E a; intro a E
                  refine WL_nil ?_
                  refine T_n ?_
                  refine WP_seq ?_
                  refine WP_cond E rfl (fun hc_129 => ?_) (fun hc_129 => ?_)
                  · replace hc_129 := of_decide_eq_true hc_129
                    refine WP_skip ?_
                    refine T_n ?_
                    refine WP_seq ?_
                    refine WP_block ?_
                    refine WP_seq ?_
                    refine WP_region ?_
                    obtain ⟨x_130, hx_130⟩ : ∃ x, (x_114)[j]? = some x := ⟨_, List.getElem?_eq_getElem (by first | omega | (simp; done) | (simp; omega) | (simp_all; omega))⟩
                    obtain ⟨p_131, hp_131, qp_131⟩ := hu_116.at hx_130
                    refine S_v E rfl (R_idx E rfl rfl T24 hp_131 rfl) rfl ?_
                    clear E a; intro a E
                    refine S_v E rfl (R_loadM E rfl Try.isAgg3 S.imm qp_131) rfl ?_
                    clear E a; intro a E
                    refine S_v E rfl (R_assign E rfl) rfl ?_
                    clear E a; intro a E
                    refine WL_nil ?_
                    refine T_n ?_
                    refine WP_seq ?_
                    refine WP_region ?_
                    refine S_v E rfl (R_move E rfl) rfl ?_
                    clear E a; intro a E
                    refine S_v E rfl (R_move E rfl) rfl ?_
                    clear E a; intro a E
                    refine S_x (X_pu E S rfl rfl rfl (laws_in h1) (Hp.le.refl _) ?_)
                    clear E a S; rintro a _ w M_132 hM_132 rfl S E
                    replace h1 := h1.le hM_132
                    replace h2 := h2.le hM_132
                    replace hb_1 := hM_132.2 _ _ hb_1
                    replace hz_9 := hz_9.le hM_132
                    replace hz_11 := hz_11.le hM_132
                    replace hv_7 := hv_7.le hM_132
                    replace hv_14 := hv_14.le hM_132
                    replace hv_16 := hv_16.le hM_132
                    replace hv_24 := hv_24.le hM_132
                    replace hv_26 := hv_26.le hM_132
                    replace hv_102 := hv_102.le hM_132
                    replace hv_104 := hv_104.le hM_132
                    replace hv_107 := hv_107.le hM_132
                    replace hv_109 := hv_109.le hM_132
                    replace hv_110 := hv_110.le hM_132
                    replace hu_116 := hu_116.le hM_132
                    replace hv_118 := hv_118.le hM_132
                    replace hv_120 := hv_120.le hM_132
                    refine S_v E rfl (R_not E rfl) rfl ?_
                    clear E a; intro a E
                    refine S_v E rfl (R_move E rfl) rfl ?_
                    clear E a; intro a E
                    have hc_133 : (!(decide (x_130 ∈ l1))) = false := by (clear S E; first | (simp; done) | decide | (have e := ib_set (by assumption) (show (setI _).length ≤ k by omega); simp [e]; done) | (have e := ib_len (by assumption) (show (setI _).length ≤ k by omega); simp [e]; done) | (have e := ib_sub (by assumption) (by assumption); simp [e]; done))
                    replace E := E.val (t := 104) rfl hc_133
                    replace E := E.val (t := 105) rfl hc_133
                    refine WL_guard_no E rfl rfl rfl rfl fun a E => ?_
                    refine WL_guard_no E rfl rfl rfl rfl fun a E => ?_
                    refine WL_guard_no E rfl rfl rfl rfl fun a E => ?_
                    refine WL_guard_no E rfl rfl rfl rfl fun a E => ?_
                    refine S_v E rfl (R_pickF E rfl rfl) rfl ?_
                    clear E a; intro a E
                    refine WL_nil ?_
                    refine T_n ?_
                    refine WP_condF E rfl rfl ?_
                    refine WP_skip ?_
                    refine B_n ?_
                    refine T_n ?_
                    refine WP_region ?_
                    refine S_v E rfl (R_addx (m := ((j + 1 : Nat) : Int)) E rfl rfl (by omega) (by omega)) rfl ?_
                    clear E a; intro a E
                    refine S_v E rfl (R_move E rfl) rfl ?_
                    clear E a; intro a E
                    refine WL_nil ?_
                    refine T_n ?_
                    exact ⟨j + 1, ⟨M_132, (hM_128.trans hM_132), S, E.keep ⟨rfl, rfl, rfl, rfl, rfl, rfl, rfl, rfl, rfl, rfl, trivial⟩, (by have hxl := pair_le (A := meetF (fun x => keyAt kk0 kn0 x 0) [l1, l2]) (i := i) (n := 300) (by assumption) (by omega); omega)⟩, (by have hxl := pair_le (A := meetF (fun x => keyAt kk0 kn0 x 0) [l1, l2]) (i := i) (n := 300) (by assumption) (by omega); omega)⟩
                  · replace hc_129 := of_decide_eq_false hc_129
                    refine WP_exit ?_
                    refine T_x ?_
                    refine T_x ?_
                    refine B_x ?_
                    refine B_n ?_
                    refine T_n ?_
                    refine WP_region ?_
                    refine S_v E rfl (R_addx (m := ((i + 1 : Nat) : Int)) E rfl rfl (by omega) (by omega)) rfl ?_
                    clear E a; intro a E
                    refine S_v E rfl (R_move E rfl) rfl ?_
                    clear E a; intro a E
                    refine WL_nil ?_
                    refine T_n ?_
                    exact ⟨i + 1, ⟨M_128, (hM_112.trans (hM_117.trans (hM_119.trans hM_128))), S, E.keep ⟨rfl, rfl, rfl, rfl, rfl, rfl, rfl, trivial⟩, by ((try clear S); (try clear E); first | assumption | omega | rfl | (simp; done) | (simp_all; done) | (simp [List.take_add_one, *]; done) | grind [List.take_add_one])⟩, by omega⟩
                · replace hc_113 := of_decide_eq_false hc_113
                  refine WP_exit ?_
                  refine T_x ?_
                  refine T_x ?_
                  refine B_x ?_
                  refine T_n ?_
                  refine WP_seq ?_
                  refine WP_region ?_
                  refine S_v E rfl (R_assign E rfl) rfl ?_
                  clear E a; intro a E
                  refine WL_nil ?_
                  refine T_n ?_
                  refine WP_ret ?_
                  exact F_ret1 E Try.results4 rfl ⟨_, rfl, M_112, (hM_2.trans (hM_8.trans (hM_10.trans (hM_12.trans (hM_13.trans (hM_17.trans (hM_18.trans (hM_20.trans (hM_23.trans (hM_25.trans (hM_28.trans (hM_103.trans (hM_105.trans (hM_106.trans (hM_108.trans (hM_111.trans hM_112)))))))))))))))), rfl, S.drop⟩

end Go.Proofs.Ytbdacnblipmapaa.wFnIntersectBy
